import PyProof.Rows.All
import Wide.All
import OpenK.AllK
import Wide.FinOn
import PySem.Challenge.RW_et5018_01
open PySem PySem.W PyProof.Rows PySem.Calls
set_option Elab.async false
set_option maxRecDepth 100000
set_option maxHeartbeats 8000000

-- part Hd
namespace Mine
open_top hd for PySem.Challenge.rw_et5018_01
end Mine

-- part Base
namespace Mine

theorem fr_hide {h₁ h : Heap} {as : List Addr} (hk : ∀ b o, h.get? b = some o → h₁.get? b = some o) :
    ∀ b o, (hideAll h as).get? b = some o → h₁.get? b = some o := fun b o e => hk b o (of_hideAll _ e)

/-- the call of a def, its footprint hidden from the base -/
theorem callF {prog : Program} {w : World} {A : Around} {s : Shared} {h₀ : Heap} {K : Frag} {p : Program} {loose : List Str} {mean : ExcName → Option Value} {mg mb : Str → Option Value}
    {name qual : Str} {params : Arguments} {body : List Stmt} {scope : Scope} {dV kV doc pm cdv ct oc : Value} {an od : Option Addr} {osl : Array (Option Value)} {f : Addr} {args : List Value} {binds : List (Str × Value)}
    {Q E : Value → Shared → Prop} (fp : List Addr)
    (hst : ∀ b o, h₀.get? b = some o → s.heap.get? b = some o) (hfp : ∀ a ∈ fp, h₀.get? a = none) (X : K.In h₀) (T : Top p loose mean mg mb h₀)
    (ho : K.lookup f = some ⟨oc, od, .func (fnOf name qual params body scope dV kV doc pm an cdv ct), osl⟩) (hcd : codeIn K cdv qual = true) (hroom : A.depth < recursionLimit)
    (hbind : BindsTo s (fnOf name qual params body scope dV kV doc pm an cdv ct) ⟨args, []⟩ binds) (hloc : ∀ y ∈ binds, scope.names.lookup y.1 = some .local)
    (h : ∀ g L' h₁, (∀ b o, b ∉ fp → s.heap.get? b = some o → g.get? b = some o) → (∀ b, b ∈ fp → g.get? b = none) → (∀ b o, g.get? b = some o → s.heap.get? b = some o) →
      (∀ b o, s.heap.get? b = some o → h₁.get? b = some o ∧ b < L') → L' = s.heap.objs.size →
      Fr g L' h₁ (fun y => binds.reverse.lookup y) → K.In g → Top p loose mean mg mb g →
      wpAny (model prog w) (A.deeper (envOf qual scope L' f cdv)) (execs body (envOf qual scope L' f cdv))
        (fun fl s' => Q (match fl with | .ret v => v | _ => .none) s')
        (fun _ _ => False)
        { s with heap := h₁, toks := s.toks + binds.length })
    (hco : scope.isCoroutine = false) (hgen : scope.isGenerator = false) (hk : scope.kind = .function)
    (hcell : ∀ x ∈ scope.names, x.2 ≠ .cell) : wpAny (model prog w) A (call (.ref f) args) Q E s := by
  refine wpAny_call ?_
  have st : ∀ b o, h₀.get? b = some o → (hideAll s.heap fp).get? b = some o := fun b o e => hideAll_get _ (hst b o e) (fun q => by rw [hfp b q] at e; cases e)
  have Xg := X.keeps st
  have Tg := T.keeps st
  refine codeAny_call_def (fd := fnOf name qual params body scope dV kV doc pm an cdv ct) (body := body) (binds := binds) hroom (X.keeps hst _ _ ho) rfl (T.nolimit.keeps hst) (codeRec_of (X.keeps hst) hcd) rfl hbind hcell hloc (fun h₁ hns hk₁ => ?_) hco hgen hk
  refine wpAny_mono (h (hideAll s.heap fp) s.heap.objs.size h₁ (fun b o hb e => hideAll_get _ e hb) (fun b hb => hideAll_none _ hb) (fun b o e => of_hideAll _ e)
    (fun b o e => ⟨hk₁ b o e, Heap.lt_size e⟩) rfl ⟨hns, fun b o e => hk₁ b o (of_hideAll _ e), Nat.le_of_eq (hideAll_size _ _)⟩ Xg Tg) (fun _ _ y => y) fun _ _ y => y.elim

end Mine

-- part Loop
namespace Mine

/-- the walker stops here -/
def Halt (P : Prop) : Prop := P

section
variable {prog : Program} {w : World} {A : Around} {E : Value → Shared → Prop} {s : Shared} {env : Env} {h₀ : Heap} {x : Str} {body : List Stmt} {Q : Flow → Shared → Prop}

theorem for_halt {m : Str → Option Value} {px pos : Pos} {iter : PySem.Expr} (_F : Fr h₀ env.locals s.heap m) (hx : env.kindOf x = some .local)
    (hp : (env.scope.kind == .class || (env.scope.kind == .module && env.locals != env.globals)) = false)
    (h : wpAny (model prog w) A (eval iter env) (fun xv s₁ => Halt (wpAny (model prog w) A (pyIter xv) (fun it s₂ => LoopAtV prog w A h₀ env x body Q (fun _ _ => False) it s₂) (fun _ _ => False) s₁)) (fun _ _ => False) s)
    (hs : ∀ x, foldedSetIterable iter env x = pure x := by intro _; rfl) :
    wpAny (model prog w) A (exec (.For (.Name x px) iter body [] pos) env) Q (fun _ _ => False) s := For_invV h₀ hx hp h hs PassesOwn.never

/-- the end of a turn -/
def Turn (h₀ : Heap) (L I : Addr) (oI : Obj) (keep : List (Addr × Obj)) (J : (Str → Option Value) → List (Addr × Obj) → Prop) (s₀ : Shared) (Q : Flow → Shared → Prop) (f : Flow) (s' : Shared) : Prop :=
  match f with
  | .ret v => Q (.ret v) s'
  | .brk => Q .next s'
  | _ => ∃ h' tk m' nx, s' = { s₀ with heap := h', toks := tk } ∧ Fr h₀ L h' m' ∧ News h₀ L h' ((I, oI) :: (keep ++ nx)) ∧ (∀ p ∈ nx, p.1 ≠ I) ∧ J m' nx

theorem loop_rule {I : Addr} {fp : List Addr} {n : Nat} {P : Nat → Value → Prop} {St : Nat → Heap → Prop} {m : Str → Option Value} {keep news : List (Addr × Obj)} {oI : Obj}
    (J : Nat → (Str → Option Value) → List (Addr × Obj) → Prop) (hI : I = s.heap.objs.size)
    (W : Walks prog w A I fp [I] n P St) (alive : ∀ i h, St i h → ∃ o, h.get? I = some o) (hst : St 0 (s.heap.push oI))
    (F : Fr h₀ env.locals s.heap m) (N : News h₀ env.locals s.heap (keep ++ news))
    (hfp : ∀ b ∈ fp, b = I ∨ (∃ o, h₀.get? b = some o) ∨ ∃ o, (b, o) ∈ keep)
    (h0 : J 0 m news)
    (step : ∀ i v m₁ nx h tk oI', i < n → P i v → J i m₁ nx → (∀ p ∈ keep ++ nx, p.1 ≠ I) → Fr h₀ env.locals h (fun y => if y = x then some v else m₁ y) → News h₀ env.locals h ((I, oI') :: (keep ++ nx)) →
      wpAny (model prog w) A (execs body env) (Turn h₀ env.locals I oI' keep (J (i + 1)) s Q) E { s with heap := h, toks := tk })
    (done : ∀ m₁ nx h tk, J n m₁ nx → Fr h₀ env.locals h m₁ → News h₀ env.locals h (keep ++ nx) → Q .next { s with heap := h, toks := tk }) :
    LoopAtV prog w A h₀ env x body Q E (.ref I) { s with heap := s.heap.push oI } := by
  have hL : env.locals < s.heap.objs.size := F.ns.lt
  have hne : ∀ p ∈ keep ++ news, p.1 ≠ I := fun p hp => by
    rw [hI]; exact Nat.ne_of_lt (Heap.lt_size (N p hp).1)
  have hbaseI : h₀.get? I = none := by
    rw [hI]; exact next_is_new F
  have hLfp : env.locals ∉ fp := fun hb => by
    rcases hfp _ hb with e | ⟨o, e⟩ | ⟨o, e⟩
    · rw [hI] at e; exact Nat.ne_of_lt hL e
    · exact absurd (Nat.lt_of_lt_of_le (Heap.lt_size e) F.above) (Nat.lt_irrefl _)
    · exact (N _ (List.mem_append_left _ e)).2.1 rfl
  refine ⟨I, fp, [I], n, P, St, m, keep ++ news, fun i m₁ n₁ => ∃ nx, n₁ = keep ++ nx ∧ J i m₁ nx, rfl, W, hLfp, ?_, ?_, hst, F.push _, fun p hp => ⟨Heap.get?_push_of_some _ (N p hp).1, (N p hp).2⟩, ⟨news, rfl, h0⟩, ?_, ?_⟩
  · intro b hb; rw [List.mem_singleton.mp hb]; exact hbaseI
  · intro p hp hb; exact hne p hp (List.mem_singleton.mp hb)
  · rintro i v m₁ _ s₁ own ⟨h, tk, rfl⟩ hi hP ⟨nx, rfl, hJ⟩ hoff hown hat hall hst₁ F₁ N₁
    obtain ⟨oI', hoI⟩ := alive _ _ hst₁
    have hIown : (I, oI') ∈ own := hall I (W.sub _ (.head _)) hbaseI _ hoI
    have hoff' : ∀ p ∈ keep ++ nx, p.1 ≠ I := fun p hp e => hoff p hp (by rw [e]; exact .head _)
    have N₂ : News h₀ env.locals h ((I, oI') :: (keep ++ nx)) := fun p hp => by
      rcases List.mem_cons.mp hp with rfl | hp
      · exact N₁ _ (List.mem_append_left _ hIown)
      · exact N₁ _ (List.mem_append_right _ hp)
    refine wpAny_mono (step i v m₁ nx h tk oI' hi hP hJ hoff' F₁ N₂) (fun f s' hT => ?_) fun _ _ e => e
    have fin : (∃ h' tk m' nx, s' = { s with heap := h', toks := tk } ∧ Fr h₀ env.locals h' m' ∧ News h₀ env.locals h' ((I, oI') :: (keep ++ nx)) ∧ (∀ p ∈ nx, p.1 ≠ I) ∧ J (i + 1) m' nx) →
        LoopStepU h₀ env.locals [I] own (fun m₁ n₁ => ∃ nx, n₁ = keep ++ nx ∧ J (i + 1) m₁ nx) { s with heap := h, toks := tk } .next s' := by
      rintro ⟨h', tk', m', nx', e, F', N', hnx, hJ'⟩
      refine ⟨rfl, h', tk', m', keep ++ nx', e, F', fun p hp => ?_, fun p hp hb => ?_, nx', rfl, hJ'⟩
      · rcases List.mem_append.mp hp with hp | hp
        · have hb := hown p hp
          have ho := hat p hp
          have hn := (N₁ p (List.mem_append_left _ hp)).2.2
          rcases hfp _ hb with e | ⟨o, e⟩ | ⟨o, e⟩
          · have hoI2 : h.get? p.1 = some oI' := by rw [e]; exact hoI
            have e2 : p.2 = oI' := by rw [ho] at hoI2; exact Option.some.inj hoI2
            have e3 : p = (I, oI') := Prod.ext e e2
            rw [e3]; exact N' _ (.head _)
          · rw [hn] at e; cases e
          · have hk := (N₁ _ (List.mem_append_right _ (List.mem_append_left _ e))).1
            have e2 : p.2 = o := by
              have hk' : h.get? p.1 = some o := hk
              rw [ho] at hk'; exact Option.some.inj hk'
            have e3 : p = (p.1, o) := Prod.ext rfl e2
            rw [e3]; exact N' _ (.tail _ (List.mem_append_left _ e))
        · exact N' _ (.tail _ hp)
      · have hb' := List.mem_singleton.mp hb
        rcases List.mem_append.mp hp with hp | hp
        · exact hoff' p (List.mem_append_left _ hp) hb'
        · exact hnx p hp hb'
    cases f with
    | ret v => exact .ret hT
    | brk => exact .brk hT
    | next => exact .next (fin hT)
    | cont => exact .cont (fin hT)
  · rintro h' tk m' _ F' N' _ ⟨nx, rfl, hJ⟩
    exact done m' nx h' tk hJ F' N'
end

section
variable {prog : Program} {w : World} {A : Around} {E : Value → Shared → Prop} {s : Shared} {env : Env} {h₀ : Heap} {x : Str} {body : List Stmt} {Q : Flow → Shared → Prop}

/-- over a list of the ledger that stays -/
theorem over_list {l : Addr} {vs : List Value} {k : Nat} {m : Str → Option Value} {keep news : List (Addr × Obj)}
    (J : Nat → (Str → Option Value) → List (Addr × Obj) → Prop) (hh : A.handled = none)
    (F : Fr h₀ env.locals s.heap m) (N : News h₀ env.locals s.heap (keep ++ news)) (hl : (l, listOf vs.toArray k) ∈ keep)
    (h0 : J 0 m news)
    (step : ∀ I i v m₁ nx h tk oI', i < vs.length → vs[i]? = some v → J i m₁ nx → (∀ p ∈ keep ++ nx, p.1 ≠ I) → Fr h₀ env.locals h (fun y => if y = x then some v else m₁ y) → News h₀ env.locals h ((I, oI') :: (keep ++ nx)) →
      wpAny (model prog w) A (execs body env) (Turn h₀ env.locals I oI' keep (J (i + 1)) s Q) E { s with heap := h, toks := tk })
    (done : ∀ m₁ nx h tk, J vs.length m₁ nx → Fr h₀ env.locals h m₁ → News h₀ env.locals h (keep ++ nx) → Q .next { s with heap := h, toks := tk }) :
    wpAny (model prog w) A (pyIter (.ref l)) (fun it s₂ => LoopAtV prog w A h₀ env x body Q E it s₂) E s := by
  have hls : s.heap.IsList l vs.toArray := ⟨_, (N _ (List.mem_append_left _ hl)).1, rfl, _, rfl⟩
  have hlt : l < s.heap.objs.size := Heap.lt_size (N _ (List.mem_append_left _ hl)).1
  refine wpAny_pyIter_list hls ?_
  have W := Walks.list (prog := prog) (w := w) hh s.heap.objs.size l (Nat.ne_of_lt hlt) vs.toArray
  rw [List.size_toArray] at W
  refine loop_rule J rfl W (fun i h st => let ⟨o, ho, _⟩ := st.1; ⟨o, ho⟩) ⟨⟨_, Heap.get?_push_size _ rfl, rfl, rfl⟩, hls.at fun o e => Heap.get?_push_of_some _ e⟩ F N ?_ h0 (fun i v m₁ nx h tk oI' hi hP => step _ i v m₁ nx h tk oI' hi (by simpa using hP)) done
  intro b hb
  rcases List.mem_cons.mp hb with e | hb
  · exact .inl e
  · rw [List.mem_singleton.mp hb]; exact .inr (.inr ⟨_, hl⟩)

/-- over a range from 0 by ones -/
theorem over_range {r : Addr} {b₀ : Int} {t₀ u₀ v₀ : Tok} {n : Nat} {m : Str → Option Value} {news : List (Addr × Obj)}
    (J : Nat → (Str → Option Value) → List (Addr × Obj) → Prop) (hh : A.handled = none)
    (hr : IsRange s.heap r 0 b₀ 1 t₀ u₀ v₀) (hsmall : Builtin.Range.small 0 b₀ 1 = true) (hn : Builtin.Range.rangeSize 0 b₀ 1 = (n : Int))
    (F : Fr h₀ env.locals s.heap m) (N : News h₀ env.locals s.heap news) (h0 : J 0 m news)
    (step : ∀ (I : Addr) (i : Nat) (t : Tok) m₁ nx h tk oI', i < n → J i m₁ nx → (∀ p ∈ nx, p.1 ≠ I) → Fr h₀ env.locals h (fun y => if y = x then some (.int (i : Int) t) else m₁ y) → News h₀ env.locals h ((I, oI') :: nx) →
      wpAny (model prog w) A (execs body env) (Turn h₀ env.locals I oI' [] (J (i + 1)) s Q) E { s with heap := h, toks := tk })
    (done : ∀ m₁ nx h tk, J n m₁ nx → Fr h₀ env.locals h m₁ → News h₀ env.locals h nx → Q .next { s with heap := h, toks := tk }) :
    wpAny (model prog w) A (pyIter (.ref r)) (fun it s₂ => LoopAtV prog w A h₀ env x body Q E it s₂) E s := by
  refine wpAny_pyIter_range hr hsmall ?_
  have W := Walks.range (prog := prog) (w := w) hh s.heap.objs.size 0 1 n
  refine loop_rule (keep := []) J rfl W (fun i h st => ⟨_, st⟩) (by show IsRangeIter _ _ _ _ _; rw [hn]; simpa using Heap.get?_push_size _ rfl) F N (fun b hb => .inl (List.mem_singleton.mp hb)) h0 ?_ done
  rintro i v m₁ nx h tk oI' hi ⟨t, rfl⟩ hJ hne F₁ N₁
  have e : (0 + (i : Int) * 1) = (i : Int) := by omega
  rw [e] at F₁
  exact step _ i t m₁ nx h tk oI' hi hJ hne F₁ N₁

theorem range_small {b : Int} {n : Nat} (hb : b = (n : Int)) (hn : n ≤ 100000) : Builtin.Range.small 0 b 1 = true := by
  subst hb
  exact small_one (by decide) (by decide) (by omega) (by omega)
theorem range_size {b : Int} {n : Nat} (hb : b = (n : Int)) : Builtin.Range.rangeSize 0 b 1 = (n : Int) := by
  subst hb
  rw [rangeSize_one]
  split <;> omega

/-- over a text's signs -/
theorem over_str {y : Str} {t : Tok} {m : Str → Option Value} {news : List (Addr × Obj)}
    (J : Nat → (Str → Option Value) → List (Addr × Obj) → Prop) (hh : A.handled = none)
    (F : Fr h₀ env.locals s.heap m) (N : News h₀ env.locals s.heap news) (h0 : J 0 m news)
    (step : ∀ (I : Addr) (i : Nat) (c : Nat) (u : Tok) m₁ nx h tk oI', y.cps[i]? = some c → J i m₁ nx → (∀ p ∈ nx, p.1 ≠ I) → Fr h₀ env.locals h (fun z => if z = x then some (.str ⟨#[c]⟩ u) else m₁ z) → News h₀ env.locals h ((I, oI') :: nx) →
      wpAny (model prog w) A (execs body env) (Turn h₀ env.locals I oI' [] (J (i + 1)) s Q) E { s with heap := h, toks := tk })
    (done : ∀ m₁ nx h tk, J y.cps.size m₁ nx → Fr h₀ env.locals h m₁ → News h₀ env.locals h nx → Q .next { s with heap := h, toks := tk }) :
    wpAny (model prog w) A (pyIter (.str y t)) (fun it s₂ => LoopAtV prog w A h₀ env x body Q E it s₂) E s := by
  cases ha : y.cps.all (· < 128)
  · refine wpAny_pyIter_wide ha ?_
    refine loop_rule (keep := []) J rfl (Walks.strWide (prog := prog) (w := w) hh s.heap.objs.size y t) (fun i h st => let ⟨o, ho, _⟩ := st; ⟨o, ho⟩) ⟨_, Heap.get?_push_size _ rfl, rfl, rfl⟩ F N (fun b hb => .inl (List.mem_singleton.mp hb)) h0 ?_ done
    rintro i v m₁ nx h tk oI' hi ⟨c, u, hc, rfl⟩ hJ hne F₁ N₁
    exact step _ i c u m₁ nx h tk oI' hc hJ hne F₁ N₁
  · refine wpAny_pyIter_ascii ha ?_
    refine loop_rule (keep := []) J rfl (Walks.strAscii (prog := prog) (w := w) hh s.heap.objs.size y t) (fun i h st => let ⟨o, ho, _⟩ := st; ⟨o, ho⟩) ⟨_, Heap.get?_push_size _ rfl, rfl, rfl⟩ F N (fun b hb => .inl (List.mem_singleton.mp hb)) h0 ?_ done
    rintro i v m₁ nx h tk oI' hi ⟨c, u, hc, rfl⟩ hJ hne F₁ N₁
    exact step _ i c u m₁ nx h tk oI' hc hJ hne F₁ N₁

/-- over the keys of a dict that stays: of the base, or of the ledger -/
theorem over_keys {d : Addr} {kvs : List (Str × Value)} {m : Str → Option Value} {keep news : List (Addr × Obj)}
    (J : Nat → (Str → Option Value) → List (Addr × Obj) → Prop) (hh : A.handled = none)
    (F : Fr h₀ env.locals s.heap m) (N : News h₀ env.locals s.heap (keep ++ news)) (hd : (d == sysModules) = false) (hm : s.heap.DictOf (strKind prog w) d kvs)
    (hk : (∃ o, h₀.get? d = some o) ∨ ∃ o, (d, o) ∈ keep) (h0 : J 0 m news)
    (step : ∀ (I : Addr) (i : Nat) (k : Str) (z : Value) (u : Tok) m₁ nx h tk oI', kvs[i]? = some (k, z) → J i m₁ nx → (∀ p ∈ keep ++ nx, p.1 ≠ I) → Fr h₀ env.locals h (fun y => if y = x then some (.str k u) else m₁ y) → News h₀ env.locals h ((I, oI') :: (keep ++ nx)) →
      wpAny (model prog w) A (execs body env) (Turn h₀ env.locals I oI' keep (J (i + 1)) s Q) E { s with heap := h, toks := tk })
    (done : ∀ m₁ nx h tk, J kvs.length m₁ nx → Fr h₀ env.locals h m₁ → News h₀ env.locals h (keep ++ nx) → Q .next { s with heap := h, toks := tk }) :
    wpAny (model prog w) A (pyIter (.ref d)) (fun it s₂ => LoopAtV prog w A h₀ env x body Q E it s₂) E s := by
  obtain ⟨ep, hat⟩ := hm.dictAt
  have hlt : d < s.heap.objs.size := hat.lt_size
  refine wpAny_pyIter_dict hd hat ?_
  have W := Walks.dictKeys (prog := prog) (w := w) (knd := strKind prog w) hh s.heap.objs.size d (Nat.ne_of_lt hlt) kvs ep
  refine loop_rule J rfl W (fun i h st => let ⟨o, ho, _⟩ := st.1; ⟨o, ho⟩) ⟨⟨_, Heap.get?_push_size _ rfl, rfl, rfl⟩, hat.push _⟩ F N ?_ h0 ?_ done
  · intro b hb
    rcases List.mem_cons.mp hb with e | hb
    · exact .inl e
    · rw [List.mem_singleton.mp hb]; exact .inr hk
  · rintro i v m₁ nx h tk oI' hi ⟨k, z, hkz, hv⟩ hJ hne F₁ N₁
    obtain ⟨u, rfl⟩ := Value.isStrOf_shape hv
    exact step _ i k z u m₁ nx h tk oI' hkz hJ hne F₁ N₁
end

end Mine

-- part Dct
namespace Mine

/-- a dict's pairs, read as ints -/
inductive Ints : List (Str × Value) → List (Str × Int) → Prop
  | nil : Ints [] []
  | cons {k : Str} {i : Int} {t : Tok} {r : List (Str × Value)} {xs : List (Str × Int)} : Ints r xs → Ints ((k, .int i t) :: r) ((k, i) :: xs)

def lookI (xs : List (Str × Int)) (k : Str) : Option Int := (xs.find? fun p => p.1 = k).map (·.2)
def setI (xs : List (Str × Int)) (k : Str) (i : Int) : List (Str × Int) := xs.map fun p => if p.1 = k then (p.1, i) else p
def hasI (xs : List (Str × Int)) (k : Str) : Bool := xs.any fun p => p.1 = k
def putI (xs : List (Str × Int)) (k : Str) (i : Int) : List (Str × Int) := if hasI xs k then setI xs k i else xs ++ [(k, i)]

theorem Ints.keys {kvs xs} (h : Ints kvs xs) : kvs.map (·.1) = xs.map (·.1) := by
  induction h with
  | nil => rfl
  | cons _ ih => simp [ih]
theorem Ints.length {kvs xs} (h : Ints kvs xs) : kvs.length = xs.length := by
  induction h with
  | nil => rfl
  | cons _ ih => simp [ih]
theorem Ints.atSome {kvs xs} (h : Ints kvs xs) {k : Str} {i : Int} (e : lookI xs k = some i) : ∃ t, valueAt kvs k = some (.int i t) := by
  induction h with
  | nil => cases e
  | @cons k' i' t r xs _ ih =>
    unfold lookI valueAt at *
    rw [List.find?_cons] at e ⊢
    by_cases hk : k' = k
    · simp only [hk, decide_true] at e ⊢
      simp at e ⊢; exact e
    · simp only [hk, decide_false] at e ⊢
      exact ih e
theorem Ints.atNone {kvs xs} (h : Ints kvs xs) {k : Str} (e : lookI xs k = none) : valueAt kvs k = none := by
  induction h with
  | nil => rfl
  | @cons k' i' t r xs _ ih =>
    unfold lookI valueAt at *
    rw [List.find?_cons] at e ⊢
    by_cases hk : k' = k
    · simp only [hk, decide_true] at e
      simp at e
    · simp only [hk, decide_false] at e ⊢
      exact ih e
theorem Ints.isSomeAt {kvs xs} (h : Ints kvs xs) (k : Str) : (valueAt kvs k).isSome = (lookI xs k).isSome := by
  cases e : lookI xs k with
  | none => rw [h.atNone e]; rfl
  | some i => obtain ⟨t, q⟩ := h.atSome e; rw [q]; rfl
theorem Ints.anyAt {kvs xs} (h : Ints kvs xs) (k : Str) : (kvs.any fun kv => kv.1 = k) = hasI xs k := by
  unfold hasI
  induction h with
  | nil => rfl
  | cons _ ih => simp only [List.any_cons, ih]
theorem Ints.setAt {kvs xs} (h : Ints kvs xs) (k : Str) (i : Int) (t : Tok) : Ints (kvs.map fun kv => if kv.1 = k then (kv.1, .int i t) else kv) (setI xs k i) := by
  unfold setI
  induction h with
  | nil => exact .nil
  | @cons k' i' t' r xs _ ih =>
    rw [List.map_cons, List.map_cons]
    by_cases hk : k' = k
    · simp only [hk, if_true]; exact .cons ih
    · simp only [hk, if_false]; exact .cons ih
theorem Ints.appendAt {kvs xs} (h : Ints kvs xs) (k : Str) (i : Int) (t : Tok) : Ints (kvs ++ [(k, .int i t)]) (xs ++ [(k, i)]) := by
  induction h with
  | nil => exact .cons .nil
  | cons _ ih => exact .cons ih
theorem Ints.storedAt {kvs xs} (h : Ints kvs xs) (k : Str) (i : Int) (t : Tok) : Ints (stored kvs k (.int i t)) (putI xs k i) := by
  unfold PySem.stored putI
  rw [h.anyAt k]
  split
  · exact h.setAt k i t
  · exact h.appendAt k i t
theorem Ints.getAt {kvs xs} (h : Ints kvs xs) {j : Nat} {k : Str} {z : Value} (e : kvs[j]? = some (k, z)) : ∃ i t, z = .int i t ∧ xs[j]? = some (k, i) := by
  induction h generalizing j with
  | nil => simp at e
  | cons _ ih =>
    cases j with
    | zero => simp at e; obtain ⟨rfl, rfl⟩ := e; exact ⟨_, _, rfl, rfl⟩
    | succ j => exact ih (by simpa using e)

theorem lookI_isSome (xs : List (Str × Int)) (k : Str) : (lookI xs k).isSome = hasI xs k := by
  unfold lookI hasI
  induction xs with
  | nil => rfl
  | cons p r ih =>
    rw [List.find?_cons, List.any_cons]
    by_cases hk : p.1 = k
    · simp [hk]
    · simp only [hk, decide_false, Bool.false_or]; exact ih

/-- a dict of ints at d -/
structure DI (prog : Program) (w : World) (h : Heap) (d : Addr) (xs : List (Str × Int)) : Prop where
  lo : (d == sysModules) = false
  tab : ∃ kvs, h.DictOf (strKind prog w) d kvs ∧ Ints kvs xs
/-- .. as an object of the ledger -/
structure DO (prog : Program) (w : World) (d : Addr) (o : Obj) (xs : List (Str × Int)) : Prop where
  lo : (d == sysModules) = false
  tab : ∃ kvs, o.IsDictOf (strKind prog w) kvs ∧ Ints kvs xs

section
variable {prog : Program} {w : World} {h h' : Heap} {d : Addr} {o : Obj} {xs : List (Str × Int)}
theorem DO.at (D : DO prog w d o xs) (e : h.get? d = some o) : DI prog w h d xs :=
  let ⟨kvs, hk, hi⟩ := D.tab; ⟨D.lo, kvs, Heap.dictOf_iff.mpr ⟨o, e, hk⟩, hi⟩
theorem DI.obj (D : DI prog w h d xs) : ∃ o, h.get? d = some o ∧ DO prog w d o xs :=
  let ⟨kvs, hk, hi⟩ := D.tab; let ⟨o, ho, hd⟩ := Heap.dictOf_iff.mp hk; ⟨o, ho, D.lo, kvs, hd, hi⟩
theorem DI.keeps (D : DI prog w h d xs) (hk : ∀ o, h.get? d = some o → h'.get? d = some o) : DI prog w h' d xs :=
  let ⟨o, ho, hd⟩ := D.obj; hd.at (hk o ho)
theorem DI.nodup (D : DI prog w h d xs) : (xs.map (·.1)).Nodup :=
  let ⟨_, hk, hi⟩ := D.tab; hi.keys ▸ (let ⟨_, _, _, _, _, _, _, _, hn⟩ := hk; hn)
theorem DO.nodup (D : DO prog w d o xs) : (xs.map (·.1)).Nodup :=
  let ⟨_, hk, hi⟩ := D.tab; hi.keys ▸ (let ⟨_, _, _, _, _, _, hn⟩ := hk; hn)
end

section
variable {prog : Program} {w : World} {A : Around} {E : Value → Shared → Prop} {s : Shared} {h₀ : Heap} {L d : Addr} {m : Str → Option Value} {news : List (Addr × Obj)} {g : Obj → List (Addr × Obj)} {o : Obj} {xs : List (Str × Int)} {k : Str} {t : Tok}

theorem in_DI {Q : Value → Shared → Prop} (D : DI prog w s.heap d xs) (h : Q (.bool (hasI xs k)) { s with toks := s.toks + 1 }) :
    wpAny (model prog w) A (compareOp .In (.str k t) (.ref d)) Q E s := by
  obtain ⟨kvs, hd, hi⟩ := D.tab
  exact wpAny_in_of (strKind_is prog w k t) D.lo hd.mapOf (by rw [hi.isSomeAt, lookI_isSome]; exact h)
theorem getItem_DI {i : Int} {Q : Value → Shared → Prop} (D : DI prog w s.heap d xs) (e : lookI xs k = some i) (h : ∀ u, Q (.int i u) { s with toks := s.toks + 1 }) :
    wpAny (model prog w) A (getItem (.ref d) (.str k t)) Q E s := by
  obtain ⟨kvs, hd, hi⟩ := D.tab
  obtain ⟨u, hu⟩ := hi.atSome e
  exact wpAny_getItem_of (strKind_is prog w k t) hd.mapOf hu (h u)
theorem item_DI {i : Int} {value slice : PySem.Expr} {Q : Value → Shared → Prop} (D : DI prog w s.heap d xs) (e : lookI xs k = some i) (h : ∀ u, Q (.int i u) { s with toks := s.toks + 1 })
    (hs : subscripted slice false (.ref d) (.str k t) = operate [.ref d, .str k t] (getItem (.ref d) (.str k t)) := by with_unfolding_all rfl) :
    wpAny (model prog w) A (subscriptTail value slice (.ref d) (.str k t)) Q E s := by
  obtain ⟨kvs, hd, hi⟩ := id D.tab
  exact tail_any hd.typeIs slot_dict_getitem.lookup (getItem_DI D e h) hs
theorem get_DI {z : Int} {u : Tok} {Q : Value → Shared → Prop} (D : DI prog w s.heap d xs) (h : ∀ u, Q (.int ((lookI xs k).getD z) u) { s with toks := s.toks + 1 }) :
    wpAny (model prog w) A (call (.builtin "dict.get") [.ref d, .str k t, .int z u]) Q E s := by
  obtain ⟨kvs, hd, hi⟩ := D.tab
  refine call_meetsIn PySem.F.slot_dict_get hd.typeIs PySem.F.entry_dict_get (PySem.F.args_dict_get_3 _ _ _) (meets_dict_get_default (strKind prog w) d (strKind_is prog w k t) D.lo (.int z u)) ⟨_, hd.mapOf, ?_⟩
  cases e : lookI xs k with
  | none => rw [hi.atNone e]; have := h u; rw [e] at this; exact this
  | some i => obtain ⟨v, q⟩ := hi.atSome e; rw [q]; have := h v; rw [e] at this; exact this
theorem method_DI {pl : Sem Bool} {Q : Value × List Value → Shared → Prop} (D : DI prog w s.heap d xs) (h : Q (.builtin "dict.get", [.ref d]) s) :
    wpAny (model prog w) A (getMethod (.ref d) "get" pl) Q E s := by
  obtain ⟨kvs, hd, hi⟩ := D.tab
  exact getMethod_builtin hd.typeIs PySem.F.plainAttrs_dict PySem.F.slot_dict_get PySem.F.type_dict_get hd.mapOf.noDict h
theorem setItem_DI {i : Int} {u : Tok} {Q : Unit → Shared → Prop} (F : Fr h₀ L s.heap m) (N : News h₀ L s.heap news) (U : UpdF d o news g) (D : DO prog w d o xs) (hsz : xs.length ≤ 1000)
    (h : ∀ h' o', Fr h₀ L h' m → News h₀ L h' (g o') → DO prog w d o' (putI xs k i) → Q () { s with heap := h', toks := s.toks + 1 }) :
    wpAny (model prog w) A (setItem (.ref d) (.str k t) (.int i u)) Q E s := by
  obtain ⟨pre, post, rfl, hg, a, b⟩ := U.split
  have hm := N (d, o) (List.mem_append_right _ (.head _))
  obtain ⟨kvs, hd, hi⟩ := D.tab
  refine wpAny_setItem_pairs (hsz := by rw [hi.length]; exact Nat.le_trans hsz (by rw [sizeLine_eq]; decide)) (strKind_is prog w k t) (Heap.dictOf_iff.mpr ⟨o, hm.1, hd⟩) fun h' hmm hs => ?_
  obtain ⟨o', ho', hd'⟩ := Heap.dictOf_iff.mp hmm
  exact h h' o' (F.change hs hm.2.1 hm.2.2) (hg o' ▸ N.setIn a b hs ho') ⟨D.lo, _, hd', hi.storedAt k i u⟩
theorem newDict_DI {env : Env} {pos : Pos} {Q : Value → Shared → Prop} (F : Fr h₀ L s.heap m) (N : News h₀ L s.heap news) (hbig : h₀.NoLimit)
    (h : ∀ d h' o, Fr h₀ L h' m → News h₀ L h' ((d, o) :: news) → (∀ p ∈ news, p.1 < d) → DO prog w d o [] → Q (.ref d) { s with heap := h' }) : wpAny (model prog w) A (eval (.Dict [] [] pos) env) Q E s :=
  newDict_K F N hbig fun d h' o F' N' hlt lo hd _ _ _ => h d h' o F' N' hlt ⟨lo, [], hd, .nil⟩
end

end Mine
namespace Mine
section
variable {prog : Program} {w : World} {A : Around} {E : Value → Shared → Prop} {s : Shared} {d : Addr} {xs : List (Str × Int)} {k : Str} {t : Tok}
theorem getItem_has {Q : Value → Shared → Prop} (D : DI prog w s.heap d xs) (e : hasI xs k = true) (h : ∀ i u, lookI xs k = some i → Q (.int i u) { s with toks := s.toks + 1 }) :
    wpAny (model prog w) A (getItem (.ref d) (.str k t)) Q E s := by
  rw [← lookI_isSome] at e
  obtain ⟨i, hi⟩ := Option.isSome_iff_exists.mp e
  exact getItem_DI D hi fun u => h i u hi
theorem item_has {value slice : PySem.Expr} {Q : Value → Shared → Prop} (D : DI prog w s.heap d xs) (e : hasI xs k = true) (h : ∀ i u, lookI xs k = some i → Q (.int i u) { s with toks := s.toks + 1 })
    (hs : subscripted slice false (.ref d) (.str k t) = operate [.ref d, .str k t] (getItem (.ref d) (.str k t)) := by with_unfolding_all rfl) :
    wpAny (model prog w) A (subscriptTail value slice (.ref d) (.str k t)) Q E s := by
  rw [← lookI_isSome] at e
  obtain ⟨i, hi⟩ := Option.isSome_iff_exists.mp e
  exact item_DI D hi (fun u => h i u hi) hs
end
end Mine

-- part Nx
namespace Mine

theorem fmod_in (a b : Int) (hb : 0 < b) : 0 ≤ a.fmod b ∧ a.fmod b < b := by
  rw [Int.fmod_eq_emod_of_nonneg a (Int.le_of_lt hb)]
  exact ⟨Int.emod_nonneg a (Int.ne_of_gt hb), Int.emod_lt_of_pos a hb⟩

theorem next_spec {w : World} {mean : ExcName → Option Value} {mg mb : Str → Option Value} {A : Around} {s : Shared} {h₀ : Heap} {st l : Addr} {vs : List Value} {ns : List Int} {pos rng : Int} {t1 t2 tm : Tok} {n : Nat} {many : Int} {Q E : Value → Shared → Prop}
    (X : (hd.heap_39 w.params).In h₀) (T : Top hd.view_39 (looseW hd.view_39 []) mean mg mb h₀)
    (hh : A.handled = none) (hdep : A.depth < 500) (hun : A.units < 500)
    (hst : ∀ b o, h₀.get? b = some o → s.heap.get? b = some o) (hnew : h₀.get? st = none)
    (ho : s.heap.get? st = some (listOf #[.ref l, .int pos t1, .int rng t2] n)) (hl : s.heap.IsList l vs.toArray) (hi : IntsAre vs ns) (hlen : ns.length ≤ 60) (hls : l ≠ st)
    (hp0 : 0 ≤ pos) (hr0 : 0 ≤ rng) (hr1 : rng < 2147483647) (hm0 : 0 < many) (hm1 : many < 100)
    (hQ : ∀ r t h' tk pos' rng' u1 u2, 0 ≤ r → r < many → 0 ≤ pos' → 0 ≤ rng' → rng' < 2147483647 → h'.get? st = some (listOf #[.ref l, .int pos' u1, .int rng' u2] n) →
      (∀ b o, b ≠ st → s.heap.get? b = some o → h'.get? b = some o) → Q (.int r t) { s with heap := h', toks := tk }) :
    wpAny (model Challenge.rw_et5018_01.row.prog w) A (call (.ref 28) [.ref st, .int many tm]) Q E s := by
  revert X; k_fill; intro X
  k_dflt (refine' callF (binds := [("state", .ref st), ("many", .int many tm)]) [st] hst ?_ X T ?ko ?kc ?kr ?kb ?kl ?_ ?c1 ?c2 ?c3 ?c4)
  case ko => k_is
  case kc => k_is
  case kr => exact Nat.lt_trans hdep (by decide)
  case kb => exact BindsTo.of_eq rfl
  case kl => exact locs rfl
  case c1 => exact rfl
  case c2 => exact rfl
  case c3 => exact rfl
  case c4 => decide
  · exact fun a ha => (List.mem_singleton.mp ha) ▸ hnew
  · intro g L' h₁ hg1 hg2 hg3 hk₁ hL F X' T'
    have N : News g L' h₁ [(st, listOf #[.ref l, .int pos t1, .int rng t2] n)] := by
      intro p hp
      obtain rfl := List.mem_singleton.mp hp
      exact ⟨(hk₁ _ _ ho).1, Nat.ne_of_lt (hk₁ _ _ ho).2, hg2 _ (.head _)⟩
    have hlg : g.IsList l vs.toArray := hl.at fun o e => hg1 l o (by simpa using hls) e
    clear hst hnew ho hl X T hk₁ hL
    k_steps
    all_goals (
      dsimp only
      (rename Fr _ _ _ _ => F9)
      (rename News _ _ _ _ => N9)
      refine hQ _ _ _ _ _ _ _ _ (fmod_in _ _ hm0).1 (fmod_in _ _ hm0).2 ?_ (fmod_in _ _ (by decide)).1 (fmod_in _ _ (by decide)).2 (N9 (st, _) (.head _)).1 (fun b o hb e => F9.keep b o (hg1 b o (by simpa using hb) e))
      omega)
end Mine

-- part Nl
namespace Mine

/-- the state: a list of the script's cut, a place, a seed -/
def StOk (l : Addr) (o : Obj) : Prop := ∃ pos t1 rng t2 n, o = listOf #[.ref l, .int pos t1, .int rng t2] n ∧ 0 ≤ pos ∧ 0 ≤ rng ∧ rng < 2147483647
/-- a list of at most n ints -/
def Sc (n : Nat) (h : Heap) (l : Addr) : Prop := ∃ vs ns, h.IsList l vs.toArray ∧ IntsAre vs ns ∧ ns.length ≤ n
theorem Sc.keeps {n : Nat} {h h' : Heap} {l : Addr} (x : Sc n h l) (hk : ∀ o, h.get? l = some o → h'.get? l = some o) : Sc n h' l :=
  let ⟨vs, ns, a, b, c⟩ := x; ⟨vs, ns, a.at hk, b, c⟩

def AllNe (d : Nat) (l : List (Addr × Obj)) : Prop := l.foldr (fun p P => @Ne Nat p.1 d ∧ P) True
theorem allNe_of {d : Addr} : ∀ {l : List (Addr × Obj)}, (∀ p ∈ l, p.1 ≠ d) → AllNe d l
  | [], _ => trivial
  | p :: _, h => ⟨h p (.head _), allNe_of fun q hq => h q (.tail _ hq)⟩
theorem allNe_lt {d : Addr} {l : List (Addr × Obj)} (h : ∀ p ∈ l, p.1 < d) : AllNe d l := allNe_of fun p hp => Nat.ne_of_lt (h p hp)

/-- outside the names l, m is m₀ -/
def Only (l : List Str) (m m₀ : Str → Option Value) : Prop := ∀ z, l.contains z = false → m z = m₀ z
theorem Only.eq {l : List Str} {m m₀ : Str → Option Value} (h : Only l m m₀) : m = fun z => if l.contains z = true then m z else m₀ z := by
  funext z
  cases e : l.contains z with
  | true => simp
  | false => simp [h z e]
theorem Only.refl (l : List Str) (m : Str → Option Value) : Only l m m := fun _ _ => rfl

theorem only_step {l : List Str} {m m₀ : Str → Option Value} {a : Str} {v : Option Value} (h : Only l m m₀) (ha : l.contains a = true) : Only l (fun y => if y = a then v else m y) m₀ := fun z hz => by
  have hne : z ≠ a := by rintro rfl; rw [ha] at hz; cases hz
  show (if z = a then v else m z) = m₀ z
  rw [if_neg hne]; exact h z hz
theorem only_base {l : List Str} {m m₀ : Str → Option Value} : Only l (fun z => if l.contains z = true then m z else m₀ z) m₀ := fun z hz => by
  show (if l.contains z = true then m z else m₀ z) = m₀ z
  rw [hz]; rfl
theorem putI_length (xs : List (Str × Int)) (k : Str) (i : Int) : (putI xs k i).length ≤ xs.length + 1 := by
  unfold putI setI
  split <;> simp

theorem hasI_putI (xs : List (Str × Int)) (k : Str) (i : Int) : hasI (putI xs k i) k = true := by
  unfold putI
  cases h : hasI xs k with
  | true =>
    simp only [if_true]
    unfold hasI setI at *
    rw [List.any_map, List.any_eq_true]
    obtain ⟨p, hp, e⟩ := List.any_eq_true.mp h
    refine ⟨p, hp, ?_⟩
    simp only [decide_eq_true_eq] at e
    simp [e]
  | false => simp [hasI]

/-- the keys are short -/
def Short (xs : List (Str × Int)) : Prop := ∀ p ∈ xs, p.1.length ≤ 10
theorem Short.put {xs : List (Str × Int)} (h : Short xs) {k : Str} (hk : k.length ≤ 10) (i : Int) : Short (putI xs k i) := by
  unfold putI
  split
  · intro p hp
    obtain ⟨q, hq, rfl⟩ := List.mem_map.mp hp
    split <;> exact h q hq
  · intro p hp
    rcases List.mem_append.mp hp with hp | hp
    · exact h p hp
    · rw [List.mem_singleton.mp hp]; exact hk

theorem change_led {h₀ h h' : Heap} {L d : Addr} {m : Str → Option Value} {news : List (Addr × Obj)} {g : Obj → List (Addr × Obj)} {o o' : Obj}
    (F : Fr h₀ L h m) (N : News h₀ L h news) (U : UpdF d o news g) (he : h'.get? d = some o') (hk : ∀ b ob, b ≠ d → h.get? b = some ob → h'.get? b = some ob) :
    Fr h₀ L h' m ∧ News h₀ L h' (g o') := by
  obtain ⟨pre, post, rfl, hg, a, b⟩ := U.split
  have hm := N (d, o) (List.mem_append_right _ (.head _))
  refine ⟨⟨F.ns.at' fun ob e => hk _ _ (Ne.symm hm.2.1) e, fun c ob e => hk _ _ (fun q => ?_) (F.keep c ob e), F.above⟩, ?_⟩
  · have := hm.2.2; rw [← q, e] at this; cases this
  · rw [hg]
    intro p hp
    rcases List.mem_append.mp hp with hp | hp
    · exact ⟨hk _ _ (a p hp) (N p (List.mem_append_left _ hp)).1, (N p (List.mem_append_left _ hp)).2⟩
    · rcases List.mem_cons.mp hp with rfl | hp
      · exact ⟨he, hm.2⟩
      · exact ⟨hk _ _ (b p hp) (N p (List.mem_append_right _ (.tail _ hp))).1, (N p (List.mem_append_right _ (.tail _ hp))).2⟩

theorem next_led {w : World} {mean : ExcName → Option Value} {mg mb : Str → Option Value} {A : Around} {s : Shared} {h₀ : Heap} {L : Addr} {m : Str → Option Value} {news : List (Addr × Obj)} {gg : Obj → List (Addr × Obj)} {st l : Addr} {o : Obj} {many : Int} {tm : Tok} {Q E : Value → Shared → Prop}
    (X : (hd.heap_39 w.params).In h₀) (T : Top hd.view_39 (looseW hd.view_39 []) mean mg mb h₀)
    (hh : A.handled = none) (hdep : A.depth < 500) (hun : A.units < 500)
    (F : Fr h₀ L s.heap m) (N : News h₀ L s.heap news) (U : UpdF st o news gg) (ho : StOk l o) (hl : Sc 60 s.heap l) (hls : l ≠ st)
    (hm0 : 0 < many) (hm1 : many < 100)
    (hQ : ∀ r t h' tk o', 0 ≤ r → r < many → Fr h₀ L h' m → News h₀ L h' (gg o') → StOk l o' → Q (.int r t) { s with heap := h', toks := tk }) :
    wpAny (model Challenge.rw_et5018_01.row.prog w) A (call (.ref 28) [.ref st, .int many tm]) Q E s := by
  obtain ⟨pos, t1, rng, t2, n, rfl, hp, hr0, hr1⟩ := ho
  obtain ⟨vs, ns, hli, hi, hlen⟩ := hl
  obtain ⟨pre, post, rfl, hg, _, _⟩ := id U.split
  have hm := N (st, _) (List.mem_append_right _ (.head _))
  refine next_spec X T hh hdep hun F.keep hm.2.2 hm.1 hli hi hlen hls hp hr0 hr1 hm0 hm1 ?_
  intro r t h' tk pos' rng' u1 u2 a1 a2 a3 a4 a5 he hk
  obtain ⟨F', N'⟩ := change_led F N U he hk
  exact hQ r t h' tk _ a1 a2 F' N' ⟨_, _, _, _, _, rfl, a3, a4, a5⟩

end Mine
namespace Mine
theorem only_with {l : List Str} {m m₀ : Str → Option Value} {a : Str} {v : Option Value} (h : Only l m m₀) (e : m a = v) : m = fun z => if z = a then v else if l.contains z = true then m z else m₀ z := by
  funext z
  by_cases hz : z = a
  · subst hz; rw [if_pos rfl]; exact e
  · rw [if_neg hz]; exact congrFun h.eq z
end Mine

-- part Bk
namespace Mine
local macro_rules | `(tactic| walk_at "exec For Name Name cons nil") => `(tactic| (k_here; (rename Fr _ _ _ _ => lF'); (with_unfolding_all refine' for_halt lF' ?k1 ?k2 ?_; (case k1 => exact rfl); (case k2 => exact rfl); k_whole); walk_say "MY FOR"))
local macro_rules | `(tactic| walk_at "eval Dict nil nil") => `(tactic| (k_here; k_dflt (refine' newDict_DI ?k1 ?k2 (TopRead.nolimit (by k_asm)) ?_; (case k1 => k_asm); (case k2 => k_asm); k_whole); intro d' h' o' F' N' l1 hd'; (try k_lt l1); (try k_sweep)))

local macro_rules | `(tactic| k_extra "m_sc") => `(tactic| first | assumption | exact Sc.keeps (by assumption) (fun o e => Fr.keep (by assumption) _ o e))
local macro_rules | `(tactic| k_extra "m_dep") => `(tactic| (dsimp only [Around.deeper, Around.in1]; omega))
local macro_rules | `(tactic| walk_at "call ref") => `(tactic| (k_here; (with_reducible show wpAny _ _ (call (Value.ref 28) _) _ _ _); k_dflt (refine' next_led ?X ?T ?hh ?hd ?hu ?F ?N ?U ?ho ?hl ?hls ?m0 ?m1 ?_; (case X => k_asm); (case T => k_asm); (case hh => first | assumption | exact rfl); (case hd => k_extra "m_dep"); (case hu => k_extra "m_dep"); (case F => k_asm); (case N => k_asm); (case U => k_updF); (case ho => k_asm); (case hl => k_extra "m_sc"); (case hls => first | assumption | k_ne); (case m0 => l_fact); (case m1 => l_fact); k_whole); intro r' t' h' tk' o' r0' r1' F' N' ok'; (try dsimp only at N'); (try k_sweep); walk_say "NEXT"))
local macro_rules | `(tactic| walk_at "setItem ref str") => `(tactic| (k_here; k_dflt (refine' setItem_DI ?F ?N ?U ?D ?z ?_; (case F => k_asm); (case N => k_asm); (case U => k_updF); (case D => k_asm); (case z => omega); k_whole); intro h' o' F' N' hd'; (try dsimp only at N'); (try k_sweep); walk_say "SET"))
local macro_rules | `(tactic| k_extra "m_di") => `(tactic| first | with_reducible assumption | (refine' DO.at ?D (News.get ?N ?m); (case N => k_asm); (case m => k_mem); (case D => k_asm)) | exact DI.keeps (by assumption) (fun o e => Fr.keep (by assumption) _ o e))
local macro_rules | `(tactic| walk_at "getMethod ref") => `(tactic| (k_here; k_dflt (refine' method_DI ?D ?_; (case D => k_extra "m_di"); k_whole)))
local macro_rules | `(tactic| walk_at "call builtin:dict.get") => `(tactic| (k_here; k_dflt (refine' get_DI ?D ?_; (case D => k_extra "m_di"); k_whole); intro _))

def bookM (sc st lk b : Addr) (y : Str) : Option Value := if y = "book" then some (.ref b) else if y = "keys" then some (.ref lk) else if y = "script" then some (.ref sc) else if y = "state" then some (.ref st) else none
theorem bookM_eq {sc st lk b : Addr} : (fun y => if y = Str.ofString "book" then some (Value.ref b) else if y = Str.ofString "keys" then some (Value.ref lk) else List.lookup y [(Str.ofString "state", Value.ref st), (Str.ofString "script", Value.ref sc)].reverse) = bookM sc st lk b := by
  funext y
  unfold bookM
  simp only [List.reverse_cons, List.reverse_nil, List.nil_append, List.cons_append, List.lookup_cons, List.lookup_nil]
  repeat' split
  all_goals simp_all
def BookJ (w : World) (l sc st lk b : Addr) (i : Nat) (m : Str → Option Value) (nx : List (Addr × Obj)) : Prop :=
  ∃ ob o xs, nx = [(b, ob), (st, o)] ∧ DO Challenge.rw_et5018_01.row.prog w b ob xs ∧ StOk l o ∧ xs.length ≤ i ∧ Short xs ∧ Only ["key", "value"] m (bookM sc st lk b)

theorem book_spec {w : World} {mean : ExcName → Option Value} {mg mb : Str → Option Value} {A : Around} {s : Shared} {h₀ : Heap} {st l sc : Addr} {o : Obj} {Q E : Value → Shared → Prop}
    (X : (hd.heap_39 w.params).In h₀) (T : Top hd.view_39 (looseW hd.view_39 []) mean mg mb h₀)
    (hh : A.handled = none) (hdep : A.depth < 400) (hun : A.units < 300)
    (hst : ∀ b o, h₀.get? b = some o → s.heap.get? b = some o) (hnew : h₀.get? st = none)
    (ho : s.heap.get? st = some o) (hok : StOk l o) (hl : Sc 60 s.heap l) (hls : l ≠ st) (hs : Sc 63 s.heap sc) (hss : sc ≠ st)
    (hQ : ∀ b ob h' tk o' xs, StOk l o' → h'.get? st = some o' → (∀ c oc, c ≠ st → s.heap.get? c = some oc → h'.get? c = some oc) → s.heap.get? b = none → h'.get? b = some ob →
      DO Challenge.rw_et5018_01.row.prog w b ob xs → xs.length ≤ 10 → Short xs → hasI xs "(" = true → Q (.ref b) { s with heap := h', toks := tk }) :
    wpAny (model Challenge.rw_et5018_01.row.prog w) A (call (.ref 35) [.ref st, .ref sc]) Q E s := by
  revert X; k_fill; intro X
  k_dflt (refine' callF (binds := [("state", .ref st), ("script", .ref sc)]) [st] hst ?_ X T ?ko ?kc ?kr ?kb ?kl ?_ ?c1 ?c2 ?c3 ?c4)
  case ko => k_is
  case kc => k_is
  case kr => exact Nat.lt_trans hdep (by decide)
  case kb => exact BindsTo.of_eq rfl
  case kl => exact locs rfl
  case c1 => exact rfl
  case c2 => exact rfl
  case c3 => exact rfl
  case c4 => decide
  · exact fun a ha => (List.mem_singleton.mp ha) ▸ hnew
  · intro g L' h₁ hg1 hg2 hg3 hk₁ hL F X' T'
    have N : News g L' h₁ [(st, o)] := by
      intro p hp
      obtain rfl := List.mem_singleton.mp hp
      exact ⟨(hk₁ _ _ ho).1, Nat.ne_of_lt (hk₁ _ _ ho).2, hg2 _ (.head _)⟩
    have hlg : Sc 60 g l := hl.keeps fun o e => hg1 l o (by simpa using hls) e
    have hsg : Sc 63 g sc := hs.keeps fun o e => hg1 sc o (by simpa using hss) e
    obtain ⟨svs, sns, hsl, hsi, hsn⟩ := hsg
    clear hst hnew ho hl hs X T hk₁ hL
    k_steps
    rename_i lk _ l1 _ b _ ob hb l2 h2 F1 N1
    have key : ∃ vs : List Value, (∀ v ∈ vs, ∃ k t, v = .str k t ∧ k.length ≤ 10) ∧ vs.length = 9 ∧ News g L' h2 [(b, ob), (lk, listOf vs.toArray 0), (st, o)] := by
      refine ⟨_, ?_, rfl, N1⟩
      intro v hv
      simp only [List.mem_cons, List.not_mem_nil, or_false] at hv
      rcases hv with rfl | rfl | rfl | rfl | rfl | rfl | rfl | rfl | rfl <;> exact ⟨_, _, rfl, by decide⟩
    clear N1
    obtain ⟨vs, hvs, hvl, N1⟩ := key
    unfold Halt
    k_dflt (refine' over_list (l := lk) (vs := vs) (k := 0) (keep := [(lk, listOf vs.toArray 0)]) (news := [(b, ob), (st, o)]) (BookJ w l sc st lk b) ?hh F1 ?N (.head _) ?h0 ?step ?done)
    case hh => exact hh
    case N =>
      intro p hp
      refine N1 p ?_
      simp only [List.cons_append, List.nil_append, List.mem_cons, List.not_mem_nil, or_false] at hp ⊢
      rcases hp with h | h | h <;> simp [h]
    case h0 => exact ⟨ob, o, [], rfl, hb, hok, Nat.zero_le _, (fun _ h => nomatch h), bookM_eq ▸ Only.refl _ _⟩
    case step =>
      rintro I i v m₁ nx h tk oI hi hv ⟨ob, o, xs, rfl, hb, hok, hlen, hsh, hm⟩ hne F2 N2
      obtain ⟨k, t, rfl, hkl⟩ := hvs v (List.mem_of_getElem? hv)
      have hne := allNe_of hne
      simp only [List.cons_append, List.nil_append, AllNe, List.foldr_cons, List.foldr_nil, and_true] at hne N2
      rw [hm.eq] at F2
      change Fr g L' h _ at F2
      change News g L' h _ at N2
      clear F1 N1
      k_steps
      all_goals (
        (rename Fr _ _ _ _ => F9); (rename News _ _ _ _ => N9)
        refine ⟨_, _, _, [_, _], rfl, F9, N9, ?_, ?_⟩
        · intro p hp
          simp only [List.mem_cons, List.not_mem_nil, or_false] at hp
          rcases hp with rfl | rfl
          · exact hne.2.1
          · exact hne.2.2
        · refine ⟨_, _, _, rfl, by assumption, by assumption, ?_, ?_, ?_⟩
          · first | omega | exact Nat.le_trans (putI_length _ _ _) (Nat.succ_le_succ hlen)
          · first | assumption | exact Short.put hsh hkl _
          · repeat (first | exact only_base | refine only_step ?_ (by decide)))
    case done =>
      rintro m₁ nx h tk ⟨ob, o, xs, rfl, hb, hok, hlen, hsh, hm⟩ F2 N2
      simp only [List.cons_append, List.nil_append] at N2
      rw [hm.eq] at F2
      change Fr g L' h _ at F2
      change News g L' h _ at N2
      dsimp only
      clear F1 N1
      k_steps
      (rename Fr _ _ _ _ => F9); (rename News _ _ _ _ => N9); (rename DO _ _ _ _ _ => D9)
      dsimp only
      have hbn : s.heap.get? b = none := by
        cases e : s.heap.get? b with
        | none => rfl
        | some o9 =>
          have h1 := hg1 b o9 (fun q => absurd (List.mem_singleton.mp q) (Nat.ne_of_gt l2.2)) e
          have h2 := (N9 (b, _) (.tail _ (.head _))).2.2
          rw [h1] at h2; cases h2
      exact hQ b _ _ _ _ _ hok (N9 (st, _) (.tail _ (.tail _ (.head _)))).1 (fun c oc hc e => F9.keep c oc (hg1 c oc (by simpa using hc) e)) hbn (N9 (b, _) (.tail _ (.head _))).1 D9
        (Nat.le_trans (putI_length _ _ _) (by omega)) (Short.put hsh (by decide) _) (hasI_putI _ _ _)
end Mine

-- part Ad
namespace Mine
local macro_rules | `(tactic| walk_at "exec For Name Name cons nil") => `(tactic| (k_here; (rename Fr _ _ _ _ => lF'); (with_unfolding_all refine' for_halt lF' ?k1 ?k2 ?_; (case k1 => exact rfl); (case k2 => exact rfl); k_whole); walk_say "MY FOR"))
local macro_rules | `(tactic| walk_at "exec For Name Call cons nil") => `(tactic| (k_here; (rename Fr _ _ _ _ => lF'); (with_unfolding_all refine' for_halt lF' ?k1 ?k2 ?_; (case k1 => exact rfl); (case k2 => exact rfl); k_whole); walk_say "MY FOR"))
local macro_rules | `(tactic| walk_at "eval Dict nil nil") => `(tactic| (k_here; k_dflt (refine' newDict_DI ?k1 ?k2 (TopRead.nolimit (by k_asm)) ?_; (case k1 => k_asm); (case k2 => k_asm); k_whole); intro d' h' o' F' N' l1 hd'; (try k_lt l1); (try k_sweep)))
local macro_rules | `(tactic| walk_at "setItem ref str") => `(tactic| (k_here; k_dflt (refine' setItem_DI ?F ?N ?U ?D ?z ?_; (case F => k_asm); (case N => k_asm); (case U => k_updF); (case D => k_asm); (case z => first | assumption | omega); k_whole); intro h' o' F' N' hd'; (try dsimp only at N'); (try k_sweep); walk_say "SET"))

local macro_rules | `(tactic| walk_at "call builtin:len") => `(tactic| (k_here; (with_reducible show wpAny _ _ (call (Value.builtin "len") [Value.str _ _]) _ _ _); (refine len_str ?_ ?_; (focus (unfold Str.length at *; omega))); walk_say "LEN STR"))

local macro_rules | `(tactic| walk_at "subscriptTail Name Name str int") => `(tactic| (k_here; (refine item_str (fitsSsize_of (N := 9223372036854775808) (by omega) (by omega) (Int.le_refl _)) (by unfold Str.length; omega) (by unfold Str.length; omega) ?_); intro _; walk_say "SIGN"))

-- a spare line: the walk keeps its table of lines by their number alone, and the part ahead has as many
local macro_rules | `(tactic| walk_at "a spare line") => `(tactic| fail "none")

/-- how many signs of the text are the key -/
def cntL (k : Str) (cs : List Nat) : Int := (cs.countP fun c => decide ((⟨#[c]⟩ : Str) = k) : Nat)
theorem cntL_succ {k : Str} {cs : List Nat} {j c : Nat} (h : cs[j]? = some c) : cntL k (cs.take (j + 1)) = cntL k (cs.take j) + if (⟨#[c]⟩ : Str) = k then 1 else 0 := by
  unfold cntL
  rw [List.take_add_one, h, List.countP_append]
  by_cases e : (⟨#[c]⟩ : Str) = k
  · simp [e]
  · simp [e]
theorem cntL_zero {k : Str} {cs : List Nat} (h : (k.length : Int) ≠ 1) : cntL k cs = 0 := by
  unfold cntL
  have : (cs.countP fun c => decide ((⟨#[c]⟩ : Str) = k)) = 0 := by
    rw [List.countP_eq_zero]
    intro c _ e
    have e' := of_decide_eq_true e
    subst e'
    exact h rfl
  rw [this]; rfl
def addedOf (cs : List Nat) (xs : List (Str × Int)) : List (Str × Int) := xs.map fun p => (p.1, cntL p.1 cs)

theorem hasI_false {xs : List (Str × Int)} {k : Str} (h : k ∉ xs.map (·.1)) : hasI xs k = false := by
  unfold hasI
  rw [List.any_eq_false]
  intro p hp e
  exact h (List.mem_map.mpr ⟨p, hp, of_decide_eq_true e⟩)
theorem addedOf_keys (cs : List Nat) (xs : List (Str × Int)) : (addedOf cs xs).map (·.1) = xs.map (·.1) := by
  unfold addedOf; rw [List.map_map]; rfl
theorem not_before {xs : List (Str × Int)} {i : Nat} {k : Str} {v : Int} (hn : (xs.map (·.1)).Nodup) (hx : xs[i]? = some (k, v)) : k ∉ (xs.take i).map (·.1) := by
  intro hk
  obtain ⟨p, hp, e⟩ := List.mem_map.mp hk
  obtain ⟨j, hj⟩ := List.mem_iff_getElem?.mp hp
  rw [List.getElem?_take] at hj
  split at hj
  · rename_i hlt
    have h1 : (xs.map (·.1))[j]? = some k := by rw [List.getElem?_map, hj]; simp [e]
    have h2 : (xs.map (·.1))[i]? = some k := by rw [List.getElem?_map, hx]; rfl
    have hi : i < (xs.map (·.1)).length := by
      rcases Nat.lt_or_ge i (xs.map (·.1)).length with h | h
      · exact h
      · rw [List.getElem?_eq_none h] at h2; cases h2
    have := (List.getElem?_inj (by omega) hn).mp (h1.trans h2.symm)
    omega
  · cases hj
theorem added_succ {cs : List Nat} {xs : List (Str × Int)} {i : Nat} {k : Str} {v : Int} (hn : (xs.map (·.1)).Nodup) (hx : xs[i]? = some (k, v)) :
    putI (addedOf cs (xs.take i)) k (cntL k cs) = addedOf cs (xs.take (i + 1)) := by
  have h1 : hasI (addedOf cs (xs.take i)) k = false := hasI_false (by rw [addedOf_keys]; exact not_before hn hx)
  unfold putI
  rw [h1, List.take_add_one, hx]
  unfold addedOf
  simp

def AddJ (w : World) (cs : List Nat) (xs : List (Str × Int)) (d : Addr) (m₀ : Str → Option Value) (i : Nat) (m : Str → Option Value) (nx : List (Addr × Obj)) : Prop :=
  ∃ od, nx = [(d, od)] ∧ DO Challenge.rw_et5018_01.row.prog w d od (addedOf cs (xs.take i)) ∧ Only ["key", "many", "k"] m m₀

def addM (pb : Addr) (y : Str) (t : Tok) (d : Addr) (z : Str) : Option Value := if z = "added" then some (.ref d) else if z = "text" then some (.str y t) else if z = "book" then some (.ref pb) else none
theorem addM_eq {pb : Addr} {y : Str} {t : Tok} {d : Addr} : (fun z => if z = Str.ofString "added" then some (Value.ref d) else List.lookup z [(Str.ofString "book", Value.ref pb), (Str.ofString "text", Value.str y t)].reverse) = addM pb y t d := by
  funext z
  unfold addM
  simp only [List.reverse_cons, List.reverse_nil, List.nil_append, List.cons_append, List.lookup_cons, List.lookup_nil]
  repeat' split
  all_goals simp_all

theorem item_at {x : Str} {i c : Nat} (hc : x.cps[i]? = some c) : Txt.item x (i : Int) = ⟨#[c]⟩ := by
  unfold Txt.item Txt.charAt
  have h1 : i < x.cps.size := by
    rcases Nat.lt_or_ge i x.cps.size with h | h
    · exact h
    · rw [Array.getElem?_eq_none h] at hc; cases hc
  have e : seqIndex? (i : Int) x.length = some i := by
    have h2 : i < x.length := h1
    unfold seqIndex?
    simp
    omega
  rw [e]
  simp [hc]

def AddK (k : Str) (cs : List Nat) (led : List (Addr × Obj)) (m₀ : Str → Option Value) (i : Nat) (m : Str → Option Value) (nx : List (Addr × Obj)) : Prop :=
  nx = led ∧ Only ["many", "k"] m m₀ ∧ ∃ t, m "many" = some (.int (cntL k (cs.take i)) t)

theorem only_many {m₁ m₀ : Str → Option Value} {k : Str} {u tk : Tok} : Only ["many", "k"] (fun y_1 => if y_1 = Str.ofString "many" then some (Value.int 0 tk) else if y_1 = Str.ofString "key" then some (Value.str k u) else (fun z => if [Str.ofString "key", Str.ofString "many", Str.ofString "k"].contains z = true then m₁ z else m₀ z) y_1) (fun z => if z = "key" then some (Value.str k u) else m₀ z) := by
  intro z hz
  have h1 : z ≠ "many" := by rintro rfl; exact absurd hz (by decide)
  have h2 : z ≠ "k" := by rintro rfl; exact absurd hz (by decide)
  dsimp only
  rw [if_neg h1]
  by_cases h3 : z = "key"
  · rw [if_pos h3, if_pos h3]
  · rw [if_neg h3, if_neg h3, if_neg]
    simp [List.contains_cons, h1, h2, h3]

theorem only_after {m₂ m₀ : Str → Option Value} {v kv : Option Value} : Only ["key", "many", "k"] (fun z => if z = Str.ofString "many" then v else if [Str.ofString "many", Str.ofString "k"].contains z = true then m₂ z else if z = Str.ofString "key" then kv else m₀ z) m₀ := by
  intro z hz
  have h1 : z ≠ "many" := by rintro rfl; exact absurd hz (by decide)
  have h2 : z ≠ "k" := by rintro rfl; exact absurd hz (by decide)
  have h3 : z ≠ "key" := by rintro rfl; exact absurd hz (by decide)
  dsimp only
  rw [if_neg h1, if_neg (by simp [h1, h2]), if_neg h3]

theorem added_spec {w : World} {mean : ExcName → Option Value} {mg mb : Str → Option Value} {A : Around} {s : Shared} {h₀ : Heap} {pb : Addr} {y : Str} {t : Tok} {xs : List (Str × Int)} {Q E : Value → Shared → Prop}
    (X : (hd.heap_39 w.params).In h₀) (T : Top hd.view_39 (looseW hd.view_39 []) mean mg mb h₀)
    (hh : A.handled = none) (hdep : A.depth < 400) (hun : A.units < 300)
    (hst : ∀ b o, h₀.get? b = some o → s.heap.get? b = some o)
    (hp : DI Challenge.rw_et5018_01.row.prog w s.heap pb xs) (hxs : xs.length ≤ 10) (hsh : Short xs) (hy : y.cps.size ≤ 1000)
    (hQ : ∀ d od h' tk, (∀ c oc, s.heap.get? c = some oc → h'.get? c = some oc) → s.heap.get? d = none → h'.get? d = some od →
      DO Challenge.rw_et5018_01.row.prog w d od (addedOf y.cps.toList xs) → Q (.ref d) { s with heap := h', toks := tk }) :
    wpAny (model Challenge.rw_et5018_01.row.prog w) A (call (.ref 42) [.ref pb, .str y t]) Q E s := by
  revert X; k_fill; intro X
  k_dflt (refine' callF (binds := [("book", .ref pb), ("text", .str y t)]) [] hst ?_ X T ?ko ?kc ?kr ?kb ?kl ?_ ?c1 ?c2 ?c3 ?c4)
  case ko => k_is
  case kc => k_is
  case kr => exact Nat.lt_trans hdep (by decide)
  case kb => exact BindsTo.of_eq rfl
  case kl => exact locs rfl
  case c1 => exact rfl
  case c2 => exact rfl
  case c3 => exact rfl
  case c4 => decide
  · exact fun a ha => nomatch ha
  · intro g L' h₁ hg1 hg2 hg3 hk₁ hL F X' T'
    have N : News g L' h₁ [] := fun _ hp => nomatch hp
    have hpg : DI Challenge.rw_et5018_01.row.prog w g pb xs := hp.keeps fun o e => hg1 pb o (by simp) e
    clear hst hp X T hk₁ hL
    k_steps
    rename_i d _ od hd _ _ F1 N1
    rw [addM_eq] at F1
    have hp1 := hpg.keeps (fun o e => F1.keep _ o e)
    obtain ⟨kvs, hkv, hki⟩ := hp1.tab
    unfold Halt
    k_dflt (refine' over_keys (d := pb) (kvs := kvs) (keep := []) (news := [(d, od)]) (AddJ w y.cps.toList xs d (addM pb y t d)) ?hh F1 N1 hpg.lo hkv (.inl (let ⟨o, ho, _⟩ := hpg.obj; ⟨o, ho⟩)) ?h0 ?step ?done)
    case hh => exact hh
    case h0 => exact ⟨od, rfl, hd, Only.refl _ _⟩
    case step =>
      rintro I i k z u m₁ nx h tk oI hkz ⟨od, rfl, hd, hm⟩ hne F2 N2
      have hne := allNe_of hne
      obtain ⟨iv, it, rfl, hx⟩ := hki.getAt hkz
      have hkl : k.length ≤ 10 := hsh _ (List.mem_of_getElem? hx)
      simp only [List.cons_append, List.nil_append, AllNe, List.foldr_cons, List.foldr_nil, and_true] at hne N2
      rw [hm.eq] at F2
      change Fr g L' h _ at F2
      change News g L' h _ at N2
      clear hp1 hkv F1 N1
      have hal : (addedOf y.cps.toList (List.take i xs)).length ≤ 1000 := by
        unfold addedOf; rw [List.length_map, List.length_take]; omega
      k_steps
      · rename_i hR tkR t1 u1 v1 hrng FR NR hkR
        unfold Halt
        k_dflt (refine' over_range (n := y.cps.size) (AddK k y.cps.toList [(I, oI), (d, od)] (fun z => if z = "key" then some (Value.str k u) else addM pb y t d z)) ?ihh hrng ?ihs ?ihn FR NR ?ih0 ?istep ?idone)
        case ihh => exact hh
        case ihs => exact range_small rfl (Nat.le_trans hy (by decide))
        case ihn => exact range_size rfl
        case ih0 => k_dflt (exact ⟨rfl, only_many, ⟨_, rfl⟩⟩)
        case istep =>
          rintro J j tj m₂ nx h2 tk2 oJ hj ⟨rfl, hm2, tm, hmany⟩ hne2 F3 N3
          have hne2 := allNe_of hne2
          simp only [AllNe, List.foldr_cons, List.foldr_nil, and_true] at hne2
          rw [only_with hm2 hmany] at F3
          change Fr g L' h2 _ at F3
          change News g L' h2 _ at N3
          clear FR NR hkR hrng
          obtain ⟨c, hc⟩ : ∃ c, y.cps[j]? = some c := ⟨y.cps[j], by simp [hj]⟩
          have hc' : y.cps.toList[j]? = some c := by rw [Array.getElem?_toList]; exact hc
          k_steps
          all_goals (
            (rename ((Txt.item y _ == k) = _) => hb); rw [item_at hc] at hb
            (rename Fr _ _ _ _ => F9); (rename News _ _ _ _ => N9)
            refine ⟨_, _, _, _, rfl, F9, N9, ?_, rfl, ?_, ?_⟩
            · intro p hp
              simp only [List.mem_cons, List.not_mem_nil, or_false] at hp
              rcases hp with rfl | rfl
              · exact hne2.1
              · exact hne2.2
            · repeat (first | exact only_base | refine only_step ?_ (by decide))
            · rw [cntL_succ hc']
              first
                | (rw [if_pos (by simpa using hb)]; k_dflt (exact ⟨_, rfl⟩))
                | (rw [if_neg (by simpa using hb), Int.add_zero]; k_dflt (exact ⟨_, rfl⟩)))
        case idone =>
          rintro m₂ nx h2 tk2 ⟨rfl, hm2, tm, hmany⟩ F3 N3
          rw [only_with hm2 hmany] at F3
          rw [List.take_of_length_le (by rw [Array.length_toList]; exact Nat.le_refl _)] at F3
          change Fr g L' h2 _ at F3
          change News g L' h2 _ at N3
          clear FR NR hkR hrng
          dsimp only
          k_steps
          (rename Fr _ _ _ _ => F9); (rename News _ _ _ _ => N9); (rename DO _ _ _ _ _ => D9)
          rw [added_succ hpg.nodup hx] at D9
          refine ⟨_, _, _, [_], rfl, F9, N9, ?_, _, rfl, D9, ?_⟩
          · intro p hp; rw [List.mem_singleton.mp hp]; exact hne
          · exact only_after
      · (rename Fr _ _ _ _ => F9); (rename News _ _ _ _ => N9); (rename DO _ _ _ _ _ => D9); (rename (Nat.cast (Str.length k) ≠ (1 : Int)) => hk1)
        rw [← cntL_zero (cs := y.cps.toList) hk1, added_succ hpg.nodup hx] at D9
        refine ⟨_, _, _, [_], rfl, F9, N9, ?_, _, rfl, D9, ?_⟩
        · intro p hp; rw [List.mem_singleton.mp hp]; exact hne
        · repeat (first | exact only_base | refine only_step ?_ (by decide))
    case done =>
      rintro m₁ nx h tk ⟨od, rfl, hd, hm⟩ F2 N2
      rw [hm.eq] at F2
      change Fr g L' h _ at F2
      change News g L' h _ at N2
      clear hp1 hkv F1 N1
      dsimp only
      rw [hki.length, List.take_length] at hd
      k_steps
      (rename Fr _ _ _ _ => F9); (rename News _ _ _ _ => N9)
      dsimp only
      have hdn : s.heap.get? d = none := by
        cases e : s.heap.get? d with
        | none => rfl
        | some o9 =>
          have h1 := hg1 d o9 (by simp) e
          have h2 := (N9 (d, _) (.head _)).2.2
          rw [h1] at h2; cases h2
      exact hQ d _ _ _ (fun c oc e => F9.keep c oc (hg1 c oc (by simp) e)) hdn (N9 (d, _) (.head _)).1 hd
end Mine

-- part Up
namespace Mine
local macro_rules | `(tactic| walk_at "exec For Name Name cons nil") => `(tactic| (k_here; (rename Fr _ _ _ _ => lF'); (with_unfolding_all refine' for_halt lF' ?k1 ?k2 ?_; (case k1 => exact rfl); (case k2 => exact rfl); k_whole); walk_say "MY FOR"))
local macro_rules | `(tactic| k_extra "m_di") => `(tactic| first | with_reducible assumption | (refine' DO.at ?D (News.get ?N ?m); (case N => k_asm); (case m => k_mem); (case D => k_asm)) | exact DI.keeps (by assumption) (fun o e => Fr.keep (by assumption) _ o e))
local macro_rules | `(tactic| walk_at "setItem ref str") => `(tactic| (k_here; k_dflt (refine' setItem_DI ?F ?N ?U ?D ?z ?_; (case F => k_asm); (case N => k_asm); (case U => k_updF); (case D => k_asm); (case z => first | assumption | omega); k_whole); intro h' o' F' N' hd'; (try dsimp only at N'); (try k_sweep); walk_say "SET"))
local macro_rules | `(tactic| walk_at "compareOp In str ref") => `(tactic| (k_here; k_dflt (refine' in_DI ?D ?_; (case D => k_extra "m_di"); k_whole)))
local macro_rules | `(tactic| walk_at "getItem ref str") => `(tactic| (k_here; k_dflt (refine' getItem_has ?D ?e ?_; (case D => k_extra "m_di"); (case e => assumption); k_whole); intro i' u' e'; walk_say "ITEM"))

def addN (cs : List Nat) (xs : List (Str × Int)) : List (Str × Int) := xs.map fun p => (p.1, p.2 + cntL p.1 cs)
theorem addN_keys (cs : List Nat) (xs : List (Str × Int)) : (addN cs xs).map (·.1) = xs.map (·.1) := by
  unfold addN; rw [List.map_map]; rfl
theorem addN_nil (xs : List (Str × Int)) : addN [] xs = xs := by
  unfold addN cntL
  simp
theorem setI_same {ys : List (Str × Int)} {k : Str} {v : Int} (h : k ∉ ys.map (·.1)) : setI ys k v = ys := by
  unfold setI
  conv => rhs; rw [← List.map_id ys]
  refine List.map_congr_left fun p hp => ?_
  rw [if_neg fun e => h (List.mem_map.mpr ⟨p, hp, e⟩)]; rfl
theorem setI_bump {ys : List (Str × Int)} {k : Str} {v : Int} (hn : (ys.map (·.1)).Nodup) (h : lookI ys k = some v) :
    setI ys k (v + 1) = ys.map fun p => (p.1, p.2 + if k = p.1 then 1 else 0) := by
  induction ys with
  | nil => rfl
  | cons p r ih =>
    rw [List.map_cons, List.nodup_cons] at hn
    have e1 : setI (p :: r) k (v + 1) = (if p.1 = k then (p.1, v + 1) else p) :: setI r k (v + 1) := rfl
    rw [e1, List.map_cons]
    unfold lookI at h
    rw [List.find?_cons] at h
    by_cases hk : p.1 = k
    · simp only [hk, decide_true] at h
      have hv : p.2 = v := by simpa using h
      have hnk : k ∉ r.map (·.1) := hk ▸ hn.1
      rw [setI_same hnk, if_pos hk, if_pos hk.symm, hv]
      congr 1
      conv => lhs; rw [← List.map_id r]
      refine List.map_congr_left fun q hq => ?_
      rw [if_neg fun e => hnk (List.mem_map.mpr ⟨q, hq, e.symm⟩), Int.add_zero]; rfl
    · simp only [hk, decide_false] at h
      rw [if_neg hk, if_neg fun e => hk e.symm, Int.add_zero, ih hn.2 h]
theorem addN_succ {cs : List Nat} {xs : List (Str × Int)} {j c : Nat} (h : cs[j]? = some c) :
    addN (cs.take (j + 1)) xs = (addN (cs.take j) xs).map fun p => (p.1, p.2 + if (⟨#[c]⟩ : Str) = p.1 then 1 else 0) := by
  unfold addN
  rw [List.map_map]
  refine List.map_congr_left fun p _ => ?_
  rw [cntL_succ h, Function.comp, Int.add_assoc]
theorem addN_hit {cs : List Nat} {xs : List (Str × Int)} {j c : Nat} {v : Int} (hn : (xs.map (·.1)).Nodup) (h : cs[j]? = some c) (hh : hasI (addN (cs.take j) xs) ⟨#[c]⟩ = true) (hl : lookI (addN (cs.take j) xs) ⟨#[c]⟩ = some v) :
    putI (addN (cs.take j) xs) ⟨#[c]⟩ (v + 1) = addN (cs.take (j + 1)) xs := by
  unfold putI
  rw [hh, if_pos rfl, setI_bump (by rw [addN_keys]; exact hn) hl, addN_succ h]
theorem addN_miss {cs : List Nat} {xs : List (Str × Int)} {j c : Nat} (h : cs[j]? = some c) (hh : hasI (addN (cs.take j) xs) ⟨#[c]⟩ = false) :
    addN (cs.take j) xs = addN (cs.take (j + 1)) xs := by
  rw [addN_succ h]
  conv => lhs; rw [← List.map_id (addN (cs.take j) xs)]
  refine List.map_congr_left fun p hp => ?_
  unfold hasI at hh
  have := (List.any_eq_false.mp hh) p hp
  rw [if_neg fun e => this (decide_eq_true e.symm), Int.add_zero]; rfl

def updM (y : Str) (t : Tok) (c : Addr) (z : Str) : Option Value := if z = "counts" then some (.ref c) else if z = "s" then some (.str y t) else none
theorem updM_eq {y : Str} {t : Tok} {c : Addr} : (fun z => List.lookup z [(Str.ofString "s", Value.str y t), (Str.ofString "counts", Value.ref c)].reverse) = updM y t c := by
  funext z
  unfold updM
  simp only [List.reverse_cons, List.reverse_nil, List.nil_append, List.cons_append, List.lookup_cons, List.lookup_nil]
  repeat' split
  all_goals simp_all
def UpdJ (w : World) (cs : List Nat) (xs : List (Str × Int)) (c : Addr) (m₀ : Str → Option Value) (i : Nat) (m : Str → Option Value) (nx : List (Addr × Obj)) : Prop :=
  ∃ oc, nx = [(c, oc)] ∧ DO Challenge.rw_et5018_01.row.prog w c oc (addN (cs.take i) xs) ∧ Only ["char"] m m₀

theorem upd_spec {w : World} {mean : ExcName → Option Value} {mg mb : Str → Option Value} {A : Around} {s : Shared} {h₀ : Heap} {c : Addr} {oc : Obj} {y : Str} {t : Tok} {xs : List (Str × Int)} {Q E : Value → Shared → Prop}
    (X : (hd.heap_39 w.params).In h₀) (T : Top hd.view_39 (looseW hd.view_39 []) mean mg mb h₀)
    (hh : A.handled = none) (hdep : A.depth < 400) (hun : A.units < 300)
    (hst : ∀ b o, h₀.get? b = some o → s.heap.get? b = some o) (hnew : h₀.get? c = none)
    (ho : s.heap.get? c = some oc) (hd : DO Challenge.rw_et5018_01.row.prog w c oc xs) (hxs : xs.length ≤ 10)
    (hQ : ∀ oc' h' tk, (∀ b o, b ≠ c → s.heap.get? b = some o → h'.get? b = some o) → h'.get? c = some oc' →
      DO Challenge.rw_et5018_01.row.prog w c oc' (addN y.cps.toList xs) → Q .none { s with heap := h', toks := tk }) :
    wpAny (model Challenge.rw_et5018_01.row.prog w) A (call (.ref 21) [.str y t, .ref c]) Q E s := by
  revert X; k_fill; intro X
  k_dflt (refine' callF (binds := [("s", .str y t), ("counts", .ref c)]) [c] hst ?_ X T ?ko ?kc ?kr ?kb ?kl ?_ ?c1 ?c2 ?c3 ?c4)
  case ko => k_is
  case kc => k_is
  case kr => exact Nat.lt_trans hdep (by decide)
  case kb => exact BindsTo.of_eq rfl
  case kl => exact locs rfl
  case c1 => exact rfl
  case c2 => exact rfl
  case c3 => exact rfl
  case c4 => decide
  · exact fun a ha => (List.mem_singleton.mp ha) ▸ hnew
  · intro g L' h₁ hg1 hg2 hg3 hk₁ hL F X' T'
    have N : News g L' h₁ [(c, oc)] := by
      intro p hp
      obtain rfl := List.mem_singleton.mp hp
      exact ⟨(hk₁ _ _ ho).1, Nat.ne_of_lt (hk₁ _ _ ho).2, hg2 _ (.head _)⟩
    rw [updM_eq] at F
    clear hst hnew ho X T hk₁ hL
    k_steps
    (rename Fr _ _ _ _ => F1)
    unfold Halt
    k_dflt (refine' over_str (UpdJ w y.cps.toList xs c (updM y t c)) ?hh F1 N ?h0 ?step ?done)
    case hh => exact hh
    case h0 => exact ⟨oc, rfl, by rw [List.take_zero, addN_nil]; exact hd, Only.refl _ _⟩
    case step =>
      rintro I j ch u m₁ nx h tk oI hc ⟨oc1, rfl, hd1, hm⟩ hne F2 N2
      have hne := allNe_of hne
      simp only [AllNe, List.foldr_cons, List.foldr_nil, and_true] at hne
      rw [hm.eq] at F2
      change Fr g L' h _ at F2
      change News g L' h _ at N2
      have hc' : y.cps.toList[j]? = some ch := by rw [Array.getElem?_toList]; exact hc
      have hal : (addN (List.take j y.cps.toList) xs).length ≤ 1000 := by
        unfold addN; rw [List.length_map]; omega
      clear F1 N
      k_steps
      all_goals (rename (hasI _ _ = _) => hb)
      · (rename Fr _ _ _ _ => F9); (rename News _ _ _ _ => N9); (rename DO _ _ _ _ _ => D9); (rename (lookI _ _ = _) => hl)
        rw [addN_hit hd.nodup hc' hb hl] at D9
        refine ⟨_, _, _, [_], rfl, F9, N9, ?_, _, rfl, D9, ?_⟩
        · intro p hp; rw [List.mem_singleton.mp hp]; exact hne
        · repeat (first | exact only_base | refine only_step ?_ (by decide))
      · rw [addN_miss hc' hb] at hd1
        refine ⟨_, _, _, [_], rfl, F2, N2, ?_, _, rfl, hd1, ?_⟩
        · intro p hp; rw [List.mem_singleton.mp hp]; exact hne
        · repeat (first | exact only_base | refine only_step ?_ (by decide))
    case done =>
      rintro m₁ nx h tk ⟨oc1, rfl, hd1, hm⟩ F2 N2
      rw [List.take_of_length_le (by rw [Array.length_toList]; exact Nat.le_refl _)] at hd1
      dsimp only
      k_steps
      dsimp only
      exact hQ _ _ _ (fun b o hb e => F2.keep b o (hg1 b o (by simpa using hb) e)) (N2 (c, _) (.head _)).1 hd1
end Mine

-- part Lr
namespace Mine

/-- a new object over a heap that has kept all but one -/
theorem push_led {h₀ h h' : Heap} {L b : Addr} {m : Str → Option Value} {news : List (Addr × Obj)} {ob : Obj} (F : Fr h₀ L h m) (N : News h₀ L h news)
    (hk : ∀ c oc, h.get? c = some oc → h'.get? c = some oc) (hn : h.get? b = none) (he : h'.get? b = some ob) :
    Fr h₀ L h' m ∧ News h₀ L h' ((b, ob) :: news) ∧ ∀ p ∈ news, p.1 ≠ b := by
  have hL : b ≠ L := fun q => by
    obtain ⟨oL, _, _, hL, _⟩ := F.ns
    rw [← q, hn] at hL; cases hL
  have h0 : h₀.get? b = none := by
    cases e : h₀.get? b with
    | none => rfl
    | some o => have := F.keep b o e; rw [hn] at this; cases this
  refine ⟨⟨F.ns.at' fun ob e => hk _ _ e, fun c ob e => hk _ _ (F.keep c ob e), F.above⟩, fun p hp => ?_, fun p hp q => ?_⟩
  · rcases List.mem_cons.mp hp with rfl | hp
    · exact ⟨he, hL, h0⟩
    · exact ⟨hk _ _ (N p hp).1, (N p hp).2⟩
  · have := (N p hp).1; rw [q, hn] at this; cases this

theorem pushc_led {h₀ h h' : Heap} {L d b : Addr} {m : Str → Option Value} {news : List (Addr × Obj)} {g : Obj → List (Addr × Obj)} {o o' ob : Obj} (F : Fr h₀ L h m) (N : News h₀ L h news) (U : UpdF d o news g)
    (he : h'.get? d = some o') (hk : ∀ c oc, c ≠ d → h.get? c = some oc → h'.get? c = some oc) (hn : h.get? b = none) (hb : h'.get? b = some ob) :
    Fr h₀ L h' m ∧ News h₀ L h' ((b, ob) :: g o') ∧ ∀ p ∈ news, p.1 ≠ b := by
  obtain ⟨F', N'⟩ := change_led F N U he hk
  have hL : b ≠ L := fun q => by
    obtain ⟨oL, _, _, hL, _⟩ := F.ns
    rw [← q, hn] at hL; cases hL
  have h0 : h₀.get? b = none := by
    cases e : h₀.get? b with
    | none => rfl
    | some o => have := F.keep b o e; rw [hn] at this; cases this
  refine ⟨F', fun p hp => ?_, fun p hp q => ?_⟩
  · rcases List.mem_cons.mp hp with rfl | hp
    · exact ⟨hb, hL, h0⟩
    · exact N' p hp
  · have := (N p hp).1; rw [q, hn] at this; cases this

section
variable {w : World} {mean : ExcName → Option Value} {mg mb : Str → Option Value} {A : Around} {s : Shared} {h₀ : Heap} {L : Addr} {m : Str → Option Value} {news : List (Addr × Obj)} {gg : Obj → List (Addr × Obj)} {Q E : Value → Shared → Prop}

theorem book_led {st l sc : Addr} {o : Obj}
    (X : (hd.heap_39 w.params).In h₀) (T : Top hd.view_39 (looseW hd.view_39 []) mean mg mb h₀) (hh : A.handled = none) (hdep : A.depth < 400) (hun : A.units < 300)
    (F : Fr h₀ L s.heap m) (N : News h₀ L s.heap news) (U : UpdF st o news gg) (ho : StOk l o) (hl : Sc 60 s.heap l) (hls : l ≠ st) (hs : Sc 63 s.heap sc) (hss : sc ≠ st)
    (hQ : ∀ b ob h' tk o' xs, Fr h₀ L h' m → News h₀ L h' ((b, ob) :: gg o') → (∀ p ∈ news, p.1 ≠ b) → StOk l o' → DO Challenge.rw_et5018_01.row.prog w b ob xs → xs.length ≤ 10 → Short xs → hasI xs "(" = true → Q (.ref b) { s with heap := h', toks := tk }) :
    wpAny (model Challenge.rw_et5018_01.row.prog w) A (call (.ref 35) [.ref st, .ref sc]) Q E s := by
  obtain ⟨pre, post, rfl, hg, _, _⟩ := id U.split
  have hm := N (st, _) (List.mem_append_right _ (.head _))
  refine book_spec X T hh hdep hun F.keep hm.2.2 hm.1 ho hl hls hs hss ?_
  intro b ob h' tk o' xs hok he hk hn hb hd h1 h2 h3
  obtain ⟨F', N', hne⟩ := pushc_led F N U he hk hn hb
  exact hQ b ob h' tk o' xs F' N' hne hok hd h1 h2 h3

theorem added_led {pb : Addr} {y : Str} {t : Tok} {xs : List (Str × Int)}
    (X : (hd.heap_39 w.params).In h₀) (T : Top hd.view_39 (looseW hd.view_39 []) mean mg mb h₀) (hh : A.handled = none) (hdep : A.depth < 400) (hun : A.units < 300)
    (F : Fr h₀ L s.heap m) (N : News h₀ L s.heap news) (hp : DI Challenge.rw_et5018_01.row.prog w s.heap pb xs) (hxs : xs.length ≤ 10) (hsh : Short xs) (hy : y.cps.size ≤ 1000)
    (hQ : ∀ d od h' tk, Fr h₀ L h' m → News h₀ L h' ((d, od) :: news) → (∀ p ∈ news, p.1 ≠ d) → DO Challenge.rw_et5018_01.row.prog w d od (addedOf y.cps.toList xs) → Q (.ref d) { s with heap := h', toks := tk }) :
    wpAny (model Challenge.rw_et5018_01.row.prog w) A (call (.ref 42) [.ref pb, .str y t]) Q E s := by
  refine added_spec X T hh hdep hun F.keep hp hxs hsh hy ?_
  intro d od h' tk hk hn hb hd
  obtain ⟨F', N', hne⟩ := push_led F N hk hn hb
  exact hQ d od h' tk F' N' hne hd

theorem upd_led {c : Addr} {oc : Obj} {y : Str} {t : Tok} {xs : List (Str × Int)}
    (X : (hd.heap_39 w.params).In h₀) (T : Top hd.view_39 (looseW hd.view_39 []) mean mg mb h₀) (hh : A.handled = none) (hdep : A.depth < 400) (hun : A.units < 300)
    (F : Fr h₀ L s.heap m) (N : News h₀ L s.heap news) (U : UpdF c oc news gg) (hd : DO Challenge.rw_et5018_01.row.prog w c oc xs) (hxs : xs.length ≤ 10)
    (hQ : ∀ oc' h' tk, Fr h₀ L h' m → News h₀ L h' (gg oc') → DO Challenge.rw_et5018_01.row.prog w c oc' (addN y.cps.toList xs) → Q .none { s with heap := h', toks := tk }) :
    wpAny (model Challenge.rw_et5018_01.row.prog w) A (call (.ref 21) [.str y t, .ref c]) Q E s := by
  obtain ⟨pre, post, rfl, hg, _, _⟩ := id U.split
  have hm := N (c, _) (List.mem_append_right _ (.head _))
  refine upd_spec X T hh hdep hun F.keep hm.2.2 hm.1 hd hxs ?_
  intro oc' h' tk hk he hd'
  obtain ⟨F', N'⟩ := change_led F N U he hk
  exact hQ oc' h' tk F' N' hd'
end

section
variable {prog : Program} {w : World} {A : Around} {E : Value → Shared → Prop} {s : Shared} {h₀ : Heap} {L : Addr} {m : Str → Option Value} {news : List (Addr × Obj)} {Q : Value → Shared → Prop}

theorem copy_led {d : Addr} {xs : List (Str × Int)} (F : Fr h₀ L s.heap m) (N : News h₀ L s.heap news) (hbig : h₀.NoLimit) (D : DI prog w s.heap d xs) (hxs : xs.length ≤ 10)
    (h : ∀ p h' op, Fr h₀ L h' m → News h₀ L h' ((p, op) :: news) → (∀ q ∈ news, q.1 < p) → DO prog w p op xs → Q (.ref p) { s with heap := h' }) :
    wpAny (model prog w) A (call (.type "dict") [.ref d]) Q E s := by
  obtain ⟨kvs, hd, hi⟩ := D.tab
  refine kt_call_dict D.lo hd (by rw [hi.length, sizeLine_eq]; exact Nat.le_trans hxs (by decide)) fun h' hm hs => ?_
  obtain ⟨op, hop, hdo⟩ := Heap.dictOf_iff.mp hm
  have hk : ∀ c oc, s.heap.get? c = some oc → h'.get? c = some oc := fun c oc e =>
    (hs.2 c (Nat.ne_of_lt (Heap.lt_size e))).trans (Heap.get?_push_of_some _ e)
  have hn : s.heap.get? s.heap.objs.size = none := by
    cases e : s.heap.get? s.heap.objs.size with
    | none => rfl
    | some o => exact absurd (Heap.lt_size e) (Nat.lt_irrefl _)
  obtain ⟨F', N', _⟩ := push_led F N hk hn hop
  exact h _ h' op F' N' (fun q hq => Heap.lt_size (N q hq).1) ⟨F.notModules (modules_low hbig), kvs, hdo, hi⟩

theorem hits_self {kb : List (Str × Value)} {xs : List (Str × Int)} (hi : Ints kb xs) : ∀ {r : List (Str × Value)} {ys : List (Str × Int)}, Ints r ys → (∀ k i, (k, i) ∈ ys → lookI xs k = some i) → KeqHits A s kb r true
  | _, _, .nil, _ => .nil
  | _, _, .cons (k := k) (i := i) (t := t) h, hs => by
    obtain ⟨u, hu⟩ := hi.atSome (hs k i (.head _))
    have e : SeqAt.EqAt A s (.int i t) (.int i u) true := by
      have := SeqAt.EqAt.int_int (A := A) (s := s) i t i u
      simpa using this
    have r := hits_self hi h fun k' i' hm => hs k' i' (.tail _ hm)
    have := KeqHits.hit hu e r
    simpa using this
theorem lookI_mem {xs : List (Str × Int)} (hn : (xs.map (·.1)).Nodup) {k : Str} {i : Int} (h : (k, i) ∈ xs) : lookI xs k = some i := by
  unfold lookI
  induction xs with
  | nil => cases h
  | cons p r ih =>
    rw [List.map_cons, List.nodup_cons] at hn
    rw [List.find?_cons]
    rcases List.mem_cons.mp h with e | h
    · subst e; simp
    · have hne : p.1 ≠ k := fun e => hn.1 (e ▸ List.mem_map.mpr ⟨_, h, rfl⟩)
      simp only [hne, decide_false]
      exact ih hn.2 h

theorem ne_DI {a b : Addr} {xs : List (Str × Int)} (D : DI prog w s.heap a xs) (D' : DI prog w s.heap b xs) (hu : A.units < cLine) (h : Q (.bool false) s) :
    wpAny (model prog w) A (compareOp .NotEq (.ref a) (.ref b)) Q E s := by
  obtain ⟨ka, ha, ia⟩ := id D.tab
  obtain ⟨kb, hb, ib⟩ := id D'.tab
  refine keq_ne D.lo D'.lo ha hb hu (fun _ => hits_self ib ia fun k i hm => lookI_mem D.nodup hm) ?_
  rw [ia.length, ib.length]
  simpa using h

/-- an item of a list of short texts -/
theorem sign_item {value slice : PySem.Expr} {l : Addr} {vs : List Value} {k : Int} {u : Tok}
    (hl : s.heap.IsList l vs.toArray) (hs : ∀ v ∈ vs, ∃ x t, v = .str x t ∧ x.cps.size ≤ 2) (h0 : 0 ≤ k) (h1 : k < vs.length) (h2 : vs.length ≤ 100) (h : ∀ x t, x.cps.size ≤ 2 → Q (.str x t) s)
    (hsub : subscripted slice false (.ref l) (.int k u) = operate [.ref l, .int k u] (getItem (.ref l) (.int k u)) := by with_unfolding_all rfl) :
    wpAny (model prog w) A (subscriptTail value slice (.ref l) (.int k u)) Q E s := by
  have hlt : k.toNat < vs.length := by omega
  obtain ⟨x, t, e, hx⟩ := hs vs[k.toNat] (List.getElem_mem hlt)
  refine tail_any hl.typeIs slot_list_getitem.lookup (wpAny_getItem_list hl h0 (by omega) (x := .str x t) (by rw [← e]; simp [hlt]) (h x t hx)) hsub
end

end Mine
namespace Mine
/-- the first i keys have their share already -/
def mixed (cs : List Nat) (xs : List (Str × Int)) (i : Nat) : List (Str × Int) := addN cs (xs.take i) ++ xs.drop i
theorem mixed_zero (cs : List Nat) (xs : List (Str × Int)) : mixed cs xs 0 = xs := by
  unfold mixed addN
  simp
theorem mixed_all (cs : List Nat) (xs : List (Str × Int)) : mixed cs xs xs.length = addN cs xs := by
  unfold mixed
  simp
theorem mixed_keys (cs : List Nat) (xs : List (Str × Int)) (i : Nat) : (mixed cs xs i).map (·.1) = xs.map (·.1) := by
  unfold mixed
  rw [List.map_append, addN_keys, ← List.map_append, List.take_append_drop]
theorem mixed_length (cs : List Nat) (xs : List (Str × Int)) (i : Nat) : (mixed cs xs i).length = xs.length := by
  have := congrArg List.length (mixed_keys cs xs i)
  simpa using this
theorem hasI_of_key {xs : List (Str × Int)} {k : Str} (h : k ∈ xs.map (·.1)) : hasI xs k = true := by
  obtain ⟨p, hp, e⟩ := List.mem_map.mp h
  exact List.any_eq_true.mpr ⟨p, hp, decide_eq_true e⟩
theorem key_mem {xs : List (Str × Int)} {i : Nat} {k : Str} {v : Int} (hx : xs[i]? = some (k, v)) : k ∈ xs.map (·.1) :=
  List.mem_map.mpr ⟨_, List.mem_of_getElem? hx, rfl⟩
theorem drop_at {α : Type} {xs : List α} {i : Nat} {a : α} (hx : xs[i]? = some a) : xs.drop i = a :: xs.drop (i + 1) := by
  obtain ⟨h, e⟩ := List.getElem?_eq_some_iff.mp hx
  rw [List.drop_eq_getElem_cons h, e]
theorem mixed_at {cs : List Nat} {xs : List (Str × Int)} {i : Nat} {k : Str} {v : Int} (hx : xs[i]? = some (k, v)) :
    mixed cs xs i = addN cs (xs.take i) ++ (k, v) :: xs.drop (i + 1) := by
  unfold mixed; rw [drop_at hx]
theorem addN_take {cs : List Nat} {xs : List (Str × Int)} {i : Nat} {k : Str} {v : Int} (hx : xs[i]? = some (k, v)) :
    addN cs (xs.take (i + 1)) = addN cs (xs.take i) ++ [(k, v + cntL k cs)] := by
  rw [List.take_add_one, hx]
  unfold addN
  simp
theorem mixed_succ {cs : List Nat} {xs : List (Str × Int)} {i : Nat} {k : Str} {v i1 i2 : Int} (hn : (xs.map (·.1)).Nodup) (hx : xs[i]? = some (k, v))
    (h1 : lookI (mixed cs xs i) k = some i1) (h2 : lookI (addedOf cs xs) k = some i2) : putI (mixed cs xs i) k (i1 + i2) = mixed cs xs (i + 1) := by
  have e1 : i1 = v := by
    have := lookI_mem (xs := mixed cs xs i) (by rw [mixed_keys]; exact hn) (k := k) (i := v) (by rw [mixed_at hx]; simp)
    rw [h1] at this; exact Option.some.inj this
  have e2 : i2 = cntL k cs := by
    have := lookI_mem (xs := addedOf cs xs) (by rw [addedOf_keys]; exact hn) (k := k) (i := cntL k cs) (List.mem_map.mpr ⟨_, List.mem_of_getElem? hx, rfl⟩)
    rw [h2] at this; exact Option.some.inj this
  subst e1 e2
  have hh : hasI (mixed cs xs i) k = true := hasI_of_key (by rw [mixed_keys]; exact key_mem hx)
  have hk1 : k ∉ (addN cs (xs.take i)).map (·.1) := by rw [addN_keys]; exact not_before hn hx
  have hk2 : k ∉ (xs.drop (i + 1)).map (·.1) := by
    have hn' : ((xs.drop i).map (·.1)).Nodup := by
      rw [List.map_drop]
      exact hn.sublist (List.drop_sublist _ _)
    rw [drop_at hx, List.map_cons, List.nodup_cons] at hn'
    exact hn'.1
  unfold putI
  rw [hh, if_pos rfl, mixed_at hx]
  have e3 : ∀ (a b : List (Str × Int)) (w : Int), setI (a ++ (k, i1) :: b) k w = setI a k w ++ (k, w) :: setI b k w := by
    intro a b w
    unfold setI
    simp
  rw [e3, setI_same hk1, setI_same hk2]
  unfold mixed
  rw [addN_take hx]
  simp
theorem addN_length (cs : List Nat) (xs : List (Str × Int)) : (addN cs xs).length = xs.length := by unfold addN; simp
theorem addN_short {cs : List Nat} {xs : List (Str × Int)} (h : Short xs) : Short (addN cs xs) := by
  intro p hp
  obtain ⟨q, hq, rfl⟩ := List.mem_map.mp hp
  exact h q hq
theorem addN_has {cs : List Nat} {xs : List (Str × Int)} {k : Str} (h : hasI xs k = true) : hasI (addN cs xs) k = true := by
  refine hasI_of_key ?_
  rw [addN_keys]
  obtain ⟨p, hp, e⟩ := List.any_eq_true.mp h
  exact List.mem_map.mpr ⟨p, hp, of_decide_eq_true e⟩
theorem addedOf_at {cs : List Nat} {xs : List (Str × Int)} {i : Nat} {k : Str} {v : Int} (h : (addedOf cs xs)[i]? = some (k, v)) : ∃ u, xs[i]? = some (k, u) := by
  unfold addedOf at h
  rw [List.getElem?_map] at h
  obtain ⟨p, hp, e⟩ := Option.map_eq_some_iff.mp h
  cases e
  exact ⟨p.2, hp⟩
theorem allNe_all {d : Nat} : ∀ {l : List (Addr × Obj)}, AllNe d l → ∀ p ∈ l, p.1 ≠ d
  | [], _, _, h => nomatch h
  | _ :: _, h, p, hp => by
    rcases List.mem_cons.mp hp with rfl | hp
    · exact h.1
    · exact allNe_all h.2 p hp
end Mine
namespace Mine
theorem over_keysM {prog : Program} {w : World} {A : Around} {E : Value → Shared → Prop} {s : Shared} {env : Env} {h₀ : Heap} {x : Str} {body : List Stmt} {Q : Flow → Shared → Prop} {d : Addr} {kvs : List (Str × Value)} {m : Str → Option Value} {keep news : List (Addr × Obj)}
    (J : (Str → Option Value) → Nat → (Str → Option Value) → List (Addr × Obj) → Prop) (hh : A.handled = none)
    (F : Fr h₀ env.locals s.heap m) (N : News h₀ env.locals s.heap (keep ++ news)) (hd : (d == sysModules) = false) (hm : s.heap.DictOf (strKind prog w) d kvs)
    (hk : (∃ o, h₀.get? d = some o) ∨ ∃ o, (d, o) ∈ keep) (h0 : J m 0 m news)
    (step : ∀ (I : Addr) (i : Nat) (k : Str) (z : Value) (u : Tok) m₁ nx h tk oI', kvs[i]? = some (k, z) → J m i m₁ nx → (∀ p ∈ keep ++ nx, p.1 ≠ I) → Fr h₀ env.locals h (fun y => if y = x then some (.str k u) else m₁ y) → News h₀ env.locals h ((I, oI') :: (keep ++ nx)) →
      wpAny (model prog w) A (execs body env) (Turn h₀ env.locals I oI' keep (J m (i + 1)) s Q) E { s with heap := h, toks := tk })
    (done : ∀ m₁ nx h tk, J m kvs.length m₁ nx → Fr h₀ env.locals h m₁ → News h₀ env.locals h (keep ++ nx) → Q .next { s with heap := h, toks := tk }) :
    wpAny (model prog w) A (pyIter (.ref d)) (fun it s₂ => LoopAtV prog w A h₀ env x body Q E it s₂) E s := over_keys (J m) hh F N hd hm hk h0 step done
end Mine
namespace Mine
/-- where an object stands in a ledger -/
inductive AtL (d : Addr) (o : Obj) : List (Addr × Obj) → (Obj → List (Addr × Obj)) → Prop
  | head {r : List (Addr × Obj)} : AtL d o ((d, o) :: r) (fun o' => (d, o') :: r)
  | tail {p : Addr × Obj} {r : List (Addr × Obj)} {g : Obj → List (Addr × Obj)} : AtL d o r g → AtL d o (p :: r) (fun o' => p :: g o')
theorem AtL.mem {d : Addr} {o : Obj} {l : List (Addr × Obj)} {g : Obj → List (Addr × Obj)} (a : AtL d o l g) : d ∈ l.map (·.1) := by
  induction a with
  | head => exact .head _
  | tail _ ih => exact .tail _ ih
theorem AtL.upd {d : Addr} {o : Obj} {l : List (Addr × Obj)} {g : Obj → List (Addr × Obj)} (a : AtL d o l g) (hn : (l.map (·.1)).Nodup) : UpdF d o l g := by
  induction a with
  | head =>
    rw [List.map_cons, List.nodup_cons] at hn
    exact UpdF.head fun p hp e => hn.1 (List.mem_map.mpr ⟨p, hp, e⟩)
  | tail a ih =>
    rw [List.map_cons, List.nodup_cons] at hn
    exact UpdF.tail (fun e => hn.1 (e ▸ a.mem)) (ih hn.2)
theorem nodup_more {d : Addr} {as : List Addr} {l : List (Addr × Obj)} (hn : as.Nodup) (h : ∀ p ∈ l, p.1 ≠ d) (e : l.map (·.1) = as := by rfl) : (d :: as).Nodup := by
  subst e
  rw [List.nodup_cons]
  refine ⟨fun hm => ?_, hn⟩
  obtain ⟨p, hp, e⟩ := List.mem_map.mp hm
  exact h p hp e
end Mine

-- part So
namespace Mine

def SortedOf (xs : List (Str × Int)) (ss : List Str) : Prop := ss.Perm (xs.map (·.1)) ∧ sortedS ss = true

theorem rising_all : ∀ (l : List Str) (p : Str), risingS p l = true → (∀ x ∈ l, p.cps.toList ≤ x.cps.toList) ∧ l.Pairwise (fun a b => a.cps.toList ≤ b.cps.toList)
  | [], _, _ => ⟨(fun _ h => nomatch h), List.Pairwise.nil⟩
  | x :: r, p, h => by
    unfold risingS at h
    rw [Bool.and_eq_true, ltCps_eq] at h
    have h1 : p.cps.toList ≤ x.cps.toList := by
      have h0 := h.1
      simp only [Bool.not_eq_true', decide_eq_false_iff_not] at h0
      exact h0
    obtain ⟨a, b⟩ := rising_all r x h.2
    refine ⟨fun y hy => ?_, List.Pairwise.cons a b⟩
    rcases List.mem_cons.mp hy with rfl | hy
    · exact h1
    · exact List.le_trans h1 (a y hy)
theorem sorted_pw : ∀ {l : List Str}, sortedS l = true → l.Pairwise (fun a b => a.cps.toList ≤ b.cps.toList)
  | [], _ => List.Pairwise.nil
  | x :: r, h => by
    obtain ⟨a, b⟩ := rising_all r x h
    exact List.Pairwise.cons a b
theorem sorted_unique {xs : List (Str × Int)} {a b : List Str} (ha : SortedOf xs a) (hb : SortedOf xs b) : a = b :=
  (ha.1.trans hb.1.symm).eq_of_pairwise (fun x y _ _ h1 h2 => Str.ext' (Array.toList_inj.mp (List.le_antisymm h1 h2))) (sorted_pw ha.2) (sorted_pw hb.2)

section
variable {prog : Program} {w : World} {A : Around} {E : Value → Shared → Prop} {s : Shared} {h₀ : Heap} {L : Addr} {m : Str → Option Value} {news : List (Addr × Obj)} {Q : Value → Shared → Prop}

theorem strs_of {kvs : List (Str × Value)} : ∀ (vs : List Value) , vs.length = kvs.length → (∀ (j : Nat) (v : Value), vs[j]? = some v → ∃ k x, kvs[j]? = some (k, x) ∧ (PySem.strKind prog w).is k v = true) → StrsAre vs (kvs.map (·.1)) := by
  induction kvs with
  | nil => intro vs hl _; cases vs with
    | nil => exact .nil
    | cons => simp at hl
  | cons p r ih =>
    intro vs hl h
    cases vs with
    | nil => simp at hl
    | cons v t =>
      obtain ⟨k, x, e, hk⟩ := h 0 v rfl
      obtain ⟨u, rfl⟩ := Value.isStrOf_shape hk
      have e' : p = (k, x) := by simpa using e
      subst e'
      exact .cons k u (ih t (by simpa using hl) fun j v hj => h (j + 1) v (by simpa using hj))

theorem sorted_DI {d : Addr} {xs : List (Str × Int)} (hh : A.handled = none) (F : Fr h₀ L s.heap m) (N : News h₀ L s.heap news) (D : DI prog w s.heap d xs) (hx : xs.length ≤ 10)
    (h : ∀ (B : Addr) (h' : Heap) (tk : Nat) (vs : List Value) (ss : List Str) (e : Nat), Fr h₀ L h' m → News h₀ L h' ((B, listOf vs.toArray e) :: news) → (∀ q ∈ news, q.1 < B) → StrsAre vs ss → SortedOf xs ss →
      Q (.ref B) { s with heap := h', toks := tk }) :
    wpAny (model prog w) A (call (.builtin "sorted") [.ref d]) Q E s := by
  obtain ⟨kvs, hd, hi⟩ := D.tab
  obtain ⟨ep, hat⟩ := hd.dictAt
  refine kdu_sorted (kdl_dict (knd := PySem.strKind prog w) (kvs := kvs) (ep := ep) D.lo) hh F N hat (by rw [hi.length, sizeLine_eq]; exact Nat.le_trans hx (by decide)) fun B h' tk vs F' N' l1 hl hv => ?_
  have hS : StrsAre vs (kvs.map (·.1)) := strs_of (prog := prog) (w := w) vs hl hv
  have h64 : vs.length < 64 := by rw [hl, hi.length]; omega
  have ho : h'.get? B = some (seqObj "list" vs.toArray 0) := (N' _ (.head _)).1
  refine wpAny_call_entry (s := { s with heap := h', toks := tk }) slot_list_sort ⟨_, ho, rfl⟩ entry_list_sort ?_ (args_list_sort _)
  refine list_sort_treeK (s := { s with heap := h', toks := tk }) strKind_oneLt ho hS.keysOf ?_ h64 fun st' a1 a2 => ?_
  · intro v₁ v₂ rest e
    exact keyKind_strs (by rw [← e]; exact hS)
  refine ⟨_, rfl, ?_⟩
  have q1 := sorted_out_str hS a1 a2
  obtain ⟨ss', h1, h2, h3⟩ := q1
  generalize (arrOf st').map (·.2) = out at h1 ⊢
  obtain ⟨e, he⟩ := sortedHeap_at (out := out) ho
  have hk : ∀ b ob, b ≠ B → h'.get? b = some ob → (sortedHeap h' B vs out).get? b = some ob := by
    intro b ob hb eb
    rw [sortedHeap_old hb (Heap.lt_size eb)]; exact eb
  have U : UpdF B (listOf vs.toArray 0) ((B, listOf vs.toArray 0) :: news) (fun o' => (B, o') :: news) := UpdF.head fun p hp => Nat.ne_of_lt (l1 p hp)
  have he' : (sortedHeap h' B vs out).get? B = some (listOf out.toList.toArray e) := he
  have q3 := change_led F' N' U he' hk
  exact h B _ tk out.toList ss' e q3.1 q3.2 l1 h1 ⟨by rw [← hi.keys]; exact h2, h3⟩

theorem strs_at : ∀ {vs : List Value} {ss : List Str}, StrsAre vs ss → ∀ {j : Nat} (h : j < vs.length) (h' : j < ss.length), ∃ t, vs[j] = .str ss[j] t
  | _, _, .cons y t r, j, h, h' => by
    cases j with
    | zero => exact ⟨t, rfl⟩
    | succ j => exact strs_at r (by simpa using h) (by simpa using h')

theorem eq_sorted {a b : Addr} {vs us : List Value} {ss ts : List Str} {n k : Nat} {xs : List (Str × Int)} (N : News h₀ L s.heap news) (ha : (a, listOf vs.toArray n) ∈ news) (hb : (b, listOf us.toArray k) ∈ news)
    (S : StrsAre vs ss) (T : StrsAre us ts) (o1 : SortedOf xs ss) (o2 : SortedOf xs ts) (hu : A.units < cLine) (h : Q (.bool true) s) :
    wpAny (model prog w) A (compareOp .Eq (.ref a) (.ref b)) Q E s := by
  have q4 := sorted_unique o1 o2
  subst q4
  have l1 := S.length
  have l2 := T.length
  have hsz : vs.toArray.size = us.toArray.size := by simp; omega
  refine SeqAt.eq_listAt (e := fun _ => true) ⟨_, (N _ ha).1, rfl, _, rfl⟩ ⟨_, (N _ hb).1, rfl, _, rfl⟩ hsz hu (fun j h1 h2 => ?_) (by rw [List.all_eq_true.mpr (fun _ _ => rfl)]; exact h)
  have j1 : j < vs.length := by simpa using h1
  have j2 : j < us.length := by simpa using h2
  obtain ⟨t, e1⟩ := strs_at S j1 (by omega)
  obtain ⟨u, e2⟩ := strs_at T j2 (by omega)
  have e1' : vs.toArray[j] = .str (ss[j]'(by omega)) t := by simpa using e1
  have e2' : us.toArray[j] = .str (ss[j]'(by omega)) u := by simpa using e2
  rw [e1', e2']
  have := SeqAt.EqAt.str_str (A := A.in1) (s := s) (ss[j]'(by omega)) t (ss[j]'(by omega)) u
  simpa using this
end

end Mine

-- part Lw
namespace Mine
theorem halt_it {P : Prop} (h : Halt P) : P := h
theorem Sc.ofNews {h₀ h : Heap} {L l : Addr} {news : List (Addr × Obj)} {vs : List Value} {ns : List Int} {k n : Nat} (N : News h₀ L h news) (hm : (l, listOf vs.toArray k) ∈ news) (hi : IntsAre vs ns) (hn : ns.length ≤ n) : Sc n h l :=
  ⟨vs, ns, ⟨_, (N _ hm).1, rfl, _, rfl⟩, hi, hn⟩
local macro_rules | `(tactic| walk_at "call ref") => `(tactic| (k_here; (with_reducible show wpAny _ _ (call (Value.ref _) _) _ _ _); refine halt_it ?_))
local macro_rules | `(tactic| walk_at "call type:dict") => `(tactic| (k_here; (with_reducible show wpAny _ _ (call _ _) _ _ _); refine halt_it ?_))
local macro_rules | `(tactic| walk_at "call type:dict") => `(tactic| (k_here; k_dflt (refine' copy_led ?F ?N (TopRead.nolimit (by k_asm)) ?D ?z ?_; (case F => k_asm); (case N => k_asm); (case D => k_extra "m_di"); (case z => k_asm); k_whole); intro p' h' op' F' N' l1 d'; (try k_lt l1); (try k_sweep); walk_say "COPY"))
local macro_rules | `(tactic| walk_at "call ref") => `(tactic| (k_here; (with_reducible show wpAny _ _ (call (Value.ref 42) _) _ _ _); k_dflt (refine' added_led ?X ?T ?hh ?hd ?hu ?F ?N ?D ?x ?s ?y ?_; (case X => k_asm); (case T => k_asm); (case hh => first | assumption | exact rfl); (case hd => k_extra "m_dep"); (case hu => k_extra "m_dep"); (case F => k_asm); (case N => k_asm); (case D => k_extra "m_di"); (case x => k_asm); (case s => k_asm); (case y => k_asm); k_whole); intro d' od' h' tk' F' N' ne' da'; (try k_sweep); walk_say "ADDED"))
local macro_rules | `(tactic| walk_at "call ref") => `(tactic| (k_here; (with_reducible show wpAny _ _ (call (Value.ref 21) _) _ _ _); k_dflt (refine' upd_led ?X ?T ?hh ?hd ?hu ?F ?N ?U ?D ?x ?_; (case X => k_asm); (case T => k_asm); (case hh => first | assumption | exact rfl); (case hd => k_extra "m_dep"); (case hu => k_extra "m_dep"); (case F => k_asm); (case N => k_asm); (case U => k_updF); (case D => k_asm); (case x => k_asm); k_whole); intro oc' h' tk' F' N' du'; (try dsimp only at N'); (try k_sweep); walk_say "UPDATED"))
local macro_rules | `(tactic| walk_at "setItem ref str") => `(tactic| (k_here; k_dflt (refine' setItem_DI ?F ?N ?U ?D ?z ?_; (case F => k_asm); (case N => k_asm); (case U => k_updF); (case D => k_asm); (case z => first | assumption | omega); k_whole); intro h' o' F' N' hd'; (try dsimp only at N'); (try k_sweep); walk_say "SET"))
local macro_rules | `(tactic| walk_at "subscriptTail Name Name ref str") => `(tactic| (k_here; k_dflt (refine' item_has ?D ?e ?_ ?c; (case D => k_extra "m_di"); (case e => assumption); (case c => with_unfolding_all rfl); k_whole); intro i' u' e'; walk_say "ITEM"))
local macro_rules | `(tactic| walk_at "subscriptTail Subscript") => `(tactic| (k_here; (with_reducible show wpAny _ _ (subscriptTail _ _ (Value.ref _) (Value.str _ _)) _ _ _); k_dflt (refine' item_has ?D ?e ?_ ?c; (case D => k_extra "m_di"); (case e => assumption); (case c => with_unfolding_all rfl); k_whole); intro i' u' e'; walk_say "ITEM"))
local macro_rules | `(tactic| walk_at "subscriptTail Name Constant ref str") => `(tactic| (k_here; k_dflt (refine' item_has ?D ?e ?_ ?c; (case D => k_extra "m_di"); (case e => assumption); (case c => with_unfolding_all rfl); k_whole); intro i' u' e'; walk_say "ITEM"))
local macro_rules | `(tactic| walk_at "compareOp NotEq ref ref") => `(tactic| (k_here; (with_reducible show wpAny _ _ (compareOp CmpOp.NotEq (Value.ref _) (Value.ref _)) _ _ _); k_dflt (refine' ne_DI ?D ?D2 ?u ?_; (case D => k_extra "m_di"); (case D2 => k_extra "m_di"); (case u => exact Nat.le_of_ble_eq_true rfl); k_whole); walk_say "SAME"))
local macro_rules | `(tactic| walk_at "call builtin:sorted") => `(tactic| (k_here; (with_reducible show wpAny _ _ (call _ [Value.ref _]) _ _ _); k_dflt (refine' sorted_DI ?hh ?F ?N ?D ?x ?_; (case hh => first | assumption | exact rfl); (case F => k_asm); (case N => k_asm); (case D => k_extra "m_di"); (case x => k_asm); k_whole); intro B' h' tk' vs' ss' e' F' N' l1 S' o'; (try k_lt l1); (try k_sweep); walk_say "SORTED"))
local macro_rules | `(tactic| walk_at "compareOp Eq ref ref") => `(tactic| (k_here; (with_reducible show wpAny _ _ (compareOp CmpOp.Eq (Value.ref _) (Value.ref _)) _ _ _); k_dflt (refine' eq_sorted ?N ?a ?b ?S ?T ?o1 ?o2 ?u ?_; (case N => k_asm); (case a => k_mem); (case b => k_mem); (case S => k_asm); (case T => k_asm); (case o1 => k_asm); (case o2 => k_asm); (case u => exact Nat.le_of_ble_eq_true rfl); k_whole); walk_say "EQUAL"))
local macro_rules | `(tactic| walk_at "exec For Name Name cons nil") => `(tactic| (k_here; (rename Fr _ _ _ _ => lF'); (with_unfolding_all refine' for_halt lF' ?k1 ?k2 ?_; (case k1 => exact rfl); (case k2 => exact rfl); k_whole); walk_say "MY FOR"))
local macro_rules | `(tactic| walk_at "exec For Name Call cons nil") => `(tactic| (k_here; (rename Fr _ _ _ _ => lF'); (with_unfolding_all refine' for_halt lF' ?k1 ?k2 ?_; (case k1 => exact rfl); (case k2 => exact rfl); k_whole); walk_say "MY FOR"))
local macro_rules | `(tactic| k_extra "m_di") => `(tactic| first | with_reducible assumption | (refine' DO.at ?D (News.get ?N ?m); (case N => k_asm); (case m => k_mem); (case D => k_asm)) | exact DI.keeps (by assumption) (fun o e => Fr.keep (by assumption) _ o e))
local macro_rules | `(tactic| k_extra "m_sc") => `(tactic| first | assumption | exact Sc.keeps (by assumption) (fun o e => Fr.keep (by assumption) _ o e) | (refine' Sc.ofNews ?N ?m ?i ?n; (case N => k_asm); (case m => k_mem); (case i => k_asm); (case n => k_asm)))
local macro_rules | `(tactic| k_extra "m_at") => `(tactic| first | exact AtL.head | (refine' AtL.tail ?atB; (case atB => k_extra "m_at")))
local macro_rules | `(tactic| k_updF) => `(tactic| (refine' AtL.upd ?a ?n; (case a => k_extra "m_at"); (case n => assumption)))
local macro_rules | `(tactic| k_extra "m_dep") => `(tactic| (first | exact Nat.le_of_ble_eq_true rfl | decide | (dsimp only [Around.deeper, Around.in1]; omega)))
local macro_rules | `(tactic| walk_at "call ref") => `(tactic| (k_here; (with_reducible show wpAny _ _ (call (Value.ref 28) _) _ _ _); k_dflt (refine' next_led ?X ?T ?hh ?hd ?hu ?F ?N ?U ?ho ?hl ?hls ?m0 ?m1 ?_; (case X => k_asm); (case T => k_asm); (case hh => first | assumption | exact rfl); (case hd => k_extra "m_dep"); (case hu => k_extra "m_dep"); (case F => k_asm); (case N => k_asm); (case U => k_updF); (case ho => k_asm); (case hl => k_extra "m_sc"); (case hls => first | assumption | k_ne); (case m0 => l_fact); (case m1 => l_fact); k_whole); intro r' t' h' tk' o' r0' r1' F' N' ok'; (try dsimp only at N'); (try k_sweep); walk_say "NEXT"))
local macro_rules | `(tactic| walk_at "call ref") => `(tactic| (k_here; (with_reducible show wpAny _ _ (call (Value.ref 35) _) _ _ _); k_dflt (refine' book_led ?X ?T ?hh ?hd ?hu ?F ?N ?U ?ho ?hl ?hls ?hs ?hss ?_; (case X => k_asm); (case T => k_asm); (case hh => first | assumption | exact rfl); (case hd => k_extra "m_dep"); (case hu => k_extra "m_dep"); (case F => k_asm); (case N => k_asm); (case U => k_updF); (case ho => k_asm); (case hl => k_extra "m_sc"); (case hls => first | assumption | k_ne); (case hs => k_extra "m_sc"); (case hss => first | assumption | k_ne); k_whole); intro b' ob' h' tk' o' xs' F' N' ne' ok' d' n1' n2' n3'; (replace ne' := allNe_of ne'); (simp only [AllNe, List.foldr_cons, List.foldr_nil, and_true] at ne'); (try dsimp only at N'); (try k_sweep); walk_say "BOOK"))

theorem sign_led {prog : Program} {w : World} {A : Around} {E : Value → Shared → Prop} {s : Shared} {h₀ : Heap} {L : Addr} {news : List (Addr × Obj)} {Q : Value → Shared → Prop} {value slice : PySem.Expr} {l : Addr} {vs : List Value} {n : Nat} {k : Int} {u : Tok}
    (N : News h₀ L s.heap news) (hm : (l, listOf vs.toArray n) ∈ news) (hs : ∀ v ∈ vs, ∃ x t, v = .str x t ∧ x.cps.size ≤ 2) (hl : vs.length = 11) (h0 : 0 ≤ k) (h1 : k < 11) (h : ∀ x t, x.cps.size ≤ 2 → Q (.str x t) s)
    (hsub : subscripted slice false (.ref l) (.int k u) = operate [.ref l, .int k u] (getItem (.ref l) (.int k u)) := by with_unfolding_all rfl) :
    wpAny (model prog w) A (subscriptTail value slice (.ref l) (.int k u)) Q E s :=
  sign_item ⟨_, (N _ hm).1, rfl, _, rfl⟩ hs h0 (by omega) (by omega) h hsub
local macro_rules | `(tactic| walk_at "subscriptTail Name Call ref int") => `(tactic| (k_here; k_dflt (refine' sign_led ?N ?m ?s ?l ?a ?b ?_ ?c; (case N => k_asm); (case m => k_mem); (case s => k_asm); (case l => k_asm); (case a => omega); (case b => omega); (case c => with_unfolding_all rfl); k_whole); intro x' t' hx'; walk_say "A SIGN"))

def lawM (sc st bl pl sg : Addr) (y : Str) : Option Value :=
  if y = "signs" then some (.ref sg) else if y = "plain" then some (.ref pl) else if y = "books" then some (.ref bl) else if y = "state" then some (.ref st) else if y = "script" then some (.ref sc) else none
theorem lawM_eq {sc st bl pl sg : Addr} : (fun y => if y = Str.ofString "signs" then some (Value.ref sg) else if y = Str.ofString "plain" then some (Value.ref pl) else if y = Str.ofString "books" then some (Value.ref bl) else if y = Str.ofString "state" then some (Value.ref st) else List.lookup y [(Str.ofString "script", Value.ref sc)].reverse) = lawM sc st bl pl sg := by
  funext z
  unfold lawM
  simp only [List.reverse_cons, List.reverse_nil, List.nil_append, List.cons_append, List.lookup_cons, List.lookup_nil]
  repeat' split
  all_goals simp_all
def LawJ (w : World) (l sc st b0 b1 bl p0 p1 pl sg : Addr) (ws sv : List Value) (_i : Nat) (m : Str → Option Value) (nx : List (Addr × Obj)) : Prop :=
  ∃ ob0 ob1 op0 op1 o xs0 xs1, nx = [(sg, listOf sv.toArray 0), (pl, listOf #[Value.ref p0, Value.ref p1] 0), (p1, op1), (p0, op0), (bl, listOf #[Value.ref b0, Value.ref b1] 0), (b1, ob1), (b0, ob0), (st, o), (l, listOf ws.toArray 0)] ∧
    DO Challenge.rw_et5018_01.row.prog w b0 ob0 xs0 ∧ DO Challenge.rw_et5018_01.row.prog w p0 op0 xs0 ∧ DO Challenge.rw_et5018_01.row.prog w b1 ob1 xs1 ∧ DO Challenge.rw_et5018_01.row.prog w p1 op1 xs1 ∧
    StOk l o ∧ xs0.length ≤ 10 ∧ xs1.length ≤ 10 ∧ Short xs0 ∧ Short xs1 ∧ hasI xs0 "(" = true ∧ Only ["_", "who", "text", "added", "mine", "key"] m (lawM sc st bl pl sg)
def TextJ (led : Obj → List (Addr × Obj)) (l : Addr) (m₀ : Str → Option Value) (i : Nat) (m : Str → Option Value) (nx : List (Addr × Obj)) : Prop :=
  ∃ o, nx = led o ∧ StOk l o ∧ Only ["_", "text", "added", "mine", "key"] m m₀ ∧ ∃ x t, m "text" = some (.str x t) ∧ x.cps.size ≤ 2 * i

theorem only_text0 {m₁ M : Str → Option Value} {v u x : Option Value} : Only ["_", "text", "added", "mine", "key"] (fun y => if y = Str.ofString "text" then v else if y = Str.ofString "who" then u else if y = Str.ofString "_" then x else (fun z => if [Str.ofString "_", Str.ofString "who", Str.ofString "text", Str.ofString "added", Str.ofString "mine", Str.ofString "key"].contains z = true then m₁ z else M z) y) (fun z => if z = "who" then u else M z) := by
  intro z hz
  have h1 : z ≠ "_" := by rintro rfl; exact absurd hz (by decide)
  have h2 : z ≠ "text" := by rintro rfl; exact absurd hz (by decide)
  have h3 : z ≠ "added" := by rintro rfl; exact absurd hz (by decide)
  have h4 : z ≠ "mine" := by rintro rfl; exact absurd hz (by decide)
  have h5 : z ≠ "key" := by rintro rfl; exact absurd hz (by decide)
  by_cases h6 : z = "who"
  · simp [h6]
    intro h; exact absurd h (by decide)
  · simp [h1, h2, h3, h4, h5, h6]

def KeyJ (w : World) (led : Obj → List (Addr × Obj)) (p : Addr) (cs : List Nat) (xs : List (Str × Int)) (m₀ : Str → Option Value) (i : Nat) (m : Str → Option Value) (nx : List (Addr × Obj)) : Prop :=
  ∃ op, nx = led op ∧ DO Challenge.rw_et5018_01.row.prog w p op (mixed cs xs i) ∧ Only ["key"] m m₀

theorem only_end {m₃ m₂ M : Str → Option Value} {v1 v2 v3 v4 : Option Value} : Only ["_", "who", "text", "added", "mine", "key"] (fun z => if [Str.ofString "key"].contains z = true then m₃ z else if z = Str.ofString "mine" then v1 else if z = Str.ofString "added" then v2 else if z = Str.ofString "text" then v3 else if [Str.ofString "_", Str.ofString "text", Str.ofString "added", Str.ofString "mine", Str.ofString "key"].contains z = true then m₂ z else if z = Str.ofString "who" then v4 else M z) M := by
  intro z hz
  have h1 : z ≠ "_" := by rintro rfl; exact absurd hz (by decide)
  have h2 : z ≠ "text" := by rintro rfl; exact absurd hz (by decide)
  have h3 : z ≠ "added" := by rintro rfl; exact absurd hz (by decide)
  have h4 : z ≠ "mine" := by rintro rfl; exact absurd hz (by decide)
  have h5 : z ≠ "key" := by rintro rfl; exact absurd hz (by decide)
  have h6 : z ≠ "who" := by rintro rfl; exact absurd hz (by decide)
  simp [h1, h2, h3, h4, h5, h6]

def LawEnd (s₁ : Shared) (f : Flow) (s' : Shared) : Prop := ∃ h' tk m', f = .ret (.bool true) ∧ s' = { s₁ with heap := h', toks := tk } ∧ Fr s₁.heap s₁.heap.objs.size h' m'

theorem off_of {d : Addr} {l : List (Addr × Obj)} (hn : (d :: l.map (·.1)).Nodup) : ∀ p ∈ l, p.1 ≠ d := fun p hp e =>
  (List.nodup_cons.mp hn).1 (List.mem_map.mpr ⟨p, hp, e⟩)

theorem law_holds : PySem.Challenge.rw_et5018_01.Holds := hd (by
  w_strict (
    k_go0
    rename_i w s₀ s₁ mg mb G Y fa o1 pm doc kV ho hg KX X9 V9 GL T B TE TW a1 a2 M w7 a3 hcd sns hshape hlay0 hlay hrA hlA a4 a5 sc svs a6 hL ra hw1 hr0 hI hrB hle hcond K0 hD h₁ F N0
    refine wpAny_mono (Q := LawEnd s₁) (E := fun _ _ => False) ?_ ?_ (fun _ _ h => h.elim)
    rotate_left
    · rintro f s' ⟨h', tk, m', rfl, rfl, F'⟩
      dsimp only
      wrow_close
    · have hn63 : sns.length ≤ 63 := by omega
      have hs63 : Sc 63 s₁.heap sc := ⟨svs, sns, hL, hI, hn63⟩
      clear hD TE TW B G Y GL V9 X9 M hcd hrB hr0 hw1 ra hlay0 hrA hlA hcond
      k_steps
      rename_i l ws _ hws _ _ _ st _ lst _ F1 N1
      have hnew : s₁.heap.get? st = none := (N1 (st, _) (.head _)).2.2
      have hscst : @Ne Nat sc st := fun e => by
        obtain ⟨o, ho, _⟩ := hL
        rw [e, hnew] at ho; cases ho
      have hlst : @Ne Nat l st := Nat.ne_of_lt lst
      have hw60 : (List.take 60 sns).length ≤ 60 := by rw [List.length_take]; omega
      have key : ∃ o, StOk l o ∧ News s₁.heap s₁.heap.objs.size _ [(st, o), (l, W.listOf ws.toArray 0)] := ⟨_, ⟨_, _, _, _, _, rfl, by decide, by decide, by decide⟩, N1⟩
      clear N1
      obtain ⟨o0, hok0, N1⟩ := key
      unfold Halt
      k_steps
      rename_i b0 ob0 _ _ _ xs0 _ d0 hx0 hs0 hp0 q0 b1 ob1 _ _ _ xs1 _ d1 hx1 hs1 hp1 q1 bl _ q2 _ _ p0 _ op0 e0 q3 p1 _ op1 e1 q4 pl _ q5 _ tk5 sg _ q6 hR r9 _ _ _ oS r90 r91 _ _ hok hR2 _ t1 u1 v1 hrng FR NR hkR
      clear hkR
      have key2 : ∃ sv : List Value, (∀ v ∈ sv, ∃ x t, v = .str x t ∧ x.cps.size ≤ 2) ∧ sv.length = 11 ∧ News s₁.heap s₁.heap.objs.size hR2 [(sg, W.listOf sv.toArray 0), (pl, W.listOf #[Value.ref p0, Value.ref p1] 0), (p1, op1), (p0, op0), (bl, W.listOf #[Value.ref b0, Value.ref b1] 0), (b1, ob1), (b0, ob0), (st, oS), (l, W.listOf ws.toArray 0)] := by
        refine ⟨_, ?_, rfl, NR⟩
        intro v hv
        simp only [List.mem_cons, List.not_mem_nil, or_false] at hv
        rcases hv with rfl | rfl | rfl | rfl | rfl | rfl | rfl | rfl | rfl | rfl | rfl <;> exact ⟨_, _, rfl, by decide⟩
      clear NR
      obtain ⟨sv, hsv, hsl, NR⟩ := key2
      have FR' : Fr s₁.heap s₁.heap.objs.size hR2 (lawM sc st bl pl sg) := lawM_eq ▸ FR
      obtain ⟨n9, hn9⟩ : ∃ n : Nat, 2 + r9 = (n : Int) := ⟨(2 + r9).toNat, by omega⟩
      have nd9 : @List.Nodup Nat [sg, pl, p1, p0, bl, b1, b0, st, l] := by
        simp only [List.nodup_cons, List.mem_cons, List.not_mem_nil, or_false, not_or, List.nodup_nil, and_true, not_false_eq_true]
        omega
      clear q0 q1 q2 q3 q4 q5 q6
      unfold Halt
      k_dflt (refine' over_range (n := n9) (LawJ w l sc st b0 b1 bl p0 p1 pl sg ws sv) ?ohh hrng ?ohs ?ohn FR' NR ?oh0 ?ostep ?odone)
      case ohh => exact rfl
      case ohs => exact range_small hn9 (by omega)
      case ohn => exact range_size hn9
      case oh0 => exact ⟨ob0, ob1, op0, op1, oS, xs0, xs1, rfl, d0, e0, d1, e1, hok, hx0, hx1, hs0, hs1, hp0, Only.refl _ _⟩
      case ostep =>
        clear FR FR' NR hrng d0 d1 e0 e1 hok hx0 hx1 hs0 hs1 hp0 hp1
        rintro I i tI m₁ nx h tk oI hi ⟨ob0, ob1, op0, op1, o, xs0, xs1, rfl, d0, e0, d1, e1, hok, hx0, hx1, hs0, hs1, hp0, hm⟩ hne F2 N2
        have ndI : [I, sg, pl, p1, p0, bl, b1, b0, st, l].Nodup := nodup_more nd9 hne
        rw [hm.eq] at F2
        change Fr s₁.heap s₁.heap.objs.size h _ at F2
        change News s₁.heap s₁.heap.objs.size h _ at N2
        k_steps
        rename_i wh tW _ _ _ wh0 wh1 _ _ _ r14 _ _ _ o14 r140 r141 _ _ hok2 hR3 _ t2 u2 v2 hrng3 FR3 NR3 hkR3
        clear hkR3
        obtain ⟨n14, hn14⟩ : ∃ n : Nat, r14 = (n : Int) := ⟨r14.toNat, by omega⟩
        unfold Halt
        k_dflt (refine' over_range (n := n14) (TextJ (fun o => [(I, oI), (sg, W.listOf sv.toArray 0), (pl, W.listOf #[Value.ref p0, Value.ref p1] 0), (p1, op1), (p0, op0), (bl, W.listOf #[Value.ref b0, Value.ref b1] 0), (b1, ob1), (b0, ob0), (st, o), (l, W.listOf ws.toArray 0)]) l (fun z => if z = "who" then some (.int wh tW) else lawM sc st bl pl sg z)) ?thh hrng3 ?ths ?thn FR3 NR3 ?th0 ?tstep ?tdone)
        case thh => exact rfl
        case ths => exact range_small hn14 (by omega)
        case thn => exact range_size hn14
        case th0 => k_dflt (exact ⟨o14, rfl, hok2, only_text0, Str.ofString "", _, rfl, by decide⟩)
        case tstep =>
          clear FR3 NR3 hrng3 hok2 hok
          rintro J j tJ m₂ nx h2 tk2 oJ hj ⟨o, rfl, hok, hm2, x, tx, htext, hxl⟩ hne2 F3 N3
          have ndJ : [J, I, sg, pl, p1, p0, bl, b1, b0, st, l].Nodup := nodup_more ndI hne2
          rw [only_with hm2 htext] at F3
          change Fr s₁.heap s₁.heap.objs.size h2 _ at F3
          change News s₁.heap s₁.heap.objs.size h2 [(J, oJ), (I, oI), (sg, W.listOf sv.toArray 0), (pl, W.listOf #[Value.ref p0, Value.ref p1] 0), (p1, op1), (p0, op0), (bl, W.listOf #[Value.ref b0, Value.ref b1] 0), (b1, ob1), (b0, ob0), (st, o), (l, W.listOf ws.toArray 0)] at N3
          k_steps
          rename_i _ _ _ _ o3 _ _ hok3 x3 _ hx3 _ _ hlen _ F9 N9
          k_dflt (refine' ⟨_, _, _, _, rfl, F9, N9, ?t1, o3, rfl, hok3, ?t2, x ++ x3, _, ?t3, ?t4⟩)
          case t1 => exact off_of ndJ
          case t2 => repeat (first | exact only_base | refine only_step ?_ (by decide))
          case t3 => k_dflt (exact rfl)
          case t4 =>
            have h9 : (x ++ x3).cps.size ≤ x.cps.size + x3.cps.size := hlen.2
            omega
        case tdone =>
          rintro m₂ nx h2 tk2 ⟨o, rfl, hok, hm2, x, tx, htext, hxl⟩ F3 N3
          have hx1000 : x.cps.size ≤ 1000 := by omega
          rw [only_with hm2 htext] at F3
          change Fr s₁.heap s₁.heap.objs.size h2 _ at F3
          change News s₁.heap s₁.heap.objs.size h2 [(I, oI), (sg, W.listOf sv.toArray 0), (pl, W.listOf #[Value.ref p0, Value.ref p1] 0), (p1, op1), (p0, op0), (bl, W.listOf #[Value.ref b0, Value.ref b1] 0), (b1, ob1), (b0, ob0), (st, o), (l, W.listOf ws.toArray 0)] at N3
          clear FR3 NR3 hrng3 hok2
          dsimp only
          obtain rfl | rfl : wh = 0 ∨ wh = 1 := by omega
          · k_steps
            rename_i d od _ _ qd da _ _ F4 N4
            have ndD : [d, I, sg, pl, p1, p0, bl, b1, b0, st, l].Nodup := nodup_more ndI qd
            obtain ⟨kvs, hkv, hki⟩ := (da.at (N4 (d, _) (.head _)).1).tab
            unfold Halt
            k_dflt (refine' over_keysM (d := d) (kvs := kvs) (keep := [(d, od)]) (news := [(I, oI), (sg, W.listOf sv.toArray 0), (pl, W.listOf #[Value.ref p0, Value.ref p1] 0), (p1, op1), (p0, op0), (bl, W.listOf #[Value.ref b0, Value.ref b1] 0), (b1, ob1), (b0, ob0), (st, o), (l, W.listOf ws.toArray 0)]) (fun m₀ => KeyJ w (fun op => [(I, oI), (sg, W.listOf sv.toArray 0), (pl, W.listOf #[Value.ref p0, Value.ref p1] 0), (p1, op1), (p0, op), (bl, W.listOf #[Value.ref b0, Value.ref b1] 0), (b1, ob1), (b0, ob0), (st, o), (l, W.listOf ws.toArray 0)]) p0 x.cps.toList xs0 m₀) ?khh0 F4 N4 da.lo hkv (.inr ⟨od, .head _⟩) ?kh00 ?kstep0 ?kdone0)
            case khh0 => exact rfl
            case kh00 => exact ⟨op0, rfl, by rw [mixed_zero]; exact e0, Only.refl _ _⟩
            case kstep0 =>
              clear hkv
              rintro K i3 k z u m₃ nx h3 tk3 oK hkz ⟨op, rfl, dm, hm3⟩ hne3 F5 N5
              have ndK : [K, d, I, sg, pl, p1, p0, bl, b1, b0, st, l].Nodup := nodup_more ndD hne3
              obtain ⟨iv, it, rfl, hx⟩ := hki.getAt hkz
              obtain ⟨vx, hxx⟩ := addedOf_at hx
              have hh1 : hasI (mixed x.cps.toList xs0 i3) k = true := hasI_of_key (by rw [mixed_keys]; exact key_mem hxx)
              have hh2 : hasI (addedOf x.cps.toList xs0) k = true := hasI_of_key (key_mem hx)
              have hml : (mixed x.cps.toList xs0 i3).length ≤ 1000 := by rw [mixed_length]; omega
              rw [hm3.eq] at F5
              change Fr s₁.heap s₁.heap.objs.size h3 _ at F5
              change News s₁.heap s₁.heap.objs.size h3 [(K, oK), (d, od), (I, oI), (sg, W.listOf sv.toArray 0), (pl, W.listOf #[Value.ref p0, Value.ref p1] 0), (p1, op1), (p0, op), (bl, W.listOf #[Value.ref b0, Value.ref b1] 0), (b1, ob1), (b0, ob0), (st, o), (l, W.listOf ws.toArray 0)] at N5
              clear F4 N4
              k_steps
              (rename Fr _ _ _ _ => F9); (rename News _ _ _ _ => N9); (rename DO _ _ _ _ _ => D9); (rename (lookI (mixed _ _ _) _ = _) => g1); (rename (lookI (addedOf _ _) _ = _) => g2)
              rw [mixed_succ d0.nodup hxx g1 g2] at D9
              k_dflt (refine' ⟨_, _, _, [(I, oI), (sg, W.listOf sv.toArray 0), (pl, W.listOf #[Value.ref p0, Value.ref p1] 0), (p1, op1), (p0, _), (bl, W.listOf #[Value.ref b0, Value.ref b1] 0), (b1, ob1), (b0, ob0), (st, o), (l, W.listOf ws.toArray 0)], rfl, F9, N9, ?u10, _, rfl, D9, ?u20⟩)
              case u10 => exact off_of (List.nodup_cons.mpr ⟨fun h => (List.nodup_cons.mp ndK).1 (.tail _ h), ndI⟩)
              case u20 => repeat (first | exact only_base | refine only_step ?_ (by decide))
            case kdone0 =>
              clear hkv
              rintro m₃ nx h3 tk3 ⟨op, rfl, dm, hm3⟩ F5 N5
              have hkl : kvs.length = xs0.length := hki.length.trans (by unfold addedOf; rw [List.length_map])
              rw [hkl, mixed_all] at dm
              rw [hm3.eq] at F5
              change Fr s₁.heap s₁.heap.objs.size h3 _ at F5
              change News s₁.heap s₁.heap.objs.size h3 [(d, od), (I, oI), (sg, W.listOf sv.toArray 0), (pl, W.listOf #[Value.ref p0, Value.ref p1] 0), (p1, op1), (p0, op), (bl, W.listOf #[Value.ref b0, Value.ref b1] 0), (b1, ob1), (b0, ob0), (st, o), (l, W.listOf ws.toArray 0)] at N5
              clear F4 N4
              dsimp only
              k_steps
              (rename Fr _ _ _ _ => F9); (rename News _ _ _ _ => N9); (rename DO _ _ _ _ _ => D9)
              k_dflt (refine' ⟨_, _, _, _, rfl, F9, News.right (a := [(d, od)]) N9, ?v10, ?v20⟩)
              case v10 => exact off_of ndI
              case v20 => k_dflt (exact ⟨_, ob1, _, op1, _, _, xs1, rfl, D9, dm, d1, e1, hok, by rw [addN_length]; exact hx0, hx1, addN_short hs0, hs1, addN_has hp0, only_end⟩)
          · k_steps
            rename_i d od _ _ qd da _ _ F4 N4
            have ndD : [d, I, sg, pl, p1, p0, bl, b1, b0, st, l].Nodup := nodup_more ndI qd
            obtain ⟨kvs, hkv, hki⟩ := (da.at (N4 (d, _) (.head _)).1).tab
            unfold Halt
            k_dflt (refine' over_keysM (d := d) (kvs := kvs) (keep := [(d, od)]) (news := [(I, oI), (sg, W.listOf sv.toArray 0), (pl, W.listOf #[Value.ref p0, Value.ref p1] 0), (p1, op1), (p0, op0), (bl, W.listOf #[Value.ref b0, Value.ref b1] 0), (b1, ob1), (b0, ob0), (st, o), (l, W.listOf ws.toArray 0)]) (fun m₀ => KeyJ w (fun op => [(I, oI), (sg, W.listOf sv.toArray 0), (pl, W.listOf #[Value.ref p0, Value.ref p1] 0), (p1, op), (p0, op0), (bl, W.listOf #[Value.ref b0, Value.ref b1] 0), (b1, ob1), (b0, ob0), (st, o), (l, W.listOf ws.toArray 0)]) p1 x.cps.toList xs1 m₀) ?khh1 F4 N4 da.lo hkv (.inr ⟨od, .head _⟩) ?kh01 ?kstep1 ?kdone1)
            case khh1 => exact rfl
            case kh01 => exact ⟨op1, rfl, by rw [mixed_zero]; exact e1, Only.refl _ _⟩
            case kstep1 =>
              clear hkv
              rintro K i3 k z u m₃ nx h3 tk3 oK hkz ⟨op, rfl, dm, hm3⟩ hne3 F5 N5
              have ndK : [K, d, I, sg, pl, p1, p0, bl, b1, b0, st, l].Nodup := nodup_more ndD hne3
              obtain ⟨iv, it, rfl, hx⟩ := hki.getAt hkz
              obtain ⟨vx, hxx⟩ := addedOf_at hx
              have hh1 : hasI (mixed x.cps.toList xs1 i3) k = true := hasI_of_key (by rw [mixed_keys]; exact key_mem hxx)
              have hh2 : hasI (addedOf x.cps.toList xs1) k = true := hasI_of_key (key_mem hx)
              have hml : (mixed x.cps.toList xs1 i3).length ≤ 1000 := by rw [mixed_length]; omega
              rw [hm3.eq] at F5
              change Fr s₁.heap s₁.heap.objs.size h3 _ at F5
              change News s₁.heap s₁.heap.objs.size h3 [(K, oK), (d, od), (I, oI), (sg, W.listOf sv.toArray 0), (pl, W.listOf #[Value.ref p0, Value.ref p1] 0), (p1, op), (p0, op0), (bl, W.listOf #[Value.ref b0, Value.ref b1] 0), (b1, ob1), (b0, ob0), (st, o), (l, W.listOf ws.toArray 0)] at N5
              clear F4 N4
              k_steps
              (rename Fr _ _ _ _ => F9); (rename News _ _ _ _ => N9); (rename DO _ _ _ _ _ => D9); (rename (lookI (mixed _ _ _) _ = _) => g1); (rename (lookI (addedOf _ _) _ = _) => g2)
              rw [mixed_succ d1.nodup hxx g1 g2] at D9
              k_dflt (refine' ⟨_, _, _, [(I, oI), (sg, W.listOf sv.toArray 0), (pl, W.listOf #[Value.ref p0, Value.ref p1] 0), (p1, _), (p0, op0), (bl, W.listOf #[Value.ref b0, Value.ref b1] 0), (b1, ob1), (b0, ob0), (st, o), (l, W.listOf ws.toArray 0)], rfl, F9, N9, ?u11, _, rfl, D9, ?u21⟩)
              case u11 => exact off_of (List.nodup_cons.mpr ⟨fun h => (List.nodup_cons.mp ndK).1 (.tail _ h), ndI⟩)
              case u21 => repeat (first | exact only_base | refine only_step ?_ (by decide))
            case kdone1 =>
              clear hkv
              rintro m₃ nx h3 tk3 ⟨op, rfl, dm, hm3⟩ F5 N5
              have hkl : kvs.length = xs1.length := hki.length.trans (by unfold addedOf; rw [List.length_map])
              rw [hkl, mixed_all] at dm
              rw [hm3.eq] at F5
              change Fr s₁.heap s₁.heap.objs.size h3 _ at F5
              change News s₁.heap s₁.heap.objs.size h3 [(d, od), (I, oI), (sg, W.listOf sv.toArray 0), (pl, W.listOf #[Value.ref p0, Value.ref p1] 0), (p1, op), (p0, op0), (bl, W.listOf #[Value.ref b0, Value.ref b1] 0), (b1, ob1), (b0, ob0), (st, o), (l, W.listOf ws.toArray 0)] at N5
              clear F4 N4
              dsimp only
              k_steps
              (rename Fr _ _ _ _ => F9); (rename News _ _ _ _ => N9); (rename DO _ _ _ _ _ => D9)
              k_dflt (refine' ⟨_, _, _, _, rfl, F9, News.right (a := [(d, od)]) N9, ?v11, ?v21⟩)
              case v11 => exact off_of ndI
              case v21 => k_dflt (exact ⟨ob0, _, op0, _, _, xs0, _, rfl, d0, e0, D9, dm, hok, hx0, by rw [addN_length]; exact hx1, hs0, addN_short hs1, hp0, only_end⟩)
      case odone =>
        rintro m₁ nx h tk ⟨ob0, ob1, op0, op1, o, xs0, xs1, rfl, d0, e0, d1, e1, hok, hx0, hx1, hs0, hs1, hp0, hm⟩ F2 N2
        rw [hm.eq] at F2
        change Fr s₁.heap s₁.heap.objs.size h _ at F2
        change News s₁.heap s₁.heap.objs.size h _ at N2
        clear FR FR' NR hrng
        dsimp only
        k_steps
        (rename Fr _ _ _ _ => F9)
        rename_i i1 u1 g1 i2 u2 g2
        have e12 : i1 = i2 := Option.some.inj (g1.symm.trans g2)
        subst e12
        refine ⟨_, _, _, ?_, rfl, F9⟩
        simp))
end Mine

theorem PySem.Challenge.cw_et5018_01_holds : PySem.Challenge.rw_et5018_01.Holds := by
  exact Mine.law_holds
