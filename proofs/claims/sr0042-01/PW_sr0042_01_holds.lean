import PyProof.Rows.All
import Wide.All
import OpenK.AllK
import Wide.FinOn
import PySem.Challenge.RW_sr0042_01
set_option Elab.async false
namespace Mine

section
open PySem PySem.W PyProof.Rows
set_option maxRecDepth 100000 in
set_option maxHeartbeats 8000000 in
open_top hd for PySem.Challenge.rw_sr0042_01
end
set_option maxRecDepth 100000
set_option genSizeOf false
set_option genInjectivity false
open PySem PySem.W PyProof.Rows PySem.Calls PyProof.V PySem.Spec

theorem room1 {dp a b c lim : Nat} (h : dp + b < lim) (e : a + c ≤ b) : dp + a + c < lim := Nat.lt_of_le_of_lt (Nat.add_assoc dp a c ▸ Nat.add_le_add_left e dp) h
theorem room0 {dp b c lim : Nat} (h : dp + b < lim) (e : c ≤ b) : dp + c < lim := Nat.lt_of_le_of_lt (Nat.add_le_add_left e dp) h
theorem room9 {dp b lim : Nat} (h : dp + b < lim) : dp < lim := Nat.lt_of_le_of_lt (Nat.le_add_right dp b) h

section
variable {prog : Program} {w : World} {A : Around} {E : Value → Shared → Prop} {s : Shared} {env : Env} {h₀ : Heap} {x : Str} {body : List Stmt} {Q : Flow → Shared → Prop}

def TurnTo (h₀ : Heap) (L : Addr) (I : Addr) (oI : Obj) (J : (Str → Option Value) → List (Addr × Obj) → Prop) (s₁ s₂ : Shared) : Prop :=
  ∃ h' tk m' nx, s₂ = { s₁ with heap := h', toks := tk } ∧ Fr h₀ L h' m' ∧ News h₀ L h' ((I, oI) :: nx) ∧ (∀ p ∈ nx, p.1 ≠ I) ∧ J m' nx
def TurnEnd (h₀ : Heap) (L : Addr) (I : Addr) (oI : Obj) (J : (Str → Option Value) → List (Addr × Obj) → Prop) (Q : Flow → Shared → Prop) (s₁ : Shared) (f : Flow) (s₂ : Shared) : Prop :=
  match f with
  | .ret v => Q (.ret v) s₂
  | .brk => Q .next s₂
  | .next => TurnTo h₀ L I oI J s₁ s₂
  | .cont => TurnTo h₀ L I oI J s₁ s₂

/-- a for loop over a list that the ledger bears, by a word over the frame's map and the ledger -/
theorem forL {l : Addr} {vs : List Value} {nn : Nat} {m₀ : Str → Option Value} {news : List (Addr × Obj)} (J : Nat → (Str → Option Value) → List (Addr × Obj) → Prop)
    (hh : A.handled = none) (hl : (l, listOf vs.toArray nn) ∈ news) (F : Fr h₀ env.locals s.heap m₀) (N : News h₀ env.locals s.heap news) (hj : J 0 m₀ news)
    (hJl : ∀ i m nx, J i m nx → (l, listOf vs.toArray nn) ∈ nx)
    (turn : ∀ i v m₁ nx h tk I oI, vs[i]? = some v → J i m₁ nx → (∀ p ∈ nx, p.1 ≠ I) → Fr h₀ env.locals h (fun y => if y = x then some v else m₁ y) → News h₀ env.locals h ((I, oI) :: nx) →
      wpAny (model prog w) A (execs body env) (TurnEnd h₀ env.locals I oI (J (i + 1)) Q { s with heap := h, toks := tk }) E { s with heap := h, toks := tk })
    (done : ∀ m₁ nx h tk, J vs.length m₁ nx → Fr h₀ env.locals h m₁ → News h₀ env.locals h nx → Q .next { s with heap := h, toks := tk }) :
    wpAny (model prog w) A (pyIter (.ref l)) (fun it s₂ => LoopAtV prog w A h₀ env x body Q E it s₂) E s := by
  have hol : s.heap.get? l = some (listOf vs.toArray nn) := (N _ hl).1
  have hls : s.heap.IsList l vs.toArray := ⟨_, hol, rfl, nn, rfl⟩
  have hne : l ≠ s.heap.objs.size := Nat.ne_of_lt (Heap.lt_size hol)
  refine wpAny_pyIter_list hls ?_
  have W := Walks.list (prog := prog) (w := w) hh s.heap.objs.size l hne vs.toArray
  have hlen : vs.toArray.size = vs.length := by simp
  rw [hlen] at W
  refine ⟨_, _, _, vs.length, _, _, m₀, news, J, rfl, W, ?_, ?_, ?_, ⟨⟨_, Heap.get?_push_size _ rfl, rfl, rfl⟩, hls.at fun o e => Heap.get?_push_of_some _ e⟩, F.push _, (fun p hp => ⟨Heap.get?_push_of_some _ (N p hp).1, (N p hp).2⟩), hj, ?_, ?_⟩
  · intro hm
    rcases List.mem_cons.mp hm with e | hm
    · exact absurd F.ns.lt (e ▸ Nat.lt_irrefl _)
    · exact (N _ hl).2.1 ((List.mem_singleton.mp hm).symm)
  · intro b hb
    rw [List.mem_singleton.mp hb]
    exact next_is_new F
  · intro p hp hI
    exact absurd (Heap.lt_size (N p hp).1) ((List.mem_singleton.mp hI) ▸ Nat.lt_irrefl _)
  · rintro i v m₁ news₁ s₁ own ⟨hh', tk', rfl⟩ hin hP hJ hoff hown hget hfp hst F₁ N₁
    have hl₁ := hJl i m₁ news₁ hJ
    have hIn : h₀.get? s.heap.objs.size = none := next_is_new F
    obtain ⟨⟨oI, hoI, _⟩, _⟩ := hst
    have hIo : (s.heap.objs.size, oI) ∈ own := hfp _ (by simp) hIn oI hoI
    have hlo : hh'.get? l = some (listOf vs.toArray nn) := (N₁ _ (List.mem_append.mpr (.inr hl₁))).1
    have N₂ : News h₀ env.locals hh' ((s.heap.objs.size, oI) :: news₁) := fun p hp => by
      rcases List.mem_cons.mp hp with rfl | hp
      · exact N₁ _ (List.mem_append.mpr (.inl hIo))
      · exact N₁ _ (List.mem_append.mpr (.inr hp))
    have hv : vs[i]? = some v := by simpa using hP
    refine wpAny_mono (turn i v m₁ news₁ hh' tk' _ oI hv hJ (fun p hp e => hoff p hp (by simp [e])) F₁ N₂) (fun f s₂ p => ?_) fun _ _ e => e
    have fin : TurnTo h₀ env.locals s.heap.objs.size oI (J (i + 1)) { s with heap := hh', toks := tk' } s₂ →
        LoopStepU h₀ env.locals [s.heap.objs.size] own (J (i + 1)) { s with heap := hh', toks := tk' } .next s₂ := by
      rintro ⟨h', tk, m', nx, e, F', N', hn, hm⟩
      refine ⟨rfl, h', tk, m', nx, e, F', fun p hp => ?_, fun p hp hq => hn p hp (List.mem_singleton.mp hq), hm⟩
      rcases List.mem_append.mp hp with h | h
      · have h2 : hh'.get? p.1 = some p.2 := hget p h
        rcases List.mem_cons.mp (hown p h) with h1 | h1
        · rw [h1, hoI] at h2
          have h3 : p = (s.heap.objs.size, oI) := Prod.ext h1 (Option.some.inj h2).symm
          rw [h3]
          exact N' _ (.head _)
        · have h1 := List.mem_singleton.mp h1
          rw [h1, hlo] at h2
          have h3 : p = (l, listOf vs.toArray nn) := Prod.ext h1 (Option.some.inj h2).symm
          rw [h3]
          exact N' _ (.tail _ (hJl _ _ _ hm))
      · exact N' p (.tail _ h)
    cases f with
    | ret v => exact .ret p
    | brk => exact .brk p
    | next => exact .next (fin p)
    | cont => exact .cont (fin p)
  · rintro h' tk m' news' F' N' _ hJ
    exact done m' news' h' tk hJ F' N'

def StepTo {σ : Type} (M : σ → Str → Option Value) (Led : σ → List (Addr × Obj)) (x : Str) (h₀ : Heap) (L : Addr) (I : Addr) (oI : Obj) (J : σ → Prop) (s₁ s₂ : Shared) : Prop :=
  ∃ h' tk m' c, s₂ = { s₁ with heap := h', toks := tk } ∧ Fr h₀ L h' m' ∧ (∀ y, y ≠ x → m' y = M c y) ∧ News h₀ L h' ((I, oI) :: Led c) ∧ (∀ p ∈ Led c, p.1 ≠ I) ∧ J c
def StepEnd {σ : Type} (M : σ → Str → Option Value) (Led : σ → List (Addr × Obj)) (x : Str) (h₀ : Heap) (L : Addr) (I : Addr) (oI : Obj) (J : σ → Prop) (Q : Flow → Shared → Prop) (s₁ : Shared) (f : Flow) (s₂ : Shared) : Prop :=
  match f with
  | .ret v => Q (.ret v) s₂
  | .brk => Q .next s₂
  | .next => StepTo M Led x h₀ L I oI J s₁ s₂
  | .cont => StepTo M Led x h₀ L I oI J s₁ s₂
theorem StepTo.intro {σ : Type} {M : σ → Str → Option Value} {Led : σ → List (Addr × Obj)} {L I : Addr} {oI : Obj} {J : σ → Prop} {s₁ : Shared} {h' : Heap} {tk : Nat} {m' : Str → Option Value} {nx : List (Addr × Obj)} (c : σ)
    (F : Fr h₀ L h' m') (N : News h₀ L h' nx) (hm : ∀ y, y ≠ x → m' y = M c y) (hs : ∀ p ∈ (I, oI) :: Led c, p ∈ nx) (hI : ∀ p ∈ Led c, p.1 ≠ I) (hJ : J c) :
    StepTo M Led x h₀ L I oI J s₁ { s₁ with heap := h', toks := tk } := ⟨h', tk, m', c, rfl, F, hm, fun p hp => N p (hs p hp), hI, hJ⟩

/-- the same, the state written as a datum -/
theorem forS {σ : Type} (M : σ → Str → Option Value) (Led : σ → List (Addr × Obj)) (J : Nat → σ → Prop) (c₀ : σ) {l : Addr} {vs : List Value} {nn : Nat} {m₀ : Str → Option Value} {news : List (Addr × Obj)}
    (hh : A.handled = none) (hl : ∀ c, (l, listOf vs.toArray nn) ∈ Led c) (F : Fr h₀ env.locals s.heap m₀) (N : News h₀ env.locals s.heap news) (hs : ∀ p ∈ Led c₀, p ∈ news) (hm : ∀ y, y ≠ x → m₀ y = M c₀ y) (hj : J 0 c₀)
    (turn : ∀ i v c h tk I oI, vs[i]? = some v → J i c → (∀ p ∈ Led c, p.1 ≠ I) → Fr h₀ env.locals h (fun y => if y = x then some v else M c y) → News h₀ env.locals h ((I, oI) :: Led c) →
      wpAny (model prog w) A (execs body env) (StepEnd M Led x h₀ env.locals I oI (J (i + 1)) Q { s with heap := h, toks := tk }) E { s with heap := h, toks := tk })
    (done : ∀ c u h tk, J vs.length c → Fr h₀ env.locals h (fun y => if y = x then u else M c y) → News h₀ env.locals h (Led c) → Q .next { s with heap := h, toks := tk }) :
    wpAny (model prog w) A (pyIter (.ref l)) (fun it s₂ => LoopAtV prog w A h₀ env x body Q E it s₂) E s := by
  have fr : ∀ (h : Heap) (m₁ : Str → Option Value) (c : σ) (u : Option Value), (∀ y, y ≠ x → m₁ y = M c y) → (fun y => if y = x then u else m₁ y) = (fun y => if y = x then u else M c y) := by
    intro h m₁ c u e
    funext y
    by_cases hy : y = x
    · simp only [hy, if_true]
    · simp only [hy, if_false]; exact e y hy
  refine forL (fun i m nx => ∃ c, nx = Led c ∧ (∀ y, y ≠ x → m y = M c y) ∧ J i c) hh (news := Led c₀) (hl c₀) F (fun p hp => N p (hs p hp)) ⟨c₀, rfl, hm, hj⟩ ?_ ?_ ?_
  · rintro i m nx ⟨c, rfl, _⟩; exact hl c
  · rintro i v m₁ nx h tk I oI hv ⟨c, rfl, hmc, hJ⟩ hI F₁ N₁
    rw [fr h m₁ c _ hmc] at F₁
    refine wpAny_mono (turn i v c h tk I oI hv hJ hI F₁ N₁) (fun f s₂ p => ?_) fun _ _ e => e
    have up : StepTo M Led x h₀ env.locals I oI (J (i + 1)) { s with heap := h, toks := tk } s₂ → TurnTo h₀ env.locals I oI (fun m nx => ∃ c, nx = Led c ∧ (∀ y, y ≠ x → m y = M c y) ∧ J (i + 1) c) { s with heap := h, toks := tk } s₂ := by
      rintro ⟨h', tk', m', c', e, F', hm', N', hI', hJ'⟩
      exact ⟨h', tk', m', _, e, F', N', hI', c', rfl, hm', hJ'⟩
    cases f with
    | ret v => exact p
    | brk => exact p
    | next => exact up p
    | cont => exact up p
  · rintro m₁ nx h tk ⟨c, rfl, hmc, hJ⟩ F₁ N₁
    refine done c (m₁ x) h tk hJ ?_ N₁
    have : m₁ = fun y => if y = x then m₁ x else M c y := by
      funext y
      by_cases hy : y = x
      · simp only [hy, if_true]
      · simp only [hy, if_false]; exact hmc y hy
    rw [← this]; exact F₁

theorem forI {σ : Type} (M : σ → Str → Option Value) (Led : σ → List (Addr × Obj)) (J : Nat → σ → Prop) (c₀ : σ) {l : Addr} {vs : List Value} {ns : List Int} {nn : Nat} {m₀ : Str → Option Value} {news : List (Addr × Obj)}
    (hh : A.handled = none) (hi : IntsAre vs ns) (hl : ∀ c, (l, listOf vs.toArray nn) ∈ Led c) (F : Fr h₀ env.locals s.heap m₀) (N : News h₀ env.locals s.heap news) (hs : ∀ p ∈ Led c₀, p ∈ news) (hm : ∀ y, y ≠ x → m₀ y = M c₀ y) (hj : J 0 c₀)
    (turn : ∀ i n t c h tk I oI, ns[i]? = some n → J i c → (∀ p ∈ Led c, p.1 ≠ I) → Fr h₀ env.locals h (fun y => if y = x then some (.int n t) else M c y) → News h₀ env.locals h ((I, oI) :: Led c) →
      wpAny (model prog w) A (execs body env) (StepEnd M Led x h₀ env.locals I oI (J (i + 1)) Q { s with heap := h, toks := tk }) E { s with heap := h, toks := tk })
    (done : ∀ c u h tk, J ns.length c → Fr h₀ env.locals h (fun y => if y = x then u else M c y) → News h₀ env.locals h (Led c) → Q .next { s with heap := h, toks := tk }) :
    wpAny (model prog w) A (pyIter (.ref l)) (fun it s₂ => LoopAtV prog w A h₀ env x body Q E it s₂) E s := by
  have hlen : vs.length = ns.length := hi.length
  refine forS M Led J c₀ hh hl F N hs hm hj ?_ (by rw [hlen]; exact done)
  intro i v c h tk I oI hv hJ hI F₁ N₁
  have hlt : i < ns.length := by
    rw [← hlen]
    exact (List.getElem?_eq_some_iff.mp hv).1
  obtain ⟨t, hx⟩ := hi.get i ns[i] (by simp [hlt])
  have e : v = .int ns[i] t := by
    rw [hx] at hv; exact (Option.some.inj hv).symm
  subst e
  exact turn i _ t c h tk I oI (by simp [hlt]) hJ hI F₁ N₁
theorem StepEnd.ret {σ : Type} {M : σ → Str → Option Value} {Led : σ → List (Addr × Obj)} {L I : Addr} {oI : Obj} {J : σ → Prop} {s₁ s₂ : Shared} {v : Value} (h : Q (.ret v) s₂) : StepEnd M Led x h₀ L I oI J Q s₁ (.ret v) s₂ := h
theorem any3 {a b c n : Int} : ([a, b, c].any fun x => x == n) = true ↔ n = a ∨ n = b ∨ n = c := by
  simp only [List.any_cons, List.any_nil, Bool.or_false, Bool.or_eq_true, beq_iff_eq, eq_comm (b := n)]
theorem any2 {a b n : Int} : ([a, b].any fun x => x == n) = true ↔ n = a ∨ n = b := by
  simp only [List.any_cons, List.any_nil, Bool.or_false, Bool.or_eq_true, beq_iff_eq, eq_comm (b := n)]
theorem any3f {a b c n : Int} (h : ([a, b, c].any fun x => x == n) = false) : ¬ (n = a ∨ n = b ∨ n = c) := fun q => by rw [any3.mpr q] at h; cases h
theorem any2f {a b n : Int} (h : ([a, b].any fun x => x == n) = false) : ¬ (n = a ∨ n = b) := fun q => by rw [any2.mpr q] at h; cases h
theorem ints_at {vs : List Value} {ns : List Int} (hi : IntsAre vs ns) {i : Nat} {v : Value} (hv : vs[i]? = some v) : ∃ n t, v = .int n t ∧ ns[i]? = some n := by
  have hlt : i < ns.length := by
    rw [← hi.length]
    exact (List.getElem?_eq_some_iff.mp hv).1
  obtain ⟨t, hx⟩ := hi.get i ns[i] (by simp [hlt])
  rw [hx] at hv
  exact ⟨_, t, (Option.some.inj hv).symm, by simp [hlt]⟩
theorem take_get {α : Type} {ns : List α} {i : Nat} {n : α} (h : ns[i]? = some n) : ns.take (i + 1) = ns.take i ++ [n] := by
  rw [List.take_add_one, h]; rfl
theorem drop_get {α : Type} {ns : List α} {i : Nat} {n : α} (h : ns[i]? = some n) : ns.drop i = n :: ns.drop (i + 1) ∧ i < ns.length := by
  obtain ⟨hlt, e⟩ := List.getElem?_eq_some_iff.mp h
  exact ⟨by rw [List.drop_eq_getElem_cons hlt, e], hlt⟩
theorem allLt_out {d : Addr} : ∀ {l : List (Addr × Obj)}, AllLt d l → ∀ p ∈ l, p.1 < d
  | [], _, _, hp => nomatch hp
  | _ :: _, h, p, hp => by
    rcases List.mem_cons.mp hp with rfl | hp
    · exact h.1
    · exact allLt_out h.2 p hp
end
abbrev ListRet (h₀ : Heap) (L : Addr) (m : Str → Option Value) (news : List (Addr × Obj)) (s : Shared) (Q : Value → Shared → Prop) (ns : List Int) : Prop :=
  ∀ l vs n h' tk', IntsAre vs ns → Fr h₀ L h' m → News h₀ L h' ((l, listOf vs.toArray n) :: news) → (∀ p ∈ news, p.1 < l) → Q (.ref l) { s with heap := h', toks := tk' }

local macro_rules | `(tactic| ktr_room) => `(tactic| first | exact room9 (by assumption) | exact room0 (by assumption) (by decide) | exact room1 (by assumption) (by decide))
local macro_rules | `(tactic| ktr_units) => `(tactic| first | exact room9 (by assumption) | exact room0 (by assumption) (by decide) | exact room1 (by assumption) (by decide))
structure BareSt where
  l : Addr
  vs : List Value
  n : Nat
  st : List Int
def bareF : List Int → List Int → List Int
  | st, [] => st
  | st, x :: r => if x = 11 ∨ x = 53 ∨ x = 4 then st else if x = 23 ∨ x = 52 then bareF [] r else bareF (st ++ [x]) r
theorem bFc (st : List Int) (x : Int) (r : List Int) : bareF st (x :: r) = if x = 11 ∨ x = 53 ∨ x = 4 then st else if x = 23 ∨ x = 52 then bareF [] r else bareF (st ++ [x]) r := rfl
theorem bF0 (st : List Int) : bareF st [] = st := rfl
set_option maxHeartbeats 4000000 in
theorem bare {w : World} {mean : ExcName → Option Value} {mg mb : Str → Option Value}
    {dp un : Nat} {gd : Option (List Code)} {cn : Str} {cs : Scope} {a : Addr} {ccd : Value} {cl : List (Str × Addr)} {outer : List Env} {A₀ : Around} {base h₀ : Heap} {L : Addr} {m : Str → Option Value} {news : List (Addr × Obj)} {s : Shared} {Q E : Value → Shared → Prop}
    {l : Addr} {vs : List Value} {nn : Nat} {ns : List Int}
    (B : Below A₀ base outer h₀) (F : Fr h₀ L s.heap m) (X : (hd.heap_39 w.params).In h₀) (N : News h₀ L s.heap news)
    (T : Top hd.view_39 (looseW hd.view_39 [Str.ofString "EXACT_TOKEN_TYPES"]) mean mg mb h₀) (hk : cs.kind = .function)
    (hl : (l, listOf vs.toArray nn) ∈ news) (hi : IntsAre vs ns) (hd : dp + 10 < recursionLimit) (hu : un + 100 < cLine)
    (hn : ns.length ≤ 1000) (ret : ListRet h₀ L m news s Q (bareF [] ns)) :
    wpAny (model Challenge.rw_sr0042_01.row.prog w) (ktrTop dp un gd cn cs L a ccd cl outer) (call (.ref 99) [.ref l]) Q E s := by
  revert X; k_fill; intro X
  refine wpAny_call ?_
  k_dflt ktr_enter
  rename_i g' L' h' FG' F' N' B' X' T'
  change Fr _ _ _ (fun y => List.lookup y [(Str.ofString "row", Value.ref l)]) at F'
  k_with "pyIter ref" => (
    rename Fr _ _ _ _ => lF'
    rename News _ _ _ _ => lN'
    refine' forI (σ := BareSt) (fun c y => if y = Str.ofString "stretch" then some (.ref c.l) else List.lookup y [(Str.ofString "row", Value.ref l)]) (fun c => (c.l, listOf c.vs.toArray c.n) :: news)
      (fun i c => IntsAre c.vs c.st ∧ bareF c.st (ns.drop i) = bareF [] ns ∧ c.st.length ≤ i ∧ ∀ p ∈ news, p.1 < c.l) ⟨_, [], 0, []⟩ rfl hi (fun _ => .tail _ hl) lF' lN' (fun _ => id) (fun _ _ => rfl) ⟨.nil, rfl, Nat.le_refl _, by assumption⟩ (fun i n t c h1 tk1 I oI hv hJ hI F1 N1 => ?_) (fun c u h1 tk1 hJ F1 N1 => ?_)
    all_goals obtain ⟨J1, J2, J3, J4⟩ := hJ
    (first
      | (obtain ⟨hd1, hlt⟩ := drop_get hv
         have hfit : c.st.length ≤ 1000 := by omega
         try k_fold)
      | skip))
  k_steps
  all_goals ((try dsimp only); k_steps)
  all_goals (try (refine StepEnd.ret ?_; (try dsimp only); k_steps))
  · rename ((List.any [11, 53, 4] _) = true) => q
    rename Fr _ _ _ _ => kF
    rename News _ _ _ _ => kN
    have q' := any3.mp q
    rw [hd1, bFc, if_pos q'] at J2
    exact ret _ _ _ _ _ (J2 ▸ J1) kF (kst_newsOf kN (by kst_allIn)) J4
  · rename ((List.any [11, 53, 4] _) = false) => q
    rename ((List.any [23, 52] _) = true) => q2
    rename (_ ∧ _ ∧ _ ∧ _ ∧ AllLt _ _) => hlt'
    rename Fr _ _ _ _ => kF
    rename News _ _ _ _ => kN
    have q' := any3f q
    have q2' := any2.mp q2
    rw [hd1, bFc, if_neg q', if_pos q2'] at J2
    refine StepTo.intro ⟨_, [], 0, []⟩ kF kN ?_ (by kst_allIn) ?_ ⟨.nil, J2, Nat.zero_le _, allLt_out hlt'.2.2.2.2⟩
    · intro y hy; simp only [hy, if_false]; split <;> rfl
    · intro p hp
      rcases List.mem_cons.mp hp with rfl | hp
      · exact Nat.ne_of_gt hlt'.2.2.1
      · exact hI p (.tail _ hp)
  · rename ((List.any [11, 53, 4] _) = false) => q
    rename ((List.any [23, 52] _) = false) => q2
    rename (_ ∧ _ ∧ _ ∧ _ ∧ _ ∧ AllLt _ _) => hlt'
    rename Fr _ _ _ _ => kF
    rename News _ _ _ _ => kN
    rename IntsAre _ (c.st ++ [n]) => kI
    have q' := any3f q
    have q2' := any2f q2
    rw [hd1, bFc, if_neg q', if_neg q2'] at J2
    refine StepTo.intro ⟨_, _, 0, _⟩ kF kN ?_ (by kst_allIn) ?_ ⟨kI, J2, ?_, allLt_out hlt'.2.2.2.2.2⟩
    · intro y hy; simp only [hy, if_false]; split <;> rfl
    · intro p hp
      rcases List.mem_cons.mp hp with rfl | hp
      · exact Nat.ne_of_gt hlt'.2.2.2.1
      · exact hI p (.tail _ hp)
    · simp; omega
  · rename Fr _ _ _ _ => kF
    rename News _ _ _ _ => kN
    rw [List.drop_length, bF0] at J2
    exact ret _ _ _ _ _ (J2 ▸ J1) kF kN J4

open Sem (wp)
section
variable {prog : Program} {w : World} {A : Around} {R : GenEnd} {Y : Protocol} {n : Nat} {s₀ : Shared} {fs : List PySem.Frame} {s : Shared} {env : Env} {c : Code}
  {K : Flow → Sem Fin} {H : Value → Sem Fin} {gd : Bool → Bool} {lv : List Value → List Value}

abbrev NoE : Value → Shared → Prop := fun _ _ => False

theorem seg_wrapN {α : Type} {m : Sem α} {K : α → Sem Fin} {H : Value → Sem Fin} {gd lv}
    (h : wpAny (model prog w) (A.over c fs) m (fun a s' => Seg (model prog w) A R Y n s₀ c (K a) fs s') NoE s) :
    Seg (model prog w) A R Y n s₀ c (m.wrap K H gd lv) fs s := seg_wrap (wpAny_mono h (fun _ _ x => x) fun _ _ x => x.elim)

def ownRet (K : Flow → Sem Fin) (H : Value → Sem Fin) (gd : Bool → Bool) (lv : List Value → List Value) (env : Env) (c : Code) (p : Pos) : PySem.Frame :=
  .ret (fun r => ((match r with | .ok f => (.pure f : Sem Flow) | .error e => .raise e).onRaise fun (x : Value) => do
        if (← field x 1) == Value.none then unsupported "frame.own-activation:exception-without-traceback"
        setFlight x env.frame).wrap K H gd lv) none (gd false) (lv []) c p []

theorem seg_runOwn {c' : Code} (h : ∀ p, Seg (model prog w) A R Y n s₀ c' ((model prog w).den c') (ownRet K H gd lv env c p :: fs) s) :
    Seg (model prog w) A R Y n s₀ c ((runOwn c' env).wrap K H gd lv) fs s := seg_call h

theorem seg_For {target iter : Expr} {body orelse : List Stmt} {pos : Pos}
    (h : wpAny (model prog w) (A.over c fs) (eval iter env) (fun xv s₁ => wpAny (model prog w) (A.over c fs) (pyIter xv) (fun it s₂ =>
      ∀ p, Seg (model prog w) A R Y n s₀ (.forLoop target it body orelse env) ((model prog w).den (.forLoop target it body orelse env)) (ownRet K H gd lv env c p :: fs) s₂) NoE s₁) NoE s)
    (hs : ∀ x, foldedSetIterable iter env x = pure x := by intro _; rfl) :
    Seg (model prog w) A R Y n s₀ c ((exec (.For target iter body orelse pos) env).wrap K H gd lv) fs s := by
  rw [exec_For]
  simp only [Sem.bind_eq_wrap', Sem.wrap_wrap]
  refine seg_wrapN (wpAny_standAt ?_)
  refine seg_wrapN (wpAny_mono h (fun xv s₁ h₁ => ?_) fun _ _ x => x)
  simp only [hs]
  refine seg_wrapN (wpAny_pure ?_)
  refine seg_wrapN (wpAny_standAt ?_)
  refine seg_wrapN (wpAny_holding (wpAny_mono h₁ (fun it s₂ h₂ => ?_) fun _ _ x => x))
  exact seg_runOwn h₂

theorem seg_If {test : Expr} {body orelse : List Stmt} {pos : Pos}
    (h : wpAny (model prog w) (A.over c fs) (isTrue test env (eval test env)) (fun b s' =>
        Seg (model prog w) A R Y n s₀ c ((if b = true then execs body env else execs orelse env).wrap K H gd lv) fs s') NoE s) :
    Seg (model prog w) A R Y n s₀ c ((exec (.If test body orelse pos) env).wrap K H gd lv) fs s := by
  show Seg (model prog w) A R Y n s₀ c ((standAt pos >>= fun _ => (isTrue test env (eval test env) >>= fun b => if b = true then execs body env else execs orelse env) : Sem Flow).wrap K H gd lv) fs s
  simp only [Sem.bind_eq_wrap', Sem.wrap_wrap]
  refine seg_wrapN (wpAny_standAt ?_)
  exact seg_wrapN h

theorem seg_forLoop {target it : _} {body orelse : List Stmt}
    (h : wpAny (model prog w) (A.over (.forLoop target it body orelse env) fs) (pyNext it) (fun r s' => match r with
        | none => Seg (model prog w) A R Y n s₀ (.forLoop target it body orelse env) (.pure (.again (.block orelse env))) fs s'
        | some v => wpAny (model prog w) (A.over (.forLoop target it body orelse env) fs) (letOwnedTupleGo target it v) (fun _ s₁ =>
            wpAny (model prog w) (A.over (.forLoop target it body orelse env) fs) (assign target env v) (fun _ s₂ =>
              ∀ H, Seg (model prog w) A R Y n s₀ (.forLoop target it body orelse env) ((execs body env).wrap (fun f => match f with
                | .next | .cont => .pure (.again (.forLoop target it body orelse env))
                | .brk => .pure (.done .next)
                | .ret v => .pure (.done (.ret v))) H id id) fs s₂) NoE s₁) NoE s') NoE s) :
    Seg (model prog w) A R Y n s₀ (.forLoop target it body orelse env) ((model prog w).den (.forLoop target it body orelse env)) fs s := by
  show Seg _ A R Y n s₀ _ ((forTurn target it body orelse env).onRaise (fun x => do noteFrame x env; theTreesLotGoes x)) fs s
  unfold forTurn
  rw [Sem.onRaise_eq_wrap]
  simp only [Sem.bind_eq_wrap', Sem.wrap_wrap]
  refine seg_wrapN (wpAny_standAt ?_)
  refine seg_wrapN (wpAny_onRaise (wpAny_mono h (fun r s' hr => ?_) fun _ _ x => x.elim))
  cases r with
  | none => exact hr
  | some v =>
    simp only [Sem.wrap_wrap]
    refine seg_wrapN (wpAny_mono hr (fun _ s₁ h₁ => ?_) fun _ _ x => x)
    refine seg_wrapN (wpAny_mono h₁ (fun _ s₂ h₂ => ?_) fun _ _ x => x)
    exact Eq.mp (congrArg (fun t => Seg (model prog w) A R Y n s₀ (.forLoop target it body orelse env) t fs s₂)
      (Sem.wrap_congr (execs body env) id id (fun f => by cases f <;> rfl) fun _ => rfl)) (h₂ _)

theorem seg_blockEnd {orelse : List Stmt} (ho : orelse = []) {p : Pos} {c' : Code} (h : Seg (model prog w) A R Y n s₀ c (K .next) fs s) :
    Seg (model prog w) A R Y n s₀ c' (.pure (.again (.block orelse env))) (ownRet K H gd lv env c p :: fs) s := by
  subst ho
  refine seg_again rfl ?_
  show Seg _ A R Y n s₀ _ (((execs [] env).onRaise (fun x => do noteFrame x env; theTreesLotGoes x)).bind fun f => .pure (.done f)) _ s
  exact seg_leaf (.ok .next) h
end

/-- what the generator tells when it gives a pair out, and when it ends -/
def GenKeep (priv : List Addr) (s₀ s : Shared) : Prop :=
  (∃ h tk, s = { s₀ with heap := h, toks := tk }) ∧ (∀ b o, b ∉ priv → s₀.heap.get? b = some o → s.heap.get? b = some o)
def GenCompat (priv : List Addr) (gb : Heap) (h : Heap) (s : Shared) : Prop :=
  (∀ b ∈ priv, ∀ o, h.get? b = some o → s.heap.get? b = some o) ∧ (∀ b o, gb.get? b = some o → s.heap.get? b = some o)
def GenY (priv : List Addr) (gb : Heap) (x : Str) : Protocol := fun n s₀ v s kap =>
  (∃ T i c tk u, i + (n + 1) = x.cps.size ∧ x.cps[i]? = some c ∧ v = .ref T ∧ s₀.heap.get? T = none ∧ T ∉ priv ∧
    s.heap.get? T = some { cls := .type "tuple", data := .seq #[.int i tk, .str ⟨#[c]⟩ u] }) ∧
  GenKeep priv s₀ s ∧ (∀ b ∈ priv, ∃ o, s.heap.get? b = some o) ∧ ∀ s', GenCompat priv gb s.heap s' → kap (.send .none) s'
def GenR (priv : List Addr) : GenEnd := fun n s₀ r s => r = .ok (.ret .none) ∧ (n = 0 ∧ GenKeep priv s₀ s)

def FnAt (K : Frag) (f : Addr) (P : Str → Str → Arguments → List Stmt → Scope → Value → Value → Value → Value → Value → Value → Option Addr → Prop) : Prop :=
  ∃ (name qual : Str) (params : Arguments) (body : List Stmt) (scope : Scope) (dV kV doc pm cdv ct oc : Value) (an od : Option Addr) (osl : Array (Option Value)),
    K.lookup f = some ⟨oc, od, .func (fnOf name qual params body scope dV kV doc pm an cdv ct), osl⟩ ∧ codeIn K cdv qual = true ∧ P name qual params body scope dV kV doc pm cdv ct an
theorem FnAt.intro {K : Frag} {f : Addr} {P : Str → Str → Arguments → List Stmt → Scope → Value → Value → Value → Value → Value → Value → Option Addr → Prop}
    {name qual : Str} {params : Arguments} {body : List Stmt} {scope : Scope} {dV kV doc pm cdv ct oc : Value} {an od : Option Addr} {osl : Array (Option Value)}
    (h1 : K.lookup f = some ⟨oc, od, .func (fnOf name qual params body scope dV kV doc pm an cdv ct), osl⟩) (h2 : codeIn K cdv qual = true) (h3 : P name qual params body scope dV kV doc pm cdv ct an) : FnAt K f P :=
  ⟨_, _, _, _, _, _, _, _, _, _, _, _, _, _, _, h1, h2, h3⟩

theorem GenKeep.refl (priv : List Addr) (s : Shared) : GenKeep priv s s := ⟨⟨_, _, rfl⟩, fun _ _ _ e => e⟩
theorem gen_ind {N : Nat} {s : Shared} (P : Nat → Shared → Shared → Prop) (Inv : Nat → Shared → Prop) (keep : Shared → Shared → Prop) {s₁ : Shared}
    (step : ∀ n i s₀ s₂, i + n = N → Inv i s₂ → keep s₀ s₂ → (∀ m, n = m + 1 → ∀ s₀' s₂', Inv (i + 1) s₂' → keep s₀' s₂' → P m s₀' s₂') → P n s₀ s₂)
    (h0 : Inv 0 s₁) (hk : keep s s₁) : P N s s₁ := by
  have all : ∀ n i s₀ s₂, i + n = N → Inv i s₂ → keep s₀ s₂ → P n s₀ s₂ := by
    intro n
    induction n with
    | zero => exact fun i s₀ s₂ e hi hk => step 0 i s₀ s₂ e hi hk fun m hm => nomatch hm
    | succ n ih =>
      intro i s₀ s₂ e hi hk
      refine step (n + 1) i s₀ s₂ e hi hk ?_
      intro m hm s₀' s₂' hi' hk'
      have hm' : n = m := by omega
      subst hm'
      exact ih (i + 1) s₀' s₂' (by omega) hi' hk'
  exact all N 0 s s₁ (by omega) h0 hk

/-- the enumerate object over a text's signs -/
def EnSt (e it : Addr) (x : Str) (t : Tok) (i : Nat) (h : Heap) : Prop := (∃ old, IsEnum h e it i old) ∧ h.IsStrIter it (strIterType x) x t i
def EnMid (e it : Addr) (x : Str) (t : Tok) (i : Nat) (T : Addr) (h : Heap) : Prop := (∃ z, IsEnumOut h e it ((i : Int) + 1) z T) ∧ h.IsStrIter it (strIterType x) x t (i + 1) ∧ T ≠ e ∧ T ≠ it
theorem enWalk {prog : Program} {w : World} {A : Around} (hh : A.handled = none) (e it : Addr) (hne : e ≠ it) (x : Str) (t : Tok) :
    WalksT prog w A e [e, it] [e, it] x.cps.size (fun i vals => ∃ t z, (∃ c u, x.cps[i]? = some c ∧ z = Value.str ⟨#[c]⟩ u) ∧ vals = #[.int i t, z]) (EnSt e it x t) (EnMid e it x t) := by
  unfold EnSt EnMid
  cases ha : x.cps.all (· < 128)
  · simp only [strIterType, ha, Bool.false_eq_true, if_false]
    exact WalksT.enumerateD (Draws.strWide (A := A.in1) hh it x t) e hne (by simp [hne]) (by simp)
  · simp only [strIterType, ha, if_true]
    exact WalksT.enumerateD (Draws.strAscii (A := A.in1) hh it x t) e hne (by simp [hne]) (by simp)

theorem Fr.same {h₀ h : Heap} {L : Addr} {m m' : Str → Option Value} (F : Fr h₀ L h m) (e : ∀ y, m y = m' y) : Fr h₀ L h m' := (funext e : m = m') ▸ F
theorem stH {prog : Program} {w : World} {A : Around} {E : Value → Shared → Prop} {s : Shared} {env : Env} {gb : Heap} {m : Str → Option Value} {x : Str} {v : Value} {Q : Unit → Shared → Prop} (F : Fr gb env.locals s.heap m)
    (h : ∀ h', Fr gb env.locals h' (fun y => if y = x then some v else m y) → Heap.SameBut env.locals s.heap h' → Q () { s with heap := h', toks := s.toks + 1 })
    (hl : env.kindOf x = some .local := by rfl) (hp : (env.scope.kind == .class || (env.scope.kind == .module && env.locals != env.globals)) = false := by rfl) :
    wpAny (model prog w) A (storeName env x v) Q E s :=
  wpAny_storeName_local hl F.ns (fun h' hn hs => h h' (F.set hn hs) hs) hp
theorem GenKeep.step {priv : List Addr} {s₀ s : Shared} (K : GenKeep priv s₀ s) {h : Heap} {tk : Nat} (hk : ∀ b o, b ∉ priv → s.heap.get? b = some o → h.get? b = some o) : GenKeep priv s₀ { s with heap := h, toks := tk } := by
  obtain ⟨⟨h', tk', rfl⟩, hk'⟩ := K
  exact ⟨⟨h, tk, rfl⟩, fun b o hb e => hk b o hb (hk' b o hb e)⟩

theorem notTwo {b G : Nat} (h : b < G) : b ∉ [G + 1, G] := by
  intro q
  rcases List.mem_cons.mp q with q | q
  · omega
  · have := List.mem_singleton.mp q; omega
theorem keepOfExt {h h' : Heap} (x : Heap.ExtBut h.objs.size h h') : ∀ b o, h.get? b = some o → h'.get? b = some o := fun b o e => x b o (Nat.ne_of_lt (Heap.lt_size e)) e
theorem Fr.moveTo {gb h h' : Heap} {L : Addr} {m : Str → Option Value} (F : Fr gb L h m) (hL : ∀ o, h.get? L = some o → h'.get? L = some o) (hb : ∀ b o, gb.get? b = some o → h.get? b = some o → h'.get? b = some o) : Fr gb L h' m :=
  ⟨F.ns.at' hL, fun b o e => hb b o e (F.keep b o e), F.above⟩

theorem oneSlash {c : Nat} (h : c ≠ 92) : ¬ (((⟨#[c]⟩ : Str) == Str.ofString "\\") = true) := by
  have e : Str.ofString "\\" = ⟨#[92]⟩ := by decide +kernel
  rw [e]
  intro q
  have := beq_iff_eq.mp q
  simp at this
  exact h this
def GTup (s₂ : Shared) (h7 : Heap) (i : Nat) (ti : Tok) (c u : Nat) (v : Value) (s' : Shared) : Prop :=
  v = .ref h7.objs.size ∧ ∃ tk8, s' = { s₂ with heap := h7.push { cls := .type "tuple", data := .seq #[.int i ti, .str ⟨#[c]⟩ u] }, toks := tk8 }
section
local macro_rules | `(tactic| walk_at "newTuple") => `(tactic| k_extra "newTuple")
set_option maxHeartbeats 4000000 in
theorem gen_body {w : World} {mean : ExcName → Option Value} {mg mb : Str → Option Value} : Challenge.rw_sr0042_01.row.prog = Challenge.rw_sr0042_01.row.prog →
    FnAt (hd.heap_39 w.params) 35 fun name qual params body scope dV kV doc pm cdv ct an =>
    scope.isGenerator = true ∧ scope.isCoroutine = false ∧ scope.kind = .function ∧ (∀ x ∈ scope.names, x.2 ≠ .cell) ∧ (scope.names.lookup (Str.ofString "addr") = some .local) ∧
    (∀ v, bindArgs (fnOf name qual params body scope dV kV doc pm an cdv ct) ⟨[v], []⟩ = pure [(Str.ofString "addr", v)]) ∧
    ∀ (A : Around) (gb : Heap) (Lg G : Nat) (x : Str) (t : Tok) (s : Shared) (X : (hd.heap_39 w.params).In gb)
      (T : Top hd.view_39 (looseW hd.view_39 [Str.ofString "EXACT_TOKEN_TYPES"]) mean mg mb gb)
      (F : Fr gb Lg s.heap (fun y => List.lookup y [(Str.ofString "addr", Value.str x t)])) (hh : A.handled = none) (hx : ∀ c ∈ x.cps, c ≠ 92) (hz : s.heap.objs.size = G),
      Seg (model Challenge.rw_sr0042_01.row.prog w) A (GenR [Lg, G, G + 1]) (GenY [Lg, G, G + 1] gb x) x.cps.size s (.func body (envX qual scope Lg 35 cdv [])) ((model Challenge.rw_sr0042_01.row.prog w).den (.func body (envX qual scope Lg 35 cdv []))) [] s := by
  k_fill
  intro _
  have X0 : ∀ gb, (hd.heap_39 w.params).In gb → (hd.heap_39 w.params).In gb := fun _ x => x
  refine' FnAt.intro ?p1 ?p2 ⟨?p3, ?p4, ?p5, ?p7, ?p8, ?p9, ?p6⟩
  case p1 => k_is
  case p2 => k_is
  case p3 => rfl
  case p4 => rfl
  case p5 => rfl
  case p7 => decide
  case p8 => rfl
  case p9 => exact fun v => rfl
  intro A gb Lg G x t s X T F hh hx hz
  refine seg_func ?_
  refine seg_execs_cons ?_
  refine seg_wrapN (wpAny_Assign_Name (wpAny_Constant_int (stH F fun h1 F1 S1 => ?_)))
  dsimp only
  refine seg_execs_cons ?_
  refine seg_wrapN (wpAny_Assign_Name (wpAny_Constant_bool (stH F1 fun h2 F2 S2 => ?_)))
  dsimp only
  refine seg_execs_cons ?_
  refine seg_For ?_
  have N2 : News gb Lg h2 [] := News.nil
  k_with "call type:enumerate" => refine call_enumerate_str (fun h' he hit hz' hk' => ?_)
  k_with "pyIter ref" => refine wpAny_pyIter_enum (by assumption) ?_
  k_steps
  have hsz : h2.objs.size = G := by rw [S2.1, ← hz]; exact S1.1
  dsimp only at he hit hz' hk'
  rw [hsz] at he hit
  refine gen_ind (fun n s₀ s₂ => Seg _ _ _ _ n s₀ _ _ _ s₂) (fun i s₂ => ∃ u1 u2, Fr gb Lg s₂.heap (fun y => if y = Str.ofString "ch" then u2 else if y = Str.ofString "pos" then u1 else if y = Str.ofString "escape" then some (.bool false) else List.lookup y [(Str.ofString "addr", Value.str x t)]) ∧ EnSt (G + 1) G x t i s₂.heap)
    (GenKeep [Lg, G, G + 1]) ?_ ?_ ?_
  · rintro n i s₀ s₂ hin ⟨u1, u2, Fi, hEn⟩ hK ih
    rw [hsz]
    refine seg_forLoop ?_
    by_cases hlt : i < x.cps.size
    · refine (enWalk (A := A.over _ _) (by exact hh) (G + 1) G (Nat.succ_ne_self _) x t).item i _ _ _ hlt hEn (fun T' vals h3 tk3 hP hTsz hT hMid hk3 => ?_)
      refine (enWalk (A := A.over _ _) (by exact hh) (G + 1) G (Nat.succ_ne_self _) x t).go _ _ _ i T' _ _ _ hMid (fun h4 hEn4 hk4 => ?_)
      have hTa : T' ∉ [G + 1, G] := (enWalk (prog := Challenge.rw_sr0042_01.row.prog) (w := w) hh (G + 1) G (Nat.succ_ne_self _) x t).apart i T' _ hMid
      obtain ⟨ti, z, ⟨c, u, hc, rfl⟩, rfl⟩ := hP
      have hT4 : IsTup h4 T' #[.int i ti, .str ⟨#[c]⟩ u] := by
        obtain ⟨o, ho, r⟩ := hT
        exact ⟨o, hk4 _ _ hTa ho, r⟩
      refine assign_Tuple_tuple (A := A.over _ _) (by exact hh) hT4 rfl rfl (fun h5 hE5 => ?_)
      have hLG : Lg < G := by rw [← hz]; exact F.ns.lt
      have hgb : ∀ b o, gb.get? b = some o → b ∉ [G + 1, G] := fun b o e => notTwo (by rw [← hz]; exact Heap.lt_size (F.keep b o e))
      have hk5 : ∀ b o, b ∉ [G + 1, G] → s₂.heap.get? b = some o → h5.get? b = some o := fun b o hb e => keepOfExt hE5 b o (hk4 b o hb (hk3 b o hb e))
      have F5 := Fr.moveTo Fi (h' := h5) (fun o e => hk5 _ o (notTwo hLG) e) (fun b o e => hk5 b o (hgb b o e))
      refine assignInOrder_cons (wpAny_assign_Name (stH F5 fun h6 F6 S6 => ?_))
      refine assignInOrder_cons (wpAny_assign_Name (stH F6 fun h7 F7 S7 => ?_))
      refine assignInOrder_nil ?_
      intro H
      have hLs : ∀ b o, b ≠ Lg → h5.get? b = some o → h7.get? b = some o := fun b o hb e => S7.extBut b o hb (S6.extBut b o hb e)
      have hEn7 : EnSt (G + 1) G x t (i + 1) h7 := by
        refine (enWalk (prog := Challenge.rw_sr0042_01.row.prog) (w := w) hh (G + 1) G (Nat.succ_ne_self _) x t).frame _ _ _ hEn4 fun b hb o e => hLs b o ?_ (keepOfExt hE5 b o e)
        intro q; exact notTwo hLG (q ▸ hb)
      have hK7 : GenKeep [Lg, G, G + 1] s₀ { s₂ with heap := h7, toks := tk3 + 1 + 1 } := hK.step fun b o hb e => by
        simp only [List.mem_cons, List.not_mem_nil, or_false, not_or] at hb
        exact hLs b o hb.1 (hk5 b o (by simp [hb.2.1, hb.2.2]) e)
      refine seg_execs_cons ?_
      refine seg_If ?_
      k_steps
      simp only [Bool.false_eq_true, if_false]
      refine seg_execs_cons ?_
      refine seg_If ?_
      k_steps
      (try dsimp only)
      rw [if_neg (oneSlash (hx c (Array.mem_of_getElem? hc)))]
      refine seg_execs_cons ?_
      obtain ⟨n', rfl⟩ : ∃ n', n = n' + 1 := ⟨n - 1, by omega⟩
      refine' seg_Expr_Yield (hfs := ?y1) (hgd := ?y2) (hfg := ?y3) (h := ?y4) (hco := ?y5) (hi := ?y6)
      case y1 => rfl
      case y2 => rfl
      case y3 => rfl
      case y5 => rfl
      case y6 => rfl
      have hN7 : News gb Lg h7 [] := News.nil
      refine wpAny_mono (Q := GTup s₂ h7 i ti c u) ?_ ?_ fun _ _ x => x
      · dsimp only at S6 S7 F6 F7
        k_with "newTuple" => refine wpAny_newTuple ?_
        k_steps
        exact ⟨rfl, _, rfl⟩
      · rintro v s' ⟨rfl, tk8, rfl⟩ kap hkap
        have hT7 : h7.objs.size ∉ [Lg, G, G + 1] := by
          intro q
          obtain ⟨⟨old, hE⟩, ⟨o, ho, _⟩⟩ := hEn7
          have a1 : Lg < h7.objs.size := F7.ns.lt
          have a2 : G + 1 < h7.objs.size := Heap.lt_size hE
          have a3 : G < h7.objs.size := Heap.lt_size ho
          simp only [List.mem_cons, List.not_mem_nil, or_false] at q
          omega
        have hK8 : GenKeep [Lg, G, G + 1] s₀ { s₂ with heap := h7.push { cls := .type "tuple", data := .seq #[.int i ti, .str ⟨#[c]⟩ u] }, toks := tk8 } :=
          GenKeep.step (tk := tk8) hK7 fun b o hb e => Heap.get?_push_of_some _ e
        refine ⟨⟨h7.objs.size, i, c, ti, u, by omega, hc, rfl, ?_, hT7, Heap.get?_push_size _ rfl⟩, hK8, ?_, ?_⟩
        · cases hq : s₀.heap.get? h7.objs.size with
          | none => rfl
          | some o => exact absurd (Heap.lt_size (hK7.2 _ o hT7 hq)) (Nat.lt_irrefl _)
        · obtain ⟨⟨old, hE⟩, ⟨o, ho, _⟩⟩ := hEn7
          obtain ⟨oL, _, _, hoL, _⟩ := F7.ns
          intro b hb
          simp only [List.mem_cons, List.not_mem_nil, or_false] at hb
          rcases hb with rfl | rfl | rfl
          · exact ⟨_, Heap.get?_push_of_some _ hoL⟩
          · exact ⟨_, Heap.get?_push_of_some _ ho⟩
          · exact ⟨_, Heap.get?_push_of_some _ hE⟩
        · intro s' hcomp
          refine hkap _ _ ?_
          dsimp only
          refine seg_again rfl ?_
          have hp : ∀ b o, b ∈ [Lg, G, G + 1] → h7.get? b = some o → s'.heap.get? b = some o := fun b o hb e => hcomp.1 b hb o (Heap.get?_push_of_some _ e)
          have F8 : Fr gb Lg s'.heap _ := ⟨(show h7.Ns Lg _ from F7.ns).at' fun o e => hp _ o (by simp) e, hcomp.2, F.above⟩
          refine Eq.mp ?_ (ih n' rfl s' s' ⟨some (.int i ti), some (.str ⟨#[c]⟩ u), Fr.same F8 ?_, ?_⟩ (GenKeep.refl _ _))
          · rw [hsz]
          · intro y
            by_cases q1 : y = Str.ofString "ch"
            · simp only [if_pos q1]
            · by_cases q2 : y = Str.ofString "pos"
              · simp only [if_neg q1, if_pos q2]
              · simp only [if_neg q1, if_neg q2]
          · exact (enWalk (prog := Challenge.rw_sr0042_01.row.prog) (w := w) hh (G + 1) G (Nat.succ_ne_self _) x t).frame _ _ _ hEn7 fun b hb o e => hp b o (by
              simp only [List.mem_cons, List.not_mem_nil, or_false] at hb ⊢
              rcases hb with hb | hb <;> simp [hb]) e
    · have hn : n = 0 := by omega
      subst hn
      have hin' : i = x.cps.size := by omega
      subst hin'
      refine (enWalk (A := A.over _ _) (by exact hh) (G + 1) G (Nat.succ_ne_self _) x t).done _ _ _ hEn (fun h3 tk3 hk3 => ?_)
      refine seg_blockEnd rfl ?_
      dsimp only
      refine seg_execs_cons ?_
      refine seg_If ?_
      have hLG : Lg < G := by rw [← hz]; exact F.ns.lt
      have hgb : ∀ b o, gb.get? b = some o → b ∉ [G + 1, G] := fun b o e => notTwo (by rw [← hz]; exact Heap.lt_size (F.keep b o e))
      have F3 := Fr.moveTo Fi (h' := h3) (fun o e => hk3 _ o (notTwo hLG) e) (fun b o e => hk3 b o (hgb b o e))
      have N3 : News gb Lg h3 [] := News.nil
      have hK3 : GenKeep [Lg, G, G + 1] s₀ { s₂ with heap := h3, toks := tk3 } := hK.step fun b o hb e => hk3 b o (by
        simp only [List.mem_cons, List.not_mem_nil, or_false, not_or] at hb
        simp [hb.2.1, hb.2.2]) e
      k_steps
      simp only [Bool.false_eq_true, if_false]
      refine seg_execs_nil ?_
      dsimp only
      refine seg_execs_nil ?_
      dsimp only
      refine seg_end (.ok (.ret .none)) ⟨rfl, rfl, ?_⟩
      exact hK3
  · refine ⟨some (.int 0 s.toks), none, Fr.same (Fr.moveTo (show Fr gb Lg h2 _ from F2) (h' := h') (fun o e => hk' _ o e) (fun b o _ e => hk' b o e)) ?_, ⟨_, he⟩, hit⟩
    intro y
    by_cases q1 : y = Str.ofString "ch"
    · subst q1; rfl
    · rw [if_neg q1]
      by_cases q2 : y = Str.ofString "pos"
      · subst q2; rfl
      · rw [if_neg q2, if_neg q2]
  · refine GenKeep.step (GenKeep.refl _ _) fun b o hb e => ?_
    have hb' : b ≠ Lg := fun q => hb (by simp [q])
    exact hk' b o (S2.extBut b o hb' (S1.extBut b o hb' e))
end

/-- the call of the generator's def: a fresh generator object -/
theorem gen_call {w : World} {mean : ExcName → Option Value} {mg mb : Str → Option Value} {A : Around} {E : Value → Shared → Prop} {s : Shared} {h₀ : Heap} {L : Nat} {m : Str → Option Value} {news : List (Addr × Obj)}
    {x : Str} {t : Tok} {Q : Value → Shared → Prop}
    (X : (hd.heap_39 w.params).In h₀) (T : Top hd.view_39 (looseW hd.view_39 [Str.ofString "EXACT_TOKEN_TYPES"]) mean mg mb h₀) (hroom : A.depth < recursionLimit)
    (F : Fr h₀ L s.heap m) (N : News h₀ L s.heap news) (hx : ∀ c ∈ x.cps, c ≠ 92)
    (ret : ∀ (gs : GenState) h' tk', Fr h₀ L h' m → News h₀ L h' news → h'.IsGen (s.heap.objs.size + 1) s.gens.size → h'.objs.size = s.heap.objs.size + 2 →
      (∀ b o, s.heap.get? b = some o → h'.get? b = some o) →
      (∀ (A' : Around) s', A'.handled = none → s'.heap = h' → gs.Goes (model Challenge.rw_sr0042_01.row.prog w) A' (GenR [s.heap.objs.size, s.heap.objs.size + 2, s.heap.objs.size + 2 + 1]) (GenY [s.heap.objs.size, s.heap.objs.size + 2, s.heap.objs.size + 2 + 1] h₀ x) x.cps.size (.send .none) s') →
      Q (.ref (s.heap.objs.size + 1)) { s with heap := h', toks := tk', gens := s.gens.push gs }) :
    wpAny (model Challenge.rw_sr0042_01.row.prog w) A (call (.ref 35) [.str x t]) Q E s := by
  obtain ⟨name, qual, params, body, scope, dV, kV, doc, pm, cdv, ct, oc, an, od, osl, h1, h2, h3⟩ := gen_body (w := w) (mean := mean) (mg := mg) (mb := mb) rfl
  obtain ⟨hgen, hco, hk, hcell, hloc, hbind, hbody⟩ := h3
  refine wpAny_call ?_
  have ho : s.heap.get? 35 = some ⟨oc, od, .func (fnOf name qual params body scope dV kV doc pm an cdv ct), osl⟩ := F.keep _ _ (X _ _ h1)
  refine codeAny_call_generator (fd := fnOf name qual params body scope dV kV doc pm an cdv ct) hroom ho rfl hco hgen rfl ((codeRec_of X h2).keeps F.keep) ?_
  rw [hbind]
  refine wpAny_pure (wpAny_newFunctionEnv hcell (by simpa using hloc) (fun h' hns hsb => ?_) hk)
  have hkeep : ∀ b o, s.heap.get? b = some o → h'.get? b = some o := fun b o e => hsb.extBut b o (Nat.ne_of_lt (Heap.lt_size e)) (Heap.get?_push_of_some _ e)
  have hsz : h'.objs.size = s.heap.objs.size + 1 := by rw [hsb.1]; exact Heap.size_push _ _
  refine ⟨(T.nolimit.keeps F.keep).keeps hkeep, ?_⟩
  dsimp only
  have hLlt := F.ns.lt
  rw [show Value.ref h'.objs.size = Value.ref (s.heap.objs.size + 1) by rw [hsz]]
  refine ret (.fresh (.func body (envX qual scope s.heap.objs.size 35 cdv []))) _ _ ⟨F.ns.keeps fun b o e => Heap.get?_push_of_some _ (hkeep b o e), fun b o e => Heap.get?_push_of_some _ (hkeep b o (F.keep b o e)), F.above⟩
    (fun p hp => ⟨Heap.get?_push_of_some _ (hkeep _ _ (N p hp).1), (N p hp).2⟩) ?_ ?_ (fun b o e => Heap.get?_push_of_some _ (hkeep b o e)) ?_
  · rw [← hsz]
    exact ⟨_, _, _, Heap.get?_push_size _ rfl, rfl, rfl, rfl⟩
  · rw [Heap.size_push, hsz]
  · intro A' s' hh hs'
    refine ⟨rfl, ?_⟩
    have F' : Fr h₀ s.heap.objs.size s'.heap (fun y => List.lookup y [(Str.ofString "addr", Value.str x t)]) := by
      rw [hs']
      refine ⟨Heap.Ns.push hns _, fun b o e => Heap.get?_push_of_some _ (hkeep b o (F.keep b o e)), ?_⟩
      exact Nat.le_trans F.above (Nat.le_of_lt hLlt)
    exact hbody A' h₀ s.heap.objs.size (s.heap.objs.size + 2) x t s' X T F' hh hx (by rw [hs', Heap.size_push, hsz])

section
variable {prog : Program} {w : World} {A : Around} {s : Shared} {env : Env} {h₀ : Heap} {body : List Stmt} {Q : Flow → Shared → Prop} {Eo : Value → Shared → Prop}

def GStepTo {σ : Type} (M : σ → Str → Option Value) (Led : σ → List (Addr × Obj)) (xi xc : Str) (h₀ : Heap) (L : Addr) (own : List (Addr × Obj)) (J : σ → Prop) (s₁ s₂ : Shared) : Prop :=
  ∃ h' tk m' c, s₂ = { s₁ with heap := h', toks := tk } ∧ Fr h₀ L h' m' ∧ (∀ y, y ≠ xi → y ≠ xc → m' y = M c y) ∧ News h₀ L h' (Led c ++ own) ∧ (∀ p ∈ Led c, ∀ q ∈ own, p.1 ≠ q.1) ∧ J c
def GStepEnd {σ : Type} (M : σ → Str → Option Value) (Led : σ → List (Addr × Obj)) (xi xc : Str) (h₀ : Heap) (L : Addr) (own : List (Addr × Obj)) (J : σ → Prop) (s₁ : Shared) (f : Flow) (s₂ : Shared) : Prop :=
  match f with
  | .next => GStepTo M Led xi xc h₀ L own J s₁ s₂
  | .cont => GStepTo M Led xi xc h₀ L own J s₁ s₂
  | _ => False

theorem GStepTo.intro {σ : Type} {M : σ → Str → Option Value} {Led : σ → List (Addr × Obj)} {xi xc : Str} {L : Addr} {own : List (Addr × Obj)} {J : σ → Prop} {s₁ : Shared} {h' : Heap} {tk : Nat} {m' : Str → Option Value} {nx : List (Addr × Obj)} (c : σ)
    (F : Fr h₀ L h' m') (N : News h₀ L h' nx) (hm : ∀ y, y ≠ xi → y ≠ xc → m' y = M c y) (hs : ∀ p ∈ Led c ++ own, p ∈ nx) (hd : ∀ p ∈ Led c, ∀ q ∈ own, p.1 ≠ q.1) (hJ : J c) :
    GStepTo M Led xi xc h₀ L own J s₁ { s₁ with heap := h', toks := tk } := ⟨h', tk, m', c, rfl, F, hm, fun p hp => N p (hs p hp), hd, hJ⟩
theorem letOwned_gen {elts : List Expr} {k : Nat} {pos : Pos} {Ga T g : Nat} {E : Value → Shared → Prop} {Q : Unit → Shared → Prop} (hg : s.heap.IsGen Ga g) (h : Q () s) :
    wpAny (model prog w) A (letOwnedTupleGo (.Tuple elts k pos) (.ref Ga) (.ref T)) Q E s := by
  obtain ⟨o, nm, qn, ho, hc, hd, _⟩ := hg
  unfold letOwnedTupleGo
  refine wpAny_bind (wpAny_load ho ?_)
  rw [hc, hd]
  exact wpAny_pure h

structure GInv {σ : Type} (M : σ → Str → Option Value) (Led : σ → List (Addr × Obj)) (J : Nat → σ → Prop) (prog : Program) (w : World) (A : Around) (L : Addr) (h₀ : Heap) (x xi xc : Str) (Lg G Ga g : Nat) (s : Shared) (n : Nat) (s' : Shared)
    (i : Nat) (h : Heap) (tk : Nat) (gens : Array GenState) (gs : GenState) (c : σ) (m' : Str → Option Value) : Prop where
  e : s' = { s with heap := h, toks := tk, gens := gens }
  en : n = x.cps.size + 1 - i
  hi : i ≤ x.cps.size
  hz : gens.size = s.gens.size
  hg : gens[g]? = some gs
  ho : ∀ j, j ≠ g → gens[j]? = s.gens[j]?
  lv : ∀ s', s'.heap = h → gs.Goes (model prog w) A.in1 (GenR [Lg, G, G + 1]) (GenY [Lg, G, G + 1] h₀ x) (x.cps.size - i) (.send .none) s'
  ig : h.IsGen Ga g
  F : Fr h₀ L h m'
  hm : ∀ y, y ≠ xi → y ≠ xc → m' y = M c y
  N : News h₀ L h (Led c)
  ds : ∀ p ∈ Led c, ∀ b ∈ [Ga, Lg, G, G + 1], p.1 ≠ b
  j : J i c
/-- a for loop over the generator: its pairs are (place, sign) of the text -/
theorem forGen {σ : Type} (M : σ → Str → Option Value) (Led : σ → List (Addr × Obj)) (J : Nat → σ → Prop) (c₀ : σ) {x : Str} {Lg G Ga g : Nat} {gs : GenState} {m₀ : Str → Option Value} {news : List (Addr × Obj)}
    {xi xc : Str} {p1 p2 p3 : Pos} {k : Nat}
    (hh : A.handled = none) (hroom : A.depth < recursionLimit) (hlim : h₀.NoLimit)
    (hxi : env.kindOf xi = some .local) (hxc : env.kindOf xc = some .local) (hp : (env.scope.kind == .class || (env.scope.kind == .module && env.locals != env.globals)) = false)
    (F : Fr h₀ env.locals s.heap m₀) (N : News h₀ env.locals s.heap news) (hs : ∀ p ∈ Led c₀, p ∈ news) (hm : ∀ y, y ≠ xi → y ≠ xc → m₀ y = M c₀ y)
    (hg : s.heap.IsGen Ga g) (hgs : s.gens[g]? = some gs)
    (hfree : ∀ b ∈ [Ga, Lg, G, G + 1], h₀.get? b = none ∧ b ≠ env.locals ∧ ∀ p ∈ news, p.1 ≠ b) (hGa : Ga ∉ [Lg, G, G + 1])
    (live : ∀ s', s'.heap = s.heap → gs.Goes (model prog w) A.in1 (GenR [Lg, G, G + 1]) (GenY [Lg, G, G + 1] h₀ x) x.cps.size (.send .none) s')
    (hj : J 0 c₀)
    (turn : ∀ i cc ti u c h tk gens own, x.cps[i]? = some cc → J i c → (∀ p ∈ Led c, ∀ q ∈ own, p.1 ≠ q.1) → Fr h₀ env.locals h (fun y => if y = xc then some (.str ⟨#[cc]⟩ u) else if y = xi then some (.int (i : Int) ti) else M c y) → News h₀ env.locals h (Led c ++ own) →
      wpAny (model prog w) A (execs body env) (GStepEnd M Led xi xc h₀ env.locals own (J (i + 1)) { s with heap := h, toks := tk, gens := gens }) NoE { s with heap := h, toks := tk, gens := gens })
    (done : ∀ c m' h tk gens, J x.cps.size c → (∀ y, y ≠ xi → y ≠ xc → m' y = M c y) → Fr h₀ env.locals h m' → News h₀ env.locals h (Led c) →
      gens.size = s.gens.size → gens[g]? = some .finished → (∀ j, j ≠ g → gens[j]? = s.gens[j]?) → Q .next { s with heap := h, toks := tk, gens := gens }) :
    codeAny (model prog w) A (.forLoop (.Tuple [.Name xi p1, .Name xc p2] k p3) (.ref Ga) body [] env) (fun r s' => match r with | .ok f => Q f s' | .error e => Eo e s') s := by
  refine codeAny_forLoop_any (fun n s' => ∃ i h tk gens gs c m', GInv M Led J prog w A env.locals h₀ x xi xc Lg G Ga g s n s' i h tk gens gs c m') ?_ (x.cps.size + 1)
    ⟨0, s.heap, s.toks, s.gens, gs, c₀, m₀, rfl, by omega, by omega, rfl, hgs, fun _ _ => rfl, by simpa using live, hg, F, hm, fun p hp => N p (hs p hp), fun p hp b hb => (hfree b hb).2.2 p (hs p hp), hj⟩
  rintro n s' ⟨i, h, tk, gens, gs', c, m', rfl, rfl, hi, hsz, hgs', hoth, hlive, hg', F', hm', N', hdis, hJ⟩
  refine wpAny_pyNext_gen (P := fun n s₀ s₁ => n = 0 ∧ GenKeep [Lg, G, G + 1] s₀ s₁) (Y := GenY [Lg, G, G + 1] h₀ x) (n := x.cps.size - i) hh (hlim.keeps F'.keep) hroom hg' hgs' (hlive _ rfl) ?_ ?_
  · rintro v s₁ gs'' ⟨⟨T, i', cc, ti, u, hin, hcc, rfl, hT0, hTp, hT⟩, ⟨⟨h₁, tk₁, rfl⟩, hk⟩, hall, hkap⟩
    have hglt : g < gens.size := (Array.getElem?_eq_some_iff.mp hgs').1
    have hk₀ : ∀ b o, h₀.get? b = some o → h₁.get? b = some o := fun b o e => hk b o (fun hb => by have := (hfree b (.tail _ hb)).1; rw [e] at this; cases this) (F'.keep b o e)
    have hpos : 0 < x.cps.size - i := by
      rcases Nat.eq_zero_or_pos (x.cps.size - i) with h0 | h0
      · exfalso
        have := hkap { (Shared.setGen { s with heap := h, toks := tk, gens := gens } g .running) with heap := h₁, toks := tk₁ } ⟨fun _ _ _ e => e, hk₀⟩
        rw [h0] at this
        exact this
      · exact h0
    obtain ⟨r, hr⟩ : ∃ r, x.cps.size - i = r + 1 := ⟨x.cps.size - i - 1, by omega⟩
    obtain rfl : i' = i := by omega
    rw [hr] at hkap
    dsimp only [Shared.setGen] at hkap hk hT ⊢
    have F₁ : Fr h₀ env.locals h₁ m' := ⟨F'.ns.at' fun o e => hk _ o (fun hb => (hfree _ (.tail _ hb)).2.1 rfl) e, hk₀, F'.above⟩
    have N₁ : News h₀ env.locals h₁ (Led c) := fun p hp => ⟨hk _ _ (fun hb => hdis p hp _ (.tail _ hb) rfl) (N' p hp).1, (N' p hp).2⟩
    have hg₁ : h₁.IsGen Ga g := let ⟨o, nm, qn, ho, r⟩ := hg'; ⟨o, nm, qn, hk _ _ hGa ho, r⟩
    refine letOwned_gen hg₁ ?_
    refine assign_Tuple_tuple hh (items := #[.int i' ti, .str ⟨#[cc]⟩ u]) ⟨_, hT, rfl, _, rfl⟩ rfl rfl (fun h₂ hE₂ => ?_)
    have hk₂ := keepOfExt hE₂
    have F₂ : Fr h₀ env.locals h₂ m' := Fr.moveTo F₁ (fun o e => hk₂ _ o e) (fun b o _ e => hk₂ b o e)
    refine assignInOrder_cons (wpAny_assign_Name (stH F₂ (fun h₃ F₃ S₃ => ?_) hxi hp))
    refine assignInOrder_cons (wpAny_assign_Name (stH F₃ (fun h₄ F₄ S₄ => ?_) hxc hp))
    refine assignInOrder_nil ?_
    dsimp only at S₃ S₄ F₃ F₄ ⊢
    have hk₄ : ∀ b o, b ≠ env.locals → h₁.get? b = some o → h₄.get? b = some o := fun b o hb e => S₄.extBut b o hb (S₃.extBut b o hb (hk₂ b o e))
    -- the objects of the generator's own
    let own : List (Addr × Obj) := [Ga, Lg, G, G + 1].filterMap fun b => (h₄.get? b).map fun o => (b, o)
    have hown1 : ∀ p ∈ own, p.1 ∈ [Ga, Lg, G, G + 1] ∧ h₄.get? p.1 = some p.2 := by
      intro p hp
      obtain ⟨b, hb, e⟩ := List.mem_filterMap.mp hp
      obtain ⟨o, ho, rfl⟩ := Option.map_eq_some_iff.mp e
      exact ⟨hb, ho⟩
    have hown2 : ∀ b ∈ [Ga, Lg, G, G + 1], ∀ o, h₄.get? b = some o → (b, o) ∈ own := fun b hb o ho => List.mem_filterMap.mpr ⟨b, hb, by rw [ho]; rfl⟩
    have N₄ : News h₀ env.locals h₄ (Led c ++ own) := by
      intro p hp
      rcases List.mem_append.mp hp with hp | hp
      · have := N₁ p hp
        exact ⟨hk₄ _ _ this.2.1 this.1, this.2⟩
      · obtain ⟨q1, q2⟩ := hown1 p hp
        exact ⟨q2, (hfree _ q1).2.1, (hfree _ q1).1⟩
    have F₅ : Fr h₀ env.locals h₄ (fun y => if y = xc then some (.str ⟨#[cc]⟩ u) else if y = xi then some (.int (i' : Int) ti) else M c y) := by
      refine Fr.same F₄ fun y => ?_
      by_cases q1 : y = xc
      · simp only [if_pos q1]
      · by_cases q2 : y = xi
        · simp only [if_neg q1, if_pos q2]
        · simp only [if_neg q1, if_neg q2]
          exact hm' y q2 q1
    refine wpAny_mono (turn i' cc ti u c h₄ _ _ own hcc hJ (fun p hp q hq => hdis p hp _ (hown1 q hq).1) F₅ N₄) (fun f s₃ hf => ?_) fun _ _ e => e.elim
    have fin : GStepTo M Led xi xc h₀ env.locals own (J (i' + 1)) { s with heap := h₄, toks := tk₁ + 1 + 1, gens := (gens.setIfInBounds g .running).setIfInBounds g gs'' } s₃ →
        ∃ m, m < x.cps.size + 1 - i' ∧ ∃ i h tk gens gs c m', GInv M Led J prog w A env.locals h₀ x xi xc Lg G Ga g s m s₃ i h tk gens gs c m' := by
      rintro ⟨h₅, tk₅, m₅, c₅, rfl, F₆, hm₅, N₅, hd₅, hJ₅⟩
      have hst : ∀ b ∈ [Ga, Lg, G, G + 1], ∀ o, h₁.get? b = some o → h₅.get? b = some o := fun b hb o e => (N₅ _ (List.mem_append.mpr (.inr (hown2 b hb o (hk₄ b o (hfree b hb).2.1 e))))).1
      refine ⟨x.cps.size + 1 - (i' + 1), by omega, i' + 1, h₅, tk₅, _, gs'', c₅, m₅, rfl, rfl, by omega, by simpa using hsz, ?_, ?_, ?_, ?_, F₆, hm₅, fun p hp => N₅ p (List.mem_append.mpr (.inl hp)), ?_, hJ₅⟩
      · simp [hglt]
      · intro j hj
        have hj' : g ≠ j := fun e => hj e.symm
        simp [hj', hoth j hj]
      · intro s'' hs''
        have := hkap s'' ⟨fun b hb o e => by rw [hs'']; exact hst b (.tail _ hb) o e, fun b o e => by rw [hs'']; exact F₆.keep b o e⟩
        rw [show x.cps.size - (i' + 1) = r by omega]
        exact this
      · obtain ⟨o, nm, qn, ho, r⟩ := hg₁
        exact ⟨o, nm, qn, hst _ (by simp) o ho, r⟩
      · intro p hp b hb e
        have hb4 : ∃ o, h₁.get? b = some o := by
          rcases List.mem_cons.mp hb with rfl | hb
          · obtain ⟨o, _, _, ho, _⟩ := hg₁
            exact ⟨o, ho⟩
          · exact hall b hb
        obtain ⟨o, ho⟩ := hb4
        exact hd₅ p hp _ (hown2 b hb o (hk₄ b o (hfree b hb).2.1 ho)) e
    cases f with
    | ret v => exact hf.elim
    | brk => exact hf.elim
    | next => exact fin hf
    | cont => exact fin hf
  · rintro s₁ ⟨hn, ⟨⟨h₁, tk₁, rfl⟩, hk⟩⟩ h₂ hk₂
    have hi' : i = x.cps.size := by omega
    subst hi'
    have hglt : g < gens.size := (Array.getElem?_eq_some_iff.mp hgs').1
    have hk₀ : ∀ b o, h₀.get? b = some o → h₁.get? b = some o := fun b o e => hk b o (fun hb => by have := (hfree b (.tail _ hb)).1; rw [e] at this; cases this) (F'.keep b o e)
    dsimp only [Shared.setGen] at hk hk₂ ⊢
    have F₁ : Fr h₀ env.locals h₁ m' := ⟨F'.ns.at' fun o e => hk _ o (fun hb => (hfree _ (.tail _ hb)).2.1 rfl) e, hk₀, F'.above⟩
    have N₁ : News h₀ env.locals h₁ (Led c) := fun p hp => ⟨hk _ _ (fun hb => hdis p hp _ (.tail _ hb) rfl) (N' p hp).1, (N' p hp).2⟩
    refine wpAny_execs_nil ?_
    refine done c m' h₂ tk₁ _ hJ hm' (Fr.moveTo F₁ (fun o e => hk₂ _ o e) (fun b o _ e => hk₂ b o e)) (fun p hp => ⟨hk₂ _ _ (N₁ p hp).1, (N₁ p hp).2⟩) (by simpa using hsz) (by simp [hglt]) ?_
    intro j hj
    have hj' : g ≠ j := fun e => hj e.symm
    simp [hj', hoth j hj]
end

structure RSt where
  start : Nat
  ts : Tok
  op : Option Nat
  opv : Value
  l : Addr
  vs : List Value
  xs : List Str
  n : Nat
def RSt.M (x : Str) (t : Tok) (c : RSt) : Str → Option Value := fun y => if y = Str.ofString "result" then some (.ref c.l) else if y = Str.ofString "open_pos" then some c.opv else if y = Str.ofString "start" then some (.int (c.start : Int) c.ts) else List.lookup y [(Str.ofString "addr", Value.str x t)]

abbrev QSt := Nat × Option Nat × List Str
def qStep (x : Str) (i c : Nat) (q : QSt) : QSt :=
  if c = 34 then match q.2.1 with
    | none => (q.1, some i, q.2.2)
    | some p => (i + 1, none, if q.1 = p then q.2.2 else q.2.2 ++ [Txt.slice x (some (q.1 : Int)) (some (p : Int))])
  else q
def qRun (x : Str) : Nat → QSt → List Nat → QSt
  | _, q, [] => q
  | i, q, c :: r => qRun x (i + 1) (qStep x i c q) r
def qAll (x : Str) : QSt := qRun x 0 (0, none, []) x.cps.toList
def realF (x : Str) : Str :=
  if 34 ∈ x.cps.toList then Txt.join (Str.ofString "") ((qAll x).2.2 ++ if (qAll x).1 < x.cps.size then [Txt.slice x (some ((qAll x).1 : Int)) none] else []) else x
structure RInv (x : Str) (news : List (Addr × Obj)) (i : Nat) (c : RSt) : Prop where
  j1 : StrsAre c.vs c.xs
  j2 : c.start ≤ i
  j3 : c.xs.length ≤ i
  j4 : (c.op = none ∧ c.opv = .none) ∨ ∃ p tp, c.op = some p ∧ c.opv = .int (p : Int) tp ∧ c.start ≤ p ∧ p < i
  j5 : ∀ p ∈ news, p.1 < c.l
  j6 : qRun x i (c.start, c.op, c.xs) (x.cps.toList.drop i) = qAll x
  j7 : ∀ y ∈ c.xs, y.length ≤ x.length
theorem gaOff (z : Nat) : z + 1 ∉ [z, z + 2, z + 2 + 1] := by
  simp only [List.mem_cons, List.not_mem_nil, or_false]
  omega
theorem quoteIs : Str.ofString "\"" = ⟨#[34]⟩ := by decide +kernel
theorem isQuote {c : Nat} : ((⟨#[c]⟩ : Str) == Str.ofString "\"") = true ↔ c = 34 := by
  rw [quoteIs]
  constructor
  · intro q
    have := beq_iff_eq.mp q
    simpa using this
  · rintro rfl; rfl
theorem noQuote {c : Nat} (h : ((⟨#[c]⟩ : Str) == Str.ofString "\"") = false) : c ≠ 34 := fun q => by rw [isQuote.mpr q] at h; cases h
theorem hasQuote {x : Str} (h : (Builtin.Str.occurrences x (Str.ofString "\"") 0 x.length 1).isEmpty = false) : 34 ∈ x.cps.toList := by
  rw [quoteIs] at h
  have := StrLaws.found_one x 34
  rw [h] at this
  exact of_decide_eq_true this.symm
theorem hasNoQuote {x : Str} (h : (Builtin.Str.occurrences x (Str.ofString "\"") 0 x.length 1).isEmpty = true) : 34 ∉ x.cps.toList := by
  rw [quoteIs] at h
  have := StrLaws.found_one x 34
  rw [h] at this
  exact of_decide_eq_false this.symm
theorem weight_le {n : Nat} : ∀ {ys : List Str}, (∀ y ∈ ys, y.length ≤ n) → (ys.map (·.length)).sum ≤ ys.length * n
  | [], _ => Nat.zero_le _
  | y :: r, h => by
    rw [List.map_cons, List.sum_cons, List.length_cons, Nat.succ_mul]
    have := weight_le fun z hz => h z (.tail _ hz)
    have := h y (.head _)
    omega
theorem weight_ok {n : Nat} {ys : List Str} (hn : n ≤ 500) (hy : ∀ y ∈ ys, y.length ≤ n) (hl : ys.length ≤ 501) : (ys.map (·.length)).sum + ys.length ≤ 1048576 := by
  have h1 := weight_le hy
  have h2 : ys.length * n ≤ 501 * 500 := Nat.mul_le_mul hl hn
  omega
theorem gensDone {a b : Array GenState} {g : Nat} {gs : GenState} (hg : g = a.size) (hz : b.size = (a.push gs).size) (hfin : b[g]? = some .finished) (hoth : ∀ j, j ≠ g → b[j]? = (a.push gs)[j]?) (x : AllBare a) : AllBare b := by
  intro y hy
  obtain ⟨j, hj, rfl⟩ := Array.mem_iff_getElem.mp hy
  by_cases e : j = g
  · have : b[j]? = some .finished := by rw [e]; exact hfin
    rw [Array.getElem?_eq_getElem hj] at this
    rw [Option.some.inj this]; rfl
  · have h2 := hoth j e
    rw [Array.getElem?_eq_getElem hj, Array.getElem?_push] at h2
    rw [if_neg (by rw [← hg]; exact e)] at h2
    exact x _ (Array.mem_of_getElem? h2.symm)
theorem cps_drop {x : Str} {i c : Nat} (h : x.cps[i]? = some c) : x.cps.toList.drop i = c :: x.cps.toList.drop (i + 1) := (drop_get (by simpa using h)).1

set_option maxHeartbeats 4000000 in
theorem realnames {w : World} {mean : ExcName → Option Value} {mg mb : Str → Option Value}
    {dp un : Nat} {gd : Option (List Code)} {cn : Str} {cs : Scope} {a : Addr} {ccd : Value} {cl : List (Str × Addr)} {outer : List Env} {A₀ : Around} {base h₀ : Heap} {L : Addr} {m : Str → Option Value} {news : List (Addr × Obj)} {s : Shared} {Q E : Value → Shared → Prop}
    {x : Str} {t : Tok}
    (B : Below A₀ base outer h₀) (F : Fr h₀ L s.heap m) (X : (hd.heap_39 w.params).In h₀) (N : News h₀ L s.heap news)
    (T : Top hd.view_39 (looseW hd.view_39 [Str.ofString "EXACT_TOKEN_TYPES"]) mean mg mb h₀) (hk : cs.kind = .function)
    (hx : ∀ c ∈ x.cps, c ≠ 92) (hxl : x.length ≤ 500) (hd : dp + 10 < recursionLimit) (hu : un + 100 < cLine)
    (ret : ∀ t' h' tk' gens', Fr h₀ L h' m → News h₀ L h' news → (AllBare s.gens → AllBare gens') → Q (.str (realF x) t') { s with heap := h', toks := tk', gens := gens' }) :
    wpAny (model Challenge.rw_sr0042_01.row.prog w) (ktrTop dp un gd cn cs L a ccd cl outer) (call (.ref 42) [.str x t]) Q E s := by
  revert X; k_fill; intro X
  k_with_none
  refine wpAny_call ?_
  k_dflt ktr_enter
  rename_i g' L' h' FG' F' N' B' X' T'
  change Fr _ _ _ (fun y => List.lookup y [(Str.ofString "addr", Value.str x t)]) at F'
  k_steps
  · rename ((List.isEmpty _) = true) => q
    rename Fr _ _ _ _ => kF
    rename News _ _ _ _ => kN
    have e : x = realF x := by rw [realF, if_neg (hasNoQuote q)]
    have r2 : ∀ tk', Q (.str x t) { s with heap := h', toks := tk', gens := s.gens } := fun tk' => by
      have := ret t h' tk' s.gens kF kN (fun z => z)
      rw [← e] at this
      exact this
    exact r2 _
  · rename ((List.isEmpty _) = false) => hq
    refine wpAny_For ?_ (by intro _; rfl)
    k_with "call ref" => (
      rename Fr _ _ _ _ => lF'
      rename News _ _ _ _ => lN'
      rename Heap => hcur
      refine gen_call X' T' ?hroom lF' lN' hx ?_
      case hroom => exact Nat.lt_of_le_of_lt (Nat.le_add_right _ 9) hd
      intro gs hg tkg Fg Ng hGen hGsz hGk hLive
      dsimp only at Fg Ng hGen hGsz hGk hLive ⊢)
    k_steps
    refine wpAny_pyIter_gen hGen ?_
    rename_i l1
    refine forGen (σ := RSt) (x := x) (gs := gs) (Lg := hcur.objs.size) (G := hcur.objs.size + 2) (RSt.M x t) (fun c => (c.l, listOf c.vs.toArray c.n) :: news)
      (RInv x news)
      ⟨0, _, none, .none, _, [], [], 0⟩ rfl (Nat.lt_of_le_of_lt (Nat.le_add_right _ 9) hd) T'.nolimit rfl rfl rfl Fg Ng (fun _ q => q) (fun _ _ _ => rfl) hGen ?hgs ?hfree ?hGa ?live ?hj ?turn ?done
    case hgs => simp
    case hfree =>
      have hLc : L' < hcur.objs.size := lF'.ns.lt
      have hab : g'.objs.size ≤ L' := lF'.above
      intro b hb
      have hbig : hcur.objs.size ≤ b := by
        simp only [List.mem_cons, List.not_mem_nil, or_false] at hb
        rcases hb with rfl | rfl | rfl | rfl <;> first | exact Nat.le_refl _ | exact Nat.le_add_right _ _ | exact Nat.le_trans (Nat.le_add_right _ 2) (Nat.le_add_right _ 1)
      refine ⟨Heap.get?_none_of_le (Nat.le_trans hab (Nat.le_trans (Nat.le_of_lt hLc) hbig)), Nat.ne_of_gt (Nat.lt_of_lt_of_le hLc hbig), fun p hp => ?_⟩
      exact Nat.ne_of_lt (Nat.lt_of_lt_of_le (Heap.lt_size (lN' p hp).1) hbig)
    case hGa => exact gaOff _
    case live => exact fun s' hs' => hLive _ s' rfl hs'
    case hj => exact ⟨.nil, Nat.le_refl _, Nat.le_refl _, .inl ⟨rfl, rfl⟩, by assumption, rfl, fun _ h => nomatch h⟩
    case turn =>
      rintro i cc ti u c h1 tk1 gens1 own hcc ⟨J1, J2, J3, J4, J5, J6, J7⟩ hdis F1 N1
      dsimp only [RSt.M] at F1
      simp only [List.cons_append] at N1
      clear Fg Ng hLive
      have hi : i < x.cps.size := (Array.getElem?_eq_some_iff.mp hcc).1
      have hne : ∀ p ∈ news ++ own, p.1 ≠ c.l := by
        intro p hp
        rcases List.mem_append.mp hp with hp | hp
        · exact Nat.ne_of_lt (J5 p hp)
        · exact fun e => hdis _ (.head _) p hp e.symm
      rw [cps_drop hcc, qRun] at J6
      have hvl : c.vs.toArray.size ≤ sizeLine := by
        have := J1.length
        rw [sizeLine_eq]
        simp only [List.size_toArray]
        have : x.cps.size ≤ 500 := hxl
        omega
      k_with "call builtin:list.append" => (
        rename Fr _ _ _ _ => lF2
        rename News _ _ _ _ => lN2
        refine append_K lF2 lN2 (Upd.head hne) ?_ hvl)
      rcases J4 with ⟨hop, hopv⟩ | ⟨p, tp, hop, hopv, hsp, hpi⟩ <;> rw [hopv] at F1
      all_goals k_steps
      · rename ((_ == _) = true) => q
        rename Fr _ _ _ _ => kF
        rename News _ _ _ _ => kN
        have qc := isQuote.mp q
        rw [qStep, if_pos qc, hop] at J6
        refine GStepTo.intro ⟨c.start, c.ts, some i, .int (i : Int) ti, c.l, c.vs, c.xs, c.n⟩ kF kN ?_ (fun _ z => z) hdis ⟨J1, Nat.le_succ_of_le J2, Nat.le_succ_of_le J3, .inr ⟨i, ti, rfl, rfl, J2, Nat.lt_succ_self _⟩, J5, J6, J7⟩
        intro y y1 y2
        by_cases q1 : y = Str.ofString "open_pos"
        · subst q1; rfl
        · simp only [RSt.M, if_neg q1, if_neg y1, if_neg y2]
      · rename ((_ == _) = false) => q
        rename Fr _ _ _ _ => kF
        rename News _ _ _ _ => kN
        have qc := noQuote q
        rw [qStep, if_neg qc] at J6
        refine GStepTo.intro ⟨c.start, c.ts, c.op, .none, c.l, c.vs, c.xs, c.n⟩ kF kN ?_ (fun _ z => z) hdis ⟨J1, Nat.le_succ_of_le J2, Nat.le_succ_of_le J3, .inl ⟨hop, rfl⟩, J5, J6, J7⟩
        intro y y1 y2
        simp only [RSt.M, if_neg y1, if_neg y2]
      · rename ((_ == _) = true) => q
        rename ((_ : Int) ≠ _) => hne2
        rename Fr _ _ _ _ => kF
        rename News _ _ _ _ => kN
        have qc := isQuote.mp q
        have hne3 : c.start ≠ p := fun e => hne2 (by rw [e])
        rw [List.push_toArray] at kN
        rw [qStep, if_pos qc, hop] at J6
        dsimp only at J6
        rw [if_neg hne3] at J6
        refine GStepTo.intro ⟨i + 1, _, none, .none, c.l, _, _, c.n + 1⟩ kF kN (by
          intro y y1 y2
          by_cases q2 : y = Str.ofString "start"
          · subst q2; rfl
          · by_cases q1 : y = Str.ofString "open_pos"
            · subst q1; rfl
            · simp only [RSt.M, if_neg q1, if_neg q2, if_neg y1, if_neg y2]) (fun _ z => z) ?_ ⟨StrsAre.append' J1 (.cons _ _ .nil), Nat.le_refl _, ?_, .inl ⟨rfl, rfl⟩, J5, J6, ?_⟩
        · intro p' hp'
          rcases List.mem_cons.mp hp' with rfl | hp'
          · exact fun z hz => hdis (c.l, listOf c.vs.toArray c.n) (.head _) z hz
          · exact hdis _ (.tail _ hp')
        · simp only [List.length_append, List.length_cons, List.length_nil]; omega
        · intro y hy
          rcases List.mem_append.mp hy with hy | hy
          · exact J7 y hy
          · rw [List.mem_singleton.mp hy]; exact Txt.slice_le _ _ _
      · rename ((_ == _) = true) => q
        rename Fr _ _ _ _ => kF
        rename News _ _ _ _ => kN
        have qc := isQuote.mp q
        have hne3 : c.start = p := by omega
        rw [qStep, if_pos qc, hop] at J6
        dsimp only at J6
        rw [if_pos hne3] at J6
        refine GStepTo.intro ⟨i + 1, _, none, .none, c.l, c.vs, c.xs, c.n⟩ kF kN (by
          intro y y1 y2
          by_cases q2 : y = Str.ofString "start"
          · subst q2; rfl
          · by_cases q1 : y = Str.ofString "open_pos"
            · subst q1; rfl
            · simp only [RSt.M, if_neg q1, if_neg q2, if_neg y1, if_neg y2]) (fun _ z => z) hdis ⟨J1, Nat.le_refl _, Nat.le_succ_of_le J3, .inl ⟨rfl, rfl⟩, J5, J6, J7⟩
      · rename ((_ == _) = false) => q
        rename Fr _ _ _ _ => kF
        rename News _ _ _ _ => kN
        have qc := noQuote q
        rw [qStep, if_neg qc] at J6
        refine GStepTo.intro ⟨c.start, c.ts, c.op, .int (p : Int) tp, c.l, c.vs, c.xs, c.n⟩ kF kN ?_ (fun _ z => z) hdis ⟨J1, Nat.le_succ_of_le J2, Nat.le_succ_of_le J3, .inr ⟨p, tp, hop, rfl, hsp, Nat.lt_succ_of_lt hpi⟩, J5, J6, J7⟩
        intro y y1 y2
        simp only [RSt.M, if_neg y1, if_neg y2]
    case done =>
      rintro c m' h1 tk1 gens1 ⟨J1, J2, J3, J4, J5, J6, J7⟩ hm' F1 N1 hz hfin hoth
      have F2 : Fr g' L' h1 (fun y => if y = Str.ofString "ch" then m' (Str.ofString "ch") else if y = Str.ofString "pos" then m' (Str.ofString "pos") else RSt.M x t c y) := Fr.same F1 fun y => by
        by_cases q1 : y = Str.ofString "ch"
        · rw [if_pos q1, q1]
        · by_cases q2 : y = Str.ofString "pos"
          · rw [if_neg q1, if_pos q2, q2]
          · simp only [if_neg q1, if_neg q2]
            exact hm' y q2 q1
      dsimp only [RSt.M] at F2
      clear Fg Ng hLive F1
      change News g' L' h1 ((c.l, listOf c.vs.toArray c.n) :: news) at N1
      have hne : ∀ p ∈ news, p.1 ≠ c.l := fun p hp => Nat.ne_of_lt (J5 p hp)
      have hxz : x.cps.size ≤ 500 := hxl
      have hvl : c.vs.toArray.size ≤ sizeLine := by
        have := J1.length
        rw [sizeLine_eq]
        simp only [List.size_toArray]
        omega
      k_with "call builtin:list.append" => (
        rename Fr _ _ _ _ => lF2
        rename News _ _ _ _ => lN2
        refine append_K lF2 lN2 (Upd.head hne) ?_ hvl)
      k_steps
      · rename Fr _ _ _ _ => lF2
        rename News _ _ _ _ => lN2
        rename ((_ : Int) < _) => hlt
        have hlt2 : c.start < x.cps.size := by
          have : ((x.length : Nat) : Int) = (x.cps.size : Int) := rfl
          omega
        rw [List.push_toArray] at lN2
        rw [List.drop_of_length_le (by simp), qRun] at J6
        refine join_listW (ys := c.xs ++ [Txt.slice x (some (c.start : Int)) none]) ⟨_, (lN2 _ (.head _)).1, rfl, _, rfl⟩ (StrsAre.append' J1 (.cons _ _ .nil)) (by decide +kernel) (weight_ok hxl ?_ ?_) ?_
        · intro y hy
          rcases List.mem_append.mp hy with hy | hy
          · exact J7 y hy
          · rw [List.mem_singleton.mp hy]; exact Txt.slice_le _ _ _
        · simp only [List.length_append, List.length_cons, List.length_nil]; omega
        · intro t' k'
          k_steps
          rename Fr _ _ _ _ => kF
          rename News _ _ _ _ => kN
          have e : Txt.join (Str.ofString "") (c.xs ++ [Txt.slice x (some (c.start : Int)) none]) = realF x := by
            rw [realF, if_pos (hasQuote hq), ← J6, if_pos hlt2]
          rw [e]
          exact ret t' _ _ gens1 kF (fun p hp => kN p (.tail _ hp)) (gensDone rfl hz hfin hoth)
      · rename (¬ (_ : Int) < _) => hlt
        have hlt2 : ¬ c.start < x.cps.size := by
          have : ((x.length : Nat) : Int) = (x.cps.size : Int) := rfl
          omega
        rw [List.drop_of_length_le (by simp), qRun] at J6
        refine join_listW (ys := c.xs) ⟨_, (N1 _ (.head _)).1, rfl, _, rfl⟩ J1 (by decide +kernel) (weight_ok hxl J7 (by omega)) ?_
        intro t' k'
        k_steps
        rename Fr _ _ _ _ => kF
        rename News _ _ _ _ => kN
        have e : Txt.join (Str.ofString "") c.xs = realF x := by
          rw [realF, if_pos (hasQuote hq), ← J6, if_neg hlt2, List.append_nil]
        rw [e]
        exact ret t' _ _ gens1 kF (fun p hp => kN p (.tail _ hp)) (gensDone rfl hz hfin hoth)

section
open Builtin Builtin.Str StrLaws
theorem occ_hi (x : Str) (c hi : Nat) (hh : hi ≤ x.length) :
    (occurrences x ⟨#[c]⟩ 0 hi 1 = [] ∧ ∀ v, v < hi → x.cps.toList[v]? ≠ some c) ∨
    ∃ k r, occurrences x ⟨#[c]⟩ 0 hi 1 = k :: r ∧ k < hi ∧ x.cps.toList[k]? = some c ∧ ∀ v, v < k → x.cps.toList[v]? ≠ some c := by
  have one : ∀ i, At x ⟨#[c]⟩ hi i ↔ i < hi ∧ x.cps.toList[i]? = some c := by
    intro i
    have h1 := subAt_one x c i
    constructor
    · rintro ⟨a, b⟩
      have a' : i + 1 ≤ hi := a
      exact ⟨a', h1.mp ⟨Nat.le_trans a hh, b⟩⟩
    · rintro ⟨a, b⟩
      exact ⟨a, (h1.mpr b).2⟩
  rw [occ_eq]
  rcases occ_first x ⟨#[c]⟩ hi 1 (Nat.le_refl 1) (List.range' 0 (hi + 1 - 0)) 0 (fun i _ => Nat.zero_le i) with ⟨h0, hn⟩ | ⟨pre, a, post, e, h0, ha, hn⟩
  · refine .inl ⟨by rw [h0], fun v hv he => ?_⟩
    exact hn v (by rw [List.mem_range'_1]; omega) ((one v).mpr ⟨hv, he⟩)
  · have hs := range'_split_from e
    refine .inr ⟨a, ((forIn (List.range' 0 (hi + 1 - 0)) ((#[] : Array Nat), 0) (occBody x ⟨#[c]⟩ hi 1)).run.fst.toList).tail, ?_, ((one a).mp ha).1, ((one a).mp ha).2, fun v hv he => ?_⟩
    · generalize (forIn (List.range' 0 (hi + 1 - 0)) ((#[] : Array Nat), 0) (occBody x ⟨#[c]⟩ hi 1)).run.fst = arr at h0
      have h1 : arr.toList[0]? = some a := by simpa using h0
      cases hL : arr.toList with
      | nil => rw [hL] at h1; cases h1
      | cons b t => rw [hL] at h1; simp at h1; rw [h1]; rfl
    · exact hn v (hs.2 v (Nat.zero_le _) hv) ((one v).mpr ⟨Nat.lt_trans hv ((one a).mp ha).1, he⟩)

theorem last_hi (x : Str) (c hi : Nat) (hh : hi ≤ x.length) :
    (lastOccurrence x ⟨#[c]⟩ 0 hi = none ∧ ∀ v, v < hi → x.cps.toList[v]? ≠ some c) ∨
    ∃ k, lastOccurrence x ⟨#[c]⟩ 0 hi = some k ∧ k < hi ∧ x.cps.toList[k]? = some c ∧ ∀ v, k < v → v < hi → x.cps.toList[v]? ≠ some c := by
  have one : ∀ i, At x ⟨#[c]⟩ hi i ↔ i < hi ∧ x.cps.toList[i]? = some c := by
    intro i
    have h1 := subAt_one x c i
    constructor
    · rintro ⟨a, b⟩
      have a' : i + 1 ≤ hi := a
      exact ⟨a', h1.mp ⟨Nat.le_trans a hh, b⟩⟩
    · rintro ⟨a, b⟩
      exact ⟨a, (h1.mpr b).2⟩
  rw [last_eq]
  have key := last_run x ⟨#[c]⟩ hi (List.range' 0 (hi + 1 - 0)) [] none (fun _ h => nomatch h) (fun _ h => nomatch h) (by simpa using List.pairwise_lt_range' (s := 0) (n := hi + 1 - 0))
  have mem : ∀ i, At x ⟨#[c]⟩ hi i → i ∈ [] ++ List.range' 0 (hi + 1 - 0) := fun i hi' => by have := ((one i).mp hi').1; rw [List.nil_append, List.mem_range'_1]; omega
  cases hr : (forIn (List.range' 0 (hi + 1 - 0)) none (lastBody x ⟨#[c]⟩ hi)).run with
  | none => rw [hr] at key; exact .inl ⟨rfl, fun v hv he => key v (mem v ((one v).mpr ⟨hv, he⟩)) ((one v).mpr ⟨hv, he⟩)⟩
  | some a =>
    rw [hr] at key
    exact .inr ⟨a, rfl, ((one a).mp key.1).1, ((one a).mp key.1).2, fun v h1 h2 he => key.2 v (mem v ((one v).mpr ⟨h2, he⟩)) h1 ((one v).mpr ⟨h2, he⟩)⟩

theorem gives_find4 (x y : Str) (hi : Nat) (hh : hi ≤ x.length) (t u v v' : Tok) : Gives («str.find» ⟨[.str x t, .str y u, .int 0 v, .int (hi : Int) v'], []⟩) (.int (match occurrences x y 0 hi 1 with | k :: _ => (k : Int) | [] => -1)) := by
  have e : min (fromIndex x.length (hi : Int)) x.length = hi := by
    unfold fromIndex
    omega
  show Gives (match occurrences x y (fromIndex x.length 0) (min (fromIndex x.length (hi : Int)) x.length) 1 with | k :: _ => retInt k | [] => (do rule "str.find.not-found"; retInt (-1))) _
  rw [e, show fromIndex x.length 0 = 0 from by unfold fromIndex; omega]
  cases occurrences x y 0 hi 1 with
  | nil => exact .rule (.of_eq rfl)
  | cons k _ => exact .of_eq rfl
theorem gives_rfind4 (x y : Str) (hi : Nat) (hh : hi ≤ x.length) (t u v v' : Tok) : Gives («str.rfind» ⟨[.str x t, .str y u, .int 0 v, .int (hi : Int) v'], []⟩) (.int (match lastOccurrence x y 0 hi with | some k => (k : Int) | none => -1)) := by
  have e : min (fromIndex x.length (hi : Int)) x.length = hi := by
    unfold fromIndex
    omega
  show Gives (match lastOccurrence x y (fromIndex x.length 0) (min (fromIndex x.length (hi : Int)) x.length) with | some k => retInt k | none => (do rule "str.rfind.not-found"; retInt (-1))) _
  rw [e, show fromIndex x.length 0 = 0 from by unfold fromIndex; omega]
  cases lastOccurrence x y 0 hi with
  | none => exact .rule (.of_eq rfl)
  | some k => exact .of_eq rfl
end

def FndD (x : Str) (c hi : Nat) (r : Int) : Prop :=
  (r = -1 ∧ ∀ v, v < hi → x.cps.toList[v]? ≠ some c) ∨ ∃ k : Nat, r = (k : Int) ∧ k < hi ∧ x.cps.toList[k]? = some c ∧ ∀ v, v < k → x.cps.toList[v]? ≠ some c
def LstD (x : Str) (c hi : Nat) (r : Int) : Prop :=
  (r = -1 ∧ ∀ v, v < hi → x.cps.toList[v]? ≠ some c) ∨ ∃ k : Nat, r = (k : Int) ∧ k < hi ∧ x.cps.toList[k]? = some c ∧ ∀ v, k < v → v < hi → x.cps.toList[v]? ≠ some c
section
variable {prog : Program} {w : World} {A : Around} {E : Value → Shared → Prop} {s : Shared} {x y : Str} {t u v v' : Tok} {c hi : Nat} {Q : Value → Shared → Prop}
theorem find2 (hy : y = ⟨#[c]⟩) (h : ∀ r, -1 ≤ r → r < (x.length : Int) ∨ r = -1 → FndD x c x.length r → Q (.int r s.toks) { s with toks := s.toks + 1 }) :
    wpAny (model prog w) A (call (.builtin "str.find") [.str x t, .str y u]) Q E s := by
  subst hy
  refine SC.find ?_
  unfold Txt.find
  rcases occ_hi x c x.length (Nat.le_refl _) with ⟨e, hn⟩ | ⟨k, r, e, hk, hc, hn⟩
  · rw [e]; exact h _ (Int.le_refl _) (.inr rfl) (.inl ⟨rfl, hn⟩)
  · rw [e]; exact h _ (by show (-1 : Int) ≤ (k : Int); omega) (.inl (by show (k : Int) < _; omega)) (.inr ⟨k, rfl, hk, hc, hn⟩)
theorem find4 {j : Int} (hy : y = ⟨#[c]⟩) (hh : 0 ≤ j ∧ j ≤ x.length) (h : ∀ r, -1 ≤ r → r < j ∨ r = -1 → FndD x c j.toNat r → Q (.int r s.toks) { s with toks := s.toks + 1 }) :
    wpAny (model prog w) A (call (.builtin "str.find") [.str x t, .str y u, .int 0 v, .int j v']) Q E s := by
  subst hy
  obtain ⟨hi, rfl⟩ := Int.eq_ofNat_of_zero_le hh.1
  have hh' : hi ≤ x.length := by omega
  refine call_gives F.slot_str_find (typeIs_str _ _ _) F.entry_str_find (F.args_str_find_4 _ _ _ _) (gives_find4 x ⟨#[c]⟩ hi hh' t u v v') ?_
  rcases occ_hi x c hi hh' with ⟨e, hn⟩ | ⟨k, r, e, hk, hc, hn⟩
  · rw [e]; exact h _ (Int.le_refl _) (.inr rfl) (.inl ⟨rfl, hn⟩)
  · rw [e]; exact h _ (by show (-1 : Int) ≤ (k : Int); omega) (.inl (by show (k : Int) < _; omega)) (.inr ⟨k, rfl, hk, hc, hn⟩)
theorem rfind4 {j : Int} (hy : y = ⟨#[c]⟩) (hh : 0 ≤ j ∧ j ≤ x.length) (h : ∀ r, -1 ≤ r → r < j ∨ r = -1 → LstD x c j.toNat r → Q (.int r s.toks) { s with toks := s.toks + 1 }) :
    wpAny (model prog w) A (call (.builtin "str.rfind") [.str x t, .str y u, .int 0 v, .int j v']) Q E s := by
  subst hy
  obtain ⟨hi, rfl⟩ := Int.eq_ofNat_of_zero_le hh.1
  have hh' : hi ≤ x.length := by omega
  refine call_gives F.slot_str_rfind (typeIs_str _ _ _) F.entry_str_rfind (F.args_str_rfind_4 _ _ _ _) (gives_rfind4 x ⟨#[c]⟩ hi hh' t u v v') ?_
  rcases last_hi x c hi hh' with ⟨e, hn⟩ | ⟨k, e, hk, hc, hn⟩
  · rw [e]; exact h _ (Int.le_refl _) (.inr rfl) (.inl ⟨rfl, hn⟩)
  · rw [e]; exact h _ (by show (-1 : Int) ≤ (k : Int); omega) (.inl (by show (k : Int) < _; omega)) (.inr ⟨k, rfl, hk, hc, hn⟩)
end
def upTo (c : Nat) (xs : List Nat) : List Nat := xs.takeWhile (fun a => a ≠ c)
def behind (c : Nat) (xs : List Nat) : List Nat := (upTo c xs.reverse).reverse
def detF (x : Str) : Str := ⟨(behind 46 (upTo 58 (upTo 10 x.cps.toList))).toArray⟩
theorem upTo_hit {c : Nat} : ∀ {xs : List Nat} {k : Nat}, xs[k]? = some c → (∀ v, v < k → xs[v]? ≠ some c) → upTo c xs = xs.take k
  | [], k, h, _ => by simp at h
  | a :: r, 0, h, _ => by simp at h; subst h; simp [upTo]
  | a :: r, k + 1, h, hn => by
    have ha : a ≠ c := fun e => hn 0 (Nat.succ_pos _) (by simp [e])
    have := upTo_hit (c := c) (xs := r) (k := k) (by simpa using h) (fun v hv => by have := hn (v + 1) (Nat.succ_lt_succ hv); simpa using this)
    simp only [upTo] at this ⊢
    rw [List.takeWhile_cons, if_pos (by simpa using ha), this, List.take_succ_cons]
theorem upTo_none {c : Nat} : ∀ {xs : List Nat}, (∀ v, v < xs.length → xs[v]? ≠ some c) → upTo c xs = xs
  | [], _ => rfl
  | a :: r, hn => by
    have ha : a ≠ c := fun e => hn 0 (Nat.succ_pos _) (by simp [e])
    have := upTo_none (c := c) (xs := r) (fun v hv => by have := hn (v + 1) (Nat.succ_lt_succ hv); simpa using this)
    simp only [upTo] at this ⊢
    rw [List.takeWhile_cons, if_pos (by simpa using ha), this]
theorem behind_none {c : Nat} {xs : List Nat} (hn : ∀ v, v < xs.length → xs[v]? ≠ some c) : behind c xs = xs := by
  unfold behind
  rw [upTo_none, List.reverse_reverse]
  intro v hv he
  have hv' : v < xs.length := by simpa using hv
  rw [List.getElem?_reverse hv'] at he
  exact hn _ (by omega) he
theorem behind_hit {c : Nat} {xs : List Nat} {k : Nat} (h : xs[k]? = some c) (hn : ∀ v, k < v → v < xs.length → xs[v]? ≠ some c) : behind c xs = xs.drop (k + 1) := by
  have hk : k < xs.length := (List.getElem?_eq_some_iff.mp h).1
  unfold behind
  rw [upTo_hit (k := xs.length - 1 - k)]
  · rw [show xs.length - 1 - k = xs.length - (k + 1) by omega, ← List.reverse_drop, List.reverse_reverse]
  · rw [List.getElem?_reverse (by omega)]
    rw [← h]; congr 1; omega
  · intro v hv he
    rw [List.getElem?_reverse (by omega)] at he
    exact hn _ (by omega) (by omega) he
theorem slice_nat (x : Str) {a b : Nat} (hab : a ≤ b) (hb : b ≤ x.length) : Txt.slice x (some (a : Int)) (some (b : Int)) = ⟨((x.cps.toList.take b).drop a).toArray⟩ := by
  have e : Txt.slice x (some (a : Int)) (some (b : Int)) = StrLaws.sliceText x (some (a : Int)) (some (b : Int)) := rfl
  rw [e, StrLaws.sliceText_nat x hab hb, List.drop_take]
theorem nlIs : Str.ofString "\n" = ⟨#[10]⟩ := by decide +kernel
theorem colonIs : Str.ofString ":" = ⟨#[58]⟩ := by decide +kernel
theorem dotIs : Str.ofString "." = ⟨#[46]⟩ := by decide +kernel
/-- the answer, put together from the three looks -/
theorem detIs {x : Str} {e1 e2 : Nat} (h1 : e1 ≤ x.length) (u1 : upTo 10 x.cps.toList = x.cps.toList.take e1) (h2 : e2 ≤ e1)
    (u2 : upTo 58 (x.cps.toList.take e1) = x.cps.toList.take e2) {st : Nat} (hst : st ≤ e2) (u3 : behind 46 (x.cps.toList.take e2) = (x.cps.toList.take e2).drop st) :
    Txt.slice x (some (st : Int)) (some (e2 : Int)) = detF x := by
  rw [slice_nat x hst (Nat.le_trans h2 h1), detF, u1, u2, u3]
theorem lenIs (x : Str) : x.cps.toList.length = x.length := by simp [Str.length]
theorem up1_none {x : Str} {c : Nat} (h : ∀ v, v < x.length → x.cps.toList[v]? ≠ some c) : upTo c x.cps.toList = x.cps.toList.take x.length := by
  rw [upTo_none (by rw [lenIs]; exact h), List.take_of_length_le (by rw [lenIs]; exact Nat.le_refl _)]
theorem up2_none {xs : List Nat} {c e : Nat} (h : ∀ v, v < e → xs[v]? ≠ some c) : upTo c (xs.take e) = xs.take e := by
  refine upTo_none fun v hv he => ?_
  have hv' : v < e := Nat.lt_of_lt_of_le hv (by simp; omega)
  rw [List.getElem?_take_of_lt hv'] at he
  exact h v hv' he
theorem up2_hit {xs : List Nat} {c e k : Nat} (hk : k < e) (h : xs[k]? = some c) (hn : ∀ v, v < k → xs[v]? ≠ some c) : upTo c (xs.take e) = xs.take k := by
  rw [upTo_hit (k := k) (by rw [List.getElem?_take_of_lt hk]; exact h) (fun v hv => by rw [List.getElem?_take_of_lt (Nat.lt_trans hv hk)]; exact hn v hv), List.take_take, Nat.min_eq_left (Nat.le_of_lt hk)]
theorem be_none {xs : List Nat} {c e : Nat} (h : ∀ v, v < e → xs[v]? ≠ some c) : behind c (xs.take e) = (xs.take e).drop 0 := by
  rw [List.drop_zero]
  refine behind_none fun v hv he => ?_
  have hv' : v < e := Nat.lt_of_lt_of_le hv (by simp; omega)
  rw [List.getElem?_take_of_lt hv'] at he
  exact h v hv' he
theorem be_hit {xs : List Nat} {c e k : Nat} (hk : k < e) (h : xs[k]? = some c) (hn : ∀ v, k < v → v < e → xs[v]? ≠ some c) : behind c (xs.take e) = (xs.take e).drop (k + 1) := by
  refine behind_hit (by rw [List.getElem?_take_of_lt hk]; exact h) fun v h1 h2 he => ?_
  have hv' : v < e := Nat.lt_of_lt_of_le h2 (by simp; omega)
  rw [List.getElem?_take_of_lt hv'] at he
  exact hn v h1 hv' he

theorem detEnd {x : Str} {i1 e1 i2 e2 i3 st : Int} (hD1 : FndD x 10 x.length i1) (he1 : (0 ≤ i1 ∧ e1 = i1) ∨ (¬ 0 ≤ i1 ∧ e1 = (x.length : Int))) (hD2 : FndD x 58 e1.toNat i2) (he2 : (0 ≤ i2 ∧ e2 = i2) ∨ (¬ 0 ≤ i2 ∧ e2 = e1))
    (hD3 : LstD x 46 e2.toNat i3) (hst : (0 ≤ i3 ∧ st = i3 + 1) ∨ (¬ 0 ≤ i3 ∧ st = 0)) : Txt.slice x (some st) (some e2) = detF x := by
  obtain ⟨n1, rfl, h1, u1⟩ : ∃ n1 : Nat, e1 = (n1 : Int) ∧ n1 ≤ x.length ∧ upTo 10 x.cps.toList = x.cps.toList.take n1 := by
    rcases hD1 with ⟨rfl, hn⟩ | ⟨k, rfl, hk, hc, hn⟩
    · exact ⟨x.length, by omega, Nat.le_refl _, up1_none hn⟩
    · exact ⟨k, by omega, Nat.le_of_lt hk, upTo_hit hc hn⟩
  rw [Int.toNat_natCast] at hD2
  obtain ⟨n2, rfl, h2, u2⟩ : ∃ n2 : Nat, e2 = (n2 : Int) ∧ n2 ≤ n1 ∧ upTo 58 (x.cps.toList.take n1) = x.cps.toList.take n2 := by
    rcases hD2 with ⟨rfl, hn⟩ | ⟨k, rfl, hk, hc, hn⟩
    · exact ⟨n1, by omega, Nat.le_refl _, up2_none hn⟩
    · exact ⟨k, by omega, Nat.le_of_lt hk, up2_hit hk hc hn⟩
  rw [Int.toNat_natCast] at hD3
  obtain ⟨n3, rfl, h3, u3⟩ : ∃ n3 : Nat, st = (n3 : Int) ∧ n3 ≤ n2 ∧ behind 46 (x.cps.toList.take n2) = (x.cps.toList.take n2).drop n3 := by
    rcases hD3 with ⟨rfl, hn⟩ | ⟨k, rfl, hk, hc, hn⟩
    · exact ⟨0, by omega, Nat.zero_le _, be_none hn⟩
    · exact ⟨k + 1, by omega, hk, be_hit hk hc hn⟩
  exact detIs h1 u1 h2 u2 h3 u3

set_option maxHeartbeats 4000000 in
theorem details {w : World} {mean : ExcName → Option Value} {mg mb : Str → Option Value}
    {dp un : Nat} {gd : Option (List Code)} {cn : Str} {cs : Scope} {a : Addr} {ccd : Value} {cl : List (Str × Addr)} {outer : List Env} {A₀ : Around} {base h₀ : Heap} {L : Addr} {m : Str → Option Value} {news : List (Addr × Obj)} {s : Shared} {Q E : Value → Shared → Prop}
    {x : Str} {t : Tok}
    (B : Below A₀ base outer h₀) (F : Fr h₀ L s.heap m) (X : (hd.heap_39 w.params).In h₀) (N : News h₀ L s.heap news)
    (T : Top hd.view_39 (looseW hd.view_39 [Str.ofString "EXACT_TOKEN_TYPES"]) mean mg mb h₀) (hk : cs.kind = .function)
    (hxl : x.length ≤ 500) (hd : dp + 10 < recursionLimit) (hu : un + 100 < cLine)
    (ret : ∀ t' h' tk', Fr h₀ L h' m → News h₀ L h' news → Q (.str (detF x) t') { s with heap := h', toks := tk' }) :
    wpAny (model Challenge.rw_sr0042_01.row.prog w) (ktrTop dp un gd cn cs L a ccd cl outer) (call (.ref 21) [.str x t]) Q E s := by
  revert X; k_fill; intro X
  k_with_none
  refine wpAny_call ?_
  k_dflt ktr_enter
  rename_i g' L' h' FG' F' N' B' X' T'
  change Fr _ _ _ (fun y => List.lookup y [(Str.ofString "msg", Value.str x t)]) at F'
  k_with "call builtin:str.find" => first
    | refine find2 nlIs (fun i1 hlo1 hhi1 hD1 => ?_)
    | refine find4 colonIs (by omega) (fun i2 hlo2 hhi2 hD2 => ?_)
  k_with "call builtin:str.rfind" => refine rfind4 dotIs (by omega) (fun i3 hlo3 hhi3 hD3 => ?_)
  k_steps
  all_goals (
    rename Fr _ _ _ _ => kF
    rename News _ _ _ _ => kN
    rename FndD _ 10 _ _ => hD1
    rename FndD _ 58 _ _ => hD2
    rename LstD _ 46 _ _ => hD3
    rename (_ ∨ _ ∧ _ = (x.length : Int)) => hr1
    rw [detEnd hD1 hr1 hD2 (by first | (left; constructor <;> first | assumption | rfl) | (right; constructor <;> first | assumption | rfl)) hD3 (by first | (left; constructor <;> first | assumption | rfl) | (right; constructor <;> first | assumption | rfl))]
    exact ret _ _ _ kF (kst_newsOf kN (by kst_allIn)))

section
variable {prog : Program} {w : World} {A : Around} {s : Shared} {h₀ : Heap} {L : Addr} {m : Str → Option Value} {env : Env}
/-- a comprehension with one test, by a word over the places -/
theorem compT {ct elt : Expr} {x : Str} {scope : Scope} {cl : List (Str × Addr)} {S : List (Addr × Obj) → Prop} {P : Nat → Value → Prop} {Fin : List Value → List (Addr × Obj) → Prop} {n : Nat} {news : List (Addr × Obj)} (J : Nat → List Value → List (Addr × Obj) → Prop)
    (step : ∀ i ys nw v I oI C oC D m₂ h tk (E' : Value → Shared → Prop), i < n → J i ys nw → P i v → LCg.NsObj oC m₂ → m₂ x = some v → Fr h₀ L h m → News h₀ L h ((I, oI) :: (C, oC) :: (D, LCg.lst ys) :: nw) → LCg.Off3 I C D nw → ((@Ne Nat I C) ∧ (@Ne Nat I D) ∧ (@Ne Nat C D)) →
      wpAny (model prog w) A (isTrue ct (compEnvC scope cl C env) (eval ct (compEnvC scope cl C env))) (fun ok s' => if ok = true then
        wpAny (model prog w) A (eval elt (compEnvC scope cl C env)) (LCg.CompEnd h₀ L m { s with heap := h, toks := tk } I oI C oC D (LCg.lst ys) S (fun y news' => J (i + 1) (ys ++ [y]) news')) E' s'
        else LCg.CompEnd h₀ L m { s with heap := h, toks := tk } I oI C oC D (LCg.lst ys) S (fun _ news' => J (i + 1) ys news') Value.none s') E' { s with heap := h, toks := tk })
    (fin : ∀ ys nw, J n ys nw → Fin ys nw) (h0 : J 0 [] news) :
    LCt.CompRestT prog w A h₀ L m env ct elt x scope cl s S P Fin n 0 [] news := by
  have all : ∀ k i ys nw, i + k = n → J i ys nw → LCt.CompRestT prog w A h₀ L m env ct elt x scope cl s S P Fin k i ys nw := by
    intro k
    induction k with
    | zero =>
      intro i ys nw e hJ
      have e' : i = n := by omega
      exact LCt.CompRestT.zero (fin _ _ (e' ▸ hJ))
    | succ k ih =>
      intro i ys nw e hJ
      refine LCt.CompRestT.succ ?_
      intro v I oI C oC D m₂ h tk E' hP hC hv F N off hne
      refine wpAny_mono (step i ys nw v I oI C oC D m₂ h tk E' (by omega) hJ hP hC hv F N off hne) (fun ok s' q => ?_) fun _ _ q => q
      cases ok with
      | true =>
        simp only [if_true] at q ⊢
        refine wpAny_mono q (fun y s₂ z => ?_) fun _ _ z => z
        obtain ⟨h', tk', nw', e1, F', N', o', S', J'⟩ := z
        exact ⟨h', tk', nw', e1, F', N', o', S', ih _ _ _ (by omega) J'⟩
      | false =>
        simp only [Bool.false_eq_true, if_false] at q ⊢
        obtain ⟨h', tk', nw', e1, F', N', o', S', J'⟩ := q
        exact ⟨h', tk', nw', e1, F', N', o', S', ih _ _ _ (by omega) J'⟩
  exact all n 0 [] news (by omega) h0
/-- a comprehension without a test -/
theorem compU {elt : Expr} {x : Str} {scope : Scope} {cl : List (Str × Addr)} {S : List (Addr × Obj) → Prop} {P : Nat → Value → Prop} {Fin : List Value → List (Addr × Obj) → Prop} {n : Nat} {news : List (Addr × Obj)} (J : Nat → List Value → List (Addr × Obj) → Prop)
    (step : ∀ i ys nw v I oI C oC D m₂ h tk (E' : Value → Shared → Prop), i < n → J i ys nw → P i v → LCg.NsObj oC m₂ → m₂ x = some v → Fr h₀ L h m → News h₀ L h ((I, oI) :: (C, oC) :: (D, LCg.lst ys) :: nw) → LCg.Off3 I C D nw → ((@Ne Nat I C) ∧ (@Ne Nat I D) ∧ (@Ne Nat C D)) →
      wpAny (model prog w) A (eval elt (compEnvC scope cl C env)) (LCg.CompEnd h₀ L m { s with heap := h, toks := tk } I oI C oC D (LCg.lst ys) S (fun y news' => J (i + 1) (ys ++ [y]) news')) E' { s with heap := h, toks := tk })
    (fin : ∀ ys nw, J n ys nw → Fin ys nw) (h0 : J 0 [] news) :
    LCg.CompRest prog w A h₀ L m env elt x scope cl s S P Fin n 0 [] news := by
  have all : ∀ k i ys nw, i + k = n → J i ys nw → LCg.CompRest prog w A h₀ L m env elt x scope cl s S P Fin k i ys nw := by
    intro k
    induction k with
    | zero =>
      intro i ys nw e hJ
      have e' : i = n := by omega
      exact LCg.CompRest.zero (fin _ _ (e' ▸ hJ))
    | succ k ih =>
      intro i ys nw e hJ
      refine LCg.CompRest.succ ?_
      intro v I oI C oC D m₂ h tk E' hP hC hv F N off hne
      refine wpAny_mono (step i ys nw v I oI C oC D m₂ h tk E' (by omega) hJ hP hC hv F N off hne) (fun y s₂ z => ?_) fun _ _ q => q
      obtain ⟨h', tk', nw', e1, F', N', o', S', J'⟩ := z
      exact ⟨h', tk', nw', e1, F', N', o', S', ih _ _ _ (by omega) J'⟩
  exact all n 0 [] news (by omega) h0
end

structure SSt where
  seen : Int
  ts : Tok
  l : Addr
  vs : List Value
  n : Nat
  st : List Int
def shownGo (marks : Int) : Int → List Int → List Int → List Int
  | _, acc, [] => acc
  | seen, acc, x :: r =>
    if x = 3 then shownGo marks (seen + 1) (if seen + 1 = marks ∧ marks.fmod 2 = 1 then acc ++ [x] else acc) r
    else shownGo marks seen (if seen.fmod 2 = 0 ∨ seen = marks then acc ++ [x] else acc) r
theorem sGc (m k : Int) (acc : List Int) (x : Int) (r : List Int) : shownGo m k acc (x :: r) =
    if x = 3 then shownGo m (k + 1) (if k + 1 = m ∧ m.fmod 2 = 1 then acc ++ [x] else acc) r else shownGo m k (if k.fmod 2 = 0 ∨ k = m then acc ++ [x] else acc) r := rfl
theorem sG0 (m k : Int) (acc : List Int) : shownGo m k acc [] = acc := rfl
def marksOf (ns : List Int) : Int := ((ns.filter (· == 3)).length : Nat)
def shownF (ns : List Int) : List Int := shownGo (marksOf ns) 0 [] ns
def SSt.M (l : Addr) (marks : Int) (tm : Tok) (c : SSt) : Str → Option Value := fun y =>
  if y = Str.ofString "stretch" then some (.ref c.l) else if y = Str.ofString "seen" then some (.int c.seen c.ts) else if y = Str.ofString "marks" then some (.int marks tm) else List.lookup y [(Str.ofString "row", Value.ref l)]

set_option maxHeartbeats 4000000 in
theorem shown {w : World} {mean : ExcName → Option Value} {mg mb : Str → Option Value}
    {dp un : Nat} {gd : Option (List Code)} {cn : Str} {cs : Scope} {a : Addr} {ccd : Value} {cl : List (Str × Addr)} {outer : List Env} {A₀ : Around} {base h₀ : Heap} {L : Addr} {m : Str → Option Value} {news : List (Addr × Obj)} {s : Shared} {Q E : Value → Shared → Prop}
    {l : Addr} {vs : List Value} {nn : Nat} {ns : List Int}
    (B : Below A₀ base outer h₀) (F : Fr h₀ L s.heap m) (X : (hd.heap_39 w.params).In h₀) (N : News h₀ L s.heap news)
    (T : Top hd.view_39 (looseW hd.view_39 [Str.ofString "EXACT_TOKEN_TYPES"]) mean mg mb h₀) (hk : cs.kind = .function)
    (hl : (l, listOf vs.toArray nn) ∈ news) (hi : IntsAre vs ns) (hd : dp + 10 < recursionLimit) (hu : un + 100 < cLine)
    (hn : ns.length ≤ 1000) (ret : ListRet h₀ L m news s Q (shownF ns)) :
    wpAny (model Challenge.rw_sr0042_01.row.prog w) (ktrTop dp un gd cn cs L a ccd cl outer) (call (.ref 104) [.ref l]) Q E s := by
  revert X; k_fill; intro X
  k_with_none
  refine wpAny_call ?_
  k_dflt ktr_enter
  rename_i g' L' h' FG' F' N' B' X' T'
  change Fr _ _ _ (fun y => List.lookup y [(Str.ofString "row", Value.ref l)]) at F'
  generalize s.toks + List.length _ = tk₀
  have hvl : vs.toArray.size ≤ sizeLine := by
    rw [sizeLine_eq, List.size_toArray, hi.length]; omega
  k_with "eval ListComp" => (
    rename Fr _ _ _ _ => lF'
    rename News _ _ _ _ => lN'
    refine LCt.ListComp_T (F₀ := lF') (by rfl) (by decide) (by rfl) (by decide) (by rfl) ?_)
  k_with "CompSrcT" => (
    rename Fr _ _ _ _ => lF'
    rename News _ _ _ _ => lN'
    refine LCt.CompSrcT.ledger rfl lF' lN' hl hvl (fun gg => compT (fun i ys nw => news = nw ∧ ys.length = ((ns.take i).filter (· == 3)).length)
      (fun i ys nw v I oI C oC D m₂ hq tkq Eq hin hJ hP hC hv Fq Nq off hne => ?_) (fun ys nw hJ D hq tkq Fq Nq off => ?_) ⟨rfl, rfl⟩)
    all_goals (
      obtain ⟨hJ1, hJ2⟩ := hJ
      subst hJ1)
    all_goals (first
      | (obtain ⟨n, tn, hve, hni⟩ := ints_at hi (by simpa using hP)
         subst hve)
      | (change News g' L' _ ((D, listOf ys.toArray ys.length) :: news) at Nq
         have hfit : ys.length ≤ 1000 := by
           rw [hJ2]
           refine Nat.le_trans (List.length_filter_le _ _) ?_
           simp; omega
         have hmk : (ys.toArray.size : Int) = marksOf ns := by
           rw [List.size_toArray, hJ2, List.size_toArray, hi.length, List.take_length]; rfl
         have hmk2 : marksOf ns ≤ 16384 := by rw [← hmk, List.size_toArray]; omega
         have hmk3 : 0 ≤ marksOf ns := by rw [← hmk]; omega))
    all_goals (try k_fold))
  k_with "call builtin:len" => (
    rename News _ _ _ _ => lN2
    k_dflt (refine kun_lenL (k := marksOf ns) ⟨_, (lN2 _ (.head _)).1, rfl, _, rfl⟩ hmk hmk2 ?_))
  k_with "pyIter ref" => (
    rename Fr _ _ _ _ => lF2
    rename News _ _ _ _ => lN2
    rename (_ ∧ AllLt _ _) => lQ
    refine forI (σ := SSt) (SSt.M l (marksOf ns) _) (fun c => (c.l, listOf c.vs.toArray c.n) :: news)
      (fun i c => IntsAre c.vs c.st ∧ shownGo (marksOf ns) c.seen c.st (ns.drop i) = shownF ns ∧ c.st.length ≤ i ∧ (∀ p ∈ news, p.1 < c.l) ∧ 0 ≤ c.seen ∧ c.seen ≤ i) ⟨0, _, _, [], 0, []⟩ rfl hi (fun _ => .tail _ hl) lF2 lN2 (by kst_allIn) (fun y hy => rfl) ⟨.nil, rfl, Nat.le_refl _, allLt_out lQ.2, Int.le_refl _, Int.le_refl _⟩
      (fun i n t c h1 tk1 I oI hv hJ hI F1 N1 => ?_) (fun c u h1 tk1 hJ F1 N1 => ?_)
    all_goals obtain ⟨J1, J2, J3, J4, J5, J6⟩ := hJ
    all_goals dsimp only [SSt.M] at F1
    all_goals (first
      | (obtain ⟨hd1, hlt⟩ := drop_get hv
         have hfit : c.st.length ≤ 1000 := by omega
         have hvl : c.vs.toArray.size ≤ sizeLine := by
           rw [sizeLine_eq, List.size_toArray, J1.length]; omega
         have hne : ∀ p ∈ news, p.1 ≠ c.l := fun p hp => Nat.ne_of_lt (J4 p hp)
         have hIne : (c.l : Nat) ≠ I := hI _ (.head _)
         try k_fold)
      | skip))
  k_with "call builtin:list.append" => (
    rename Fr _ _ _ _ => lF2
    rename News _ _ _ _ => lN2
    k_dflt (refine append_K lF2 lN2 (Upd.tail (Ne.symm hIne) (Upd.head hne)) ?_ hvl))
  k_steps
  · rename (_ = (3 : Int)) => q
    rename Fr _ _ _ _ => kF
    rename News _ _ _ _ => kN
    refine LCg.CompEnd.intro kF kN _ (fun _ z => z) off (.inr ⟨_, hl, rfl, _, rfl⟩) ⟨rfl, ?_⟩
    rw [take_get hni, List.filter_append, List.length_append, List.length_append, hJ2, q]; rfl
  · rename (_ ≠ (3 : Int)) => q
    rename Fr _ _ _ _ => kF
    rename News _ _ _ _ => kN
    refine LCg.CompEnd.intro kF kN _ (fun _ z => z) off (.inr ⟨_, hl, rfl, _, rfl⟩) ⟨rfl, ?_⟩
    have : ([n].filter (· == 3)) = [] := by simp [q]
    rw [take_get hni, List.filter_append, List.length_append, hJ2, this]; rfl
  · rename (n = 3) => q1
    rename (c.seen + 1 = _) => q2
    rename (Int.fmod _ 2 = 1) => q3
    rename Fr _ _ _ _ => kF
    rename News _ _ _ _ => kN
    rw [List.push_toArray] at kN
    rw [hd1, sGc, if_pos q1, if_pos ⟨q2, q3⟩] at J2
    exact StepTo.intro ⟨c.seen + 1, _, c.l, _, c.n + 1, _⟩ kF kN (by
      intro y y1
      by_cases y2 : y = Str.ofString "seen"
      · subst y2; rfl
      · simp only [SSt.M, if_neg y1, if_neg y2]) (fun _ z => z) (by
        intro p hp
        rcases List.mem_cons.mp hp with rfl | hp
        · exact hIne
        · exact hI p (.tail _ hp)) ⟨IntsAre.append J1 (.cons _ _ .nil), J2, by simp; omega, J4, by dsimp only; omega, by dsimp only; omega⟩
  · rename (n = 3) => q1
    rename (c.seen + 1 = _) => q2
    rename (Int.fmod _ 2 ≠ 1) => q3
    rename Fr _ _ _ _ => kF
    rename News _ _ _ _ => kN
    rw [hd1, sGc, if_pos q1, if_neg (fun z => q3 z.2)] at J2
    exact StepTo.intro ⟨c.seen + 1, _, c.l, c.vs, c.n, c.st⟩ kF kN (by
      intro y y1
      by_cases y2 : y = Str.ofString "seen"
      · subst y2; rfl
      · simp only [SSt.M, if_neg y1, if_neg y2]) (fun _ z => z) hI ⟨J1, J2, Nat.le_succ_of_le J3, J4, by dsimp only; omega, by dsimp only; omega⟩
  · rename (n = 3) => q1
    rename (c.seen + 1 ≠ _) => q2
    rename Fr _ _ _ _ => kF
    rename News _ _ _ _ => kN
    rw [hd1, sGc, if_pos q1, if_neg (fun z => q2 z.1)] at J2
    exact StepTo.intro ⟨c.seen + 1, _, c.l, c.vs, c.n, c.st⟩ kF kN (by
      intro y y1
      by_cases y2 : y = Str.ofString "seen"
      · subst y2; rfl
      · simp only [SSt.M, if_neg y1, if_neg y2]) (fun _ z => z) hI ⟨J1, J2, Nat.le_succ_of_le J3, J4, by dsimp only; omega, by dsimp only; omega⟩
  · rename (n ≠ 3) => q1
    rename (Int.fmod _ 2 = 0) => q2
    rename Fr _ _ _ _ => kF
    rename News _ _ _ _ => kN
    rw [List.push_toArray] at kN
    rw [hd1, sGc, if_neg q1, if_pos (.inl q2)] at J2
    exact StepTo.intro ⟨c.seen, c.ts, c.l, _, c.n + 1, _⟩ kF kN (by
      intro y y1
      simp only [SSt.M, if_neg y1]) (fun _ z => z) (by
        intro p hp
        rcases List.mem_cons.mp hp with rfl | hp
        · exact hIne
        · exact hI p (.tail _ hp)) ⟨IntsAre.append J1 (.cons _ _ .nil), J2, by simp; omega, J4, by dsimp only; omega, by dsimp only; omega⟩
  · rename (n ≠ 3) => q1
    rename (Int.fmod _ 2 ≠ 0) => q2
    rename (c.seen = _) => q3
    rename Fr _ _ _ _ => kF
    rename News _ _ _ _ => kN
    rw [List.push_toArray] at kN
    rw [hd1, sGc, if_neg q1, if_pos (.inr q3)] at J2
    exact StepTo.intro ⟨c.seen, c.ts, c.l, _, c.n + 1, _⟩ kF kN (by
      intro y y1
      simp only [SSt.M, if_neg y1]) (fun _ z => z) (by
        intro p hp
        rcases List.mem_cons.mp hp with rfl | hp
        · exact hIne
        · exact hI p (.tail _ hp)) ⟨IntsAre.append J1 (.cons _ _ .nil), J2, by simp; omega, J4, by dsimp only; omega, by dsimp only; omega⟩
  · rename (n ≠ 3) => q1
    rename (Int.fmod _ 2 ≠ 0) => q2
    rename (c.seen ≠ _) => q3
    rename Fr _ _ _ _ => kF
    rename News _ _ _ _ => kN
    rw [hd1, sGc, if_neg q1, if_neg (fun z => z.elim q2 q3)] at J2
    exact StepTo.intro ⟨c.seen, c.ts, c.l, c.vs, c.n, c.st⟩ kF kN (by
      intro y y1
      simp only [SSt.M, if_neg y1]) (fun _ z => z) hI ⟨J1, J2, Nat.le_succ_of_le J3, J4, by dsimp only; omega, by dsimp only; omega⟩
  · rename Fr _ _ _ _ => kF
    rename News _ _ _ _ => kN
    rw [List.drop_length, sG0] at J2
    exact ret _ _ _ _ _ (J2 ▸ J1) kF kN J4

section
variable {prog : Program} {w : World} {A : Around} {s : Shared} {env : Env}
/-- a while, turn by turn, so many turns at most -/
def WAt (prog : Program) (w : World) (A : Around) (test : PySem.Expr) (body : List Stmt) (env : Env) (Q : Flow → Shared → Prop) : Nat → Shared → Prop
  | 0, _ => False
  | k + 1, s => wpAny (model prog w) A (isTrue test env (eval test env)) (fun b s₂ => if b = true then
      wpAny (model prog w) A (execs body env) (fun f s₃ => match f with | .next => WAt prog w A test body env Q k s₃ | .cont => WAt prog w A test body env Q k s₃ | .brk => Q .next s₃ | .ret v => Q (.ret v) s₃) NoE s₂
      else Q .next s₂) NoE s
theorem WAt.step {test : PySem.Expr} {body : List Stmt} {Q : Flow → Shared → Prop} {k : Nat} (h : wpAny (model prog w) A (isTrue test env (eval test env)) (fun b s₂ => if b = true then
      wpAny (model prog w) A (execs body env) (fun f s₃ => match f with | .next => WAt prog w A test body env Q k s₃ | .cont => WAt prog w A test body env Q k s₃ | .brk => Q .next s₃ | .ret v => Q (.ret v) s₃) NoE s₂
      else Q .next s₂) NoE s) : WAt prog w A test body env Q (k + 1) s := h
theorem while_turns {test : PySem.Expr} {body : List Stmt} {pos : Pos} {Q : Flow → Shared → Prop} {E : Value → Shared → Prop} (n : Nat) (h : WAt prog w A test body env Q n s) : wpAny (model prog w) A (exec (.While test body [] pos) env) Q E s := by
  refine wpAny_While ?_
  refine codeAny_whileLoop (fun n s => WAt prog w A test body env Q n s) (fun n s hn => ?_) n h
  cases n with
  | zero => exact hn.elim
  | succ k =>
    refine wpAny_mono (show wpAny _ _ _ _ _ _ from hn) (fun b s₂ q => ?_) fun _ _ q => q.elim
    cases b with
    | true =>
      simp only [if_true] at q ⊢
      refine wpAny_mono q (fun f s₃ z => ?_) fun _ _ z => z.elim
      cases f with
      | next => exact ⟨k, Nat.lt_succ_self _, z⟩
      | cont => exact ⟨k, Nat.lt_succ_self _, z⟩
      | brk => exact z
      | ret v => exact z
    | false =>
      simp only [Bool.false_eq_true, if_false] at q ⊢
      exact wpAny_execs_nil q
end

structure OSt where
  l : Addr
  vs : List Value
  n : Nat
  st : List Int
  sv : Option Value
def enc (x : Int) : List Int := if x > 63 then [64 + (x.fdiv 64).fmod 64, x.fmod 64] else [x.fmod 64]
def octF (ns : List Int) : List Int := ns.flatMap enc

theorem octF_step {ns : List Int} {i : Nat} {n : Int} (h : ns[i]? = some n) : octF (ns.take (i + 1)) = octF (ns.take i) ++ enc n := by
  rw [take_get h, octF, List.flatMap_append, octF]; simp
set_option maxHeartbeats 4000000 in
theorem octets {w : World} {mean : ExcName → Option Value} {mg mb : Str → Option Value}
    {dp un : Nat} {gd : Option (List Code)} {cn : Str} {cs : Scope} {a : Addr} {ccd : Value} {cl : List (Str × Addr)} {outer : List Env} {A₀ : Around} {base h₀ : Heap} {L : Addr} {m : Str → Option Value} {news : List (Addr × Obj)} {s : Shared} {Q E : Value → Shared → Prop}
    {l : Addr} {vs : List Value} {nn : Nat} {ns : List Int}
    (B : Below A₀ base outer h₀) (F : Fr h₀ L s.heap m) (X : (hd.heap_39 w.params).In h₀) (N : News h₀ L s.heap news)
    (T : Top hd.view_39 (looseW hd.view_39 [Str.ofString "EXACT_TOKEN_TYPES"]) mean mg mb h₀) (hk : cs.kind = .function)
    (hl : (l, listOf vs.toArray nn) ∈ news) (hi : IntsAre vs ns) (hd : dp + 10 < recursionLimit) (hu : un + 100 < cLine)
    (hn : ns.length ≤ 100) (hb : ∀ x ∈ ns, 0 ≤ x ∧ x < 4096) (ret : ListRet h₀ L m news s Q (octF ns)) :
    wpAny (model Challenge.rw_sr0042_01.row.prog w) (ktrTop dp un gd cn cs L a ccd cl outer) (call (.ref 73) [.ref l]) Q E s := by
  revert X; k_fill; intro X
  k_with_none
  refine wpAny_call ?_
  k_dflt ktr_enter
  rename_i g' L' h' FG' F' N' B' X' T'
  change Fr _ _ _ (fun y => List.lookup y [(Str.ofString "row", Value.ref l)]) at F'
  generalize s.toks + List.length _ = tk₀
  k_with "pyIter ref" => (
    rename Fr _ _ _ _ => lF2
    rename News _ _ _ _ => lN2
    refine forI (σ := OSt) (fun c y => if y = Str.ofString "octets" then some (.ref c.l) else if y = Str.ofString "some" then c.sv else List.lookup y [(Str.ofString "row", Value.ref l)]) (fun c => (c.l, listOf c.vs.toArray c.n) :: news)
      (fun i c => IntsAre c.vs c.st ∧ c.st = octF (ns.take i) ∧ c.st.length ≤ 2 * i ∧ (∀ p ∈ news, p.1 < c.l)) ⟨_, [], 0, [], none⟩ rfl hi (fun _ => .tail _ hl) lF2 lN2 (by kst_allIn) (by
        intro y hy
        by_cases y2 : y = Str.ofString "octets"
        · subst y2; rfl
        · by_cases y3 : y = Str.ofString "some"
          · subst y3; rfl
          · simp only [if_neg y2, if_neg y3]) ⟨.nil, rfl, Nat.le_refl _, by assumption⟩
      (fun i n t c h1 tk1 I oI hv hJ hI F1 N1 => ?_) (fun c u h1 tk1 hJ F1 N1 => ?_)
    all_goals obtain ⟨J1, J2, J3, J4⟩ := hJ
    all_goals (first
      | (obtain ⟨hd1, hlt⟩ := drop_get hv
         have hfit : c.st.length ≤ 1000 := by omega
         obtain ⟨hb0, hb1⟩ := hb n (List.mem_of_getElem? hv)
         have hq1 : 0 ≤ n.fdiv 64 := by rw [Int.fdiv_eq_ediv_of_nonneg _ (by decide)]; omega
         have hq2 : n.fdiv 64 ≤ 63 := by rw [Int.fdiv_eq_ediv_of_nonneg _ (by decide)]; omega
         try k_fold)
      | skip))
  k_with "exec While Compare cons nil" => refine while_turns 2 (WAt.step ?_)
  k_with "WAt" => refine WAt.step ?_
  k_steps
  · rename (63 < n) => q1
    rename IntsAre _ (c.st ++ _) => kI
    rename (_ ∧ _ ∧ _ ∧ _ ∧ _ ∧ AllLt _ _) => lQ
    rename Fr _ _ _ _ => kF
    rename News _ _ _ _ => kN
    have e1 : octF (ns.take (i + 1)) = c.st ++ [64 + (n.fdiv 64).fmod 64, n.fmod 64] := by rw [octF_step hv, ← J2, enc, if_pos q1]
    exact StepTo.intro ⟨_, _, 0, _, _⟩ kF kN (by
      intro y y1
      by_cases y2 : y = Str.ofString "octets"
      · subst y2; rfl
      · by_cases y3 : y = Str.ofString "some"
        · subst y3; rfl
        · simp only [if_neg y1, if_neg y2, if_neg y3]) (by kst_allIn) (by
        intro p hp
        rcases List.mem_cons.mp hp with rfl | hp
        · exact Nat.ne_of_gt lQ.2.2.2.1
        · exact hI p (.tail _ hp)) ⟨kI, e1.symm, by simp; omega, allLt_out lQ.2.2.2.2.2⟩
  · rename (¬ 63 < n) => q1
    rename IntsAre _ (c.st ++ _) => kI
    rename (_ ∧ _ ∧ _ ∧ AllLt _ _) => lQ
    rename Fr _ _ _ _ => kF
    rename News _ _ _ _ => kN
    have e1 : octF (ns.take (i + 1)) = c.st ++ [n.fmod 64] := by rw [octF_step hv, ← J2, enc, if_neg q1]
    exact StepTo.intro ⟨_, _, 0, _, _⟩ kF kN (by
      intro y y1
      by_cases y2 : y = Str.ofString "octets"
      · subst y2; rfl
      · by_cases y3 : y = Str.ofString "some"
        · subst y3; rfl
        · simp only [if_neg y1, if_neg y2, if_neg y3]) (by kst_allIn) (by
        intro p hp
        rcases List.mem_cons.mp hp with rfl | hp
        · exact Nat.ne_of_gt lQ.2.1
        · exact hI p (.tail _ hp)) ⟨kI, e1.symm, by simp; omega, allLt_out lQ.2.2.2⟩
  · rename Fr _ _ _ _ => kF
    rename News _ _ _ _ => kN
    rw [List.take_length] at J2
    exact ret _ _ _ _ _ (J2 ▸ J1) kF kN J4

abbrev itObj (l : Addr) (i : Nat) : Obj := { cls := .type "list_iterator", dict := none, data := .fields #[.ref l, .int (i : Int) 0], slots := #[] }
section
variable {prog : Program} {w : World} {A : Around} {E : Value → Shared → Prop} {s : Shared} {h₀ : Heap} {L l it : Addr} {m : Str → Option Value} {news pre post : List (Addr × Obj)} {vs : List Value} {nn i : Nat}
theorem iterL {Q : Value → Shared → Prop} (F : Fr h₀ L s.heap m) (N : News h₀ L s.heap news) (hl : (l, listOf vs.toArray nn) ∈ news)
    (h : ∀ (I : Addr) h', Fr h₀ L h' m → News h₀ L h' ((I, itObj l 0) :: news) → (∀ p ∈ news, p.1 < I) → Q (.ref I) { s with heap := h' }) :
    wpAny (model prog w) A (call (.builtin "iter") [.ref l]) Q E s := by
  have hls : s.heap.IsList l vs.toArray := ⟨_, (N _ hl).1, rfl, nn, rfl⟩
  refine call_function_entry (by decide +kernel) (by decide +kernel) kdk_entry_iter (kdk_args_iter _) ?_
  unfold Builtin.«iter»
  refine wpAny_bind (m := someArgs "iter" 1 2 _) (wpAny_of_eq (a := [Value.ref l]) (by first | rfl | kernel_rfl!) ?_)
  show wpAny _ _ (pyIter (.ref l) >>= _) _ _ _
  refine wpAny_bind (wpAny_pyIter_list hls ?_)
  exact wpAny_pure ⟨_, rfl, h _ _ (F.push _) (News.push F N _ rfl) (fun q hq => Heap.lt_size (N q hq).1)⟩
theorem nextL {v : Value} {Q : Value → Shared → Prop} (F : Fr h₀ L s.heap m) (N : News h₀ L s.heap (pre ++ (it, itObj l i) :: post)) (h1 : ∀ p ∈ pre, p.1 ≠ it) (h2 : ∀ p ∈ post, p.1 ≠ it)
    (hl : (l, listOf vs.toArray nn) ∈ post) (hx : vs[i]? = some v)
    (h : ∀ h', Fr h₀ L h' m → News h₀ L h' (pre ++ (it, itObj l (i + 1)) :: post) → Q v { s with heap := h' }) :
    wpAny (model prog w) A (call (.builtin "next") [.ref it]) Q E s := by
  have hm := N (it, itObj l i) (List.mem_append_right _ (.head _))
  have hml := N (l, listOf vs.toArray nn) (List.mem_append_right _ (.tail _ hl))
  have hT : s.TypeIs (.ref it) "list_iterator" := ⟨_, hm.1, rfl⟩
  refine call_function_entry (by decide +kernel) (by decide +kernel) kdk_entry_next (kdk_args_next _) ?_
  unfold Builtin.«next»
  refine wpAny_bind (m := someArgs "next" 1 2 _) (wpAny_of_eq (a := [Value.ref it]) (by first | rfl | kernel_rfl!) ?_)
  dsimp only
  refine wpAny_bind (wpAny_specialOf (name := Str.ofString "__next__") hT slot_listiter_next.lookup ?_)
  refine wpAny_ite_split (fun hab => absurd hab (by decide)) (fun _ => ?_)
  refine wpAny_bind (wpAny_callSpecial?_slot (name := Str.ofString "__next__") hT slot_listiter_next
    (wpAny_call_entry slot_listiter_next hT entry_listiter_next ?_ (args_listiter_next _)))
  show wpAny _ _ (field (.ref it) 0 >>= _) _ _ s
  refine wpAny_bind (wpAny_field hm.1 rfl (x := .ref l) rfl ?_)
  show wpAny _ _ (if (Value.ref l == Value.none) = true then _ else _) _ _ s
  rw [if_neg (show ¬ ((Value.ref l == Value.none) = true) from Bool.false_ne_true)]
  show wpAny _ _ (field (.ref it) 1 >>= _) _ _ s
  refine wpAny_bind (wpAny_field hm.1 rfl (x := .int i 0) rfl ?_)
  show wpAny _ _ (seqItems? (.ref l) >>= _) _ _ s
  refine wpAny_bind (wpAny_seqItems hml.1 rfl ?_)
  have hx' : vs.toArray[i]? = some v := by simpa using hx
  simp only [Int.toNat_natCast, hx']
  refine wpAny_bind (wpAny_setField_rec hm.1 (by simp) fun h' ho' hs => wpAny_pure ⟨v, rfl, wpAny_pure ⟨_, rfl, h h' (F.change hs hm.2.1 hm.2.2) (N.setAt h1 h2 hs ?_)⟩⟩)
  rw [ho']; simp [rawInt, itObj]
end

theorem intsGet {vs : List Value} {ns : List Int} (hi : IntsAre vs ns) {i : Nat} {n : Int} (hn : ns[i]? = some n) : ∃ t, vs[i]? = some (.int n t) := by
  obtain ⟨h1, h2⟩ := List.getElem?_eq_some_iff.mp hn
  obtain ⟨v, hv⟩ : ∃ v, vs[i]? = some v := ⟨vs[i]'(by rw [hi.length]; exact h1), List.getElem?_eq_getElem _⟩
  obtain ⟨n', t, rfl, h3⟩ := ints_at hi hv
  rw [hn] at h3; cases h3; exact ⟨t, hv⟩
theorem bit_small (r : Int) (h0 : 0 ≤ r) (h1 : r < 64) : Builtin.bitAnd r 63 = r ∧ Builtin.bitAnd r 64 = 0 ∧ Builtin.bitAnd (64 + r) 63 = r ∧ Builtin.bitAnd (64 + r) 64 = 64 := by
  have k : ∀ n : Fin 64, Builtin.bitAnd ((n.val : Nat) : Int) 63 = ((n.val : Nat) : Int) ∧ Builtin.bitAnd ((n.val : Nat) : Int) 64 = 0 ∧ Builtin.bitAnd (64 + ((n.val : Nat) : Int)) 63 = ((n.val : Nat) : Int) ∧ Builtin.bitAnd (64 + ((n.val : Nat) : Int)) 64 = 64 := by decide +kernel
  have := k ⟨r.toNat, by omega⟩
  rwa [show ((r.toNat : Nat) : Int) = r by omega] at this
theorem bit_join (q r : Int) (h0 : 0 ≤ q) (h1 : q < 64) (h2 : 0 ≤ r) (h3 : r < 64) : Builtin.bitOr (q * 2 ^ (6 : Int).toNat) r = q * 64 + r := by
  have k : ∀ n m : Fin 64, Builtin.bitOr (((n.val : Nat) : Int) * 2 ^ (6 : Int).toNat) ((m.val : Nat) : Int) = ((n.val : Nat) : Int) * 64 + ((m.val : Nat) : Int) := by decide +kernel
  have := k ⟨q.toNat, by omega⟩ ⟨r.toNat, by omega⟩
  rwa [show ((q.toNat : Nat) : Int) = q by omega, show ((r.toNat : Nat) : Int) = r by omega] at this
set_option maxHeartbeats 4000000 in
theorem varint {w : World} {mean : ExcName → Option Value} {mg mb : Str → Option Value}
    {dp un : Nat} {gd : Option (List Code)} {cn : Str} {cs : Scope} {a : Addr} {ccd : Value} {cl : List (Str × Addr)} {outer : List Env} {A₀ : Around} {base h₀ : Heap} {L : Addr} {m : Str → Option Value} {pre post : List (Addr × Obj)} {s : Shared} {Q E : Value → Shared → Prop}
    {l it : Addr} {vs : List Value} {nn i : Nat} {ns rest : List Int} {x : Int}
    (B : Below A₀ base outer h₀) (F : Fr h₀ L s.heap m) (X : (hd.heap_39 w.params).In h₀) (N : News h₀ L s.heap (pre ++ (it, itObj l i) :: post))
    (T : Top hd.view_39 (looseW hd.view_39 [Str.ofString "EXACT_TOKEN_TYPES"]) mean mg mb h₀) (hk : cs.kind = .function)
    (h1 : ∀ p ∈ pre, p.1 ≠ it) (h2 : ∀ p ∈ post, p.1 ≠ it)
    (hl : (l, listOf vs.toArray nn) ∈ post) (hi : IntsAre vs ns) (hd : dp + 10 < recursionLimit) (hu : un + 100 < cLine)
    (hx0 : 0 ≤ x) (hx1 : x < 4096) (hxs : ns.drop i = enc x ++ rest) (ret : ∀ t' h' tk', Fr h₀ L h' m → News h₀ L h' (pre ++ (it, itObj l (i + (enc x).length)) :: post) → Q (.int x t') { s with heap := h', toks := tk' }) :
    wpAny (model Challenge.rw_sr0042_01.row.prog w) (ktrTop dp un gd cn cs L a ccd cl outer) (call (.ref 28) [.ref it]) Q E s := by
  revert X; k_fill; intro X
  k_with_none
  refine wpAny_call ?_
  k_dflt ktr_enter
  rename_i g' L' h' FG' F' N' B' X' T'
  change Fr _ _ _ (fun y => List.lookup y [(Str.ofString "iterator", Value.ref it)]) at F'
  generalize s.toks + List.length _ = tk₀
  have P : enc x = [x] ∧ 0 ≤ x ∧ x < 64 ∨ ∃ q r, enc x = [64 + q, r] ∧ 0 ≤ q ∧ q < 64 ∧ 0 ≤ r ∧ r < 64 ∧ x = q * 64 + r := by
    unfold enc
    by_cases hbig : x > 63
    · right
      refine ⟨(x.fdiv 64).fmod 64, x.fmod 64, by rw [if_pos hbig], ?_, ?_, ?_, ?_, ?_⟩ <;> (simp only [Int.fmod_eq_emod_of_nonneg _ (show (0 : Int) ≤ 64 by decide), Int.fdiv_eq_ediv_of_nonneg _ (show (0 : Int) ≤ 64 by decide)]; omega)
    · left
      rw [if_neg hbig]
      refine ⟨?_, hx0, by omega⟩
      rw [Int.fmod_eq_emod_of_nonneg _ (show (0 : Int) ≤ 64 by decide), Int.emod_eq_of_lt hx0 (by omega)]
  rcases P with ⟨he, b0, b1⟩ | ⟨q, r, he, q0, q1, r0, r1, hx⟩
  · obtain ⟨t1, hv1⟩ : ∃ t1, vs[i]? = some (.int x t1) := intsGet hi (by have := congrArg (·[0]?) hxs; simpa [he] using this)
    rw [he] at ret
    obtain ⟨e1, e2, -, -⟩ := bit_small x b0 b1
    k_with "call builtin:next" => (
      rename Fr _ _ _ _ => lF2
      rename News _ _ _ _ => lN2
      refine nextL lF2 lN2 h1 h2 hl hv1 ?_)
    k_with "binaryOp BitAnd int int" => (refine and_int ?_; first | rw [e1] | rw [e2])
    k_with "exec While Compare cons nil" => refine while_turns 2 (WAt.step ?_)
    k_with "exec While BinOp cons nil" => refine while_turns 2 (WAt.step ?_)
    k_with "WAt" => refine WAt.step ?_
    k_steps
    rename Fr h₀ _ _ _ => kF
    rename News h₀ _ _ _ => kN
    exact ret _ _ _ kF kN
  · obtain ⟨t1, hv1⟩ : ∃ t1, vs[i]? = some (.int (64 + q) t1) := intsGet hi (by have := congrArg (·[0]?) hxs; simpa [he] using this)
    obtain ⟨t2, hv2⟩ : ∃ t2, vs[i + 1]? = some (.int r t2) := intsGet hi (by have := congrArg (·[1]?) hxs; simpa [he] using this)
    rw [he] at ret
    obtain ⟨-, -, e1, e2⟩ := bit_small q q0 q1
    obtain ⟨e3, e4, -, -⟩ := bit_small r r0 r1
    have e5 := bit_join q r q0 q1 r0 r1
    k_with "call builtin:next" => (
      rename Fr _ _ _ _ => lF2
      rename News _ _ _ _ => lN2
      first
        | refine nextL lF2 lN2 h1 h2 hl hv1 ?_
        | refine nextL lF2 lN2 h1 h2 hl hv2 ?_)
    k_with "binaryOp BitAnd int int" => (refine and_int ?_; first | rw [e1] | rw [e2] | rw [e3] | rw [e4])
    k_with "inplaceOp LShift int int" => (refine ilshift_int_small (by decide) (by decide) (by omega) ?_)
    k_with "inplaceOp BitOr int int" => (refine ior_int ?_; rw [e5, ← hx])
    k_with "exec While Compare cons nil" => refine while_turns 2 (WAt.step ?_)
    k_with "exec While BinOp cons nil" => refine while_turns 2 (WAt.step ?_)
    k_with "WAt" => refine WAt.step ?_
    k_steps
    rename Fr h₀ _ _ _ => kF
    rename News h₀ _ _ _ => kN
    exact ret _ _ _ kF kN

section
variable {prog : Program} {w : World} {A : Around} {s : Shared} {env : Env}
def WTo {σ : Type} (M : σ → Str → Option Value) (Led : σ → List (Addr × Obj)) (J : Nat → σ → Prop) (h₀ : Heap) (L : Addr) (k : Nat) (s₁ s₂ : Shared) : Prop :=
  ∃ k' h' tk m' c, k' < k ∧ s₂ = { s₁ with heap := h', toks := tk } ∧ Fr h₀ L h' m' ∧ (∀ y, m' y = M c y) ∧ News h₀ L h' (Led c) ∧ J k' c
theorem while_inv {test : PySem.Expr} {body : List Stmt} {pos : Pos} {Q : Flow → Shared → Prop} {E : Value → Shared → Prop} {σ : Type} (M : σ → Str → Option Value) (Led : σ → List (Addr × Obj)) (J : Nat → σ → Prop) (h₀ : Heap)
    (k : Nat) (c₀ : σ) {m₀ : Str → Option Value} (F : Fr h₀ env.locals s.heap m₀) (N : News h₀ env.locals s.heap (Led c₀)) (hm : ∀ y, m₀ y = M c₀ y) (j : J k c₀)
    (turn : ∀ k c h tk, J k c → Fr h₀ env.locals h (M c) → News h₀ env.locals h (Led c) → wpAny (model prog w) A (isTrue test env (eval test env)) (fun b s₂ => if b = true then
      wpAny (model prog w) A (execs body env) (fun f s₃ => match f with | .next => WTo M Led J h₀ env.locals k s s₃ | .cont => WTo M Led J h₀ env.locals k s s₃ | .brk => Q .next s₃ | .ret v => Q (.ret v) s₃) NoE s₂
      else Q .next s₂) NoE { s with heap := h, toks := tk }) :
    wpAny (model prog w) A (exec (.While test body [] pos) env) Q E s := by
  refine wpAny_While ?_
  have hM : ∀ {h m' c}, Fr h₀ env.locals h m' → (∀ y, m' y = M c y) → Fr h₀ env.locals h (M c) := by
    intro h m' c F e
    have : m' = M c := funext e
    rwa [this] at F
  refine codeAny_whileLoop (fun n s' => ∃ h tk c, s' = { s with heap := h, toks := tk } ∧ Fr h₀ env.locals h (M c) ∧ News h₀ env.locals h (Led c) ∧ J n c) (fun n s' hn => ?_) k ⟨_, _, c₀, rfl, hM F hm, N, j⟩
  obtain ⟨h, tk, c, rfl, F, N, j⟩ := hn
  refine wpAny_mono (turn n c h tk j F N) (fun b s₂ q => ?_) fun _ _ q => q.elim
  cases b with
  | true =>
    simp only [if_true] at q ⊢
    refine wpAny_mono q (fun f s₃ z => ?_) fun _ _ z => z.elim
    have go : WTo M Led J h₀ env.locals n s s₃ → ∃ m, m < n ∧ ∃ h tk c, s₃ = { s with heap := h, toks := tk } ∧ Fr h₀ env.locals h (M c) ∧ News h₀ env.locals h (Led c) ∧ J m c := by
      rintro ⟨k', h', tk', m', c', hk, e, F', hm', N', j'⟩
      exact ⟨k', hk, h', tk', c', e, hM F' hm', N', j'⟩
    cases f with
    | next => exact go z
    | cont => exact go z
    | brk => exact z
    | ret v => exact z
  | false =>
    simp only [Bool.false_eq_true, if_false] at q ⊢
    exact wpAny_execs_nil q
end

set_option maxHeartbeats 4000000 in
theorem iseof {w : World} {mean : ExcName → Option Value} {mg mb : Str → Option Value}
    {dp un : Nat} {gd : Option (List Code)} {cn : Str} {cs : Scope} {a : Addr} {ccd : Value} {cl : List (Str × Addr)} {outer : List Env} {A₀ : Around} {base h₀ : Heap} {L : Addr} {m : Str → Option Value} {news : List (Addr × Obj)} {s : Shared} {Q E : Value → Shared → Prop}
    {x : Int} {t : Tok}
    (B : Below A₀ base outer h₀) (F : Fr h₀ L s.heap m) (X : (hd.heap_39 w.params).In h₀) (N : News h₀ L s.heap news)
    (T : Top hd.view_39 (looseW hd.view_39 [Str.ofString "EXACT_TOKEN_TYPES"]) mean mg mb h₀) (hk : cs.kind = .function)
    (hd : dp + 10 < recursionLimit) (hu : un + 100 < cLine)
    (ret : ∀ h' tk', Fr h₀ L h' m → News h₀ L h' news → Q (.bool (x == 0)) { s with heap := h', toks := tk' }) :
    wpAny (model Challenge.rw_sr0042_01.row.prog w) (ktrTop dp un gd cn cs L a ccd cl outer) (call (.ref 59) [.int x t]) Q E s := by
  revert X; k_fill; intro X
  k_with_none
  refine wpAny_call ?_
  k_dflt ktr_enter
  rename_i g' L' h' FG' F' N' B' X' T'
  change Fr _ _ _ (fun y => List.lookup y [(Str.ofString "x", Value.int x t)]) at F'
  k_steps
  all_goals (
    rename Fr h₀ _ _ _ => kF
    rename News h₀ _ _ _ => kN
    exact ret _ _ kF kN)
set_option maxHeartbeats 4000000 in
theorem isterm {w : World} {mean : ExcName → Option Value} {mg mb : Str → Option Value}
    {dp un : Nat} {gd : Option (List Code)} {cn : Str} {cs : Scope} {a : Addr} {ccd : Value} {cl : List (Str × Addr)} {outer : List Env} {A₀ : Around} {base h₀ : Heap} {L : Addr} {m : Str → Option Value} {news : List (Addr × Obj)} {s : Shared} {Q E : Value → Shared → Prop}
    {x : Int} {t : Tok}
    (B : Below A₀ base outer h₀) (F : Fr h₀ L s.heap m) (X : (hd.heap_39 w.params).In h₀) (N : News h₀ L s.heap news)
    (T : Top hd.view_39 (looseW hd.view_39 [Str.ofString "EXACT_TOKEN_TYPES"]) mean mg mb h₀) (hk : cs.kind = .function)
    (hd : dp + 10 < recursionLimit) (hu : un + 100 < cLine)
    (ret : ∀ h' tk', Fr h₀ L h' m → News h₀ L h' news → Q (.bool (decide (x < 256))) { s with heap := h', toks := tk' }) :
    wpAny (model Challenge.rw_sr0042_01.row.prog w) (ktrTop dp un gd cn cs L a ccd cl outer) (call (.ref 52) [.int x t]) Q E s := by
  revert X; k_fill; intro X
  k_with_none
  refine wpAny_call ?_
  k_dflt ktr_enter
  rename_i g' L' h' FG' F' N' B' X' T'
  change Fr _ _ _ (fun y => List.lookup y [(Str.ofString "x", Value.int x t)]) at F'
  k_steps
  all_goals (
    rename Fr h₀ _ _ _ => kF
    rename News h₀ _ _ _ => kN
    exact ret _ _ kF kN)
theorem last_take {xs R : List Int} (hxs : xs = R ++ [0]) (hR : ∀ x ∈ R, 0 < x) {p : Nat} (h1 : 1 ≤ p) (h2 : p ≤ xs.length) :
    (xs.take p).getD (-1 + ((xs.take p).length : Int)).toNat 0 = 0 ↔ p = xs.length := by
  have e1 : (-1 + ((xs.take p).length : Int)).toNat = p - 1 := by rw [List.length_take]; omega
  have e2 : (xs.take p).getD (p - 1) 0 = xs.getD (p - 1) 0 := by
    simp only [List.getD_eq_getElem?_getD, List.getElem?_take]
    rw [if_pos (by omega)]
  rw [e1, e2]
  have hlen : xs.length = R.length + 1 := by rw [hxs]; simp
  constructor
  · intro h
    apply Classical.byContradiction
    intro hne
    have hlt : p - 1 < R.length := by omega
    have : xs.getD (p - 1) 0 = R[p - 1] := by
      subst hxs
      simp only [List.getD_eq_getElem?_getD, List.getElem?_append_left hlt, List.getElem?_eq_getElem hlt, Option.getD_some]
    have := hR _ (List.getElem_mem hlt)
    omega
  · intro h
    subst hxs
    have : p - 1 = R.length := by omega
    rw [this]
    simp
structure RdSt where
  l : Addr
  vs : List Value
  n : Nat
  i : Nat
  st : List Int
set_option maxHeartbeats 4000000 in
theorem read {w : World} {mean : ExcName → Option Value} {mg mb : Str → Option Value}
    {dp un : Nat} {gd : Option (List Code)} {cn : Str} {cs : Scope} {a : Addr} {ccd : Value} {cl : List (Str × Addr)} {outer : List Env} {A₀ : Around} {base h₀ : Heap} {L : Addr} {m : Str → Option Value} {news : List (Addr × Obj)} {s : Shared} {Q E : Value → Shared → Prop}
    {lo : Addr} {vs : List Value} {nn : Nat} {ns xs R : List Int}
    (B : Below A₀ base outer h₀) (F : Fr h₀ L s.heap m) (X : (hd.heap_39 w.params).In h₀) (N : News h₀ L s.heap news)
    (T : Top hd.view_39 (looseW hd.view_39 [Str.ofString "EXACT_TOKEN_TYPES"]) mean mg mb h₀) (hk : cs.kind = .function)
    (hl : (lo, listOf vs.toArray nn) ∈ news) (hi : IntsAre vs ns) (hd : dp + 20 < recursionLimit) (hu : un + 200 < cLine)
    (hns : ns = octF xs) (hxs : xs = R ++ [0]) (hR : ∀ x ∈ R, 0 < x ∧ x < 4096) (hRl : R.length ≤ 50) (ret : ListRet h₀ L m news s Q xs) :
    wpAny (model Challenge.rw_sr0042_01.row.prog w) (ktrTop dp un gd cn cs L a ccd cl outer) (call (.ref 80) [.ref lo]) Q E s := by
  revert X; k_fill; intro X
  k_with_none
  refine wpAny_call ?_
  k_dflt ktr_enter
  rename_i g' L' h' FG' F' N' B' X' T'
  change Fr _ _ _ (fun y => List.lookup y [(Str.ofString "octets", Value.ref lo)]) at F'
  generalize s.toks + List.length _ = tk₀
  have hx : ∀ p, p < xs.length → ∃ x, xs[p]? = some x ∧ 0 ≤ x ∧ x < 4096 ∧ octF (xs.drop p) = enc x ++ octF (xs.drop (p + 1)) := by
    intro p hp
    refine ⟨xs[p], List.getElem?_eq_getElem hp, ?_⟩
    have hm : xs[p] ∈ R ++ [0] := hxs ▸ List.getElem_mem hp
    have : 0 ≤ xs[p] ∧ xs[p] < 4096 := by
      rcases List.mem_append.mp hm with h | h
      · exact ⟨by have := hR _ h; omega, (hR _ h).2⟩
      · have := List.mem_singleton.mp h; omega
    refine ⟨this.1, this.2, ?_⟩
    rw [List.drop_eq_getElem_cons hp]; rfl
  k_with "call builtin:iter" => (
    rename Fr _ _ _ _ => lF2
    rename News _ _ _ _ => lN2
    refine iterL lF2 lN2 hl fun I h2 F2 N2 hI => ?_)
  have hx0 : ∃ x, xs[0]? = some x ∧ 0 ≤ x ∧ x < 4096 ∧ octF (xs.drop 0) = enc x ++ octF (xs.drop (0 + 1)) := hx 0 (by rw [hxs, List.length_append]; simp)
  obtain ⟨x0, hx00, hx01, hx02, hx03⟩ := hx0
  rw [List.drop_zero, ← hns] at hx03
  k_with "call ref" => (
    rename Fr g' L' _ _ => lF2
    rename News g' L' _ _ => lN2
    first
      | (refine' iseof B' lF2 X' lN2 T' rfl ?c3 ?c4 (fun h3 tk3 F3 N3 => ?_)
         (case c3 => ktr_room)
         (case c4 => ktr_units))
      | (refine' varint (i := 0) (pre := []) (rest := _) B' lF2 X' lN2 T' rfl ?c1 ?c2 hl hi ?c3 ?c4 hx01 hx02 hx03 (fun t3 h3 tk3 F3 N3 => ?_)
         (case c1 => exact fun p hp => nomatch hp)
         (case c2 => exact fun p hp => Nat.ne_of_lt (hI p hp))
         (case c3 => ktr_room)
         (case c4 => ktr_units))
      | (rename (_ = _ ↔ p = xs.length) => hlt
         rename (List.getD _ _ _ ≠ 0) => hne
         have hpl : p < xs.length := Nat.lt_of_le_of_ne hp2 (fun e => hne (hlt.mpr e))
         obtain ⟨xp, hxp0, hxp1, hxp2, hxp3⟩ := hx p hpl
         rw [← hdr] at hxp3
         refine' varint (i := ic) (pre := [(lc, _)]) (rest := _) B' lF2 X' lN2 T' rfl ?c1 ?c2 hl hi ?c3 ?c4 hxp1 hxp2 hxp3 (fun t3 h4 tk4 F4 N4 => ?_)
         (case c1 => exact fun q hq => by rw [List.mem_singleton.mp hq]; exact Nat.ne_of_gt hIc)
         (case c2 => exact fun p hp => Nat.ne_of_lt (hI p hp))
         (case c3 => ktr_room)
         (case c4 => ktr_units)
         change News _ _ _ ((lc, _) :: (I, _) :: news) at N4))
  k_with "exec While UnaryOp cons nil" => (
    rename Fr g' L' _ _ => lF2
    rename News g' L' _ _ => lN2
    with_unfolding_all
      refine while_inv (σ := RdSt) (fun c y => if y = Str.ofString "row" then some (Value.ref c.l) else if y = Str.ofString "stream" then some (Value.ref I) else List.lookup y [(Str.ofString "octets", Value.ref lo)])
        (fun c => (c.l, listOf c.vs.toArray c.n) :: (I, itObj lo c.i) :: news)
        (fun k c => I < c.l ∧ ∃ p, IntsAre c.vs c.st ∧ 1 ≤ p ∧ p ≤ xs.length ∧ c.st = xs.take p ∧ ns.drop c.i = octF (xs.drop p) ∧ k = xs.length - p) g' (xs.length - 1) (RdSt.mk _ _ _ _ [x0]) lF2 lN2 ?gm ?gj (fun k c h3 tk3 j F3 N3 => ?_)
    (case gm => exact fun y => rfl)
    (case gj =>
      rename (∀ p, p ∈ [] ++ _ :: news → _) => lI
      refine ⟨lI (_, _) (List.mem_append_right _ (List.Mem.head _)), 1, .cons _ _ .nil, Nat.le_refl _, by rw [hxs, List.length_append]; simp, ?_, ?_, rfl⟩
      · show [x0] = xs.take (0 + 1)
        rw [take_get hx00, List.take_zero, List.nil_append]
      · show ns.drop (0 + (enc x0).length) = octF (xs.drop 1)
        rw [hx03]; simp)
    obtain ⟨lc, vc, nc, ic, stc⟩ := c
    obtain ⟨hIc, p, jI, hp1, hp2, hst, hdr, hk⟩ := j
    dsimp only at *
    subst hst
    change Fr g' L' h3 _ at F3
    change News g' L' h3 _ at N3
    have hlt := last_take hxs (fun x h => (hR x h).1) hp1 hp2)
  k_with "call builtin:list.append" => (
    rename Fr g' L' _ _ => lF2
    rename News g' L' _ _ => lN2
    have hne1 : ∀ q ∈ (I, itObj lo (ic + (enc xp).length)) :: news, (q.1 : Nat) ≠ lc := fun q hq => (List.mem_cons.mp hq).elim (fun e => by rw [e]; exact Nat.ne_of_lt hIc) (fun e => Nat.ne_of_lt (Nat.lt_trans (hI q e) hIc))
    have hvl : vc.toArray.size ≤ sizeLine := by rw [sizeLine_eq]; have := jI.length; have e9 : (xs.take p).length ≤ xs.length := List.length_take_le' ..; have e8 : xs.length = R.length + 1 := by rw [hxs]; simp
                                                simp only [List.size_toArray]; omega
    refine append_K lF2 lN2 (Upd.head hne1) ?_ hvl)
  k_steps
  · rename (List.getD _ _ _ = 0) => h0
    rename Fr h₀ _ _ _ => kF
    rename News h₀ _ _ _ => kN
    have e1 := hlt.mp h0
    rw [e1, List.take_length] at jI
    exact ret _ _ _ _ _ jI kF (fun q hq => kN q ((List.mem_cons.mp hq).elim (fun e => by rw [e]; exact .head _) (fun e => .tail _ (.tail _ e)))) (fun q hq => Nat.lt_trans (hI q hq) hIc)
  · rename Fr g' L' _ _ => kF
    rename News g' L' _ _ => kN
    rw [List.push_toArray] at kN
    refine ⟨xs.length - (p + 1), _, _, _, ⟨lc, vc ++ [Value.int xp t3], nc + 1, ic + (enc xp).length, xs.take (p + 1)⟩, ?_, rfl, kF, fun y => rfl, kN, hIc, p + 1, ?_, by omega, hpl, rfl, ?_, rfl⟩
    · rw [hk]; omega
    · show IntsAre (vc ++ [Value.int xp t3]) (xs.take (p + 1))
      rw [take_get hxp0]
      exact IntsAre.append jI (.cons _ _ .nil)
    · show ns.drop (ic + (enc xp).length) = octF (xs.drop (p + 1))
      rw [← List.drop_drop, hxp3]; simp

section
variable {prog : Program} {w : World} {A : Around} {E : Value → Shared → Prop} {s : Shared} {env : Env} {h₀ : Heap} {x : Str} {body : List Stmt} {Q : Flow → Shared → Prop}
/-- a for loop over a range, by a word over the frame's map and the ledger -/
theorem forRg {r : Addr} {a b c : Int} {t u v : Tok} {n : Nat} {m₀ : Str → Option Value} {news : List (Addr × Obj)} (J : Nat → (Str → Option Value) → List (Addr × Obj) → Prop)
    (hh : A.handled = none) (hr : IsRange s.heap r a b c t u v) (hsmall : Builtin.Range.small a b c = true) (hn : Builtin.Range.rangeSize a b c = (n : Int)) (F : Fr h₀ env.locals s.heap m₀) (N : News h₀ env.locals s.heap news) (hj : J 0 m₀ news)
    (turn : ∀ i t₁ m₁ nx h tk I oI, i < n → J i m₁ nx → (∀ p ∈ nx, p.1 ≠ I) → Fr h₀ env.locals h (fun y => if y = x then some (.int (a + i * c) t₁) else m₁ y) → News h₀ env.locals h ((I, oI) :: nx) →
      wpAny (model prog w) A (execs body env) (TurnEnd h₀ env.locals I oI (J (i + 1)) Q { s with heap := h, toks := tk }) E { s with heap := h, toks := tk })
    (done : ∀ m₁ nx h tk, J n m₁ nx → Fr h₀ env.locals h m₁ → News h₀ env.locals h nx → Q .next { s with heap := h, toks := tk }) :
    wpAny (model prog w) A (pyIter (.ref r)) (fun it s₂ => LoopAtV prog w A h₀ env x body Q E it s₂) E s := by
  refine wpAny_pyIter_range hr hsmall ?_
  have W := Walks.range (prog := prog) (w := w) hh s.heap.objs.size a c n
  refine ⟨_, _, _, n, _, _, m₀, news, J, rfl, W, ?_, ?_, ?_, ?_, F.push _, (fun p hp => ⟨Heap.get?_push_of_some _ (N p hp).1, (N p hp).2⟩), hj, ?_, ?_⟩
  · intro hm
    exact absurd F.ns.lt ((List.mem_singleton.mp hm) ▸ Nat.lt_irrefl _)
  · intro b hb
    rw [List.mem_singleton.mp hb]
    exact next_is_new F
  · intro p hp hI
    exact absurd (Heap.lt_size (N p hp).1) ((List.mem_singleton.mp hI) ▸ Nat.lt_irrefl _)
  · show IsRangeIter _ _ _ _ _
    rw [hn]
    simpa using Heap.get?_push_size _ rfl
  · rintro i v m₁ news₁ s₁ own ⟨hh', tk', rfl⟩ hin ⟨t₁, rfl⟩ hJ hoff hown hget hfp hst F₁ N₁
    have hIn : h₀.get? s.heap.objs.size = none := next_is_new F
    have hIo : (s.heap.objs.size, _) ∈ own := hfp _ (by simp) hIn _ hst
    have N₂ : News h₀ env.locals hh' ((s.heap.objs.size, _) :: news₁) := fun p hp => by
      rcases List.mem_cons.mp hp with rfl | hp
      · exact N₁ _ (List.mem_append.mpr (.inl hIo))
      · exact N₁ _ (List.mem_append.mpr (.inr hp))
    refine wpAny_mono (turn i t₁ m₁ news₁ hh' tk' _ _ hin hJ (fun p hp e => hoff p hp (by simp [e])) F₁ N₂) (fun f s₂ p => ?_) fun _ _ e => e
    have fin : ∀ {oI}, hh'.get? s.heap.objs.size = some oI → TurnTo h₀ env.locals s.heap.objs.size oI (J (i + 1)) { s with heap := hh', toks := tk' } s₂ →
        LoopStepU h₀ env.locals [s.heap.objs.size] own (J (i + 1)) { s with heap := hh', toks := tk' } .next s₂ := by
      rintro oI hoI ⟨h', tk, m', nx, e, F', N', hn, hm⟩
      refine ⟨rfl, h', tk, m', nx, e, F', fun p hp => ?_, fun p hp hq => hn p hp (List.mem_singleton.mp hq), hm⟩
      rcases List.mem_append.mp hp with h | h
      · have h2 : hh'.get? p.1 = some p.2 := hget p h
        have h1 := List.mem_singleton.mp (hown p h)
        rw [h1, hoI] at h2
        have h3 : p = (s.heap.objs.size, oI) := Prod.ext h1 (Option.some.inj h2).symm
        rw [h3]
        exact N' _ (.head _)
      · exact N' p (.tail _ h)
    cases f with
    | ret v => exact .ret p
    | brk => exact .brk p
    | next => exact .next (fin hst p)
    | cont => exact .cont (fin hst p)
  · rintro h' tk m' news' F' N' _ hJ
    exact done m' news' h' tk hJ F' N'

/-- the same, the state written as a datum -/
theorem forR {σ : Type} (M : σ → Str → Option Value) (Led : σ → List (Addr × Obj)) (J : Nat → σ → Prop) (c₀ : σ) (n : Nat) {r : Addr} {a b c : Int} {t u v : Tok} {m₀ : Str → Option Value} {news : List (Addr × Obj)}
    (hh : A.handled = none) (hr : IsRange s.heap r a b c t u v) (hsmall : Builtin.Range.small a b c = true) (hn : Builtin.Range.rangeSize a b c = (n : Int)) (F : Fr h₀ env.locals s.heap m₀) (N : News h₀ env.locals s.heap news) (hs : ∀ p ∈ Led c₀, p ∈ news) (hm : ∀ y, y ≠ x → m₀ y = M c₀ y) (hj : J 0 c₀)
    (turn : ∀ i t₁ c₁ h tk I oI, i < n → J i c₁ → (∀ p ∈ Led c₁, p.1 ≠ I) → Fr h₀ env.locals h (fun y => if y = x then some (.int (a + i * c) t₁) else M c₁ y) → News h₀ env.locals h ((I, oI) :: Led c₁) →
      wpAny (model prog w) A (execs body env) (StepEnd M Led x h₀ env.locals I oI (J (i + 1)) Q { s with heap := h, toks := tk }) E { s with heap := h, toks := tk })
    (done : ∀ c₁ u h tk, J n c₁ → Fr h₀ env.locals h (fun y => if y = x then u else M c₁ y) → News h₀ env.locals h (Led c₁) → Q .next { s with heap := h, toks := tk }) :
    wpAny (model prog w) A (pyIter (.ref r)) (fun it s₂ => LoopAtV prog w A h₀ env x body Q E it s₂) E s := by
  have fr : ∀ (h : Heap) (m₁ : Str → Option Value) (c : σ) (u : Option Value), (∀ y, y ≠ x → m₁ y = M c y) → (fun y => if y = x then u else m₁ y) = (fun y => if y = x then u else M c y) := by
    intro h m₁ c u e
    funext y
    by_cases hy : y = x
    · simp only [hy, if_true]
    · simp only [hy, if_false]; exact e y hy
  refine forRg (fun i m nx => ∃ c, nx = Led c ∧ (∀ y, y ≠ x → m y = M c y) ∧ J i c) hh (news := Led c₀) hr hsmall hn F (fun p hp => N p (hs p hp)) ⟨c₀, rfl, hm, hj⟩ ?_ ?_
  · rintro i t₁ m₁ nx h tk I oI hi ⟨c, rfl, hmc, hJ⟩ hI F₁ N₁
    rw [fr h m₁ c _ hmc] at F₁
    refine wpAny_mono (turn i t₁ c h tk I oI hi hJ hI F₁ N₁) (fun f s₂ p => ?_) fun _ _ e => e
    have up : StepTo M Led x h₀ env.locals I oI (J (i + 1)) { s with heap := h, toks := tk } s₂ → TurnTo h₀ env.locals I oI (fun m nx => ∃ c, nx = Led c ∧ (∀ y, y ≠ x → m y = M c y) ∧ J (i + 1) c) { s with heap := h, toks := tk } s₂ := by
      rintro ⟨h', tk', m', c', e, F', hm', N', hI', hJ'⟩
      exact ⟨h', tk', m', _, e, F', N', hI', c', rfl, hm', hJ'⟩
    cases f with
    | ret v => exact p
    | brk => exact p
    | next => exact up p
    | cont => exact up p
  · rintro m₁ nx h tk ⟨c, rfl, hmc, hJ⟩ F₁ N₁
    refine done c (m₁ x) h tk hJ ?_ N₁
    have : m₁ = fun y => if y = x then m₁ x else M c y := by
      funext y
      by_cases hy : y = x
      · simp only [hy, if_true]
      · simp only [hy, if_false]; exact hmc y hy
    rw [← this]; exact F₁
theorem offHead {l I : Addr} {o o' : Obj} {r : List (Addr × Obj)} (h : ∀ p ∈ (l, o) :: r, p.1 ≠ I) : ∀ p ∈ (l, o') :: r, p.1 ≠ I := fun p hp => by
  rcases List.mem_cons.mp hp with rfl | hp
  · exact h (l, o) (.head _)
  · exact h p (.tail _ hp)
theorem rg1 {a b : Int} (n : Nat) (h : b = a + n) : Builtin.Range.rangeSize a b 1 = (n : Int) := by
  subst h
  unfold Builtin.Range.rangeSize
  rw [if_pos (by decide)]
  split
  · rw [Int.ediv_one]; omega
  · omega
end

section
variable {prog : Program} {w : World} {A : Around} {E : Value → Shared → Prop} {s : Shared} {h₀ : Heap} {L D : Addr} {m : Str → Option Value} {news news' : List (Addr × Obj)} {vs : List Value} {n : Nat} {k : Int} {t : Tok} {v : Value}
theorem setL {Q : Unit → Shared → Prop} (F : Fr h₀ L s.heap m) (Nw : News h₀ L s.heap news) (U : Upd D (listOf vs.toArray n) (listOf (vs.set k.toNat v).toArray n) news news') (hs : vs.length ≤ 1000) (h0 : 0 ≤ k) (h1 : k < vs.length)
    (h : ∀ h', Fr h₀ L h' m → News h₀ L h' news' → Q () { s with heap := h' }) : wpAny (model prog w) A (setItem (.ref D) (.int k t) v) Q E s := by
  obtain ⟨pre, post, rfl, rfl, a, b⟩ := U.split
  have z := Nw (D, listOf vs.toArray n) (List.mem_append.mpr (.inr (.head _)))
  refine ki_setAt z.1 h0 (by omega) (by simpa using h1) (h _ (F.change (Heap.SameBut.update ..) z.2.1 z.2.2) (ki_turn _ Nw a b ?_ ?_))
  · simp
  · rw [if_pos (by simp)]
end
theorem ints_set : ∀ {vs : List Value} {ns : List Int}, IntsAre vs ns → ∀ (i : Nat) (n : Int) (t : Tok), IntsAre (vs.set i (.int n t)) (ns.set i n)
  | _, _, .nil, _, _, _ => .nil
  | _, _, .cons _ _ r, 0, n, t => .cons n t r
  | _, _, .cons m u r, i + 1, n, t => .cons m u (ints_set r i n t)

def Good (x : Int) : Prop := x = 3 ∨ x = 4 ∨ (7 ≤ x ∧ x ≤ 54) ∨ (256 ≤ x ∧ x ≤ 258)
theorem good_lit (k : Nat) (h : k < 8) : Good (([23, 23, 52, 11, 53, 4, 3, 3] : List Int).getD k 0) := by
  match k, h with
  | 0, _ => exact .inr (.inr (.inl ⟨by decide, by decide⟩))
  | 1, _ => exact .inr (.inr (.inl ⟨by decide, by decide⟩))
  | 2, _ => exact .inr (.inr (.inl ⟨by decide, by decide⟩))
  | 3, _ => exact .inr (.inr (.inl ⟨by decide, by decide⟩))
  | 4, _ => exact .inr (.inr (.inl ⟨by decide, by decide⟩))
  | 5, _ => exact .inr (.inl rfl)
  | 6, _ => exact .inl rfl
  | 7, _ => exact .inl rfl
structure WSu where
  l : Addr
  vs : List Value
  n : Nat
  st : List Int
  kv : Option Value
  rv : Option Value
structure WSt where
  l : Addr
  vs : List Value
  n : Nat
  st : List Int
theorem row_map {r k n rw k0 r0 : Option Value} {base : Str → Option Value} {y : Str} (y1 : y ≠ Str.ofString "number") :
    (if y = Str.ofString "rest" then r else if y = Str.ofString "kind" then k else if y = Str.ofString "number" then n else if y = Str.ofString "row" then rw else if y = Str.ofString "kind" then k0 else if y = Str.ofString "rest" then r0 else base y)
      = (if y = Str.ofString "row" then rw else if y = Str.ofString "kind" then k else if y = Str.ofString "rest" then r else base y) := by
  by_cases y2 : y = Str.ofString "row"
  · subst y2; rfl
  · by_cases y3 : y = Str.ofString "kind"
    · subst y3; rfl
    · by_cases y4 : y = Str.ofString "rest"
      · subst y4; rfl
      · simp only [if_neg y1, if_neg y2, if_neg y3, if_neg y4]
structure WInvU (news : List (Addr × Obj)) (cl : Addr) (i : Nat) (d : WSu) : Prop where
  k1 : IntsAre d.vs d.st
  k2 : d.st.length = i
  k3 : ∀ x ∈ d.st, Good x
  k4 : cl < d.l
  k5 : ∀ p ∈ news, p.1 < d.l
set_option maxHeartbeats 4000000 in
theorem row {w : World} {mean : ExcName → Option Value} {mg mb : Str → Option Value}
    {dp un : Nat} {gd : Option (List Code)} {cn : Str} {cs : Scope} {a : Addr} {ccd : Value} {cl : List (Str × Addr)} {outer : List Env} {A₀ : Around} {base h₀ : Heap} {L : Addr} {m : Str → Option Value} {news : List (Addr × Obj)} {s : Shared} {Q E : Value → Shared → Prop}
    {sc : Addr} {vs : List Value} {ns : List Int}
    (B : Below A₀ base outer h₀) (F : Fr h₀ L s.heap m) (X : (hd.heap_39 w.params).In h₀) (N : News h₀ L s.heap news)
    (T : Top hd.view_39 (looseW hd.view_39 [Str.ofString "EXACT_TOKEN_TYPES"]) mean mg mb h₀) (hk : cs.kind = .function)
    (hS : h₀.IsList sc vs.toArray) (hi : IntsAre vs ns) (hnl : ns.length ≤ 63) (hd : dp + 10 < recursionLimit) (hu : un + 100 < cLine)
    (ret : ∀ R : List Int, R.length = 8 → (∀ x ∈ R, Good x) → ListRet h₀ L m news s Q (R ++ [0])) :
    wpAny (model Challenge.rw_sr0042_01.row.prog w) (ktrTop dp un gd cn cs L a ccd cl outer) (call (.ref 66) [.ref sc]) Q E s := by
  revert X; k_fill; intro X
  k_with_none
  refine wpAny_call ?_
  k_dflt ktr_enter
  rename_i g' L' h' FG' F' N' B' X' T'
  change Fr _ _ _ (fun y => List.lookup y [(Str.ofString "script", Value.ref sc)]) at F'
  generalize s.toks + List.length _ = tk₀
  have hS' : g'.IsList sc vs.toArray := hS.at fun o e => FG'.keep _ _ e
  obtain ⟨K, hK, hKn⟩ : ∃ K : Nat, (if 60 < (ns.length : Int) then (60 : Int) else (ns.length : Int)) = 0 + (K : Int) ∧ K ≤ ns.length := by
    by_cases h : 60 < (ns.length : Int)
    · exact ⟨60, by rw [if_pos h]; rfl, by omega⟩
    · exact ⟨ns.length, by rw [if_neg h]; omega, Nat.le_refl _⟩
  k_with "pyIter ref" => (
    rename Fr _ _ _ _ => lF2
    rename News _ _ _ _ => lN2
    first
    | (rename IsRange _ _ _ _ _ _ _ _ => lR
       with_unfolding_all
         refine forR (σ := WSt) (fun c y => if y = Str.ofString "numbers" then some (.ref c.l) else List.lookup y [(Str.ofString "script", Value.ref sc)]) (fun c => (c.l, listOf c.vs.toArray c.n) :: news)
          (fun i c => IntsAre c.vs c.st ∧ c.st.length = 8 ∧ (∀ p ∈ news, p.1 < c.l)) (WSt.mk _ _ _ [8, 0, 6, 3, 7, 20, 4, 1]) K rfl lR (by rw [hK]; exact small_one (by decide) (by decide) (by omega) (by omega)) (rg1 K hK) lF2 lN2 (by kst_allIn) ?gm ?gj
          (fun i t1 c h1 tk1 I oI hin hJ hI F1 N1 => ?_) (fun c u h1 tk1 hJ F1 N1 => ?_)
       (case gm => exact fun y hy => rfl)
       (case gj => exact ⟨.cons _ _ (.cons _ _ (.cons _ _ (.cons _ _ (.cons _ _ (.cons _ _ (.cons _ _ (.cons _ _ .nil))))))), rfl, by assumption⟩)
       all_goals obtain ⟨J1, J2, J3⟩ := hJ
       all_goals try k_fold)
    | (rename IntsAre c.vs c.st => lI
       rename (List.length c.st = 8) => lJ
       rename (∀ p, p ∈ news → p.1 < c.l) => lU
       with_unfolding_all
         refine forI (σ := WSu) (fun d y => if y = Str.ofString "row" then some (.ref d.l) else if y = Str.ofString "kind" then d.kv else if y = Str.ofString "rest" then d.rv else if y = Str.ofString "place" then u else if y = Str.ofString "numbers" then some (.ref c.l) else List.lookup y [(Str.ofString "script", Value.ref sc)])
          (fun d => (d.l, listOf d.vs.toArray d.n) :: (c.l, listOf c.vs.toArray c.n) :: news)
          (WInvU news c.l) (WSu.mk _ _ _ [] (if Str.ofString "kind" = Str.ofString "place" then u else if Str.ofString "kind" = Str.ofString "numbers" then some (.ref c.l) else List.lookup (Str.ofString "kind") [(Str.ofString "script", Value.ref sc)]) (if Str.ofString "rest" = Str.ofString "place" then u else if Str.ofString "rest" = Str.ofString "numbers" then some (.ref c.l) else List.lookup (Str.ofString "rest") [(Str.ofString "script", Value.ref sc)])) rfl lI (fun _ => .tail _ (.head _)) lF2 lN2 (by kst_allIn) ?gm ?gj
          (fun i nb tb d h2 tk2 I oI hv hJ hI F1 N1 => ?_) (fun d u2 h2 tk2 hJ F1 N1 => ?_)
       (case gm =>
         intro y y1
         by_cases y2 : y = Str.ofString "row"
         · rw [if_pos y2, if_pos y2]
         · by_cases y3 : y = Str.ofString "kind"
           · rw [if_neg y2, if_neg y2, if_pos y3, y3]
           · by_cases y4 : y = Str.ofString "rest"
             · rw [if_neg y2, if_neg y2, if_neg y3, if_pos y4, y4]
             · rw [if_neg y2, if_neg y2, if_neg y3, if_neg y4])
       (case gj =>
         rename (_ ∧ AllLt _ news) => lQ
         exact ⟨.nil, rfl, fun x hx => (nomatch hx), lQ.1, allLt_out lQ.2⟩)
       all_goals obtain ⟨K1, K2, K3, K4, K5⟩ := hJ
       all_goals try k_fold))
  k_with "setItem ref int" => (
    rename Fr _ _ _ _ => lF2
    rename News _ _ _ _ => lN2
    have hm0 : 0 ≤ (0 + (i : Int) * 1).fmod 8 := Int.fmod_nonneg_of_pos _ (by decide)
    have hm1 : (0 + (i : Int) * 1).fmod 8 < 8 := Int.fmod_lt_of_pos _ (by decide)
    have hlv : c.vs.length = 8 := by rw [J1.length]; exact J2
    have hIne : (c.l : Nat) ≠ I := hI _ (List.Mem.head _)
    refine setL lF2 lN2 (Upd.tail (Ne.symm hIne) (Upd.head fun q hq => Nat.ne_of_lt (J3 q hq))) (by omega) hm0 (by omega) ?_)
  k_with "call builtin:list.append" => (
    rename Fr _ _ _ _ => lF2
    rename News _ _ _ _ => lN2
    have hIne : (d.l : Nat) ≠ I := hI _ (List.Mem.head _)
    have hln : c.st.length = 8 := lJ
    have hvl : d.vs.toArray.size ≤ sizeLine := by rw [sizeLine_eq]; have e1 := K1.length; have e2 := (List.getElem?_eq_some_iff.mp hv).1; simp only [List.size_toArray]; omega
    have hnx : ∀ q ∈ (c.l, listOf c.vs.toArray c.n) :: news, (q.1 : Nat) ≠ d.l := fun q hq => (List.mem_cons.mp hq).elim (fun e => by rw [e]; exact Nat.ne_of_lt K4) (fun e => Nat.ne_of_lt (K5 q e))
    first
      | (rename (_ ∧ _ ∧ _ ∧ AllLt _ _) => lQ
         refine append_K lF2 lN2 (Upd.tail (Nat.ne_of_gt lQ.2.1) (Upd.tail (Ne.symm hIne) (Upd.head hnx))) ?_ hvl)
      | refine append_K lF2 lN2 (Upd.tail (Ne.symm hIne) (Upd.head hnx)) ?_ hvl)
  k_steps
  · rename Fr _ _ _ _ => kF
    rename News _ _ _ _ => kN
    obtain ⟨tt, kN'⟩ : ∃ tt, News _ _ _ ((I, oI) :: (c.l, listOf (c.vs.set ((0 + (i : Int) * 1).fmod 8).toNat (Value.int ((c.st.getD ((0 + (i : Int) * 1).fmod 8).toNat 0 + ns.getD (0 + (i : Int) * 1).toNat 0).fmod 100003) tt)).toArray c.n) :: news) := ⟨_, kN⟩
    exact StepTo.intro ⟨c.l, c.vs.set ((0 + (i : Int) * 1).fmod 8).toNat (Value.int ((c.st.getD ((0 + (i : Int) * 1).fmod 8).toNat 0 + ns.getD (0 + (i : Int) * 1).toNat 0).fmod 100003) tt), c.n, c.st.set ((0 + (i : Int) * 1).fmod 8).toNat ((c.st.getD ((0 + (i : Int) * 1).fmod 8).toNat 0 + ns.getD (0 + (i : Int) * 1).toNat 0).fmod 100003)⟩ kF kN' (fun y y1 => if_neg y1) (by kst_allIn) (offHead hI) ⟨ints_set J1 _ _ _, by rw [List.length_set]; exact J2, J3⟩
  · rename Fr _ _ _ _ => kF
    rename News _ _ _ _ => kN
    rw [List.push_toArray] at kN
    refine StepTo.intro ⟨d.l, d.vs ++ [Value.int ([23, 23, 52, 11, 53, 4, 3, 3].getD (nb.fmod 12).toNat 0) _], d.n + 1, d.st ++ [([23, 23, 52, 11, 53, 4, 3, 3].getD (nb.fmod 12).toNat 0)], _, _⟩ kF kN (by intro y y1; refine (row_map (base := fun y => if y = Str.ofString "place" then u else if y = Str.ofString "numbers" then some (Value.ref c.l) else List.lookup y [(Str.ofString "script", Value.ref sc)]) y1).trans ?_; rfl) (by kst_allIn) (offHead hI) ⟨IntsAre.append K1 (.cons _ _ .nil), by rw [List.length_append]; exact congrArg (· + 1) K2, ?_, K4, K5⟩
    intro x hx
    rcases List.mem_append.mp hx with hx | hx
    · exact K3 x hx
    · rw [List.mem_singleton.mp hx]
      have q0 : 0 ≤ nb.fmod 12 := Int.fmod_nonneg_of_pos _ (by decide)
      rename (nb.fmod 12 < 8) => q1
      exact good_lit _ (by omega)
  · rename Fr _ _ _ _ => kF
    rename News _ _ _ _ => kN
    rw [List.push_toArray] at kN
    refine StepTo.intro ⟨d.l, d.vs ++ [Value.int (256 + (nb.fdiv 12).fmod 3) _], d.n + 1, d.st ++ [(256 + (nb.fdiv 12).fmod 3)], _, _⟩ kF kN (by intro y y1; refine (row_map (base := fun y => if y = Str.ofString "place" then u else if y = Str.ofString "numbers" then some (Value.ref c.l) else List.lookup y [(Str.ofString "script", Value.ref sc)]) y1).trans ?_; rfl) (by kst_allIn) (offHead hI) ⟨IntsAre.append K1 (.cons _ _ .nil), by rw [List.length_append]; exact congrArg (· + 1) K2, ?_, K4, K5⟩
    intro x hx
    rcases List.mem_append.mp hx with hx | hx
    · exact K3 x hx
    · rw [List.mem_singleton.mp hx]
      have q0 : 0 ≤ (nb.fdiv 12).fmod 3 := Int.fmod_nonneg_of_pos _ (by decide)
      have q1 : (nb.fdiv 12).fmod 3 < 3 := Int.fmod_lt_of_pos _ (by decide)
      exact .inr (.inr (.inr ⟨by omega, by omega⟩))
  · rename Fr _ _ _ _ => kF
    rename News _ _ _ _ => kN
    rw [List.push_toArray] at kN
    refine StepTo.intro ⟨d.l, d.vs ++ [Value.int (7 + (nb.fdiv 12).fmod 48) _], d.n + 1, d.st ++ [(7 + (nb.fdiv 12).fmod 48)], _, _⟩ kF kN (by intro y y1; refine (row_map (base := fun y => if y = Str.ofString "place" then u else if y = Str.ofString "numbers" then some (Value.ref c.l) else List.lookup y [(Str.ofString "script", Value.ref sc)]) y1).trans ?_; rfl) (by kst_allIn) (offHead hI) ⟨IntsAre.append K1 (.cons _ _ .nil), by rw [List.length_append]; exact congrArg (· + 1) K2, ?_, K4, K5⟩
    intro x hx
    rcases List.mem_append.mp hx with hx | hx
    · exact K3 x hx
    · rw [List.mem_singleton.mp hx]
      have q0 : 0 ≤ (nb.fdiv 12).fmod 48 := Int.fmod_nonneg_of_pos _ (by decide)
      have q1 : (nb.fdiv 12).fmod 48 < 48 := Int.fmod_lt_of_pos _ (by decide)
      exact .inr (.inr (.inl ⟨by omega, by omega⟩))
  · rename Fr _ _ _ _ => kF
    rename News _ _ _ _ => kN
    rename IntsAre _ (d.st ++ [0]) => lI2
    rename (List.length c.st = 8) => q8
    rename (_ ∧ _ ∧ _ ∧ AllLt _ _) => lQ
    exact ret d.st (K2.trans q8) K3 _ _ _ _ _ lI2 kF (fun q hq => kN q ((List.mem_cons.mp hq).elim (fun e => by rw [e]; exact .head _) (fun e => .tail _ (.tail _ (.tail _ (.tail _ e)))))) (allLt_out lQ.2.2.2)

section
variable {prog : Program} {w : World} {A : Around} {E : Value → Shared → Prop} {s : Shared} {env : Env} {h₀ : Heap} {x : Str} {body : List Stmt} {Q : Flow → Shared → Prop} {K : Type} [DecidableEq K] {knd : KeyKind prog w K}
/-- a for loop over the keys of a dict that stands in the base heap -/
theorem forDg {d : Addr} {kvs : List (K × Value)} {ep : Nat} {m₀ : Str → Option Value} {news : List (Addr × Obj)} (J : Nat → (Str → Option Value) → List (Addr × Obj) → Prop)
    (hh : A.handled = none) (hlo : (d == sysModules) = false) (hD : h₀.DictAt knd d kvs ep) (F : Fr h₀ env.locals s.heap m₀) (N : News h₀ env.locals s.heap news) (hj : J 0 m₀ news)
    (turn : ∀ i k vv v m₁ nx h tk I oI, kvs[i]? = some (k, vv) → knd.is k v = true → J i m₁ nx → (∀ p ∈ nx, p.1 ≠ I) → Fr h₀ env.locals h (fun y => if y = x then some v else m₁ y) → News h₀ env.locals h ((I, oI) :: nx) →
      wpAny (model prog w) A (execs body env) (TurnEnd h₀ env.locals I oI (J (i + 1)) Q { s with heap := h, toks := tk }) E { s with heap := h, toks := tk })
    (done : ∀ m₁ nx h tk, J kvs.length m₁ nx → Fr h₀ env.locals h m₁ → News h₀ env.locals h nx → Q .next { s with heap := h, toks := tk }) :
    wpAny (model prog w) A (pyIter (.ref d)) (fun it s₂ => LoopAtV prog w A h₀ env x body Q E it s₂) E s := by
  have hDs : s.heap.DictAt knd d kvs ep := hD.keep F.keep
  have hdlt : d < h₀.objs.size := hD.lt_size
  have hne : d ≠ s.heap.objs.size := Nat.ne_of_lt hDs.lt_size
  refine wpAny_pyIter_dict hlo hDs ?_
  have W := Walks.dictKeys (prog := prog) (w := w) (knd := knd) hh s.heap.objs.size d hne kvs ep
  refine ⟨_, _, _, kvs.length, _, _, m₀, news, J, rfl, W, ?_, ?_, ?_, ?_, F.push _, (fun p hp => ⟨Heap.get?_push_of_some _ (N p hp).1, (N p hp).2⟩), hj, ?_, ?_⟩
  · intro hm
    rcases List.mem_cons.mp hm with e | hm
    · exact absurd F.ns.lt (e ▸ Nat.lt_irrefl _)
    · have e := List.mem_singleton.mp hm
      have := F.above
      exact absurd hdlt (e ▸ Nat.not_lt.mpr F.above)
  · intro b hb
    rw [List.mem_singleton.mp hb]
    exact next_is_new F
  · intro p hp hI
    exact absurd (Heap.lt_size (N p hp).1) ((List.mem_singleton.mp hI) ▸ Nat.lt_irrefl _)
  · exact ⟨⟨_, Heap.get?_push_size _ rfl, rfl, rfl⟩, hDs.push _⟩
  · rintro i v m₁ news₁ s₁ own ⟨hh', tk', rfl⟩ hin ⟨k, vv, hkv, hkey⟩ hJ hoff hown hget hfp hst F₁ N₁
    have hIn : h₀.get? s.heap.objs.size = none := next_is_new F
    obtain ⟨⟨oI, hoI, _⟩, _⟩ := hst
    have hIo : (s.heap.objs.size, oI) ∈ own := hfp _ (by simp) hIn oI hoI
    have N₂ : News h₀ env.locals hh' ((s.heap.objs.size, oI) :: news₁) := fun p hp => by
      rcases List.mem_cons.mp hp with rfl | hp
      · exact N₁ _ (List.mem_append.mpr (.inl hIo))
      · exact N₁ _ (List.mem_append.mpr (.inr hp))
    refine wpAny_mono (turn i k vv v m₁ news₁ hh' tk' _ oI hkv hkey hJ (fun p hp e => hoff p hp (by simp [e])) F₁ N₂) (fun f s₂ p => ?_) fun _ _ e => e
    have fin : TurnTo h₀ env.locals s.heap.objs.size oI (J (i + 1)) { s with heap := hh', toks := tk' } s₂ →
        LoopStepU h₀ env.locals [s.heap.objs.size] own (J (i + 1)) { s with heap := hh', toks := tk' } .next s₂ := by
      rintro ⟨h', tk, m', nx, e, F', N', hn, hm⟩
      refine ⟨rfl, h', tk, m', nx, e, F', fun p hp => ?_, fun p hp hq => hn p hp (List.mem_singleton.mp hq), hm⟩
      rcases List.mem_append.mp hp with h | h
      · have h2 : hh'.get? p.1 = some p.2 := hget p h
        rcases List.mem_cons.mp (hown p h) with h1 | h1
        · rw [h1, hoI] at h2
          have h3 : p = (s.heap.objs.size, oI) := Prod.ext h1 (Option.some.inj h2).symm
          rw [h3]
          exact N' _ (.head _)
        · have h1 := List.mem_singleton.mp h1
          have h3 := (N₁ p (List.mem_append.mpr (.inl h))).2.2
          rw [h1] at h3
          obtain ⟨o, es, ho, _⟩ := hD
          rw [ho] at h3
          cases h3
      · exact N' p (.tail _ h)
    cases f with
    | ret v => exact .ret p
    | brk => exact .brk p
    | next => exact .next (fin p)
    | cont => exact .cont (fin p)
  · rintro h' tk m' news' F' N' _ hJ
    exact done m' news' h' tk hJ F' N'
/-- the same, the state written as a datum -/
theorem forD {σ : Type} (M : σ → Str → Option Value) (Led : σ → List (Addr × Obj)) (J : Nat → σ → Prop) (c₀ : σ) {d : Addr} {kvs : List (K × Value)} {ep : Nat} {m₀ : Str → Option Value} {news : List (Addr × Obj)}
    (hh : A.handled = none) (hlo : (d == sysModules) = false) (hD : h₀.DictAt knd d kvs ep) (F : Fr h₀ env.locals s.heap m₀) (N : News h₀ env.locals s.heap news) (hs : ∀ p ∈ Led c₀, p ∈ news) (hm : ∀ y, y ≠ x → m₀ y = M c₀ y) (hj : J 0 c₀)
    (turn : ∀ i k vv v c₁ h tk I oI, kvs[i]? = some (k, vv) → knd.is k v = true → J i c₁ → (∀ p ∈ Led c₁, p.1 ≠ I) → Fr h₀ env.locals h (fun y => if y = x then some v else M c₁ y) → News h₀ env.locals h ((I, oI) :: Led c₁) →
      wpAny (model prog w) A (execs body env) (StepEnd M Led x h₀ env.locals I oI (J (i + 1)) Q { s with heap := h, toks := tk }) E { s with heap := h, toks := tk })
    (done : ∀ c₁ u h tk, J kvs.length c₁ → Fr h₀ env.locals h (fun y => if y = x then u else M c₁ y) → News h₀ env.locals h (Led c₁) → Q .next { s with heap := h, toks := tk }) :
    wpAny (model prog w) A (pyIter (.ref d)) (fun it s₂ => LoopAtV prog w A h₀ env x body Q E it s₂) E s := by
  have fr : ∀ (m₁ : Str → Option Value) (c : σ) (u : Option Value), (∀ y, y ≠ x → m₁ y = M c y) → (fun y => if y = x then u else m₁ y) = (fun y => if y = x then u else M c y) := by
    intro m₁ c u e
    funext y
    by_cases hy : y = x
    · simp only [hy, if_true]
    · simp only [hy, if_false]; exact e y hy
  refine forDg (fun i m nx => ∃ c, nx = Led c ∧ (∀ y, y ≠ x → m y = M c y) ∧ J i c) hh (news := Led c₀) hlo hD F (fun p hp => N p (hs p hp)) ⟨c₀, rfl, hm, hj⟩ ?_ ?_
  · rintro i k vv v m₁ nx h tk I oI hi hk ⟨c, rfl, hmc, hJ⟩ hI F₁ N₁
    rw [fr m₁ c _ hmc] at F₁
    refine wpAny_mono (turn i k vv v c h tk I oI hi hk hJ hI F₁ N₁) (fun f s₂ p => ?_) fun _ _ e => e
    have up : StepTo M Led x h₀ env.locals I oI (J (i + 1)) { s with heap := h, toks := tk } s₂ → TurnTo h₀ env.locals I oI (fun m nx => ∃ c, nx = Led c ∧ (∀ y, y ≠ x → m y = M c y) ∧ J (i + 1) c) { s with heap := h, toks := tk } s₂ := by
      rintro ⟨h', tk', m', c', e, F', hm', N', hI', hJ'⟩
      exact ⟨h', tk', m', _, e, F', N', hI', c', rfl, hm', hJ'⟩
    cases f with
    | ret v => exact p
    | brk => exact p
    | next => exact up p
    | cont => exact up p
  · rintro m₁ nx h tk ⟨c, rfl, hmc, hJ⟩ F₁ N₁
    refine done c (m₁ x) h tk hJ ?_ N₁
    have : m₁ = fun y => if y = x then m₁ x else M c y := by
      funext y
      by_cases hy : y = x
      · simp only [hy, if_true]
      · simp only [hy, if_false]; exact hmc y hy
    rw [← this]; exact F₁
end

/-- the operators, as the table of tokens lists them -/
def signDat : List (Str × Int) := [(Str.ofString "!", 54), (Str.ofString "!=", 28), (Str.ofString "%", 24), (Str.ofString "%=", 40), (Str.ofString "&", 19), (Str.ofString "&=", 41), (Str.ofString "(", 7), (Str.ofString ")", 8), (Str.ofString "*", 16), (Str.ofString "**", 35), (Str.ofString "**=", 46), (Str.ofString "*=", 38), (Str.ofString "+", 14), (Str.ofString "+=", 36), (Str.ofString ",", 12), (Str.ofString "-", 15), (Str.ofString "-=", 37), (Str.ofString "->", 51), (Str.ofString ".", 23), (Str.ofString "...", 52), (Str.ofString "/", 17), (Str.ofString "//", 47), (Str.ofString "//=", 48), (Str.ofString "/=", 39), (Str.ofString ":", 11), (Str.ofString ":=", 53), (Str.ofString ";", 13), (Str.ofString "<", 20), (Str.ofString "<<", 33), (Str.ofString "<<=", 44), (Str.ofString "<=", 29), (Str.ofString "=", 22), (Str.ofString "==", 27), (Str.ofString ">", 21), (Str.ofString ">=", 30), (Str.ofString ">>", 34), (Str.ofString ">>=", 45), (Str.ofString "@", 49), (Str.ofString "@=", 50), (Str.ofString "[", 9), (Str.ofString "]", 10), (Str.ofString "^", 32), (Str.ofString "^=", 43), (Str.ofString "{", 25), (Str.ofString "|", 18), (Str.ofString "|=", 42), (Str.ofString "}", 26), (Str.ofString "~", 31)]
/-- how a symbol is spelled -/
def spell (x : Int) : Str :=
  if x = 3 then Str.ofString "\"" else if x = 4 then { cps := #[10] } else if x = 256 then Str.ofString "a" else if x = 257 then Str.ofString "bb" else if x = 258 then Str.ofString "ccc"
  else ((signDat.find? fun p => p.2 = x).map (·.1)).getD { cps := #[] }
theorem spell_dat : ∀ i : Fin 48, ∃ p, signDat[i.val]? = some p ∧ spell p.2 = p.1 ∧ p.2 ≠ 3 ∧ p.2 ≠ 4 := by
  have : (List.range 48).all (fun i => match signDat[i]? with | some p => decide (spell p.2 = p.1) && decide (p.2 ≠ 3) && decide (p.2 ≠ 4) | none => false) = true := by decide +kernel
  intro i
  have h := List.all_eq_true.mp this i.val (List.mem_range.mpr i.isLt)
  cases hp : signDat[i.val]? with
  | none => rw [hp] at h; cases h
  | some p =>
    rw [hp] at h
    simp only [Bool.and_eq_true, decide_eq_true_eq] at h
    exact ⟨p, rfl, h.1.1, h.1.2, h.2⟩
theorem sign_all (x : Int) (h0 : 7 ≤ x) (h1 : x ≤ 54) : ∃ j k, j < 48 ∧ signDat[j]? = some (k, x) := by
  have : (List.range 48).all (fun i => (List.range 48).any fun j => match signDat[j]? with | some p => decide (p.2 = 7 + (i : Int)) | none => false) = true := by decide +kernel
  have h := List.all_eq_true.mp this (x - 7).toNat (List.mem_range.mpr (by omega))
  obtain ⟨j, hj, hv⟩ := List.any_eq_true.mp h
  cases hp : signDat[j]? with
  | none => rw [hp] at hv; cases hv
  | some p =>
    rw [hp] at hv
    have := of_decide_eq_true hv
    exact ⟨j, p.1, List.mem_range.mp hj, by rw [hp, show x = p.2 by omega]⟩

section
variable {K : Type} [DecidableEq K]
theorem valueAt_stored_self {kvs : List (K × Value)} {k : K} {v : Value} : valueAt (stored kvs k v) k = some v := by
  unfold stored
  by_cases h : kvs.any (fun kv => kv.1 = k)
  · rw [if_pos h]
    obtain ⟨p, hp, hk⟩ := List.any_eq_true.mp h
    clear h
    unfold valueAt
    induction kvs with
    | nil => cases hp
    | cons q r ih =>
      simp only [List.map_cons]
      by_cases hq : q.1 = k
      · rw [if_pos hq, List.find?_cons_of_pos (by simpa using hq)]; rfl
      · rw [if_neg hq, List.find?_cons_of_neg (by simpa using hq)]
        rcases List.mem_cons.mp hp with rfl | hp
        · exact absurd (of_decide_eq_true hk) hq
        · exact ih hp
  · rw [if_neg h]
    unfold valueAt
    rw [List.find?_append]
    have : kvs.find? (fun kv => decide (kv.1 = k)) = none := by
      rw [List.find?_eq_none]
      intro p hp q
      exact h (List.any_eq_true.mpr ⟨p, hp, q⟩)
    rw [this]; simp
theorem valueAt_stored_other {kvs : List (K × Value)} {k x : K} {v : Value} (hx : x ≠ k) : valueAt (stored kvs k v) x = valueAt kvs x := by
  unfold stored
  by_cases h : kvs.any (fun kv => kv.1 = k)
  · rw [if_pos h]
    clear h
    unfold valueAt
    induction kvs with
    | nil => rfl
    | cons q r ih =>
      simp only [List.map_cons]
      by_cases hq : q.1 = k
      · have h2 : ¬ q.1 = x := fun e => hx (e.symm.trans hq)
        rw [if_pos hq, List.find?_cons_of_neg (by simpa using h2), List.find?_cons_of_neg (by simpa using h2)]
        exact ih
      · rw [if_neg hq]
        by_cases h3 : q.1 = x
        · rw [List.find?_cons_of_pos (by simpa using h3), List.find?_cons_of_pos (by simpa using h3)]
        · rw [List.find?_cons_of_neg (by simpa using h3), List.find?_cons_of_neg (by simpa using h3)]
          exact ih
  · rw [if_neg h]
    unfold valueAt
    rw [List.find?_append]
    have : ([(k, v)] : List (K × Value)).find? (fun kv => decide (kv.1 = x)) = none := by
      rw [List.find?_cons_of_neg (by simpa using fun e => hx e.symm)]; rfl
    rw [this, Option.or_none]
variable {prog : Program} {w : World} {A : Around} {E : Value → Shared → Prop} {s : Shared} {h₀ : Heap} {L d : Addr} {m : Str → Option Value} {knd : KeyKind prog w K} {kvs : List (K × Value)} {k : K} {key v : Value}
theorem itemD {value slice : PySem.Expr} {Q : Value → Shared → Prop} (F : Fr h₀ L s.heap m) (hD : h₀.DictOf knd d kvs) (hkey : knd.is k key = true) (hl : valueAt kvs k = some v) (h : Q v { s with toks := s.toks + 1 })
    (hs : subscripted slice false (.ref d) key = operate [.ref d, key] (getItem (.ref d) key) := by with_unfolding_all rfl) :
    wpAny (model prog w) A (subscriptTail value slice (.ref d) key) Q E s :=
  have hm := hD.keep F.keep
  tail_any hm.typeIs slot_dict_getitem.lookup (wpAny_getItem_of hkey hm.mapOf hl h) hs
theorem flat_at {enc : K → PyData} : ∀ {kvs : List (K × Value)} {D : List (PyData × PyData)}, FlatPairs enc kvs D → ∀ {i : Nat} {k : K} {v : Value}, kvs[i]? = some (k, v) → ∃ dv, D[i]? = some (enc k, dv) ∧ Flat v dv
  | _, _, .nil, _, _, _, h => by cases h
  | _, _, .cons hf r, 0, k, v, h => by cases h; exact ⟨_, rfl, hf⟩
  | _, _, .cons hf r, i + 1, k, v, h => flat_at r h
theorem flat_len {enc : K → PyData} : ∀ {kvs : List (K × Value)} {D : List (PyData × PyData)}, FlatPairs enc kvs D → kvs.length = D.length
  | _, _, .nil => rfl
  | _, _, .cons _ r => congrArg (· + 1) (flat_len r)
theorem sign_at {kvs : List (Str × Value)} (hF : FlatPairs PyData.str kvs (List.map (fun p => (PyData.str p.1, p.2)) (signDat.map fun p => (p.1, PyData.int p.2)))) {i : Nat} {k : Str} {vv : Value} (h : kvs[i]? = some (k, vv)) : ∃ n t, vv = .int n t ∧ signDat[i]? = some (k, n) := by
  obtain ⟨dv, h1, h2⟩ := flat_at hF h
  rw [List.map_map, List.getElem?_map] at h1
  cases hp : signDat[i]? with
  | none => rw [hp] at h1; cases h1
  | some p =>
    rw [hp] at h1
    obtain ⟨k', n⟩ := p
    simp only [Option.map_some, Function.comp, Option.some.injEq, Prod.mk.injEq, PyData.str.injEq] at h1
    obtain ⟨e1, e2⟩ := h1
    subst e1 e2
    obtain ⟨t, rfl⟩ := h2.int_inv
    exact ⟨n, t, rfl, rfl⟩
end
structure GSt where
  d : Addr
  o : Obj
  kvs : List (Int × Value)
def Signed (kvs : List (Int × Value)) (x : Int) : Prop := ∃ t, valueAt kvs x = some (.str (spell x) t)
set_option maxHeartbeats 4000000 in
theorem signs {w : World} {mean : ExcName → Option Value} {mg mb : Str → Option Value}
    {dp un : Nat} {gd : Option (List Code)} {cn : Str} {cs : Scope} {a : Addr} {ccd : Value} {cl : List (Str × Addr)} {outer : List Env} {A₀ : Around} {base h₀ : Heap} {L : Addr} {m : Str → Option Value} {news : List (Addr × Obj)} {s : Shared} {Q E : Value → Shared → Prop}
    (B : Below A₀ base outer h₀) (F : Fr h₀ L s.heap m) (X : (hd.heap_39 w.params).In h₀) (N : News h₀ L s.heap news)
    (T : Top hd.view_39 (looseW hd.view_39 [Str.ofString "EXACT_TOKEN_TYPES"]) mean mg mb h₀) (hk : cs.kind = .function)
    (hd : dp + 10 < recursionLimit) (hu : un + 100 < cLine) 
    (ret : ∀ d h' tk' o kvs, o.IsDictOf (PySem.intKind Challenge.rw_sr0042_01.row.prog w) kvs → (∀ x, (x = 3 ∨ x = 4 ∨ (7 ≤ x ∧ x ≤ 54)) → Signed kvs x) → Fr h₀ L h' m → News h₀ L h' ((d, o) :: news) → (∀ p ∈ news, p.1 < d) → Q (.ref d) { s with heap := h', toks := tk' }) :
    wpAny (model Challenge.rw_sr0042_01.row.prog w) (ktrTop dp un gd cn cs L a ccd cl outer) (call (.ref 87) []) Q E s := by
  revert X; k_fill; intro X
  k_with_none
  refine wpAny_call ?_
  k_dflt ktr_enter
  rename_i g' L' h' FG' F' N' B' X' T'
  change Fr _ _ _ (fun y => List.lookup y []) at F'
  have TT := kt_tab_in (a := 43) (D := signDat.map fun p => (p.1, PyData.int p.2)) Challenge.rw_sr0042_01.row.prog w X' (by kernel_rfl) (by decide +kernel) (by kernel_rfl)
  obtain ⟨hlo43, kv43, hD43, hF43⟩ := TT
  obtain ⟨ep43, hA43⟩ := hD43.dictAt
  have hlen43 : kv43.length = 48 := by rw [flat_len hF43]; rfl
  k_with "eval Dict" => (
    refine' kdn_eval (knd := PySem.intKind _ _) ?F ?N ?b ?a ?l ?e ?n ?_
    (case F => k_asm)
    (case N => first | k_asm | exact News.nil)
    (case b => exact Top.nolimit (by k_asm))
    (case a => rfl)
    (case l => rfl)
    (case e => exact List.cons_ne_nil _ _)
    (case n => exact Nat.le_of_ble_eq_true rfl)
    intro d' h' o' F' N' l1 lo' hd'
    try k_lt l1)
  k_with "exec For Name Name cons nil" => (
    rename Fr _ _ _ _ => lF'
    with_unfolding_all refine' For_invVF lF' ?k1 ?k2 ?_
    (case k1 => exact rfl)
    (case k2 => exact rfl)
    k_whole)
  k_with "pyIter ref" => (
    rename Fr _ _ _ _ => lF2
    rename News _ _ _ _ => lN2
    rename Obj.IsDictOf _ _ (intKeyPairs _) => lD
    obtain ⟨kv0, lD0, lL0, l30, l40⟩ : ∃ kv0 : List (Int × Value), Obj.IsDictOf (PySem.intKind Challenge.rw_sr0042_01.row.prog w) _ kv0 ∧ kv0.length ≤ 2 + 0 ∧ Signed kv0 3 ∧ Signed kv0 4 := ⟨_, lD, Nat.le_refl _, ⟨_, rfl⟩, ⟨_, rfl⟩⟩
    with_unfolding_all
      refine forD (σ := GSt) (fun c y => if y = Str.ofString "signs" then some (.ref c.d) else List.lookup y []) (fun c => (c.d, c.o) :: news)
        (fun i c => c.o.IsDictOf (PySem.intKind Challenge.rw_sr0042_01.row.prog w) c.kvs ∧ c.kvs.length ≤ 2 + i ∧ Signed c.kvs 3 ∧ Signed c.kvs 4 ∧ (∀ j k x, j < i → signDat[j]? = some (k, x) → Signed c.kvs x) ∧ (∀ p ∈ news, p.1 < c.d)) (GSt.mk _ _ kv0) rfl hlo43 hA43 lF2 lN2 (by kst_allIn) ?gm ?gj
        (fun i k vv v c h1 tk1 I oI hkv hkey hJ hI F1 N1 => ?_) (fun c u h1 tk1 hJ F1 N1 => ?_)
    (case gm => exact fun y hy => rfl)
    (case gj => exact ⟨lD0, lL0, l30, l40, fun j _ _ hj => absurd hj (Nat.not_lt_zero _), by assumption⟩)
    all_goals obtain ⟨J1, J2, J3, J4, J5, J6⟩ := hJ
    all_goals (first
      | (obtain ⟨tv, rfl⟩ := Value.isStrOf_shape hkey
         obtain ⟨n, tn, hvv, hsd⟩ := sign_at hF43 hkv
         have hva : valueAt kv43 k = some (.int n tn) := hvv ▸ valueAt_of_get hA43.nodup hkv
         have hin : i < 48 := by have := (List.getElem?_eq_some_iff.mp hkv).1; omega
         have hvl : c.kvs.length ≤ sizeLine := by rw [sizeLine_eq]; omega
         have hIne : (c.d : Nat) ≠ I := hI _ (List.Mem.head _)
         have hnx : ∀ q ∈ news, q.1 ≠ c.d := fun q hq => Nat.ne_of_lt (J6 q hq)
         try k_fold)
      | skip))
  k_with "subscriptTail Name Name ref str" => (
    rename Fr _ _ _ _ => lF2
    refine itemD lF2 hD43 hkey hva ?_)
  k_with "setItem ref int" => (
    rename Fr _ _ _ _ => lF2
    rename News _ _ _ _ => lN2
    refine kda_set (knd := PySem.intKind _ _) lF2 lN2 (UpdF.tail (Ne.symm hIne) (UpdF.head hnx)) J1 (intKind_is _ _ _ _) hvl ?_
    intro h9 o9 F9 N9 hd9)
  k_steps
  · rename (Obj.IsDictOf _ _ (stored _ _ _)) => lD9
    rename Fr _ _ _ _ => kF
    rename News _ _ _ _ => kN
    obtain ⟨p, hp1, hp2, hp3, hp4⟩ := spell_dat ⟨i, hin⟩
    have hpe : p = (k, n) := Option.some.inj (hp1.symm.trans hsd)
    subst hpe
    have hself : Signed (stored c.kvs n (Value.str k tv)) n := ⟨tv, by rw [valueAt_stored_self, hp2]⟩
    have hoth : ∀ x, Signed c.kvs x → Signed (stored c.kvs n (Value.str k tv)) x := fun x ⟨t, ht⟩ => by
      by_cases hx : x = n
      · subst hx; exact hself
      · exact ⟨t, by rw [valueAt_stored_other hx]; exact ht⟩
    exact StepTo.intro ⟨c.d, _, stored c.kvs n (Value.str k tv)⟩ kF kN (fun y y1 => if_neg y1) (by kst_allIn) (offHead hI) ⟨lD9, Nat.le_trans (stored_length_le c.kvs n (Value.str k tv)) (Nat.succ_le_succ J2), hoth 3 J3, hoth 4 J4, fun j k2 x2 hj hs2 => by
      rcases Nat.lt_succ_iff_lt_or_eq.mp hj with hj | rfl
      · exact hoth _ (J5 j k2 x2 hj hs2)
      · rw [hsd] at hs2; cases hs2; exact hself, J6⟩
  · rename Fr h₀ _ _ _ => kF
    rename News h₀ _ _ _ => kN
    refine ret _ _ _ c.o c.kvs J1 (fun x hx => ?_) kF kN J6
    rcases hx with rfl | rfl | ⟨hx0, hx1⟩
    · exact J3
    · exact J4
    · obtain ⟨j, k2, hj, hs2⟩ := sign_all x hx0 hx1
      exact J5 j k2 x (by omega) hs2

def whichF (ns : List Int) : Int := if KTD.inNums 1 ns = true then (if KTD.inNums 0 ns = true then 2 + ns.getD 0 0 else 1) else 0
set_option maxHeartbeats 4000000 in
theorem which {w : World} {mean : ExcName → Option Value} {mg mb : Str → Option Value}
    {dp un : Nat} {gd : Option (List Code)} {cn : Str} {cs : Scope} {a : Addr} {ccd : Value} {cl : List (Str × Addr)} {outer : List Env} {A₀ : Around} {base h₀ : Heap} {L : Addr} {m : Str → Option Value} {news : List (Addr × Obj)} {s : Shared} {Q E : Value → Shared → Prop}
    {l : Addr} {vs : List Value} {nn : Nat} {ns : List Int}
    (B : Below A₀ base outer h₀) (F : Fr h₀ L s.heap m) (X : (hd.heap_39 w.params).In h₀) (N : News h₀ L s.heap news)
    (T : Top hd.view_39 (looseW hd.view_39 [Str.ofString "EXACT_TOKEN_TYPES"]) mean mg mb h₀) (hk : cs.kind = .function)
    (hl : (l, listOf vs.toArray nn) ∈ news) (hi : IntsAre vs ns) (hn : ns.length ≤ 1000) (hn0 : 0 < ns.length) (hd : dp + 10 < recursionLimit) (hu : un + 100 < cLine) 
    (ret : ∀ t' h' tk', Fr h₀ L h' m → News h₀ L h' news → Q (.int (whichF ns) t') { s with heap := h', toks := tk' }) :
    wpAny (model Challenge.rw_sr0042_01.row.prog w) (ktrTop dp un gd cn cs L a ccd cl outer) (call (.ref 116) [.ref l]) Q E s := by
  revert X; k_fill; intro X
  k_with_none
  refine wpAny_call ?_
  k_dflt ktr_enter
  rename_i g' L' h' FG' F' N' B' X' T'
  change Fr _ _ _ (fun y => List.lookup y [(Str.ofString "deeds", Value.ref l)]) at F'
  generalize s.toks + List.length _ = tk₀
  k_with "compareOp NotIn int ref" => (
    rename News _ _ _ _ => lN2
    refine KTD.notin_nums (ns := ns) ⟨vs, ⟨_, (lN2 _ hl).1, rfl, nn, rfl⟩, hi⟩ (fun _ _ e => e) ?_)
  k_steps
  · rename (KTD.inNums 1 ns = true) => q1
    rename (KTD.inNums 0 ns = true) => q2
    rename Fr h₀ _ _ _ => kF
    rename News h₀ _ _ _ => kN
    have e : whichF ns = 2 + ns.getD 0 0 := by rw [whichF, if_pos q1, if_pos q2]
    exact e ▸ ret _ _ _ kF kN
  · rename (KTD.inNums 1 ns = true) => q1
    rename (KTD.inNums 0 ns = false) => q2
    rename Fr h₀ _ _ _ => kF
    rename News h₀ _ _ _ => kN
    have e : whichF ns = 1 := by rw [whichF, if_pos q1, if_neg (by rw [q2]; exact Bool.false_ne_true)]
    exact e ▸ ret _ _ _ kF kN
  · rename (KTD.inNums 1 ns = false) => q1
    rename Fr h₀ _ _ _ => kF
    rename News h₀ _ _ _ => kN
    have e : whichF ns = 0 := by rw [whichF, if_neg (by rw [q1]; exact Bool.false_ne_true)]
    exact e ▸ ret _ _ _ kF kN

def textF (ns : List Int) : Str := Txt.join (Str.ofString "") (ns.map spell)
theorem good_fin {P : Int → Prop} [DecidablePred P] (h : (List.range 260).all (fun i => decide (P (i : Int)) || !(decide (i = 3) || decide (i = 4) || (decide (7 ≤ i) && decide (i ≤ 54)) || (decide (256 ≤ i) && decide (i ≤ 258)))) = true) {x : Int} (g : Good x) : P x := by
  have key : ∀ n : Nat, n < 260 → (decide (n = 3) || decide (n = 4) || (decide (7 ≤ n) && decide (n ≤ 54)) || (decide (256 ≤ n) && decide (n ≤ 258))) = true → P (n : Int) := by
    intro n hn hc
    have q := List.all_eq_true.mp h n (List.mem_range.mpr hn)
    rw [hc, Bool.not_true, Bool.or_false] at q
    exact of_decide_eq_true q
  rcases g with rfl | rfl | ⟨a, b⟩ | ⟨a, b⟩
  · exact key 3 (by decide) rfl
  · exact key 4 (by decide) rfl
  · obtain ⟨n, rfl⟩ := Int.eq_ofNat_of_zero_le (Int.le_trans (by decide : (0 : Int) ≤ 7) a)
    have a' : 7 ≤ n := Int.ofNat_le.mp a
    have b' : n ≤ 54 := Int.ofNat_le.mp b
    refine key n (Nat.lt_of_le_of_lt b' (by decide)) ?_
    rw [decide_eq_true a', decide_eq_true b', Bool.and_self, Bool.or_true, Bool.true_or]
  · obtain ⟨n, rfl⟩ := Int.eq_ofNat_of_zero_le (Int.le_trans (by decide : (0 : Int) ≤ 256) a)
    have a' : 256 ≤ n := Int.ofNat_le.mp a
    have b' : n ≤ 258 := Int.ofNat_le.mp b
    refine key n (Nat.lt_of_le_of_lt b' (by decide)) ?_
    rw [decide_eq_true a', decide_eq_true b', Bool.and_self, Bool.or_true]
section
variable {prog : Program} {w : World} {A : Around} {E : Value → Shared → Prop} {s : Shared} {h₀ : Heap} {L : Addr}
theorem itemLit {value slice : PySem.Expr} {ln : Addr} {arr : Array Value} {k : Int} {u : Tok} {v : Value} {news : List (Addr × Obj)} {Q : Value → Shared → Prop} (N : News h₀ L s.heap news) (hm : (ln, listOf arr 0) ∈ news) (h0 : 0 ≤ k) (h1 : k < 1000) (hx : arr[k.toNat]? = some v) (h : Q v s)
    (hs : subscripted slice false (.ref ln) (.int k u) = operate [.ref ln, .int k u] (getItem (.ref ln) (.int k u)) := by with_unfolding_all rfl) :
    wpAny (model prog w) A (subscriptTail value slice (.ref ln) (.int k u)) Q E s :=
  have hL : s.heap.IsList ln arr := ⟨_, (N _ hm).1, rfl, 0, rfl⟩
  tail_any hL.typeIs slot_list_getitem.lookup (wpAny_getItem_list hL h0 (by omega) hx h) hs
end
theorem good_len {x : Int} (g : Good x) : (spell x).length ≤ 3 := good_fin (P := fun x => (spell x).length ≤ 3) (by decide +kernel) g
set_option maxHeartbeats 4000000 in
theorem text {w : World} {mean : ExcName → Option Value} {mg mb : Str → Option Value}
    {dp un : Nat} {gd : Option (List Code)} {cn : Str} {cs : Scope} {a : Addr} {ccd : Value} {cl : List (Str × Addr)} {outer : List Env} {A₀ : Around} {base h₀ : Heap} {L : Addr} {m : Str → Option Value} {news : List (Addr × Obj)} {s : Shared} {Q E : Value → Shared → Prop}
    {l : Addr} {vs : List Value} {nn : Nat} {ns : List Int} {d : Addr} {od : Obj} {kvs : List (Int × Value)}
    (B : Below A₀ base outer h₀) (F : Fr h₀ L s.heap m) (X : (hd.heap_39 w.params).In h₀) (N : News h₀ L s.heap news)
    (T : Top hd.view_39 (looseW hd.view_39 [Str.ofString "EXACT_TOKEN_TYPES"]) mean mg mb h₀) (hk : cs.kind = .function)
    (hl : (l, listOf vs.toArray nn) ∈ news) (hi : IntsAre vs ns) (hn : ns.length ≤ 20) (hg : ∀ x ∈ ns, Good x) (hdd : (d, od) ∈ news) (hdk : od.IsDictOf (PySem.intKind Challenge.rw_sr0042_01.row.prog w) kvs) (hds : ∀ x, (x = 3 ∨ x = 4 ∨ (7 ≤ x ∧ x ≤ 54)) → Signed kvs x)
    (hd : dp + 20 < recursionLimit) (hu : un + 200 < cLine) 
    (ret : ∀ t' h' tk', Fr h₀ L h' m → News h₀ L h' news → Q (.str (textF ns) t') { s with heap := h', toks := tk' }) :
    wpAny (model Challenge.rw_sr0042_01.row.prog w) (ktrTop dp un gd cn cs L a ccd cl outer) (call (.ref 92) [.ref l, .ref d]) Q E s := by
  revert X; k_fill; intro X
  k_with_none
  refine wpAny_call ?_
  k_dflt (refine' code_defC ?k1 ?k2 ?k3 ?k4 ?k5 ?kA ?kF ?kK ?k6 ?k7 ?k8 ?k9 ?kB ?kD ?_ ?c2 ?c3 ?c4; (case kA => exact rfl); (case kF => exact rfl); (case kK => assumption); (case k1 => k_asm); (case k2 => k_asm); (case k3 => k_asm); (case k4 => k_asm); (case k5 => k_asm); (case k6 => k_is); (case k7 => k_is); (case k8 => ktr_room); (case k9 => exact BindsTo.of_eq rfl); (case kB => exact rfl); (case kD => decide +kernel); (case c2 => exact rfl); (case c3 => exact rfl); (case c4 => exact rfl); k_whole; intro g' L' h' tk' cells' FG' F' N' Y' B' X' T' l1; (try k_lt l1); k_cells Y'; (try simp only [List.cons_append, List.nil_append] at N'); (try dsimp only); (try k_lift B'); (try k_fold))
  rename_i oN oS dN dS
  have dN' : oN.data = .cell none := dN
  have dS' : oS.data = .cell (some (.ref d)) := dS
  clear dN dS
  have hnL : ∀ p ∈ news, (p.1 : Nat) < L' := fun p hp => l1 p hp
  have hne1 : ∀ p ∈ (L' + 1, oS) :: news, (p.1 : Nat) ≠ L' + 1 + 1 := fun p hp => (List.mem_cons.mp hp).elim (fun e => by rw [e]; exact Nat.ne_of_lt (Nat.lt_succ_self _)) (fun e => Nat.ne_of_lt (Nat.lt_succ_of_lt (Nat.lt_succ_of_lt (hnL p e))))
  have hvl : vs.toArray.size ≤ sizeLine := by rw [sizeLine_eq, List.size_toArray, hi.length]; omega
  k_with "storeName" => (
    rename Fr _ _ _ _ => lF2
    rename News _ _ _ _ => lN2
    rename (_ ∧ _ ∧ AllLt _ _) => lQ
    with_unfolding_all refine' storeX_C lF2 lN2 rfl (UpdF.tail (Nat.ne_of_gt lQ.1) (UpdF.head hne1)) dN' ?_ rfl rfl
    intro h9 o9 F9 N9 d9)
  k_with "eval ListComp" => (
    rename Fr _ _ _ _ => lF'
    with_unfolding_all refine LCg.ListComp_U (F₀ := lF') (cl := [(Str.ofString "signs", L' + 1), (Str.ofString "names", L' + 1 + 1)]) (by rfl) (by decide) (by rfl) (by decide) (by rfl) ?_)
  k_with "eval Name" => (
    (with_reducible show wpAny _ _ (eval (Expr.Name _ _) (compEnvC _ _ _ _)) _ _ _)
    rename News _ _ _ _ => lN2
    first
      | (with_reducible show wpAny _ _ (eval (Expr.Name (Str.ofString "signs") _) _) _ _ _)
        k_dflt (refine kcf_cell lN2 (by rfl) (List.Mem.tail _ (List.Mem.tail _ (List.Mem.tail _ mS))) dS' ?_)
      | (with_reducible show wpAny _ _ (eval (Expr.Name (Str.ofString "names") _) _) _ _ _)
        k_dflt (refine kcf_cell lN2 (by rfl) (List.Mem.tail _ (List.Mem.tail _ (List.Mem.tail _ mN))) ld9 ?_))
  k_with "CompSrc" => (
    rename Fr _ _ _ _ => lF'
    rename News _ _ _ _ => lN'
    rename (_ ∧ _ ∧ AllLt _ _) => lQ
    obtain ⟨ln, tN, nw0, lN0, ld9, mN, mS, mL, mD, mZ, mX⟩ : ∃ (ln : Addr) (t1 : Nat) (nw0 : List (Addr × Obj)), News g' L' _ nw0 ∧ o9.data = .cell (some (.ref ln)) ∧ (L' + 1 + 1, o9) ∈ nw0 ∧ (L' + 1, oS) ∈ nw0 ∧ (l, listOf vs.toArray nn) ∈ nw0 ∧ (d, od) ∈ nw0 ∧ (∀ p ∈ news, p ∈ nw0) ∧ (ln, listOf #[Value.str (Str.ofString "a") t1, Value.str (Str.ofString "bb") (t1 + 1), Value.str (Str.ofString "ccc") (t1 + 1 + 1)] 0) ∈ nw0 := ⟨_, _, _, lN', d9, List.Mem.tail _ (List.Mem.head _), List.Mem.tail _ (List.Mem.tail _ (List.Mem.head _)), List.Mem.tail _ (List.Mem.tail _ (List.Mem.tail _ hl)), List.Mem.tail _ (List.Mem.tail _ (List.Mem.tail _ hdd)), fun p hp => List.Mem.tail _ (List.Mem.tail _ (List.Mem.tail _ hp)), List.Mem.head _⟩
    clear lN' d9
    with_unfolding_all
      refine LCg.CompSrc.ledger rfl lF' lN0 mL hvl (fun gg => compU (fun i ys nw => nw0 = nw ∧ StrsAre ys ((ns.take i).map spell))
        (fun i ys nw v I oI C oC D m₂ hq tkq Eq hin hJ hP hC hv Fq Nq off hne => ?_) (fun ys nw hJ D hq tkq Fq Nq off => ?_) ⟨rfl, .nil⟩)
    all_goals (
      obtain ⟨hJ1, hJ2⟩ := hJ
      subst hJ1)
    all_goals (first
      | (obtain ⟨n, tn, hve, hni⟩ := ints_at hi (by simpa using hP)
         subst hve)
      | skip)
    all_goals (try k_fold))
  k_with "call ref" => (
    rename Fr _ _ _ _ => lF2
    rename News _ _ _ _ => lN2
    refine' isterm B' lF2 X' lN2 T' rfl ?c3 ?c4 (fun h3 tk3 F3 N3 => ?_)
    (case c3 => ktr_room)
    (case c4 => ktr_units))
  k_with "subscriptTail Name Name ref int" => (
    rename Fr _ _ _ _ => lF2
    rename News _ _ _ _ => lN2
    rename (n < 256) => hlt
    obtain ⟨ts, hvs⟩ := hds n (by rcases hg n (List.mem_of_getElem? hni) with h | h | h | h <;> omega)
    with_unfolding_all refine kda_item (knd := PySem.intKind _ _) lN2 (List.Mem.tail _ (List.Mem.tail _ (List.Mem.tail _ mD))) hdk (intKind_is _ _ _ _) hvs ?_)
  k_with "subscriptTail Name BinOp ref int" => (
    rename Fr _ _ _ _ => lF2
    rename News _ _ _ _ => lN2
    rename (¬ n < 256) => hlt
    have hnn : n = 256 ∨ n = 257 ∨ n = 258 := by rcases hg n (List.mem_of_getElem? hni) with h | h | h | h <;> omega
    obtain ⟨tz, hz⟩ : ∃ tz, (#[Value.str (Str.ofString "a") tN, Value.str (Str.ofString "bb") (tN + 1), Value.str (Str.ofString "ccc") (tN + 1 + 1)] : Array Value)[(n - 256).toNat]? = some (.str (spell n) tz) := by rcases hnn with rfl | rfl | rfl <;> exact ⟨_, rfl⟩
    with_unfolding_all refine itemLit lN2 (List.Mem.tail _ (List.Mem.tail _ (List.Mem.tail _ mX))) (by omega) (by omega) hz ?_)
  k_with "call builtin:str.join" => (
    rename Fr _ _ _ _ => lF2
    rename News _ _ _ _ => lN2
    have hJ3 : StrsAre ys (ns.map spell) := by have e : ns.take vs.toArray.size = ns := by rw [List.size_toArray, hi.length, List.take_length]
                                               rw [e] at hJ2; exact hJ2
    k_dflt (refine join_listW (ys := ns.map spell) ⟨_, (lN2 _ (List.Mem.head _)).1, rfl, _, rfl⟩ hJ3 (by decide +kernel) (weight_ok (n := 500) (Nat.le_refl _) (fun y hy => (List.mem_map.mp hy).elim fun x hx => hx.2 ▸ Nat.le_trans (good_len (hg x hx.1)) (by decide)) (by rw [List.length_map]; omega)) ?_))
  k_steps
  · rename Fr _ _ _ _ => kF
    rename News _ _ _ _ => kN
    refine LCg.CompEnd.intro kF kN _ (fun _ z => z) off (.inr ⟨_, mL, rfl, _, rfl⟩) ⟨rfl, ?_⟩
    rw [take_get hni, List.map_append]
    exact StrsAre.append' hJ2 (.cons _ _ .nil)
  · rename Fr _ _ _ _ => kF
    rename News _ _ _ _ => kN
    refine LCg.CompEnd.intro kF kN _ (fun _ z => z) off (.inr ⟨_, mL, rfl, _, rfl⟩) ⟨rfl, ?_⟩
    rw [take_get hni, List.map_append]
    exact StrsAre.append' hJ2 (.cons _ _ .nil)
  · rename Fr _ _ _ _ => kF
    rename News _ _ _ _ => kN
    exact ret _ _ _ kF (fun p hp => kN p (List.Mem.tail _ (mZ p hp)))

theorem bareF_sub : ∀ (ns st : List Int), (bareF st ns).length ≤ st.length + ns.length ∧ ∀ x ∈ bareF st ns, x ∈ st ∨ x ∈ ns
  | [], st => ⟨Nat.le_refl _, fun x h => .inl h⟩
  | y :: r, st => by
    rw [bFc]
    split
    · exact ⟨Nat.le_add_right _ _, fun x h => .inl h⟩
    · split
      · have ⟨h1, h2⟩ := bareF_sub r []
        refine ⟨by simp at h1 ⊢; omega, fun x h => .inr ?_⟩
        rcases h2 x h with h | h
        · cases h
        · exact .tail _ h
      · have ⟨h1, h2⟩ := bareF_sub r (st ++ [y])
        refine ⟨by simp at h1 ⊢; omega, fun x h => ?_⟩
        rcases h2 x h with h | h
        · rcases List.mem_append.mp h with h | h
          · exact .inl h
          · exact .inr (List.mem_singleton.mp h ▸ List.Mem.head _)
        · exact .inr (.tail _ h)
theorem shownGo_sub (m : Int) : ∀ (ns st : List Int) (k : Int), (shownGo m k st ns).length ≤ st.length + ns.length ∧ ∀ x ∈ shownGo m k st ns, x ∈ st ∨ x ∈ ns
  | [], st, _ => ⟨Nat.le_refl _, fun x h => .inl h⟩
  | y :: r, st, k => by
    have go : ∀ (c : Prop) [Decidable c] (k' : Int), (shownGo m k' (if c then st ++ [y] else st) r).length ≤ st.length + (y :: r).length ∧ ∀ x ∈ shownGo m k' (if c then st ++ [y] else st) r, x ∈ st ∨ x ∈ y :: r := by
      intro c _ k'
      have ⟨h1, h2⟩ := shownGo_sub m r (if c then st ++ [y] else st) k'
      constructor
      · refine Nat.le_trans h1 ?_
        by_cases hc : c
        · simp [hc]; try omega
        · simp [hc]; try omega
      · intro x h
        rcases h2 x h with h | h
        · by_cases hc : c
          · rw [if_pos hc] at h
            rcases List.mem_append.mp h with h | h
            · exact .inl h
            · exact .inr (List.mem_singleton.mp h ▸ List.Mem.head _)
          · rw [if_neg hc] at h; exact .inl h
        · exact .inr (.tail _ h)
    rw [sGc]
    split
    · exact go _ _
    · exact go _ _
theorem bareF_len (ns : List Int) : (bareF [] ns).length ≤ ns.length := by have := (bareF_sub ns []).1; simpa using this
theorem bareF_good {P : Int → Prop} {ns : List Int} (h : ∀ x ∈ ns, P x) : ∀ x ∈ bareF [] ns, P x := fun x hx => ((bareF_sub ns []).2 x hx).elim (fun e => nomatch e) (h x)
theorem shownF_len (ns : List Int) : (shownF ns).length ≤ ns.length := by have := (shownGo_sub (marksOf ns) ns [] 0).1; simpa [shownF] using this
theorem shownF_good {P : Int → Prop} {ns : List Int} (h : ∀ x ∈ ns, P x) : ∀ x ∈ shownF ns, P x := fun x hx => ((shownGo_sub (marksOf ns) ns [] 0).2 x hx).elim (fun e => nomatch e) (h x)
def fourF (ns : List Int) : List (List Int) := [bareF [] ns, shownF ns, shownF (bareF [] ns), bareF [] (shownF ns)]
theorem arr4 {a b c d : Addr} {i : Nat} {v : Value} (hv : (#[Value.ref a, Value.ref b, Value.ref c, Value.ref d] : Array Value)[i]? = some v) :
    (i = 0 ∧ v = Value.ref a) ∨ (i = 1 ∧ v = Value.ref b) ∨ (i = 2 ∧ v = Value.ref c) ∨ (i = 3 ∧ v = Value.ref d) := by
  have hi4 : i < 4 := (Array.getElem?_eq_some_iff.mp hv).1
  have hc : i = 0 ∨ i = 1 ∨ i = 2 ∨ i = 3 := by omega
  rcases hc with rfl | rfl | rfl | rfl
  · exact .inl ⟨rfl, (Option.some.inj hv).symm⟩
  · exact .inr (.inl ⟨rfl, (Option.some.inj hv).symm⟩)
  · exact .inr (.inr (.inl ⟨rfl, (Option.some.inj hv).symm⟩))
  · exact .inr (.inr (.inr ⟨rfl, (Option.some.inj hv).symm⟩))
theorem off1_out {D : Addr} : ∀ {l : List (Addr × Obj)}, LCg.Off1 D l → ∀ p ∈ l, p.1 ≠ D
  | [], _, _, hp => nomatch hp
  | _ :: _, h, p, hp => by
    rcases List.mem_cons.mp hp with rfl | hp
    · exact h.1
    · exact off1_out h.2 p hp
theorem four_0 (ns : List Int) : (fourF ns)[0]? = some (bareF [] ns) := rfl
theorem four_1 (ns : List Int) : (fourF ns)[1]? = some (shownF ns) := rfl
theorem four_2 (ns : List Int) : (fourF ns)[2]? = some (shownF (bareF [] ns)) := rfl
theorem four_3 (ns : List Int) : (fourF ns)[3]? = some (bareF [] (shownF ns)) := rfl
section
local macro_rules | `(tactic| walk_at "CompSrc") => `(tactic| k_extra "CompSrc")
set_option maxHeartbeats 4000000 in
theorem four {w : World} {mean : ExcName → Option Value} {mg mb : Str → Option Value}
    {dp un : Nat} {gd : Option (List Code)} {cn : Str} {cs : Scope} {a : Addr} {ccd : Value} {cl : List (Str × Addr)} {outer : List Env} {A₀ : Around} {base h₀ : Heap} {L : Addr} {m : Str → Option Value} {news : List (Addr × Obj)} {s : Shared} {Q E : Value → Shared → Prop}
    {l : Addr} {vs : List Value} {nn : Nat} {ns : List Int} {d : Addr} {od : Obj} {kvs : List (Int × Value)}
    (B : Below A₀ base outer h₀) (F : Fr h₀ L s.heap m) (X : (hd.heap_39 w.params).In h₀) (N : News h₀ L s.heap news)
    (T : Top hd.view_39 (looseW hd.view_39 [Str.ofString "EXACT_TOKEN_TYPES"]) mean mg mb h₀) (hk : cs.kind = .function)
    (hl : (l, listOf vs.toArray nn) ∈ news) (hi : IntsAre vs ns) (hn : ns.length ≤ 20) (hg : ∀ x ∈ ns, Good x) (hdd : (d, od) ∈ news) (hdk : od.IsDictOf (PySem.intKind Challenge.rw_sr0042_01.row.prog w) kvs) (hds : ∀ x, (x = 3 ∨ x = 4 ∨ (7 ≤ x ∧ x ≤ 54)) → Signed kvs x)
    (hd : dp + 30 < recursionLimit) (hu : un + 300 < cLine) 
    (ret : ∀ l' ws n' h' tk', StrsAre ws ((fourF ns).map textF) → Fr h₀ L h' m → News h₀ L h' ((l', listOf ws.toArray n') :: news) → (∀ p ∈ news, p.1 ≠ l') → Q (.ref l') { s with heap := h', toks := tk' }) :
    wpAny (model Challenge.rw_sr0042_01.row.prog w) (ktrTop dp un gd cn cs L a ccd cl outer) (call (.ref 109) [.ref l, .ref d]) Q E s := by
  revert X; k_fill; intro X
  k_with_none
  refine wpAny_call ?_
  k_dflt (refine' code_defC ?k1 ?k2 ?k3 ?k4 ?k5 ?kA ?kF ?kK ?k6 ?k7 ?k8 ?k9 ?kB ?kD ?_ ?c2 ?c3 ?c4; (case kA => exact rfl); (case kF => exact rfl); (case kK => assumption); (case k1 => k_asm); (case k2 => k_asm); (case k3 => k_asm); (case k4 => k_asm); (case k5 => k_asm); (case k6 => k_is); (case k7 => k_is); (case k8 => ktr_room); (case k9 => exact BindsTo.of_eq rfl); (case kB => exact rfl); (case kD => decide +kernel); (case c2 => exact rfl); (case c3 => exact rfl); (case c4 => exact rfl); k_whole; intro g' L' h' tk' cells' FG' F' N' Y' B' X' T' l1; (try k_lt l1); k_cells Y'; (try simp only [List.cons_append, List.nil_append] at N'); (try dsimp only); (try k_lift B'); (try k_fold))
  rename_i oS dS
  have dS' : oS.data = .cell (some (.ref d)) := dS
  clear dS
  have hnL : ∀ p ∈ news, (p.1 : Nat) < L' := fun p hp => l1 p hp
  have hbl := bareF_len ns
  have hsl := shownF_len ns
  have hsb := shownF_len (bareF [] ns)
  have hbs := bareF_len (shownF ns)
  k_with "call ref" => (
    rename Fr g' L' _ _ => lF2
    rename News g' L' _ _ => lN2
    first
      | (refine' bare B' lF2 X' lN2 T' rfl ?c1 ?c2 ?c3 ?c4 ?c5 (fun lb wb nb h3 tk3 ib F3 N3 l3 => ?_)
         (case c1 => repeat (first | exact List.Mem.head _ | assumption | refine List.Mem.tail _ ?_))
         (case c2 => assumption)
         (case c3 => ktr_room)
         (case c4 => ktr_units)
         (case c5 => omega))
      | (refine' shown B' lF2 X' lN2 T' rfl ?c1 ?c2 ?c3 ?c4 ?c5 (fun lb wb nb h3 tk3 ib F3 N3 l3 => ?_)
         (case c1 => repeat (first | exact List.Mem.head _ | assumption | refine List.Mem.tail _ ?_))
         (case c2 => assumption)
         (case c3 => ktr_room)
         (case c4 => ktr_units)
         (case c5 => omega))
      | (refine' text (kvs := kvs) B' lF2 X' lN2 T' rfl (List.Mem.tail _ (List.Mem.tail _ (List.Mem.tail _ hw1))) hw2 hw4 hw5 (List.Mem.tail _ (List.Mem.tail _ (List.Mem.tail _ mD))) hdk hds ?c3 ?c4 (fun t3 h3 tk3 F3 N3 => ?_)
         (case c3 => ktr_room)
         (case c4 => ktr_units)))
  k_with "eval ListComp" => (
    rename Fr _ _ _ _ => lF'
    with_unfolding_all refine LCg.ListComp_U (F₀ := lF') (cl := [(Str.ofString "signs", L' + 1)]) (by rfl) (by decide) (by rfl) (by decide) (by rfl) ?_)
  k_with "eval Name" => (
    (with_reducible show wpAny _ _ (eval (Expr.Name (Str.ofString "signs") _) (compEnvC _ _ _ _)) _ _ _)
    rename News _ _ _ _ => lN2
    k_dflt (refine kcf_cell lN2 (by rfl) (List.Mem.tail _ (List.Mem.tail _ (List.Mem.tail _ mS))) dS' ?_))
  k_with "CompSrc" => (
    rename Fr _ _ _ _ => lF'
    rename News _ _ _ _ => lN'
    rename IntsAre _ (bareF [] ns) => i1
    rename IntsAre _ (shownF ns) => i2
    rename IntsAre _ (shownF (bareF [] ns)) => i3
    rename IntsAre _ (bareF [] (shownF ns)) => i4
    obtain ⟨arr, nw0, lN0, mz, hsz, hAll, mS, mD, mZ⟩ : ∃ (arr : Array Value) (nw0 : List (Addr × Obj)), News g' L' _ nw0 ∧ (_, listOf arr 0) ∈ nw0 ∧ arr.size = 4 ∧
        (∀ i v, arr[i]? = some v → ∃ (b : Addr) (vs' : List Value) (n' : Nat) (ns' : List Int), v = Value.ref b ∧ (b, listOf vs'.toArray n') ∈ nw0 ∧ IntsAre vs' ns' ∧ (fourF ns)[i]? = some ns' ∧ ns'.length ≤ 20 ∧ ∀ x ∈ ns', Good x) ∧
        (L' + 1, oS) ∈ nw0 ∧ (d, od) ∈ nw0 ∧ (∀ p ∈ news, p ∈ nw0) := by
      refine ⟨_, _, lN', List.Mem.head _, rfl, fun i v hv => ?_, (List.Mem.tail _ (List.Mem.tail _ (List.Mem.tail _ (List.Mem.tail _ (List.Mem.tail _ (List.Mem.head _)))))), (List.Mem.tail _ (List.Mem.tail _ (List.Mem.tail _ (List.Mem.tail _ (List.Mem.tail _ (List.Mem.tail _ (hdd))))))), fun p hp => (List.Mem.tail _ (List.Mem.tail _ (List.Mem.tail _ (List.Mem.tail _ (List.Mem.tail _ (List.Mem.tail _ (hp)))))))⟩
      rcases arr4 hv with ⟨e1, e2⟩ | ⟨e1, e2⟩ | ⟨e1, e2⟩ | ⟨e1, e2⟩ <;> subst e1 e2
      · exact ⟨_, _, _, _, rfl, (List.Mem.tail _ (List.Mem.tail _ (List.Mem.tail _ (List.Mem.tail _ (List.Mem.head _))))), i1, four_0 ns, by omega, bareF_good hg⟩
      · exact ⟨_, _, _, _, rfl, (List.Mem.tail _ (List.Mem.tail _ (List.Mem.tail _ (List.Mem.head _)))), i2, four_1 ns, by omega, shownF_good hg⟩
      · exact ⟨_, _, _, _, rfl, (List.Mem.tail _ (List.Mem.tail _ (List.Mem.head _))), i3, four_2 ns, by omega, shownF_good (bareF_good hg)⟩
      · exact ⟨_, _, _, _, rfl, (List.Mem.tail _ (List.Mem.head _)), i4, four_3 ns, by omega, bareF_good (shownF_good hg)⟩
    clear lN'
    with_unfolding_all
      refine LCg.CompSrc.ledger rfl lF' lN0 mz (by rw [hsz, sizeLine_eq]; decide) (fun gg => compU (fun i ys nw => nw0 = nw ∧ StrsAre ys (((fourF ns).take i).map textF))
        (fun i ys nw v I oI C oC D m₂ hq tkq Eq hin hJ hP hC hv Fq Nq off hne => ?_) (fun ys nw hJ D hq tkq Fq Nq off => ?_) ⟨rfl, .nil⟩)
    all_goals (
      obtain ⟨hJ1, hJ2⟩ := hJ
      subst hJ1)
    all_goals (first
      | (obtain ⟨lb, vw, nw, nsw, hve, hw1, hw2, hw3, hw4, hw5⟩ := hAll i v (by simpa using hP)
         subst hve)
      | skip)
    all_goals (try k_fold))
  k_steps
  · rename Fr _ _ _ _ => kF
    rename News _ _ _ _ => kN
    refine LCg.CompEnd.intro kF kN _ (fun _ z => z) off (.inr ⟨_, mz, rfl, _, rfl⟩) ⟨rfl, ?_⟩
    rw [take_get hw3, List.map_append]
    exact StrsAre.append' hJ2 (.cons _ _ .nil)
  · rename Fr h₀ _ _ _ => kF
    rename News h₀ _ _ _ => kN
    have e : (fourF ns).take arr.size = fourF ns := by rw [hsz]; rfl
    rw [e] at hJ2
    exact ret D ys ys.length _ _ hJ2 kF (fun p hp => kN p ((List.mem_cons.mp hp).elim (fun e => by rw [e]; exact List.Mem.head _) (fun e => List.Mem.tail _ (mZ p e)))) (fun p hp => off1_out off p (mZ p hp))
end

section
variable {prog : Program} {w : World} {A : Around} {E : Value → Shared → Prop} {s : Shared} {env : Env} {h₀ : Heap} {x : Str} {px : Pos} {body : List Stmt} {Q : Flow → Shared → Prop} {Eo : Value → Shared → Prop}
def GTo {σ : Type} (M : σ → Str → Option Value) (Led : σ → List (Addr × Obj)) (P : Array GenState → Prop) (x : Str) (h₀ : Heap) (L : Addr) (I : Addr) (oI : Obj) (J : σ → Prop) (s₁ s₂ : Shared) : Prop :=
  ∃ h' tk g m' c, s₂ = { s₁ with heap := h', toks := tk, gens := g } ∧ P g ∧ Fr h₀ L h' m' ∧ (∀ y, y ≠ x → m' y = M c y) ∧ News h₀ L h' ((I, oI) :: Led c) ∧ (∀ p ∈ Led c, p.1 ≠ I) ∧ J c
def GEnd {σ : Type} (M : σ → Str → Option Value) (Led : σ → List (Addr × Obj)) (P : Array GenState → Prop) (x : Str) (h₀ : Heap) (L : Addr) (I : Addr) (oI : Obj) (J : σ → Prop) (Q : Flow → Shared → Prop) (s₁ : Shared) (f : Flow) (s₂ : Shared) : Prop :=
  match f with
  | .ret v => Q (.ret v) s₂
  | .brk => Q .next s₂
  | .next => GTo M Led P x h₀ L I oI J s₁ s₂
  | .cont => GTo M Led P x h₀ L I oI J s₁ s₂
theorem GTo.intro {σ : Type} {M : σ → Str → Option Value} {Led : σ → List (Addr × Obj)} {P : Array GenState → Prop} {L I : Addr} {oI : Obj} {J : σ → Prop} {s₁ : Shared} {h' : Heap} {tk : Nat} {g : Array GenState} {m' : Str → Option Value} {nx : List (Addr × Obj)} (c : σ) (hg : P g)
    (F : Fr h₀ L h' m') (N : News h₀ L h' nx) (hm : ∀ y, y ≠ x → m' y = M c y) (hs : ∀ p ∈ (I, oI) :: Led c, p ∈ nx) (hI : ∀ p ∈ Led c, p.1 ≠ I) (hJ : J c) :
    GTo M Led P x h₀ L I oI J s₁ { s₁ with heap := h', toks := tk, gens := g } := ⟨h', tk, g, m', c, rfl, hg, F, hm, fun p hp => N p (hs p hp), hI, hJ⟩
structure WInv {σ : Type} (M : σ → Str → Option Value) (Led : σ → List (Addr × Obj)) (P : Array GenState → Prop) (J : Nat → σ → Prop) (L : Addr) (h₀ : Heap) (x : Str) (I : Addr) (N : Nat) (St : Nat → Heap → Prop) (s : Shared) (k : Nat) (s' : Shared)
    (i : Nat) (h : Heap) (tk : Nat) (g : Array GenState) (c : σ) (m : Str → Option Value) : Prop where
  e : s' = { s with heap := h, toks := tk, gens := g }
  ek : k = N + 1 - i
  hi : i ≤ N
  hg : P g
  st : St i h
  F : Fr h₀ L h m
  hm : ∀ y, y ≠ x → m y = M c y
  nw : News h₀ L h (Led c)
  ds : ∀ p ∈ Led c, p.1 ≠ I
  j : J i c
theorem codeG {σ : Type} (M : σ → Str → Option Value) (Led : σ → List (Addr × Obj)) (P : Array GenState → Prop) (J : Nat → σ → Prop) (c₀ : σ) {I : Addr} {fp : List Addr} {n : Nat} {Pv : Nat → Value → Prop} {St : Nat → Heap → Prop} {m₀ : Str → Option Value}
    (W : Walks prog w A I fp [I] n Pv St) (hSt : ∀ i h, St i h → ∃ o, h.get? I = some o) (hI0 : h₀.get? I = none) (hfp : ∀ b ∈ fp, b = I ∨ ∃ o, ∀ c, (b, o) ∈ Led c) (hIL : I ≠ env.locals)
    (hx : env.kindOf x = some .local) (hp : (env.scope.kind == .class || (env.scope.kind == .module && env.locals != env.globals)) = false)
    (F : Fr h₀ env.locals s.heap m₀) (N : News h₀ env.locals s.heap (Led c₀)) (hIn : ∀ p ∈ Led c₀, p.1 ≠ I) (hm : ∀ y, y ≠ x → m₀ y = M c₀ y) (hst : St 0 s.heap) (hg : P s.gens) (hj : J 0 c₀)
    (turn : ∀ i v c h tk g oI, i < n → Pv i v → P g → J i c → (∀ p ∈ Led c, p.1 ≠ I) → Fr h₀ env.locals h (fun y => if y = x then some v else M c y) → News h₀ env.locals h ((I, oI) :: Led c) →
      wpAny (model prog w) A (execs body env) (GEnd M Led P x h₀ env.locals I oI (J (i + 1)) Q { s with heap := h, toks := tk, gens := g }) NoE { s with heap := h, toks := tk, gens := g })
    (done : ∀ c u h tk g, P g → J n c → Fr h₀ env.locals h (fun y => if y = x then u else M c y) → News h₀ env.locals h (Led c) → Q .next { s with heap := h, toks := tk, gens := g }) :
    codeAny (model prog w) A (.forLoop (.Name x px) (.ref I) body [] env) (fun r s' => match r with | .ok f => Q f s' | .error e => Eo e s') s := by
  refine codeAny_forLoop (fun k s' => ∃ i h tk g c m, WInv M Led P J env.locals h₀ x I n St s k s' i h tk g c m)
    ?_ (n + 1) ⟨0, s.heap, s.toks, s.gens, c₀, m₀, rfl, rfl, Nat.zero_le _, hg, hst, F, hm, N, hIn, hj⟩
  rintro k s' ⟨i, h, tk, g, c, m, rfl, rfl, hi, hg', hst', F', hm', N', hIn', hJ⟩
  have go : ∀ h₁ : Heap, (∀ b o, b ∉ [I] → h.get? b = some o → h₁.get? b = some o) → Fr h₀ env.locals h₁ m ∧ News h₀ env.locals h₁ (Led c) := fun h₁ hk =>
    ⟨⟨F'.ns.at' fun o e => hk _ o (fun z => hIL (List.mem_singleton.mp z).symm) e, fun b o e => hk b o (fun z => by rw [List.mem_singleton.mp z, hI0] at e; cases e) (F'.keep b o e), F'.above⟩,
      fun p hp => ⟨hk _ _ (fun z => hIn' p hp (List.mem_singleton.mp z)) (N' p hp).1, (N' p hp).2⟩⟩
  by_cases hlt : i < n
  · refine W.item i _ _ _ hlt hst' fun v h₁ tk₁ hP hst₁ hk₁ => ?_
    obtain ⟨F₁, N₁⟩ := go h₁ hk₁
    refine wpAny_assign_Name (wpAny_storeName_local hx F₁.ns (fun h₂ hn₂ hs₂ => ?_) hp)
    have F₂ := F₁.set hn₂ hs₂
    have N₂ := N₁.set hs₂
    obtain ⟨oI, hoI⟩ := hSt _ _ hst₁
    have hoI₂ : h₂.get? I = some oI := (hs₂.2 I hIL).trans hoI
    have N₃ : News h₀ env.locals h₂ ((I, oI) :: Led c) := fun p hp => by
      rcases List.mem_cons.mp hp with rfl | hp
      · exact ⟨hoI₂, hIL, hI0⟩
      · exact N₂ p hp
    have e : (fun y => if y = x then some v else m y) = (fun y => if y = x then some v else M c y) := by
      funext y
      by_cases hy : y = x
      · simp only [hy, if_true]
      · simp only [hy, if_false]; exact hm' y hy
    rw [e] at F₂
    refine wpAny_mono (turn i v c h₂ _ g oI hlt hP hg' hJ hIn' F₂ N₃) (fun f s₃ h₃ => ?_) fun _ _ e => e.elim
    have fin : ∀ tk₂, GTo M Led P x h₀ env.locals I oI (J (i + 1)) { s with heap := h₂, toks := tk₂, gens := g } s₃ →
        ∃ m, m < n + 1 - i ∧ ∃ i h tk g c m', WInv M Led P J env.locals h₀ x I n St s m s₃ i h tk g c m' := by
      rintro tk₂ ⟨h₄, tk₄, g₄, m₄, c₄, rfl, hg₄, F₄, hm₄, N₄, hI₄, hJ₄⟩
      refine ⟨n + 1 - (i + 1), by omega, i + 1, h₄, tk₄, g₄, c₄, m₄, rfl, rfl, hlt, hg₄, ?_, F₄, hm₄, fun p hp => N₄ p (.tail _ hp), hI₄, hJ₄⟩
      refine W.frame _ _ _ hst₁ fun b hb o e => ?_
      rcases hfp b hb with rfl | ⟨ob, hob⟩
      · rw [hoI] at e
        rw [← e]
        exact (N₄ _ (.head _)).1
      · have e1 := (N₁ _ (hob c)).1
        rw [e] at e1
        rw [e1]
        exact (N₄ _ (.tail _ (hob c₄))).1
    cases f with
    | ret v => exact h₃
    | brk => exact h₃
    | next => exact fin _ h₃
    | cont => exact fin _ h₃
  · have hin : i = n := by omega
    subst hin
    refine W.done _ _ _ hst' fun h₁ tk₁ hk₁ => wpAny_execs_nil ?_
    obtain ⟨F₁, N₁⟩ := go h₁ hk₁
    have e : m = (fun y => if y = x then m x else M c y) := by
      funext y
      by_cases hy : y = x
      · simp only [hy, if_true]
      · simp only [hy, if_false]; exact hm' y hy
    rw [e] at F₁
    exact done c (m x) h₁ tk₁ g hg' hJ F₁ N₁
/-- a for loop over a range, generators may be made within -/
theorem forRG {σ : Type} (M : σ → Str → Option Value) (Led : σ → List (Addr × Obj)) (P : Array GenState → Prop) (J : Nat → σ → Prop) (c₀ : σ) (n : Nat) {r : Addr} {a b c : Int} {t u v : Tok} {m₀ : Str → Option Value} {news : List (Addr × Obj)}
    (hh : A.handled = none) (hr : IsRange s.heap r a b c t u v) (hsmall : Builtin.Range.small a b c = true) (hn : Builtin.Range.rangeSize a b c = (n : Int))
    (hx : env.kindOf x = some .local) (hp : (env.scope.kind == .class || (env.scope.kind == .module && env.locals != env.globals)) = false)
    (F : Fr h₀ env.locals s.heap m₀) (N : News h₀ env.locals s.heap news) (hs : ∀ p ∈ Led c₀, p ∈ news) (hm : ∀ y, y ≠ x → m₀ y = M c₀ y) (hg : P s.gens) (hj : J 0 c₀)
    (turn : ∀ i t₁ c₁ h tk g I oI, i < n → P g → J i c₁ → (∀ p ∈ Led c₁, p.1 ≠ I) → Fr h₀ env.locals h (fun y => if y = x then some (.int (a + i * c) t₁) else M c₁ y) → News h₀ env.locals h ((I, oI) :: Led c₁) →
      wpAny (model prog w) A (execs body env) (GEnd M Led P x h₀ env.locals I oI (J (i + 1)) Q { s with heap := h, toks := tk, gens := g }) NoE { s with heap := h, toks := tk, gens := g })
    (done : ∀ c₁ u h tk g, P g → J n c₁ → Fr h₀ env.locals h (fun y => if y = x then u else M c₁ y) → News h₀ env.locals h (Led c₁) → Q .next { s with heap := h, toks := tk, gens := g }) :
    wpAny (model prog w) A (pyIter (.ref r)) (fun it s₂ => codeAny (model prog w) A (.forLoop (.Name x px) it body [] env) (fun r s' => match r with | .ok f => Q f s' | .error e => Eo e s') s₂) E s := by
  refine wpAny_pyIter_range hr hsmall ?_
  refine codeG M Led P J c₀ (Walks.range (prog := prog) (w := w) hh s.heap.objs.size a c n) (fun i h st => ⟨_, st⟩) (next_is_new F) (fun b hb => .inl (List.mem_singleton.mp hb)) (Ne.symm (Nat.ne_of_lt F.ns.lt)) hx hp (F.push _) (fun p hp => ⟨Heap.get?_push_of_some _ (N p (hs p hp)).1, (N p (hs p hp)).2⟩)
    (fun p hp => Nat.ne_of_lt (Heap.lt_size (N p (hs p hp)).1)) hm ?_ hg hj ?_ done
  · show IsRangeIter _ _ _ _ _
    rw [hn]
    simpa using Heap.get?_push_size _ rfl
  · rintro i v c₁ h tk g oI hi ⟨t₁, rfl⟩ hg₁ hJ hI F₁ N₁
    exact turn i t₁ c₁ h tk g _ oI hi hg₁ hJ hI F₁ N₁
/-- a for loop over a list that the ledger bears, generators may be made within -/
theorem forLG {σ : Type} (M : σ → Str → Option Value) (Led : σ → List (Addr × Obj)) (P : Array GenState → Prop) (J : Nat → σ → Prop) (c₀ : σ) {l : Addr} {vs : List Value} {nn : Nat} {m₀ : Str → Option Value} {news : List (Addr × Obj)}
    (hh : A.handled = none) (hl : ∀ c, (l, listOf vs.toArray nn) ∈ Led c)
    (hx : env.kindOf x = some .local) (hp : (env.scope.kind == .class || (env.scope.kind == .module && env.locals != env.globals)) = false)
    (F : Fr h₀ env.locals s.heap m₀) (N : News h₀ env.locals s.heap news) (hs : ∀ p ∈ Led c₀, p ∈ news) (hm : ∀ y, y ≠ x → m₀ y = M c₀ y) (hg : P s.gens) (hj : J 0 c₀)
    (turn : ∀ i v c₁ h tk g I oI, vs[i]? = some v → P g → J i c₁ → (∀ p ∈ Led c₁, p.1 ≠ I) → Fr h₀ env.locals h (fun y => if y = x then some v else M c₁ y) → News h₀ env.locals h ((I, oI) :: Led c₁) →
      wpAny (model prog w) A (execs body env) (GEnd M Led P x h₀ env.locals I oI (J (i + 1)) Q { s with heap := h, toks := tk, gens := g }) NoE { s with heap := h, toks := tk, gens := g })
    (done : ∀ c₁ u h tk g, P g → J vs.length c₁ → Fr h₀ env.locals h (fun y => if y = x then u else M c₁ y) → News h₀ env.locals h (Led c₁) → Q .next { s with heap := h, toks := tk, gens := g }) :
    wpAny (model prog w) A (pyIter (.ref l)) (fun it s₂ => codeAny (model prog w) A (.forLoop (.Name x px) it body [] env) (fun r s' => match r with | .ok f => Q f s' | .error e => Eo e s') s₂) E s := by
  have hol : s.heap.get? l = some (listOf vs.toArray nn) := (N _ (hs _ (hl c₀))).1
  have hls : s.heap.IsList l vs.toArray := ⟨_, hol, rfl, nn, rfl⟩
  have hne : l ≠ s.heap.objs.size := Nat.ne_of_lt (Heap.lt_size hol)
  refine wpAny_pyIter_list hls ?_
  have W := Walks.list (prog := prog) (w := w) hh s.heap.objs.size l hne vs.toArray
  have hlen : vs.toArray.size = vs.length := by simp
  rw [hlen] at W
  refine codeG M Led P J c₀ W (fun i h st => by obtain ⟨o, e, _⟩ := st.1; exact ⟨o, e⟩) (next_is_new F) (fun b hb => ?_) (Ne.symm (Nat.ne_of_lt F.ns.lt)) hx hp (F.push _) (fun p hp => ⟨Heap.get?_push_of_some _ (N p (hs p hp)).1, (N p (hs p hp)).2⟩)
    (fun p hp => Nat.ne_of_lt (Heap.lt_size (N p (hs p hp)).1)) hm ⟨⟨_, Heap.get?_push_size _ rfl, rfl, rfl⟩, hls.at fun o e => Heap.get?_push_of_some _ e⟩ hg hj ?_ done
  · rcases List.mem_cons.mp hb with rfl | hb
    · exact .inl rfl
    · exact .inr ⟨_, fun c => (List.mem_singleton.mp hb) ▸ hl c⟩
  · rintro i v c₁ h tk g oI hi hP hg₁ hJ hI F₁ N₁
    exact turn i v c₁ h tk g _ oI (by simpa using hP) hg₁ hJ hI F₁ N₁
end

/-- the signs of a symbol, of a row -/
def sp (x : Int) : List Nat := (spell x).cps.toList
def flat (r : List Int) : List Nat := r.flatMap sp
theorem str_ext {x y : Str} (h : x.cps.toList = y.cps.toList) : x = y := by
  cases x; cases y
  congr 1
  exact Array.toList_inj.mp h
theorem join_flat : ∀ ys : List Str, (Txt.join (Str.ofString "") ys).cps.toList = ys.flatMap (fun y => y.cps.toList) := by
  intro ys
  show (Builtin.Str.glued (Str.ofString "") ys).cps.toList = _
  rw [StrLaws.glued_eq_join]
  have e : (Str.ofString "").cps = #[] := by decide +kernel
  induction ys with
  | nil => rfl
  | cons y r ih =>
    cases r with
    | nil => simp [Str.join]
    | cons z r =>
      rw [Str.join]
      · show (y.cps ++ (Str.ofString "").cps ++ (Str.join (Str.ofString "") (z :: r)).cps).toList = _
        rw [e, Array.append_empty, Array.toList_append, ih]; rfl
      · simp
theorem text_flat (r : List Int) : (textF r).cps.toList = flat r := by
  rw [textF, join_flat, List.flatMap_map]; rfl
theorem flat_app (a b : List Int) : flat (a ++ b) = flat a ++ flat b := List.flatMap_append ..
theorem flat_one (x : Int) : flat [x] = sp x := by simp [flat]
theorem flat_cons (x : Int) (r : List Int) : flat (x :: r) = sp x ++ flat r := rfl
theorem sp_plain {x : Int} (g : Good x) : x = 11 ∨ x = 53 ∨ x = 4 ∨ x = 23 ∨ x = 52 ∨ (sp x).all (fun c => decide (c ≠ 46) && decide (c ≠ 58) && decide (c ≠ 10)) = true :=
  good_fin (P := fun x => x = 11 ∨ x = 53 ∨ x = 4 ∨ x = 23 ∨ x = 52 ∨ (sp x).all (fun c => decide (c ≠ 46) && decide (c ≠ 58) && decide (c ≠ 10)) = true) (by decide +kernel) g
theorem sp_mark {x : Int} (g : Good x) : x = 3 ∨ (sp x).all (fun c => decide (c ≠ 34)) = true :=
  good_fin (P := fun x => x = 3 ∨ (sp x).all (fun c => decide (c ≠ 34)) = true) (by decide +kernel) g
theorem sp_back {x : Int} (g : Good x) : (sp x).all (fun c => decide (c ≠ 92)) = true :=
  good_fin (P := fun x => (sp x).all (fun c => decide (c ≠ 92)) = true) (by decide +kernel) g
theorem sp3 : sp 3 = [34] := by decide +kernel
theorem sp4 : sp 4 = [10] := by decide +kernel
theorem sp11 : sp 11 = [58] := by decide +kernel
theorem sp53 : sp 53 = [58, 61] := by decide +kernel
theorem sp23 : sp 23 = [46] := by decide +kernel
theorem sp52 : sp 52 = [46, 46, 46] := by decide +kernel
theorem text_no92 {r : List Int} (hg : ∀ x ∈ r, Good x) : ∀ c ∈ (textF r).cps, c ≠ 92 := by
  intro c hc
  have hc' : c ∈ flat r := by rw [← text_flat]; simpa using hc
  obtain ⟨x, hx, hcx⟩ := List.mem_flatMap.mp hc'
  exact of_decide_eq_true (List.all_eq_true.mp (sp_back (hg x hx)) c hcx)
theorem flat_le : ∀ {r : List Int}, (∀ x ∈ r, Good x) → (flat r).length ≤ 3 * r.length
  | [], _ => Nat.le_refl _
  | x :: r, hg => by
    rw [flat_cons, List.length_append, List.length_cons]
    have h1 := flat_le (r := r) fun y hy => hg y (.tail _ hy)
    have h2 : (sp x).length ≤ 3 := by
      have := good_len (hg x (.head _))
      have e : (sp x).length = (spell x).length := rfl
      omega
    omega
theorem text_len {r : List Int} (hg : ∀ x ∈ r, Good x) (hl : r.length ≤ 100) : (textF r).length ≤ 500 := by
  have h1 := flat_le hg
  have e : (textF r).length = (flat r).length := by rw [← text_flat]; rfl
  omega

/-! what the details' function leaves -/
theorem tw_stop {p : Nat → Bool} {c : Nat} (hc : p c = false) : ∀ xs ys : List Nat, (xs ++ c :: ys).takeWhile p = xs.takeWhile p
  | [], ys => by simp [hc]
  | x :: xs, ys => by
    rw [List.cons_append, List.takeWhile_cons, List.takeWhile_cons, tw_stop hc xs ys]
theorem upTo_app {c : Nat} {a : List Nat} (h : ∀ z ∈ a, z ≠ c) (b : List Nat) : upTo c (a ++ b) = a ++ upTo c b :=
  List.takeWhile_append_of_pos fun z hz => decide_eq_true (h z hz)
theorem upTo_head (c : Nat) (b : List Nat) : upTo c (c :: b) = [] := by simp [upTo]
theorem behind_dot (a b : List Nat) : behind 46 (a ++ 46 :: b) = behind 46 b := by
  unfold behind upTo
  rw [List.reverse_append, List.reverse_cons, List.append_assoc, List.singleton_append, tw_stop (by decide)]
theorem behind_free {a : List Nat} (h : ∀ z ∈ a, z ≠ 46) : behind 46 a = a := by
  unfold behind
  have e := upTo_app (c := 46) (a := a.reverse) (fun z hz => h z (List.mem_reverse.mp hz)) []
  rw [List.append_nil] at e
  rw [e]
  simp [upTo]
def cutL (xs : List Nat) : List Nat := upTo 58 (upTo 10 xs)
theorem cutL_app {a : List Nat} (h : ∀ z ∈ a, z ≠ 58 ∧ z ≠ 10) (b : List Nat) : cutL (a ++ b) = a ++ cutL b := by
  unfold cutL
  rw [upTo_app (fun z hz => (h z hz).2), upTo_app (fun z hz => (h z hz).1)]
theorem cutL_10 (b : List Nat) : cutL (10 :: b) = [] := by unfold cutL; rw [upTo_head]; rfl
theorem cutL_58 (b : List Nat) : cutL (58 :: b) = [] := by
  unfold cutL
  have e : upTo 10 (58 :: b) = 58 :: upTo 10 b := upTo_app (a := [58]) (fun z hz => by rw [List.mem_singleton.mp hz]; decide) b
  rw [e, upTo_head]
theorem det_go : ∀ (r st : List Int), (∀ x ∈ r, Good x) → (∀ z ∈ flat st, z ≠ 46) → behind 46 (flat st ++ cutL (flat r)) = flat (bareF st r)
  | [], st, _, hs => by
    have e : cutL (flat []) = [] := rfl
    rw [e, List.append_nil, behind_free hs]; rfl
  | x :: r, st, hg, hs => by
    have hg' : ∀ y ∈ r, Good y := fun y hy => hg y (.tail _ hy)
    rw [bFc, flat_cons]
    by_cases h1 : x = 11 ∨ x = 53 ∨ x = 4
    · rw [if_pos h1]
      have e : cutL (sp x ++ flat r) = [] := by
        rcases h1 with rfl | rfl | rfl
        · rw [sp11]; exact cutL_58 _
        · rw [sp53]; exact cutL_58 _
        · rw [sp4]; exact cutL_10 _
      rw [e, List.append_nil, behind_free hs]
    · rw [if_neg h1]
      by_cases h2 : x = 23 ∨ x = 52
      · rw [if_pos h2]
        have ih := det_go r [] hg' (fun _ h => nomatch h)
        have e0 : flat [] ++ cutL (flat r) = cutL (flat r) := rfl
        rw [e0] at ih
        rcases h2 with rfl | rfl
        · rw [sp23, cutL_app (fun z hz => by rw [List.mem_singleton.mp hz]; decide)]
          show behind 46 (flat st ++ 46 :: cutL (flat r)) = _
          rw [behind_dot, ih]
        · rw [sp52, cutL_app (fun z hz => by simp at hz; rw [hz]; decide)]
          have e : flat st ++ ([46, 46, 46] ++ cutL (flat r)) = (flat st ++ [46, 46]) ++ 46 :: cutL (flat r) := by simp
          rw [e, behind_dot, ih]
      · rw [if_neg h2]
        have hp := sp_plain (hg x (.head _))
        have hp' : (sp x).all (fun c => decide (c ≠ 46) && decide (c ≠ 58) && decide (c ≠ 10)) = true := by
          rcases hp with h | h | h | h | h | h
          · exact absurd (.inl h) h1
          · exact absurd (.inr (.inl h)) h1
          · exact absurd (.inr (.inr h)) h1
          · exact absurd (.inl h) h2
          · exact absurd (.inr h) h2
          · exact h
        have hz : ∀ z ∈ sp x, z ≠ 46 ∧ z ≠ 58 ∧ z ≠ 10 := by
          intro z hz
          have := List.all_eq_true.mp hp' z hz
          simp only [Bool.and_eq_true, decide_eq_true_eq] at this
          exact ⟨this.1.1, this.1.2, this.2⟩
        rw [cutL_app (fun z h => (hz z h).2)]
        have ih := det_go r (st ++ [x]) hg' (by
          intro z h
          rw [flat_app, flat_one] at h
          rcases List.mem_append.mp h with h | h
          · exact hs z h
          · exact (hz z h).1)
        rw [flat_app, flat_one, List.append_assoc] at ih
        exact ih
theorem det_text {r : List Int} (hg : ∀ x ∈ r, Good x) : detF (textF r) = textF (bareF [] r) := by
  refine str_ext ?_
  rw [text_flat, ← det_go r [] hg (fun _ h => nomatch h)]
  show (behind 46 (upTo 58 (upTo 10 (textF r).cps.toList))).toArray.toList = _
  rw [text_flat]
  rfl

/-! what the quoted names' function leaves -/
def hideG {α : Type} [DecidableEq α] (m : α) : List α → Option (List α) → List α → List α
  | acc, op, [] => acc ++ op.getD []
  | acc, none, c :: r => if c = m then hideG m acc (some [m]) r else hideG m (acc ++ [c]) none r
  | acc, some p, c :: r => if c = m then hideG m acc none r else hideG m acc (some (p ++ [c])) r
section
variable {α : Type} [DecidableEq α] {m : α}
theorem hG0 (acc : List α) (op : Option (List α)) : hideG m acc op [] = acc ++ op.getD [] := rfl
theorem hGn (acc : List α) (c : α) (r : List α) : hideG m acc none (c :: r) = if c = m then hideG m acc (some [m]) r else hideG m (acc ++ [c]) none r := rfl
theorem hGs (acc p : List α) (c : α) (r : List α) : hideG m acc (some p) (c :: r) = if c = m then hideG m acc none r else hideG m acc (some (p ++ [c])) r := rfl
theorem hide_none : ∀ {s : List α}, (∀ z ∈ s, z ≠ m) → ∀ acc r, hideG m acc none (s ++ r) = hideG m (acc ++ s) none r
  | [], _, acc, r => by simp
  | c :: s, h, acc, r => by
    rw [List.cons_append, hGn, if_neg (h c (.head _)), hide_none fun z hz => h z (.tail _ hz), List.append_assoc]; rfl
theorem hide_some : ∀ {s : List α}, (∀ z ∈ s, z ≠ m) → ∀ acc p r, hideG m acc (some p) (s ++ r) = hideG m acc (some (p ++ s)) r
  | [], _, acc, p, r => by simp
  | c :: s, h, acc, p, r => by
    rw [List.cons_append, hGs, if_neg (h c (.head _)), hide_some fun z hz => h z (.tail _ hz), List.append_assoc]; rfl
theorem hide_id {s : List α} (h : ∀ z ∈ s, z ≠ m) : hideG m [] none s = s := by
  have e := hide_none h [] []
  rw [List.append_nil] at e
  rw [e]
  rw [hG0]
  simp
end
theorem hide_flat : ∀ (r acc : List Int) (op : Option (List Int)), (∀ x ∈ r, Good x) → hideG 34 (flat acc) (op.map flat) (flat r) = flat (hideG 3 acc op r)
  | [], acc, op, _ => by
    have e : flat [] = [] := rfl
    cases op with
    | none => rw [e, hG0, hG0, flat_app]; rfl
    | some p => rw [e, hG0, hG0, flat_app]; rfl
  | x :: r, acc, op, hg => by
    have hg' : ∀ y ∈ r, Good y := fun y hy => hg y (.tail _ hy)
    rw [flat_cons]
    by_cases h : x = 3
    · subst h
      rw [sp3]
      cases op with
      | none =>
        show hideG 34 (flat acc) none (34 :: flat r) = _
        rw [hGn, hGn, if_pos rfl, if_pos rfl, ← hide_flat r acc (some [3]) hg']
        show _ = hideG 34 (flat acc) (some (flat [3])) (flat r)
        rw [flat_one, sp3]
      | some p =>
        show hideG 34 (flat acc) (some (flat p)) (34 :: flat r) = _
        rw [hGs, hGs, if_pos rfl, if_pos rfl, ← hide_flat r acc none hg']
        rfl
    · have hz : ∀ z ∈ sp x, z ≠ 34 := by
        intro z hz
        rcases sp_mark (hg x (.head _)) with e | e
        · exact absurd e h
        · exact of_decide_eq_true (List.all_eq_true.mp e z hz)
      cases op with
      | none =>
        show hideG 34 (flat acc) none (sp x ++ flat r) = _
        rw [hide_none hz, hGn, if_neg h, ← hide_flat r (acc ++ [x]) none hg', flat_app, flat_one]
        rfl
      | some p =>
        show hideG 34 (flat acc) (some (flat p)) (sp x ++ flat r) = _
        rw [hide_some hz, hGs, if_neg h, ← hide_flat r acc (some (p ++ [x])) hg']
        show _ = hideG 34 (flat acc) (some (flat (p ++ [x]))) (flat r)
        rw [flat_app, flat_one]

/-! the text's machine tells the same as the list's -/
def accQ (x : Str) (i : Nat) (q : QSt) : List Nat := q.2.2.flatMap (fun y => y.cps.toList) ++ (x.cps.toList.drop q.1).take (q.2.1.getD i - q.1)
def opQ (x : Str) (i : Nat) (q : QSt) : Option (List Nat) := q.2.1.map fun p => (x.cps.toList.drop p).take (i - p)
def outQ (x : Str) (q : QSt) : List Nat := q.2.2.flatMap (fun y => y.cps.toList) ++ x.cps.toList.drop q.1
def okQ (i : Nat) (q : QSt) : Prop := match q.2.1 with | none => q.1 ≤ i | some p => q.1 ≤ p ∧ p < i
theorem take_snoc {xs : List Nat} {p i c : Nat} (h : xs[i]? = some c) (hp : p ≤ i) : (xs.drop p).take (i + 1 - p) = (xs.drop p).take (i - p) ++ [c] := by
  rw [show i + 1 - p = (i - p) + 1 by omega]
  refine take_get ?_
  rw [List.getElem?_drop, show p + (i - p) = i by omega, h]
theorem slice_cps {x : Str} {a b : Nat} (h1 : a ≤ b) (h2 : b ≤ x.cps.toList.length) : (Txt.slice x (some (a : Int)) (some (b : Int))).cps.toList = (x.cps.toList.drop a).take (b - a) := by
  have e := beq_iff_eq.mp (slice_closes (x := x) (i := (a : Int)) (j := (b : Int)) ⟨by omega, by omega, by omega⟩)
  rw [e]
  show ((x.cps.toList.drop (a : Int).toNat).take ((b : Int) - (a : Int)).toNat) = _
  rw [show ((a : Int)).toNat = a by omega, show ((b : Int) - (a : Int)).toNat = b - a by omega]
theorem slice_end {x : Str} {a : Nat} (h1 : a ≤ x.cps.toList.length) : (Txt.slice x (some (a : Int)) none).cps.toList = x.cps.toList.drop a := by
  have hl : x.length = x.cps.toList.length := by simp [Str.length]
  rw [slice_from_eq (x := x) (i := (a : Int)) (b := (x.length : Int)) (by omega) (by omega) rfl]
  show ((x.cps.toList.drop (a : Int).toNat).take ((x.length : Int) - (a : Int)).toNat) = _
  rw [show ((a : Int)).toNat = a by omega, List.take_of_length_le]
  rw [List.length_drop]; omega
theorem qRun_hide (x : Str) : ∀ (r : List Nat) (i : Nat) (q : QSt), x.cps.toList.drop i = r → i ≤ x.cps.toList.length → okQ i q →
    outQ x (qRun x i q r) = hideG 34 (accQ x i q) (opQ x i q) r ∧ (qRun x i q r).1 ≤ x.cps.toList.length
  | [], i, ⟨st, op, ys⟩, hr, hi, ok => by
    have hi' : i = x.cps.toList.length := by
      have := congrArg List.length hr
      rw [List.length_drop] at this
      simp only [List.length_nil] at this; omega
    subst hi'
    rw [qRun, hG0]
    cases op with
    | none =>
      have ok' : st ≤ x.cps.toList.length := ok
      refine ⟨?_, ok'⟩
      show _ = (ys.flatMap _ ++ (x.cps.toList.drop st).take (x.cps.toList.length - st)) ++ []
      rw [List.append_nil, List.take_of_length_le (by rw [List.length_drop]; exact Nat.le_refl _)]; rfl
    | some p =>
      have ok' : st ≤ p ∧ p < x.cps.toList.length := ok
      refine ⟨?_, show st ≤ _ by omega⟩
      show _ = (ys.flatMap _ ++ (x.cps.toList.drop st).take (p - st)) ++ (x.cps.toList.drop p).take (x.cps.toList.length - p)
      rw [List.take_of_length_le (l := x.cps.toList.drop p) (by rw [List.length_drop]; exact Nat.le_refl _), List.append_assoc]
      have e : x.cps.toList.drop st = (x.cps.toList.drop st).take (p - st) ++ x.cps.toList.drop p := by
        have := (List.take_append_drop (p - st) (x.cps.toList.drop st)).symm
        rw [List.drop_drop, show st + (p - st) = p by omega] at this
        exact this
      rw [← e]; rfl
  | c :: r, i, ⟨st, op, ys⟩, hr, hi, ok => by
    have hlt : i < x.cps.toList.length := by
      have := congrArg List.length hr
      rw [List.length_drop] at this
      simp only [List.length_cons] at this; omega
    have hc : x.cps.toList[i]? = some c := by
      have : (x.cps.toList.drop i)[0]? = some c := by rw [hr]; rfl
      rwa [List.getElem?_drop, Nat.add_zero] at this
    have hr' : x.cps.toList.drop (i + 1) = r := by
      rw [← List.drop_drop, hr]; rfl
    rw [qRun]
    by_cases h34 : c = 34
    · cases op with
      | none =>
        have ok' : st ≤ i := ok
        have ih := qRun_hide x r (i + 1) (st, some i, ys) hr' hlt ⟨ok', Nat.lt_succ_self _⟩
        have e : qStep x i c (st, none, ys) = (st, some i, ys) := by rw [qStep, if_pos h34]
        rw [e]
        have e1 : accQ x (i + 1) (st, some i, ys) = accQ x i (st, none, ys) := rfl
        have e2 : opQ x (i + 1) (st, some i, ys) = some [34] := by
          show some ((x.cps.toList.drop i).take (i + 1 - i)) = _
          rw [take_snoc hc (Nat.le_refl _), Nat.sub_self, h34]; rfl
        rw [e1, e2] at ih
        have e3 : opQ x i (st, none, ys) = none := rfl
        rw [e3, hGn, if_pos h34]
        exact ih
      | some p =>
        have ok' : st ≤ p ∧ p < i := ok
        have ih := qRun_hide x r (i + 1) (i + 1, none, if st = p then ys else ys ++ [Txt.slice x (some (st : Int)) (some (p : Int))]) hr' hlt (Nat.le_refl (i + 1))
        have e : qStep x i c (st, some p, ys) = (i + 1, none, if st = p then ys else ys ++ [Txt.slice x (some (st : Int)) (some (p : Int))]) := by rw [qStep, if_pos h34]
        rw [e]
        have e1 : accQ x (i + 1) (i + 1, none, if st = p then ys else ys ++ [Txt.slice x (some (st : Int)) (some (p : Int))]) = accQ x i (st, some p, ys) := by
          show (if st = p then ys else ys ++ [Txt.slice x (some (st : Int)) (some (p : Int))]).flatMap _ ++ (x.cps.toList.drop (i + 1)).take (i + 1 - (i + 1)) = ys.flatMap _ ++ (x.cps.toList.drop st).take (p - st)
          rw [Nat.sub_self, List.take_zero, List.append_nil]
          by_cases hsp : st = p
          · rw [if_pos hsp, hsp, Nat.sub_self, List.take_zero, List.append_nil]
          · rw [if_neg hsp, List.flatMap_append]
            congr 1
            rw [← slice_cps ok'.1 (by omega)]
            simp
        have e2 : opQ x (i + 1) (i + 1, none, if st = p then ys else ys ++ [Txt.slice x (some (st : Int)) (some (p : Int))]) = none := rfl
        rw [e1, e2] at ih
        have e3 : opQ x i (st, some p, ys) = some ((x.cps.toList.drop p).take (i - p)) := rfl
        rw [e3, hGs, if_pos h34]
        exact ih
    · have e : qStep x i c (st, op, ys) = (st, op, ys) := by rw [qStep, if_neg h34]
      rw [e]
      cases op with
      | none =>
        have ok' : st ≤ i := ok
        have ih := qRun_hide x r (i + 1) (st, none, ys) hr' hlt (Nat.le_succ_of_le ok')
        have e1 : accQ x (i + 1) (st, none, ys) = accQ x i (st, none, ys) ++ [c] := by
          show ys.flatMap _ ++ (x.cps.toList.drop st).take (i + 1 - st) = (ys.flatMap _ ++ (x.cps.toList.drop st).take (i - st)) ++ [c]
          rw [take_snoc hc ok', List.append_assoc]
        have e2 : opQ x (i + 1) (st, none, ys) = none := rfl
        rw [e1, e2] at ih
        have e3 : opQ x i (st, none, ys) = none := rfl
        rw [e3, hGn, if_neg h34]
        exact ih
      | some p =>
        have ok' : st ≤ p ∧ p < i := ok
        have ih := qRun_hide x r (i + 1) (st, some p, ys) hr' hlt ⟨ok'.1, Nat.lt_succ_of_lt ok'.2⟩
        have e1 : accQ x (i + 1) (st, some p, ys) = accQ x i (st, some p, ys) := rfl
        have e2 : opQ x (i + 1) (st, some p, ys) = some ((x.cps.toList.drop p).take (i - p) ++ [c]) := by
          show some ((x.cps.toList.drop p).take (i + 1 - p)) = _
          rw [take_snoc hc (Nat.le_of_lt ok'.2)]
        rw [e1, e2] at ih
        have e3 : opQ x i (st, some p, ys) = some ((x.cps.toList.drop p).take (i - p)) := rfl
        rw [e3, hGs, if_neg h34]
        exact ih
theorem real_hide (x : Str) : (realF x).cps.toList = hideG 34 [] none x.cps.toList := by
  by_cases h : 34 ∈ x.cps.toList
  · have k := qRun_hide x x.cps.toList 0 (0, none, []) rfl (Nat.zero_le _) (Nat.le_refl 0)
    have e1 : accQ x 0 (0, none, []) = [] := by
      show [] ++ (x.cps.toList.drop 0).take (0 - 0) = []
      simp
    have e2 : opQ x 0 (0, none, []) = none := rfl
    rw [e1, e2] at k
    rw [realF, if_pos h, join_flat, ← k.1, outQ, List.flatMap_append]
    have hz : x.cps.size = x.cps.toList.length := by simp
    show _ ++ _ = _ ++ x.cps.toList.drop (qAll x).1
    congr 1
    by_cases h2 : (qAll x).1 < x.cps.size
    · rw [if_pos h2]
      rw [← slice_end (by omega)]
      simp
    · rw [if_neg h2, List.drop_of_length_le (by omega)]; rfl
  · rw [realF, if_neg h]
    exact (hide_id (m := 34) fun z hz e => h (e ▸ hz)).symm
/-! the rows' hiding is the same machine -/
theorem fm2 (n : Nat) : (n : Int).fmod 2 = ((n % 2 : Nat) : Int) := by
  rw [Int.fmod_eq_emod_of_nonneg _ (by decide)]; rfl
theorem fm_e {k : Nat} (h : k % 2 = 0) : (k : Int).fmod 2 = 0 := by rw [fm2, h]; rfl
theorem fm_o {k : Nat} (h : k % 2 = 1) : (k : Int).fmod 2 = 1 := by rw [fm2, h]; rfl
theorem up_e {k : Nat} (h : k % 2 = 0) : (k + 1) % 2 = 1 := by omega
theorem up_o {k : Nat} (h : k % 2 = 1) : (k + 1) % 2 = 0 := by omega
theorem shownGo_hide (M : Nat) : ∀ (r : List Int) (k : Nat) (acc : List Int), k + (r.filter (· == 3)).length = M →
    (k % 2 = 0 → shownGo M k acc r = hideG 3 acc none r) ∧
    (k % 2 = 1 → k ≠ M → ∀ p, shownGo M k acc r = hideG 3 acc (some p) r) ∧
    (k % 2 = 1 → k = M → ∀ a p, acc = a ++ p → shownGo M k acc r = hideG 3 a (some p) r)
  | [], k, acc, hk => by
    have hk' : k = M := hk
    refine ⟨fun _ => by rw [sG0, hG0]; simp, fun _ h => absurd hk' h, fun _ _ a p e => by rw [sG0, hG0, e]; rfl⟩
  | x :: r, k, acc, hk => by
    by_cases hx : x = 3
    · subst hx
      have hk' : (k + 1) + (r.filter (· == 3)).length = M := by
        rw [List.filter_cons_of_pos (by decide), List.length_cons] at hk; omega
      have ck : ((k : Int) + 1) = ((k + 1 : Nat) : Int) := rfl
      have ih := fun acc => shownGo_hide M r (k + 1) acc hk'
      refine ⟨fun h0 => ?_, fun h1 hne p => ?_, fun h1 he => ?_⟩
      · rw [sGc, if_pos rfl, ck, hGn, if_pos rfl]
        by_cases hM : k + 1 = M
        · rw [if_pos ⟨congrArg _ hM, fm_o (hM ▸ up_e h0)⟩]
          exact (ih _).2.2 (up_e h0) hM acc [3] rfl
        · rw [if_neg (fun q => hM (Int.ofNat.inj q.1))]
          exact (ih _).2.1 (up_e h0) hM [3]
      · rw [sGc, if_pos rfl, ck, hGs, if_pos rfl]
        have hn : ¬ (((k + 1 : Nat) : Int) = (M : Int) ∧ (M : Int).fmod 2 = 1) := fun q => by
          have e : k + 1 = M := Int.ofNat.inj q.1
          have := q.2
          rw [fm_e (e ▸ up_o h1)] at this
          exact absurd this (by decide)
        rw [if_neg hn]
        exact (ih _).1 (up_o h1)
      · exfalso; omega
    · have hk' : k + (r.filter (· == 3)).length = M := by
        rw [List.filter_cons_of_neg (by simpa using hx)] at hk; exact hk
      have ih := fun acc => shownGo_hide M r k acc hk'
      refine ⟨fun h0 => ?_, fun h1 hne p => ?_, fun h1 he a p e => ?_⟩
      · rw [sGc, if_neg hx, if_pos (.inl (fm_e h0)), hGn, if_neg hx]
        exact (ih _).1 h0
      · have hn : ¬ ((k : Int).fmod 2 = 0 ∨ (k : Int) = (M : Int)) := fun q => q.elim (fun e => by rw [fm_o h1] at e; exact absurd e (by decide)) (fun e => hne (Int.ofNat.inj e))
        rw [sGc, if_neg hx, if_neg hn, hGs, if_neg hx]
        exact (ih _).2.1 h1 hne _
      · rw [sGc, if_neg hx, if_pos (.inr (congrArg _ he)), hGs, if_neg hx]
        exact (ih _).2.2 h1 he a (p ++ [x]) (by rw [e, List.append_assoc])
theorem shown_hide (r : List Int) : shownF r = hideG 3 [] none r :=
  (shownGo_hide (r.filter (· == 3)).length r 0 [] (Nat.zero_add _)).1 rfl
theorem real_text {r : List Int} (hg : ∀ x ∈ r, Good x) : realF (textF r) = textF (shownF r) := by
  refine str_ext ?_
  rw [real_hide, text_flat, text_flat, shown_hide, ← hide_flat r [] none hg]
  rfl
/-! the two deeds' words -/
def Plain (r : List Int) : Prop := ∀ x ∈ r, ¬ (x = 11 ∨ x = 53 ∨ x = 4) ∧ ¬ (x = 23 ∨ x = 52)
theorem bare_plain : ∀ (r st : List Int), Plain r → bareF st r = st ++ r
  | [], st, _ => by rw [bF0, List.append_nil]
  | x :: r, st, h => by
    rw [bFc, if_neg (h x (.head _)).1, if_neg (h x (.head _)).2, bare_plain r _ fun y hy => h y (.tail _ hy), List.append_assoc]; rfl
theorem plain_bare : ∀ (r st : List Int), Plain st → Plain (bareF st r)
  | [], st, h => h
  | x :: r, st, h => by
    rw [bFc]
    by_cases h1 : x = 11 ∨ x = 53 ∨ x = 4
    · rw [if_pos h1]; exact h
    · rw [if_neg h1]
      by_cases h2 : x = 23 ∨ x = 52
      · rw [if_pos h2]; exact plain_bare r [] fun _ hx => nomatch hx
      · rw [if_neg h2]
        refine plain_bare r _ fun y hy => ?_
        rcases List.mem_append.mp hy with hy | hy
        · exact h y hy
        · rw [List.mem_singleton.mp hy]; exact ⟨h1, h2⟩
theorem bare_bare (r : List Int) : bareF [] (bareF [] r) = bareF [] r := bare_plain _ [] (plain_bare r [] fun _ h => nomatch h)
theorem bare_shown_bare (r : List Int) : bareF [] (shownF (bareF [] r)) = shownF (bareF [] r) :=
  bare_plain _ [] (shownF_good (P := fun x => ¬ (x = 11 ∨ x = 53 ∨ x = 4) ∧ ¬ (x = 23 ∨ x = 52)) (plain_bare r [] fun _ h => nomatch h))
def cnt (r : List Int) : Nat := (r.filter (· == 3)).length
theorem cnt_app (a b : List Int) : cnt (a ++ b) = cnt a + cnt b := by rw [cnt, List.filter_append, List.length_append]; rfl
theorem cnt_cons3 (r : List Int) : cnt (3 :: r) = cnt r + 1 := by rw [cnt, List.filter_cons_of_pos (by decide)]; rfl
theorem cnt_cons {x : Int} (h : x ≠ 3) (r : List Int) : cnt (x :: r) = cnt r := by rw [cnt, List.filter_cons_of_neg (by simpa using h)]; rfl
theorem cnt_one {x : Int} (h : x ≠ 3) : cnt [x] = 0 := cnt_cons h []
theorem cnt_le_cons (x : Int) (r : List Int) : cnt r ≤ cnt (x :: r) := by
  by_cases h : x = 3
  · rw [h, cnt_cons3]; omega
  · rw [cnt_cons h]; exact Nat.le_refl _
theorem cnt_zero {r : List Int} (h : cnt r = 0) : ∀ z ∈ r, z ≠ 3 := by
  intro z hz e
  have : z ∈ r.filter (· == 3) := List.mem_filter.mpr ⟨hz, by rw [e]; rfl⟩
  have h2 := List.length_pos_of_mem this
  have h3 : (r.filter (· == 3)).length = 0 := h
  omega
theorem cnt_bare : ∀ (r st : List Int), cnt (bareF st r) ≤ cnt st + cnt r
  | [], st => by rw [bF0]; omega
  | x :: r, st => by
    rw [bFc]
    by_cases h1 : x = 11 ∨ x = 53 ∨ x = 4
    · rw [if_pos h1]; omega
    · rw [if_neg h1]
      by_cases h2 : x = 23 ∨ x = 52
      · rw [if_pos h2]
        have := cnt_bare r []
        have e : cnt ([] : List Int) = 0 := rfl
        have := cnt_le_cons x r
        omega
      · rw [if_neg h2]
        have h3 := cnt_bare r (st ++ [x])
        have h4 := cnt_app [x] r
        have e : [x] ++ r = x :: r := rfl
        rw [e] at h4
        rw [cnt_app] at h3
        omega
theorem cnt_hide : ∀ (r acc : List Int) (op : Option (List Int)), cnt acc = 0 → (∀ p, op = some p → cnt p ≤ 1) → cnt (hideG 3 acc op r) ≤ 1
  | [], acc, op, h0, h1 => by
    rw [hG0, cnt_app, h0]
    cases op with
    | none => show 0 + 0 ≤ 1; omega
    | some p => have := h1 p rfl; show 0 + cnt p ≤ 1; omega
  | x :: r, acc, op, h0, h1 => by
    by_cases hx : x = 3
    · cases op with
      | none => rw [hGn, if_pos hx]; exact cnt_hide r acc _ h0 fun p e => by rw [← Option.some.inj e]; exact Nat.le_refl 1
      | some p => rw [hGs, if_pos hx]; exact cnt_hide r acc _ h0 fun p e => nomatch e
    · cases op with
      | none => rw [hGn, if_neg hx]; exact cnt_hide r _ _ (by rw [cnt_app, h0, cnt_one hx]) fun p e => nomatch e
      | some p => rw [hGs, if_neg hx]; exact cnt_hide r _ _ h0 fun q e => by rw [← Option.some.inj e, cnt_app, cnt_one hx]; exact h1 p rfl
theorem hide_few : ∀ (r acc : List Int), cnt r ≤ 1 → hideG 3 acc none r = acc ++ r
  | [], acc, _ => by rw [hG0]; rfl
  | x :: r, acc, h => by
    by_cases hx : x = 3
    · subst hx
      rw [cnt_cons3] at h
      have e := hide_some (cnt_zero (r := r) (by omega)) acc [3] []
      rw [List.append_nil] at e
      rw [hGn, if_pos rfl, e, hG0]; rfl
    · rw [cnt_cons hx] at h
      rw [hGn, if_neg hx, hide_few r _ h, List.append_assoc]; rfl
theorem shown_few {r : List Int} (h : cnt r ≤ 1) : shownF r = r := by rw [shown_hide, hide_few r [] h]; rfl
theorem cnt_shown (r : List Int) : cnt (shownF r) ≤ 1 := by rw [shown_hide]; exact cnt_hide r [] none rfl fun _ e => nomatch e
theorem shown_shown (r : List Int) : shownF (shownF r) = shownF r := shown_few (cnt_shown r)
theorem shown_bare_shown (r : List Int) : shownF (bareF [] (shownF r)) = bareF [] (shownF r) := by
  refine shown_few ?_
  have h1 := cnt_bare (shownF r) []
  have h2 := cnt_shown r
  have e : cnt ([] : List Int) = 0 := rfl
  omega
def stepF (r : List Int) (d : Int) : List Int := if d = 1 then shownF r else bareF [] r
def appl (ds r : List Int) : List Int := ds.foldl stepF r
theorem appl_snoc (ds r : List Int) (d : Int) : appl (ds ++ [d]) r = stepF (appl ds r) d := by rw [appl, List.foldl_append]; rfl
theorem step_len (r : List Int) (d : Int) : (stepF r d).length ≤ r.length := by
  rw [stepF]
  by_cases h : d = 1
  · rw [if_pos h]; exact shownF_len r
  · rw [if_neg h]; exact bareF_len r
theorem step_good {r : List Int} (hg : ∀ x ∈ r, Good x) (d : Int) : ∀ x ∈ stepF r d, Good x := by
  rw [stepF]
  by_cases h : d = 1
  · rw [if_pos h]; exact shownF_good hg
  · rw [if_neg h]; exact bareF_good hg
theorem appl_len : ∀ (ds r : List Int), (appl ds r).length ≤ r.length
  | [], _ => Nat.le_refl _
  | d :: ds, r => Nat.le_trans (appl_len ds (stepF r d)) (step_len r d)
theorem appl_good : ∀ {ds r : List Int}, (∀ x ∈ r, Good x) → ∀ x ∈ appl ds r, Good x
  | [], _, hg => hg
  | d :: ds, _, hg => appl_good (ds := ds) (step_good hg d)
theorem appl_fix {z : List Int} (h1 : bareF [] z = z) (h2 : shownF z = z) : ∀ ds, appl ds z = z
  | [] => rfl
  | d :: ds => by
    show appl ds (stepF z d) = z
    have e : stepF z d = z := by
      rw [stepF]
      by_cases h : d = 1
      · rw [if_pos h, h2]
      · rw [if_neg h, h1]
    rw [e]; exact appl_fix h1 h2 ds
theorem appl_bare (r : List Int) : ∀ ds : List Int, (∀ d ∈ ds, d = 0 ∨ d = 1) → appl ds (bareF [] r) = if KTD.inNums 1 ds = true then shownF (bareF [] r) else bareF [] r
  | [], _ => rfl
  | d :: ds, h => by
    show appl ds (stepF (bareF [] r) d) = _
    rcases h d (.head _) with rfl | rfl
    · have e : stepF (bareF [] r) 0 = bareF [] r := by rw [stepF, if_neg (by decide), bare_bare]
      rw [e, appl_bare r ds fun x hx => h x (.tail _ hx)]; rfl
    · have e : stepF (bareF [] r) 1 = shownF (bareF [] r) := by rw [stepF, if_pos rfl]
      rw [e, appl_fix (bare_shown_bare r) (shown_shown _)]; rfl
theorem appl_shown (r : List Int) : ∀ ds : List Int, (∀ d ∈ ds, d = 0 ∨ d = 1) → appl ds (shownF r) = if KTD.inNums 0 ds = true then bareF [] (shownF r) else shownF r
  | [], _ => rfl
  | d :: ds, h => by
    show appl ds (stepF (shownF r) d) = _
    rcases h d (.head _) with rfl | rfl
    · have e : stepF (shownF r) 0 = bareF [] (shownF r) := by rw [stepF, if_neg (by decide)]
      rw [e, appl_fix (bare_bare _) (shown_bare_shown r)]; rfl
    · have e : stepF (shownF r) 1 = shownF r := by rw [stepF, if_pos rfl, shown_shown]
      rw [e, appl_shown r ds fun x hx => h x (.tail _ hx)]; rfl
/-- behind each deed the row is the one of the four that the deeds tell -/
theorem which_appl {ds : List Int} (r : List Int) (h0 : ds ≠ []) (h1 : ∀ d ∈ ds, d = 0 ∨ d = 1) : 0 ≤ whichF ds ∧ whichF ds < 4 ∧ (fourF r)[(whichF ds).toNat]? = some (appl ds r) := by
  cases ds with
  | nil => exact absurd rfl h0
  | cons d ds =>
    have h1' : ∀ x ∈ ds, x = 0 ∨ x = 1 := fun x hx => h1 x (.tail _ hx)
    rcases h1 d (.head _) with rfl | rfl
    · have ea : appl (0 :: ds) r = appl ds (bareF [] r) := by
        show appl ds (stepF r 0) = _
        rw [stepF, if_neg (by decide)]
      have ew : whichF (0 :: ds) = if KTD.inNums 1 ds = true then 2 else 0 := by
        have e1 : KTD.inNums 1 (0 :: ds) = KTD.inNums 1 ds := rfl
        have e2 : KTD.inNums 0 (0 :: ds) = true := rfl
        rw [whichF, e1, e2, if_pos rfl]; rfl
      rw [ea, ew, appl_bare r ds h1']
      by_cases h : KTD.inNums 1 ds = true
      · rw [if_pos h, if_pos h]; exact ⟨by decide, by decide, rfl⟩
      · rw [if_neg h, if_neg h]; exact ⟨by decide, by decide, rfl⟩
    · have ea : appl (1 :: ds) r = appl ds (shownF r) := by
        show appl ds (stepF r 1) = _
        rw [stepF, if_pos rfl]
      have ew : whichF (1 :: ds) = if KTD.inNums 0 ds = true then 3 else 1 := by
        have e1 : KTD.inNums 1 (1 :: ds) = true := rfl
        have e2 : KTD.inNums 0 (1 :: ds) = KTD.inNums 0 ds := rfl
        rw [whichF, e1, e2, if_pos rfl]; rfl
      rw [ea, ew, appl_shown r ds h1']
      by_cases h : KTD.inNums 0 ds = true
      · rw [if_pos h, if_pos h]; exact ⟨by decide, by decide, rfl⟩
      · rw [if_neg h, if_neg h]; exact ⟨by decide, by decide, rfl⟩

theorem front_eq {R : List Int} (h : R.length = 8) {i : Nat} (hi : i < 5) : (R ++ [0]).take (4 + (i : Int) * 1).toNat = R.take (4 + i) := by
  rw [show (4 + (i : Int) * 1).toNat = 4 + i by omega, List.take_append_of_le_length (by omega)]
theorem front_ints {R : List Int} {wd : List Value} (iD : IntsAre wd (R ++ [0])) (h : R.length = 8) {i : Nat} (hi : i < 5) : IntsAre (slicePick wd.toArray none (some (4 + (i : Int) * 1)) none).toList (R.take (4 + i)) := by
  have e1 := slice_ints_uptoW iD (y := 4 + (i : Int) * 1) (by omega)
  rwa [front_eq h hi] at e1
theorem front_len {R : List Int} (h : R.length = 8) (k : Nat) : (R.take k).length ≤ 20 := by rw [List.length_take]; omega
theorem pre_ints {rs : List Int} {ws : List Value} (iD : IntsAre ws rs) (i : Nat) : IntsAre (slicePick ws.toArray none (some (0 + (i : Int) * 1 + 1)) none).toList (rs.take (i + 1)) := by
  have e1 := slice_ints_uptoW iD (y := 0 + (i : Int) * 1 + 1) (by omega)
  rwa [show (0 + (i : Int) * 1 + 1).toNat = i + 1 by omega] at e1
theorem arr2 {a b : Addr} {i : Nat} {v : Value} (hv : ([Value.ref a, Value.ref b] : List Value)[i]? = some v) : v = Value.ref a ∨ v = Value.ref b := by
  have hi4 : i < 2 := (List.getElem?_eq_some_iff.mp hv).1
  have hc : i = 0 ∨ i = 1 := by omega
  rcases hc with rfl | rfl
  · exact .inl (Option.some.inj hv).symm
  · exact .inr (Option.some.inj hv).symm
section
variable {prog : Program} {w : World} {A : Around} {E : Value → Shared → Prop} {s : Shared} {h₀ : Heap} {L : Addr}
theorem itemN {value slice : PySem.Expr} {ln : Addr} {arr : List Value} {nn : Nat} {k : Int} {u : Tok} {v : Value} {news : List (Addr × Obj)} {Q : Value → Shared → Prop} (N : News h₀ L s.heap news) (hm : (ln, listOf arr.toArray nn) ∈ news) (h0 : 0 ≤ k) (h1 : k < 1000) (hx : arr[k.toNat]? = some v) (h : Q v s)
    (hs : subscripted slice false (.ref ln) (.int k u) = operate [.ref ln, .int k u] (getItem (.ref ln) (.int k u)) := by with_unfolding_all rfl) :
    wpAny (model prog w) A (subscriptTail value slice (.ref ln) (.int k u)) Q E s :=
  have hL : s.heap.IsList ln arr.toArray := ⟨_, (N _ hm).1, rfl, nn, rfl⟩
  tail_any hL.typeIs slot_list_getitem.lookup (wpAny_getItem_list hL h0 (by omega) (by simpa using hx) h) hs
end
theorem strs_at {vs : List Value} {ns : List Str} (hi : StrsAre vs ns) {i : Nat} {x : Str} (hx : ns[i]? = some x) : ∃ t, vs[i]? = some (.str x t) := by
  induction hi generalizing i with
  | nil => simp at hx
  | cons a t _ ih =>
    cases i with
    | zero =>
      have e : a = x := by simpa using hx
      subst e
      exact ⟨t, rfl⟩
    | succ i => exact ih (by simpa using hx)
theorem deed_at {wx : List Value} {rx : List Int} (ix : IntsAre wx rx) (h5 : rx.length = 5) {i : Nat} (hi : i < 5) : ∃ t, wx[(0 + (i : Int) * 1).toNat]? = some (.int (rx.getD i 0) t) := by
  have hl : i < rx.length := by omega
  obtain ⟨t, h⟩ := ix.get i rx[i] (List.getElem?_eq_getElem hl)
  refine ⟨t, ?_⟩
  rw [show (0 + (i : Int) * 1).toNat = i by omega, h, List.getD_eq_getElem?_getD, List.getElem?_eq_getElem hl]; rfl
theorem appl_take {rx r : List Int} (h5 : rx.length = 5) {i : Nat} (hi : i < 5) : appl (rx.take (i + 1)) r = stepF (appl (rx.take i) r) (rx.getD i 0) := by
  have hl : i < rx.length := by omega
  rw [List.take_succ_eq_append_getElem hl, appl_snoc, List.getD_eq_getElem?_getD, List.getElem?_eq_getElem hl]; rfl
theorem step_real {rx r cur : List Int} (h5 : rx.length = 5) {i : Nat} (hi : i < 5) (hJ : cur = appl (rx.take i) r) (q : rx.getD i 0 = 1) : appl (rx.take (i + 1)) r = shownF cur := by
  rw [appl_take h5 hi, ← hJ, stepF, if_pos q]
theorem step_det {rx r cur : List Int} (h5 : rx.length = 5) {i : Nat} (hi : i < 5) (hJ : cur = appl (rx.take i) r) (q : rx.getD i 0 ≠ 1) : appl (rx.take (i + 1)) r = bareF [] cur := by
  rw [appl_take h5 hi, ← hJ, stepF, if_neg q]
theorem four_at {w4 : List Value} {rx r : List Int} (s4 : StrsAre w4 ((fourF r).map textF)) (h5 : rx.length = 5) (h01 : ∀ d ∈ rx, d = 0 ∨ d = 1) {i : Nat} (hi : i < 5) :
    0 ≤ whichF (rx.take (i + 1)) ∧ whichF (rx.take (i + 1)) < 4 ∧ ∃ t, w4[(whichF (rx.take (i + 1))).toNat]? = some (.str (textF (appl (rx.take (i + 1)) r)) t) := by
  obtain ⟨h1, h2, h3⟩ := which_appl (ds := rx.take (i + 1)) r (fun e => by have := congrArg List.length e; rw [List.length_take, h5] at this; simp only [List.length_nil] at this; omega) (fun d hd => h01 d (List.mem_of_mem_take hd))
  exact ⟨h1, h2, strs_at s4 (by rw [List.getElem?_map, h3]; rfl)⟩
theorem two_runs {nw : List (Addr × Obj)} {D D2 : Addr} {ys ys2 : List Value} {n n2 : Nat} {rs rs2 : List Int} (m1 : (D, listOf ys.toArray n) ∈ nw) (m2 : (D2, listOf ys2.toArray n2) ∈ nw) (i1 : IntsAre ys rs) (i2 : IntsAre ys2 rs2) (l1 : rs.length = 5) (l2 : rs2.length = ys.toArray.size)
    (q1 : ∀ x ∈ rs, x = 0 ∨ x = 1) (q2 : ∀ x ∈ rs2, x = 0 ∨ x = 1) {i : Nat} {v : Value} (hv : ([Value.ref D, Value.ref D2] : List Value)[i]? = some v) :
    ∃ (Dx : Addr) (wx : List Value) (nx : Nat) (rx : List Int), v = .ref Dx ∧ (Dx, listOf wx.toArray nx) ∈ nw ∧ IntsAre wx rx ∧ rx.length = 5 ∧ ∀ x ∈ rx, x = 0 ∨ x = 1 := by
  rcases arr2 hv with rfl | rfl
  · exact ⟨_, _, _, _, rfl, m1, i1, l1, q1⟩
  · exact ⟨_, _, _, _, rfl, m2, i2, by rw [l2, List.size_toArray, i1.length, l1], q2⟩
section
variable {w : World} {mean : ExcName → Option Value} {mg mb : Str → Option Value}
    {dp un : Nat} {gd : Option (List Code)} {cn : Str} {cs : Scope} {a : Addr} {ccd : Value} {cl : List (Str × Addr)} {outer : List Env} {A₀ : Around} {base h₀ : Heap} {L : Addr} {m : Str → Option Value} {news : List (Addr × Obj)} {s : Shared} {Q E : Value → Shared → Prop} {r : List Int} {t : Tok}
theorem realT
    (B : Below A₀ base outer h₀) (F : Fr h₀ L s.heap m) (X : (hd.heap_39 w.params).In h₀) (N : News h₀ L s.heap news)
    (T : Top hd.view_39 (looseW hd.view_39 [Str.ofString "EXACT_TOKEN_TYPES"]) mean mg mb h₀) (hk : cs.kind = .function)
    (hg : ∀ x ∈ r, Good x) (hl : r.length ≤ 100) (hd : dp + 10 < recursionLimit) (hu : un + 100 < cLine)
    (ret : ∀ t' h' tk' gens', Fr h₀ L h' m → News h₀ L h' news → (AllBare s.gens → AllBare gens') → Q (.str (textF (shownF r)) t') { s with heap := h', toks := tk', gens := gens' }) :
    wpAny (model Challenge.rw_sr0042_01.row.prog w) (ktrTop dp un gd cn cs L a ccd cl outer) (call (.ref 42) [.str (textF r) t]) Q E s := by
  refine realnames B F X N T hk (text_no92 hg) (text_len hg hl) hd hu ?_
  rw [real_text hg]
  exact ret
theorem detT
    (B : Below A₀ base outer h₀) (F : Fr h₀ L s.heap m) (X : (hd.heap_39 w.params).In h₀) (N : News h₀ L s.heap news)
    (T : Top hd.view_39 (looseW hd.view_39 [Str.ofString "EXACT_TOKEN_TYPES"]) mean mg mb h₀) (hk : cs.kind = .function)
    (hg : ∀ x ∈ r, Good x) (hl : r.length ≤ 100) (hd : dp + 10 < recursionLimit) (hu : un + 100 < cLine)
    (ret : ∀ t' h' tk', Fr h₀ L h' m → News h₀ L h' news → Q (.str (textF (bareF [] r)) t') { s with heap := h', toks := tk' }) :
    wpAny (model Challenge.rw_sr0042_01.row.prog w) (ktrTop dp un gd cn cs L a ccd cl outer) (call (.ref 21) [.str (textF r) t]) Q E s := by
  refine details B F X N T hk (text_len hg hl) hd hu ?_
  rw [det_text hg]
  exact ret
end

section
local macro_rules | `(tactic| walk_at "exec Assign cons ListComp") => `(tactic| k_extra "exec Assign cons ListComp")
local macro_rules | `(tactic| walk_at "CompSrc") => `(tactic| k_extra "CompSrc")
local macro_rules | `(tactic| walk_at "exec For Name Call cons nil") => `(tactic| k_extra "exec For Name Call cons nil")
local macro_rules | `(tactic| walk_at "exec For Name List cons nil") => `(tactic| k_extra "exec For Name List cons nil")
local macro_rules | `(tactic| walk_at "pyIter ref") => `(tactic| k_extra "pyIter ref")
theorem noE {M : Model} {A : Around} {α : Type} {m : Sem α} {Q Q' : α → Shared → Prop} {E : Value → Shared → Prop} {s : Shared} (h : wpAny M A m Q' NoE s) (hq : ∀ v s', Q' v s' → Q v s') : wpAny M A m Q E s :=
  wpAny_mono h hq fun _ _ e => e.elim
/-- how the law ends -/
def LawEnd (s₁ : Shared) (f : Flow) (s' : Shared) : Prop := f = .ret (.bool true) ∧ OldK s₁.heap s'.heap ∧ s'.os = s₁.os ∧ AllBare s'.gens
structure LSt where
  fv : Option Value
  qv : Option Value
  dv : Option Value
  tv : Option Value
  sv : Option Value
structure DSt where
  tv : Option Value
  sv : Option Value
structure ESt where
  cur : List Int
  tt : Tok
local macro_rules | `(tactic| walk_at "subscriptTail Name Slice ref ref") => `(tactic| k_extra "subscriptTail Name Slice ref ref")
local macro_rules | `(tactic| walk_at "eval ListComp") => `(tactic| k_extra "eval ListComp")
local macro_rules | `(tactic| walk_at "subscriptTail Name Name ref int") => `(tactic| k_extra "subscriptTail Name Name ref int")
local macro_rules | `(tactic| walk_at "subscriptTail Name Call ref int") => `(tactic| k_extra "subscriptTail Name Call ref int")
set_option maxHeartbeats 8000000 in
theorem holds0 : PySem.Challenge.rw_sr0042_01.Holds := hd (by
  k_fill
  intro w s₀ s₁ mg mb G Y fa o pm cd doc dV kV ho hd hcd hD hmg hg args vals as hpre hlay hrd hwl hlo
  have KX := kIn_of Y
  have X := (Ground.X G).1
  have V := (Ground.X G).2
  refine Ground.open G ?_
  intro T B D TE TW
  try (refine guard_noD D (by decide +kernel) ?_; clear D)
  obtain ⟨_, _, M⟩ := bmod_of_top T
  have TA := at_of_top T
  obtain ⟨_, _, he, B0⟩ := based_of_top T rfl hmg ho hd
  have he' : cd = _ := he
  subst he'
  clear he
  clear hmg
  wrow_args hpre hlay hrd hwl hlo
  all_goals (
    first | refine callC_kw (enter_call ?_) | refine enter_call ?_ | refine callC_kw (enter_callW ?_) | refine enter_callW ?_ | w_how
    w_top on
    have K0 := below_caller (Top.heap T)
    w_call any ho hd hcd hD T F
    clear hd TA
    k_drop
    skip)
  rename_i oR dR N0 X0
  clear X0
  have dR' : oR.data = .cell none := dR
  clear dR
  rename IntsAre _ _ => hI
  rename Heap.IsList _ _ _ => hS
  rename (¬ (63 : Int) < _) => hlen
  rename_i sc wS wB raB w1B r0B hrB hcB hB tkB
  have F2 := F
  change Fr _ _ _ (fun y => if y = Str.ofString "script" then some (Value.ref sc) else none) at F2
  clear F hcd hD
  dsimp only
  clear ho Y V X TE TW B
  have hd : (callerA.depth + 1) + 60 < recursionLimit := by decide
  have hu : (callerA.units + 3) + 600 < cLine := by decide
  have A1 : ∀ env : Env, callerA.deeper env = { handled := none, depth := callerA.depth + 1, frames := some [env], guards := callerA.guards, units := callerA.units + 3 } := fun _ => rfl
  try clear ho
  try clear Y
  try clear V
  try clear X
  try clear TE
  try clear TW
  try clear B
  try clear A1
  show wpAny _ (ktrTop (callerA.depth + 1) (callerA.units + 3) callerA.guards _ _ _ _ _ _ []) _ _ _ _
  refine noE (Q' := LawEnd s₁) ?_ (fun f s' q => ?fin)
  case fin =>
    obtain ⟨q1, q2, q3, q4⟩ := q
    subst q1
    show GoodWG Challenge.rw_sr0042_01.row.claim (classAt s₀.heap) (ExcName.means s₀.heap) _ s₁ (.ok (.ret (.bool true))) _
    refine ⟨.inl ⟨_, _, [], rfl, ?_, ReadsW.bool _, ?_, ?_⟩, q2, q3, q4⟩
    · exact fun _ => rfl
    · wrow_post
    · exact fun h => ⟨.nil, fun _ ha => nomatch ha⟩
  generalize callerA.depth + 1 = dp at hd ⊢
  generalize callerA.units + 3 = un at hu ⊢
  generalize callerA.guards = gd
  have K1 : Below callerA s₁.heap [] s₁.heap := K0
  clear K0
  k_with_none
  k_with "call ref" => (
    rename Fr s₁.heap _ _ _ => lF2
    rename News s₁.heap _ _ _ => lN2
    first
      | (refine' row K1 lF2 KX lN2 T ?c0 hS hI ?c5 ?c3 ?c4 (fun R hR1 hR2 lr wr nr h3 tk3 ir F3 N3 l3 => ?_)
         (case c0 => rfl)
         (case c5 => omega)
         (case c3 => exact room0 hd (by decide))
         (case c4 => exact room0 hu (by decide)))
      | (refine' octets K1 lF2 KX lN2 T ?c0 ?c1 ir ?c3 ?c4 ?c5 ?c6 (fun lo wo no h4 tk4 io F4 N4 l4 => ?_)
         (case c0 => rfl)
         (case c1 => exact List.Mem.head _)
         (case c3 => exact room0 hd (by decide))
         (case c4 => exact room0 hu (by decide))
         (case c5 => rw [List.length_append, hR1]; decide)
         (case c6 => exact fun x hx => (List.mem_append.mp hx).elim (fun e => by rcases hR2 x e with h | h | h | h <;> omega) (fun e => by rw [List.mem_singleton.mp e]; decide)))
      | (refine' read (R := R) K1 lF2 KX lN2 T ?c0 ?c1 io ?c3 ?c4 rfl rfl ?c5 ?c6 (fun ld wd nd h5 tk5 id F5 N5 l5 => ?_)
         (case c0 => rfl)
         (case c1 => exact List.Mem.head _)
         (case c3 => exact room0 hd (by decide))
         (case c4 => exact room0 hu (by decide))
         (case c5 => exact fun x e => by rcases hR2 x e with h | h | h | h <;> omega)
         (case c6 => rw [hR1]; decide))
      | (refine' signs K1 lF2 KX lN2 T ?c0 ?c3 ?c4 (fun dg h6 tk6 og kvg hog hsg F6 N6 l6 => ?_)
         (case c0 => rfl)
         (case c3 => exact room0 hd (by decide))
         (case c4 => exact room0 hu (by decide))))
  k_with "call ref" => (
    (with_reducible show wpAny _ _ (call (Value.ref 109) _) _ _ _)
    rename Fr s₁.heap _ _ _ => lF2
    rename News s₁.heap _ _ _ => lN2
    (refine' four (kvs := kvg) K1 lF2 KX lN2 T ?c0 (List.Mem.head _) if8 ?c1 ?c2 ?c3 hog hsg ?c4 ?c5 (fun l4 w4 n4 h9 tk9 s4 F9 N9 lt9 => ?_)
     (case c0 => rfl)
     (case c1 => exact front_len hR1 _)
     (case c2 => exact fun x hx => hR2 x (List.mem_of_mem_take hx))
     (case c3 => exact List.Mem.tail _ (List.Mem.tail _ mD1))
     (case c4 => exact room0 hd (by decide))
     (case c5 => exact room0 hu (by decide)))
    skip)
  k_with "exec Assign cons ListComp" => (
    rename Fr _ _ _ _ => lF'
    (with_unfolding_all refine LCg.Assign_ListComp_U (F₀ := lF') (cl := [(Str.ofString "row", s₁.heap.objs.size + 1)]) (by rfl) (by with_unfolding_all rfl) (by rfl) (by decide) (by rfl) (by decide) (by rfl) (by rfl) (by rfl) ?_))
  k_with "CompSrc" => (
    (with_reducible show LCg.CompSrc _ _ _ _ _ _ _ _ (Str.ofString "place") _ _ _ _ _)
    rename Fr _ _ _ _ => lF'
    rename News _ _ _ _ => lN'
    rename IsRange _ _ _ _ _ _ _ _ => lR
    rename Obj.data _ = Data.cell (some _) => dC
    (obtain ⟨oC1, nw0, lN0, dC1, mD, mL, mR, mC⟩ : ∃ (oC1 : Obj) (nw0 : List (Addr × Obj)), News s₁.heap s₁.heap.objs.size _ nw0 ∧ oC1.data = Data.cell (some (Value.ref lr)) ∧ (dg, og) ∈ nw0 ∧ (ld, listOf wd.toArray nd) ∈ nw0 ∧ (lr, listOf wr.toArray nr) ∈ nw0 ∧ (s₁.heap.objs.size + 1, oC1) ∈ nw0 := ⟨_, _, lN', dC, List.Mem.head _, List.Mem.tail _ (List.Mem.head _), List.Mem.tail _ (List.Mem.tail _ (List.Mem.tail _ (List.Mem.head _))), List.Mem.tail _ (List.Mem.tail _ (List.Mem.tail _ (List.Mem.tail _ (List.Mem.head _))))⟩)
    clear lN'
    (with_unfolding_all
      refine LCg.CompSrc.range rfl lF' lN0 lR (by decide) (rg1 5 (by decide)) (by decide) (fun gg => compU (fun i ys nw => nw0 = nw ∧ ∃ rs, IntsAre ys rs ∧ rs.length = i ∧ ∀ x ∈ rs, x = 0 ∨ x = 1)
        (fun i ys nw v I oI C oC D m₂ hq tkq Eq hin hJ hP hC hv Fq Nq off hne => ?_) (fun ys nw hJ D hq tkq Fq Nq off => ?_) ⟨rfl, [], .nil, rfl, fun x hx => nomatch hx⟩))
    all_goals (
      obtain ⟨hJ1, rs, hJ2, hJ3, hJ4⟩ := hJ
      subst hJ1)
    all_goals (first
      | (obtain ⟨tp, hve⟩ := hP
         subst hve)
      | skip)
    all_goals (try k_fold))
  k_with "CompSrc" => (
    (with_reducible show LCg.CompSrc _ _ _ _ _ _ _ _ (Str.ofString "deed") _ _ _ _ _)
    rename Fr _ _ _ _ => lF'
    rename News _ _ _ _ => lN'
    rename IntsAre ys _ => iRun
    have hvl : ys.toArray.size ≤ sizeLine := by rw [sizeLine_eq, List.size_toArray, iRun.length]; omega
    (obtain ⟨nw2, lN0, mRun2, m42, mF2, mD2, mL2⟩ : ∃ (nw2 : List (Addr × Obj)), News s₁.heap s₁.heap.objs.size _ nw2 ∧ (D, LCg.lst ys) ∈ nw2 ∧ (l4, listOf w4.toArray n4) ∈ nw2 ∧ (lf, listOf wf.toArray 0) ∈ nw2 ∧ (dg, og) ∈ nw2 ∧ (∀ p ∈ (I, oI) :: nw1, p ∈ nw2) := ⟨_, lN', List.Mem.tail _ (List.Mem.tail _ (List.Mem.tail _ mRun)), List.Mem.head _, List.Mem.tail _ (List.Mem.head _), List.Mem.tail _ (List.Mem.tail _ (List.Mem.tail _ mD1)), fun p hp => List.Mem.tail _ (List.Mem.tail _ hp)⟩)
    clear lN'
    (with_unfolding_all
      refine LCg.CompSrc.ledger rfl lF' lN0 mRun2 hvl (fun gg => compU (fun i ys nw => nw2 = nw ∧ ∃ rs, IntsAre ys rs ∧ rs.length = i ∧ ∀ x ∈ rs, x = 0 ∨ x = 1)
        (fun i ys nw v I2 oI2 C oC D2 m₂ hq tkq Eq hin hJ hP hC hv Fq Nq off2 hne => ?_) (fun ys2 nw hJ D2 hq tkq Fq Nq off2 => ?_) ⟨rfl, [], .nil, rfl, fun x hx => nomatch hx⟩))
    all_goals (
      obtain ⟨hJ1, rs2, hJ5, hJ6, hJ7⟩ := hJ
      subst hJ1)
    all_goals (first
      | (obtain ⟨n, tn, hve, hni⟩ := ints_at iRun (by simpa using hP)
         subst hve
         have hn01 := hJ4 n (List.mem_of_getElem? hni))
      | skip)
    all_goals (try k_fold)
    skip)
  k_with "eval ListComp" => (
    rename Fr _ _ _ _ => lF'
    (with_unfolding_all refine LCg.ListComp_U (F₀ := lF') (cl := []) (by rfl) (by decide) (by rfl) (by decide) (by rfl) ?_))
  k_with "subscriptTail Name Slice ref ref" => (
    (with_reducible show wpAny _ _ (subscriptTail (Expr.Name (Str.ofString "read") _) _ _ _) _ _ _)
    rename Fr _ _ _ _ => lF2
    rename News _ _ _ _ => lN2
    rename IntsAre wd _ => iD
    have hfr := front_ints iD hR1 hi
    have hzz : wd.toArray.size ≤ sizeLine := by
      have e1 := iD.length
      rw [List.length_append, hR1] at e1
      rw [sizeLine_eq, List.size_toArray, e1]; decide
    (with_unfolding_all
      refine kmk_slice_ints lF2 lN2 ⟨_, (lN2 _ (List.Mem.tail _ mL1)).1, rfl, nd, rfl⟩ .none (.int _ _) iD hfr rfl (fun lf wf h8 F8 N8 lf8 if8 lz8 ly8 => ?_) (by with_unfolding_all rfl) (fun _ => by with_unfolding_all rfl) hzz)
    skip)
  k_with "eval Name" => (
    (with_reducible show wpAny _ _ (eval (Expr.Name (Str.ofString "row") _) (compEnvC _ _ _ _)) _ _ _)
    rename News _ _ _ _ => lN2
    k_dflt (refine kcf_cell lN2 (by rfl) (List.Mem.tail _ (List.Mem.tail _ (List.Mem.tail _ mC))) dC1 ?_))
  k_with "call builtin:sum" => (
    rename Fr _ _ _ _ => lF2
    rename News _ _ _ _ => lN2
    k_dflt (refine sumK rfl lF2 lN2 ⟨_, (lN2 _ (List.Mem.tail _ (List.Mem.tail _ (List.Mem.tail _ mR)))).1, rfl, nr, rfl⟩ ir (fun hS' tkS tS FS NS => ?_)))
  k_with "exec For Name Call cons nil" => (with_unfolding_all refine wpAny_For ?_ (by intro _; rfl))
  k_with "exec For Name List cons nil" => (with_unfolding_all refine wpAny_For ?_ (by intro _; rfl))
  k_with "pyIter ref" => (
    (with_reducible show wpAny _ _ (pyIter _) (fun it s₂ => codeAny _ _ (Code.forLoop (Expr.Name (Str.ofString "deeds") _) it _ _ _) _ _) _ _)
    rename Fr s₁.heap _ _ _ => lF2
    rename News s₁.heap _ _ _ => lN2
    rename IntsAre ys rs => iR1
    rename IntsAre ys2 rs2 => iR2
    (obtain ⟨nwb, lN3, mP, mRa, mRb, mF3, m43, mD3, mAll⟩ : ∃ (nwb : List (Addr × Obj)), News s₁.heap s₁.heap.objs.size _ nwb ∧ (_, listOf [Value.ref D, Value.ref D2].toArray 0) ∈ nwb ∧ (D, listOf ys.toArray ys.length) ∈ nwb ∧ (D2, listOf ys2.toArray ys2.length) ∈ nwb ∧ (lf, listOf wf.toArray 0) ∈ nwb ∧ (l4, listOf w4.toArray n4) ∈ nwb ∧ (dg, og) ∈ nwb ∧ (∀ p ∈ (I, oI) :: nw1, p ∈ nwb) :=
      ⟨_, lN2, List.Mem.head _, List.Mem.tail _ (List.Mem.tail _ mRun2), List.Mem.tail _ (List.Mem.head _), List.Mem.tail _ (List.Mem.tail _ mF2), List.Mem.tail _ (List.Mem.tail _ m42), List.Mem.tail _ (List.Mem.tail _ mD2), fun p hp => List.Mem.tail _ (List.Mem.tail _ (mL2 p hp))⟩)
    clear lN2
    (with_unfolding_all
      refine forLG (σ := DSt) (fun (d : DSt) y => if y = Str.ofString "text" then d.tv else if y = Str.ofString "step" then d.sv else if y = Str.ofString "four" then some (Value.ref l4) else if y = Str.ofString "front" then some (Value.ref lf) else if y = Str.ofString "size" then some (Value.int (4 + (i : Int) * 1) t1) else if y = Str.ofString "run" then some (Value.ref D) else if y = Str.ofString "signs" then some (Value.ref dg) else if y = Str.ofString "read" then some (Value.ref ld) else if y = Str.ofString "script" then some (Value.ref sc) else none)
        (fun _ => nwb) AllBare (fun _ _ => True) (DSt.mk c.tv c.sv) rfl (fun _ => mP) rfl rfl lF2 lN3 (fun p hp => hp) ?gm hg7 trivial (fun i2 v2 d h11 tk11 g11 I2 oI2 hv2 hg11 hJb hI2 F11 N11 => ?_) (fun d u2 h12 tk12 g12 hg12 hJb F12 N12 => ?_))
    (case gm =>
      intro y y1
      by_cases e1 : y = Str.ofString "text"
      · subst e1; first | rfl | exact absurd rfl y1
      · by_cases e2 : y = Str.ofString "step"
        · subst e2; first | rfl | exact absurd rfl y1
        · by_cases e3 : y = Str.ofString "four"
          · subst e3; first | rfl | exact absurd rfl y1
          · by_cases e4 : y = Str.ofString "front"
            · subst e4; first | rfl | exact absurd rfl y1
            · by_cases e5 : y = Str.ofString "size"
              · subst e5; first | rfl | exact absurd rfl y1
              · by_cases e6 : y = Str.ofString "run"
                · subst e6; first | rfl | exact absurd rfl y1
                · simp only [if_neg e1, if_neg e2, if_neg e3, if_neg e4, if_neg e5, if_neg e6, if_neg y1])
    all_goals try k_fold
    all_goals (try dsimp only)
    all_goals (first
      | (change Fr s₁.heap s₁.heap.objs.size _ _ at F11
         change News s₁.heap s₁.heap.objs.size _ _ at N11
         obtain ⟨Dx, wx, nx, rx, hv3, mx, ix, hx5, hx01⟩ := two_runs mRa mRb iR1 iR2 hJ3 hJ6 hJ4 hJ7 hv2
         subst hv3)
      | (change Fr s₁.heap s₁.heap.objs.size _ _ at F12
         change News s₁.heap s₁.heap.objs.size _ _ at N12))
    skip)
  k_with "call ref" => (
    (with_reducible show wpAny _ _ (call (Value.ref 92) _) _ _ _)
    rename IntsAre wf _ => if8
    rename Fr s₁.heap _ _ _ => lF2
    rename News s₁.heap _ _ _ => lN2
    (refine' text (kvs := kvg) K1 lF2 KX lN2 T ?c0 (List.Mem.tail _ mF3) if8 ?c1 ?c2 (List.Mem.tail _ mD3) hog hsg ?c4 ?c5 (fun tt h14 tk14 F14 N14 => ?_)
     (case c0 => rfl)
     (case c1 => exact front_len hR1 _)
     (case c2 => exact fun x hx => hR2 x (List.mem_of_mem_take hx))
     (case c4 => exact room0 hd (by decide))
     (case c5 => exact room0 hu (by decide)))
    skip)
  k_with "pyIter ref" => (
    (with_reducible show wpAny _ _ (pyIter _) (fun it s₂ => codeAny _ _ (Code.forLoop (Expr.Name (Str.ofString "step") _) it _ _ _) _ _) _ _)
    rename Fr s₁.heap _ _ _ => lF2
    rename News s₁.heap _ _ _ => lN2
    rename IsRange _ _ _ _ _ _ _ _ => lR
    (with_unfolding_all
      refine forRG (σ := ESt) (fun (e : ESt) y => if y = Str.ofString "text" then some (Value.str (textF e.cur) e.tt) else if y = Str.ofString "deeds" then some (Value.ref Dx) else if y = Str.ofString "four" then some (Value.ref l4) else if y = Str.ofString "front" then some (Value.ref lf) else if y = Str.ofString "size" then some (Value.int (4 + (i : Int) * 1) t1) else if y = Str.ofString "run" then some (Value.ref D) else if y = Str.ofString "signs" then some (Value.ref dg) else if y = Str.ofString "read" then some (Value.ref ld) else if y = Str.ofString "script" then some (Value.ref sc) else none)
        (fun _ => (I2, oI2) :: nwb) AllBare (fun k e => e.cur = appl (rx.take k) (R.take (4 + i))) (ESt.mk (R.take (4 + i)) tt) 5 rfl lR (by decide) (rg1 5 (by decide)) rfl rfl lF2 lN2 (fun p hp => hp) ?gm hg11 rfl (fun i3 t3 e h15 tk15 g15 I3 oI3 hi3 hg15 hJe hI3 F15 N15 => ?_) (fun e u3 h16 tk16 g16 hg16 hJe F16 N16 => ?_))
    (case gm =>
      intro y y1
      by_cases e1 : y = Str.ofString "text"
      · subst e1; first | rfl | exact absurd rfl y1
      · by_cases e2 : y = Str.ofString "deeds"
        · subst e2; first | rfl | exact absurd rfl y1
        · by_cases e3 : y = Str.ofString "four"
          · subst e3; first | rfl | exact absurd rfl y1
          · by_cases e4 : y = Str.ofString "front"
            · subst e4; first | rfl | exact absurd rfl y1
            · by_cases e5 : y = Str.ofString "size"
              · subst e5; first | rfl | exact absurd rfl y1
              · by_cases e6 : y = Str.ofString "run"
                · subst e6; first | rfl | exact absurd rfl y1
                · simp only [if_neg e1, if_neg e2, if_neg e3, if_neg e4, if_neg e5, if_neg e6, if_neg y1])
    all_goals try k_fold
    all_goals (try dsimp only)
    all_goals (first
      | (change Fr s₁.heap s₁.heap.objs.size _ _ at F15
         change News s₁.heap s₁.heap.objs.size _ _ at N15
         have hcg : ∀ x ∈ e.cur, Good x := by rw [hJe]; exact appl_good (fun x hx => hR2 x (List.mem_of_mem_take hx))
         have hcl : e.cur.length ≤ 100 := by rw [hJe]; exact Nat.le_trans (appl_len _ _) (Nat.le_trans (front_len hR1 _) (by decide)))
      | (change Fr s₁.heap s₁.heap.objs.size _ _ at F16
         change News s₁.heap s₁.heap.objs.size _ _ at N16))
    skip)
  k_with "subscriptTail Name Name ref int" => (
    rename News s₁.heap _ _ _ => lN2
    rename IntsAre wx rx => ix
    (obtain ⟨td, htd⟩ := deed_at ix hx5 hi3)
    (with_unfolding_all refine itemN lN2 (List.Mem.tail _ (List.Mem.tail _ mx)) (by omega) (by omega) htd ?_)
    skip)
  k_with "subscriptTail Name Call ref int" => (
    rename News s₁.heap _ _ _ => lN2
    (obtain ⟨q0, q4, tq, htq⟩ := four_at s4 hx5 hx01 hi3)
    (with_unfolding_all refine itemN lN2 (List.Mem.tail _ (List.Mem.tail _ (List.Mem.tail _ m43))) q0 (by omega) htq ?_))
  k_with "subscriptTail Name Slice ref ref" => (
    (with_reducible show wpAny _ _ (subscriptTail (Expr.Name (Str.ofString "deeds") _) _ _ _) _ _ _)
    rename IntsAre wx rx => ix
    rename Fr s₁.heap _ _ _ => lF2
    rename News s₁.heap _ _ _ => lN2
    have hzz : wx.toArray.size ≤ sizeLine := by
      have e1 := ix.length
      rw [hx5] at e1
      rw [sizeLine_eq, List.size_toArray, e1]; decide
    (with_unfolding_all
      refine kmk_slice_ints lF2 lN2 ⟨_, (lN2 _ (List.Mem.tail _ (List.Mem.tail _ mx))).1, rfl, nx, rfl⟩ .none (.int _ _) ix (pre_ints ix i3) rfl (fun lq wq h18 F18 N18 lq6 iq6 lz6 ly6 => ?_) (by with_unfolding_all rfl) (fun _ => by with_unfolding_all rfl) hzz)
    skip)
  k_with "call ref" => (
    (with_reducible show wpAny _ _ (call (Value.ref 116) _) _ _ _)
    rename IntsAre wq _ => iq6
    rename Fr s₁.heap _ _ _ => lF2
    rename News s₁.heap _ _ _ => lN2
    (refine' which K1 lF2 KX lN2 T ?c0 (List.Mem.head _) iq6 ?c1 ?c2 ?c4 ?c5 (fun tw h19 tk19 F19 N19 => ?_)
     (case c0 => rfl)
     (case c1 => rw [List.length_take]; omega)
     (case c2 => rw [List.length_take]; omega)
     (case c4 => exact room0 hd (by decide))
     (case c5 => exact room0 hu (by decide))))
  k_with "call ref" => (
    (with_reducible show wpAny _ _ (call (Value.ref 42) _) _ _ _)
    rename Fr s₁.heap _ _ _ => lF2
    rename News s₁.heap _ _ _ => lN2
    (refine' realT K1 lF2 KX lN2 T ?c0 hcg hcl ?c4 ?c5 (fun tr h17 tk17 g17 F17 N17 hg17 => ?_)
     (case c0 => rfl)
     (case c4 => exact room0 hd (by decide))
     (case c5 => exact room0 hu (by decide))))
  k_with "call ref" => (
    (with_reducible show wpAny _ _ (call (Value.ref 21) _) _ _ _)
    rename Fr s₁.heap _ _ _ => lF2
    rename News s₁.heap _ _ _ => lN2
    (refine' detT K1 lF2 KX lN2 T ?c0 hcg hcl ?c4 ?c5 (fun tr h17 tk17 F17 N17 => ?_)
     (case c0 => rfl)
     (case c4 => exact room0 hd (by decide))
     (case c5 => exact room0 hu (by decide))))
  k_with "pyIter ref" => (
    (with_reducible show wpAny _ _ (pyIter _) (fun it s₂ => codeAny _ _ (Code.forLoop (Expr.Name (Str.ofString "size") _) it _ _ _) _ _) _ _)
    rename Fr _ _ _ _ => lF2
    rename News _ _ _ _ => lN2
    rename IsRange _ _ _ _ _ _ _ _ => lR
    obtain ⟨nw1, lN3, mD1, mL1, mRun⟩ : ∃ (nw1 : List (Addr × Obj)), News s₁.heap s₁.heap.objs.size _ nw1 ∧ (dg, og) ∈ nw1 ∧ (ld, listOf wd.toArray nd) ∈ nw1 ∧ (D, LCg.lst ys) ∈ nw1 := ⟨_, lN2, List.Mem.tail _ mD, List.Mem.tail _ mL, List.Mem.head _⟩
    clear lN2
    (with_unfolding_all
      refine forRG (σ := LSt) (fun c y => if y = Str.ofString "front" then c.fv else if y = Str.ofString "four" then c.qv else if y = Str.ofString "deeds" then c.dv else if y = Str.ofString "text" then c.tv else if y = Str.ofString "step" then c.sv else if y = Str.ofString "run" then some (Value.ref D) else if y = Str.ofString "signs" then some (Value.ref dg) else if y = Str.ofString "read" then some (Value.ref ld) else if y = Str.ofString "script" then some (Value.ref sc) else none)
        (fun _ => nw1) AllBare (fun _ _ => True) (LSt.mk none none none none none) 5 rfl lR (by decide) (rg1 5 (by decide)) rfl rfl lF2 lN3 (fun p hp => hp) ?gm ?gg trivial (fun i t1 c h7 tk7 g7 I oI hi hg7 hJ hI F7 N7 => ?_) (fun c u h7 tk7 g7 hg7 hJ F7 N7 => ?_))
    (case gm =>
      intro y y1
      by_cases e1 : y = Str.ofString "front"
      · subst e1; rfl
      · by_cases e2 : y = Str.ofString "four"
        · subst e2; rfl
        · by_cases e3 : y = Str.ofString "deeds"
          · subst e3; rfl
          · by_cases e4 : y = Str.ofString "text"
            · subst e4; rfl
            · by_cases e5 : y = Str.ofString "step"
              · subst e5; rfl
              · simp only [if_neg e1, if_neg e2, if_neg e3, if_neg e4, if_neg e5])
    (case gg => (show AllBare s₁.gens; rw [hg]; exact fun z hz => absurd hz (by simp)))
    all_goals try k_fold
    all_goals (try dsimp only)
    all_goals (
      change Fr s₁.heap s₁.heap.objs.size _ _ at F7
      change News s₁.heap s₁.heap.objs.size _ _ at N7)
    skip)
  k_steps
  · rename Fr _ _ _ _ => kF
    rename News _ _ _ _ => kN
    rename IntsAre ys rs => q
    refine LCg.CompEnd.intro kF kN _ (fun _ z => z) off trivial ⟨rfl, rs ++ [_], IntsAre.append q (.cons _ _ .nil), by rw [List.length_append, hJ3]; rfl, fun x hx => ?_⟩
    rcases List.mem_append.mp hx with hx | hx
    · exact hJ4 x hx
    · have e := List.mem_singleton.mp hx
      rw [e]
      have a := Int.fmod_nonneg_of_pos ((R ++ [0]).sum.fdiv (2 ^ (0 + (i : Int)).toNat)) (by decide : (0 : Int) < 2)
      have b := Int.fmod_lt_of_pos ((R ++ [0]).sum.fdiv (2 ^ (0 + (i : Int)).toNat)) (by decide : (0 : Int) < 2)
      omega
  · rename Fr s₁.heap _ _ _ => kF
    rename News s₁.heap _ _ _ => kN
    rename IntsAre _ rs2 => q
    refine LCg.CompEnd.intro kF kN _ (fun _ z => z) off2 (.inr ⟨_, mRun2, rfl, _, rfl⟩) ⟨rfl, rs2 ++ [_], IntsAre.append q (.cons _ _ .nil), by rw [List.length_append, hJ6]; rfl, fun x hx => ?_⟩
    rcases List.mem_append.mp hx with hx | hx
    · exact hJ7 x hx
    · have e := List.mem_singleton.mp hx
      rw [e]
      omega
  · exfalso
    rename ((textF _ != _) = true) => q
    rename (rx.getD i3 0 = 1) => q1
    rw [step_real hx5 hi3 hJe q1, bne_self_eq_false] at q
    cases q
  · rename (rx.getD i3 0 = 1) => q1
    refine GTo.intro (ESt.mk (shownF e.cur) tr) (hg17 hg15) F19 lN2 ?_ (fun p hp => List.Mem.tail _ hp) hI3 (step_real hx5 hi3 hJe q1).symm
    intro y y1
    by_cases e1 : y = Str.ofString "text"
    · subst e1; rfl
    · simp only [if_neg e1, if_neg y1]
  · exfalso
    rename ((textF _ != _) = true) => q
    rename (rx.getD i3 0 ≠ 1) => q1
    rw [step_det hx5 hi3 hJe q1, bne_self_eq_false] at q
    cases q
  · rename (rx.getD i3 0 ≠ 1) => q1
    refine GTo.intro (ESt.mk (bareF [] e.cur) tr) hg15 F19 lN2 ?_ (fun p hp => List.Mem.tail _ hp) hI3 (step_det hx5 hi3 hJe q1).symm
    intro y y1
    by_cases e1 : y = Str.ofString "text"
    · subst e1; rfl
    · simp only [if_neg e1, if_neg y1]
  · refine GTo.intro (DSt.mk (some (Value.str (textF e.cur) e.tt)) u3) hg16 F16 N16 ?_ (fun p hp => hp) hI2 trivial
    intro y y1
    by_cases e1 : y = Str.ofString "text"
    · subst e1; rfl
    · by_cases e2 : y = Str.ofString "step"
      · subst e2; rfl
      · simp only [if_neg e1, if_neg e2, if_neg y1]
  · refine GTo.intro (LSt.mk (some (Value.ref lf)) (some (Value.ref l4)) u2 d.tv d.sv) hg12 F12 N12 ?_ mAll hI trivial
    intro y y1
    by_cases e1 : y = Str.ofString "front"
    · subst e1; rfl
    · by_cases e2 : y = Str.ofString "four"
      · subst e2; rfl
      · by_cases e3 : y = Str.ofString "deeds"
        · subst e3; rfl
        · by_cases e4 : y = Str.ofString "text"
          · subst e4; rfl
          · by_cases e5 : y = Str.ofString "step"
            · subst e5; rfl
            · simp only [if_neg e1, if_neg e2, if_neg e3, if_neg e4, if_neg e5, if_neg y1]
  · show LawEnd s₁ (.ret (.bool true)) _
    exact ⟨rfl, .of_keep F7.keep, rfl, hg7⟩)
end

end Mine

theorem PySem.Challenge.cw_sr0042_01_holds : PySem.Challenge.rw_sr0042_01.Holds :=
  Mine.holds0
