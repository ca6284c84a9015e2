import PyProof.Rows.All
import Wide.All
import OpenK.AllK
import Wide.FinOn
import PySem.Challenge.RW_kn0091_04
open PySem PySem.W PyProof.Rows
set_option Elab.async false
section
set_option maxRecDepth 100000 in
set_option maxHeartbeats 8000000 in
open_top Mine.hd04 for PySem.Challenge.rw_kn0091_04
end
section
namespace Mine
open PySem.Calls PySem.Spec

def Stop (P : Prop) : Prop := P
theorem stop {P : Prop} (h : Stop P) : P := h
theorem unstop {P : Prop} (h : P) : Stop P := h

/-- no entry of the ledger stands at I -/
def Off (I : Addr) : List (Addr × Obj) → Prop
  | [] => True
  | p :: r => (@Ne Nat p.1 I) ∧ Off I r
theorem Off.mem {I : Addr} : ∀ {l : List (Addr × Obj)}, Off I l → ∀ p ∈ l, p.1 ≠ I
  | [], _, _, h => nomatch h
  | _ :: _, x, p, h => by
    rcases List.mem_cons.mp h with rfl | h
    · exact x.1
    · exact Off.mem x.2 p h
theorem Off.of {I : Addr} : ∀ {l : List (Addr × Obj)}, (∀ p ∈ l, p.1 ≠ I) → Off I l
  | [], _ => trivial
  | _ :: _, h => ⟨h _ List.mem_cons_self, Off.of fun p hp => h p (List.mem_cons_of_mem _ hp)⟩

section
variable {prog : Program} {w : World} {A : Around} {E : Value → Shared → Prop} {s : Shared} {env : Env} {h₀ : Heap} {x : Str} {body : List Stmt} {Q : Flow → Shared → Prop}

def TurnEnd (h₀ : Heap) (L I : Addr) (oI : Obj) (J : (Str → Option Value) → List (Addr × Obj) → Prop) (s₁ s₂ : Shared) : Prop :=
  ∃ h' tk m' nx, s₂ = { s₁ with heap := h', toks := tk } ∧ Fr h₀ L h' m' ∧ News h₀ L h' ((I, oI) :: nx) ∧ Off I nx ∧ J m' nx
def TurnPost (h₀ : Heap) (L I : Addr) (oI : Obj) (J : (Str → Option Value) → List (Addr × Obj) → Prop) (s₁ : Shared) (Q : Flow → Shared → Prop) (f : Flow) (s₂ : Shared) : Prop :=
  match f with
  | .ret v => Q (.ret v) s₂
  | .brk => Q .next s₂
  | .next => TurnEnd h₀ L I oI J s₁ s₂
  | .cont => TurnEnd h₀ L I oI J s₁ s₂

theorem TurnEnd.intro {L I : Addr} {oI : Obj} {J : (Str → Option Value) → List (Addr × Obj) → Prop} {s₁ : Shared} {h' : Heap} {tk : Nat} {m' : Str → Option Value} {all : List (Addr × Obj)}
    (F : Fr h₀ L h' m') (N : News h₀ L h' all) (nx : List (Addr × Obj)) (sub : ∀ p ∈ (I, oI) :: nx, p ∈ all) (off : Off I nx) (hj : J m' nx) :
    TurnEnd h₀ L I oI J s₁ { s₁ with heap := h', toks := tk } := ⟨h', tk, m', nx, rfl, F, fun p hp => N p (sub p hp), off, hj⟩

/-- a for over a list, by any invariant of the frame's names and of the ledger -/
theorem iter_list {l : Addr} {its : Array Value} {m₀ : Str → Option Value} {news : List (Addr × Obj)} (J : Nat → (Str → Option Value) → List (Addr × Obj) → Prop)
    (hh : A.handled = none) (src : h₀.IsList l its ∨ ∃ ol k, ol.cls = .type "list" ∧ ol.data = .seq its k ∧ ∀ i m nx, J i m nx → (l, ol) ∈ nx)
    (F : Fr h₀ env.locals s.heap m₀) (N : News h₀ env.locals s.heap news) (hj : J 0 m₀ news)
    (turn : ∀ i v m₁ nw I oI h tk, its[i]? = some v → J i m₁ nw → Off I nw → Fr h₀ env.locals h (fun y => if y = x then some v else m₁ y) → News h₀ env.locals h ((I, oI) :: nw) →
      wpAny (model prog w) A (execs body env) (TurnPost h₀ env.locals I oI (J (i + 1)) { s with heap := h, toks := tk } Q) E { s with heap := h, toks := tk })
    (done : ∀ m₁ nw h tk, J its.size m₁ nw → Fr h₀ env.locals h m₁ → News h₀ env.locals h nw → Q .next { s with heap := h, toks := tk }) :
    wpAny (model prog w) A (pyIter (.ref l)) (fun it s₂ => LoopAtV prog w A h₀ env x body Q E it s₂) E s := by
  have hls : s.heap.IsList l its := by
    rcases src with hl | ⟨ol, k, hc, hd, hm⟩
    · exact hl.at fun o e => F.keep l o e
    · exact ⟨ol, (N _ (hm _ _ _ hj)).1, hc, k, hd⟩
  obtain ⟨ol', hol, _⟩ := id hls
  have hlt : l < s.heap.objs.size := Heap.lt_size hol
  have hne : l ≠ s.heap.objs.size := Nat.ne_of_lt hlt
  have hLl : env.locals ≠ l := by
    rcases src with hl | ⟨ol, k, hc, hd, hm⟩
    · obtain ⟨o, e, _⟩ := hl
      exact fun q => absurd (Nat.lt_of_lt_of_le (Heap.lt_size e) F.above) (q ▸ Nat.lt_irrefl _)
    · exact fun q => (N _ (hm _ _ _ hj)).2.1 q.symm
  refine wpAny_pyIter_list hls ?_
  have W := Walks.list (prog := prog) (w := w) hh s.heap.objs.size l hne its
  refine ⟨_, _, _, its.size, _, _, m₀, news, J, rfl, W, ?_, ?_, ?_, ⟨⟨_, Heap.get?_push_size _ rfl, rfl, rfl⟩, hls.at fun o e => Heap.get?_push_of_some _ e⟩, F.push _, (fun p hp => ⟨Heap.get?_push_of_some _ (N p hp).1, (N p hp).2⟩), hj, ?_, ?_⟩
  · intro hm
    rcases List.mem_cons.mp hm with e | hm
    · exact absurd F.ns.lt (e ▸ Nat.lt_irrefl _)
    · exact hLl (List.mem_singleton.mp hm)
  · intro b hb
    rw [List.mem_singleton.mp hb]
    exact next_is_new F
  · intro p hp hI
    exact absurd (Heap.lt_size (N p hp).1) ((List.mem_singleton.mp hI) ▸ Nat.lt_irrefl _)
  · rintro i v m₁ news₁ s₁ own ⟨hh', tk', rfl⟩ hin hP hJ hoff hown hget hin' hst F₁ N₁
    obtain ⟨oI, heI, _⟩ := hst.1
    have hIown : (s.heap.objs.size, oI) ∈ own := hin' _ (by simp) (next_is_new F) oI heI
    have hoffI : Off s.heap.objs.size news₁ := Off.of fun p hp q => hoff p hp (List.mem_singleton.mpr q)
    have N₂ : News h₀ env.locals hh' ((s.heap.objs.size, oI) :: news₁) := fun p hp => by
      rcases List.mem_cons.mp hp with rfl | hp
      · exact N₁ _ (List.mem_append_left _ hIown)
      · exact N₁ _ (List.mem_append_right _ hp)
    refine wpAny_mono (turn i v m₁ news₁ _ oI hh' tk' hP hJ hoffI F₁ N₂) (fun f s₂ p => ?_) fun _ _ e => e
    have fin : TurnEnd h₀ env.locals s.heap.objs.size oI (J (i + 1)) { s with heap := hh', toks := tk' } s₂ → LoopStepU h₀ env.locals [s.heap.objs.size] own (J (i + 1)) { s with heap := hh', toks := tk' } .next s₂ := by
      rintro ⟨h', tk, m', nx, e, F', N', hoff', hj'⟩
      refine ⟨rfl, h', tk, m', nx, e, F', fun p hp => ?_, fun p hp q => hoff'.mem p hp (List.mem_singleton.mp q), hj'⟩
      rcases List.mem_append.mp hp with hp | hp
      · have hg := hget p hp
        have h0 := (N₁ p (List.mem_append_left _ hp)).2.2
        rcases List.mem_cons.mp (hown p hp) with h1 | h1
        · have e1 : p = (s.heap.objs.size, oI) := by
            obtain ⟨a, o⟩ := p
            dsimp only at h1 hg
            subst h1
            rw [heI] at hg; cases hg; rfl
          rw [e1]; exact N' _ List.mem_cons_self
        · have h2 : p.1 = l := List.mem_singleton.mp h1
          rcases src with hl | ⟨ol, k, hc, hd, hm⟩
          · obtain ⟨o, e, _⟩ := hl
            rw [h2, e] at h0; cases h0
          · have e1 : p = (l, ol) := by
              obtain ⟨a, o⟩ := p
              dsimp only at h2 hg
              subst h2
              have := (N₁ _ (List.mem_append_right _ (hm _ _ _ hJ))).1
              rw [hg] at this
              cases this; rfl
            rw [e1]; exact N' _ (List.mem_cons_of_mem _ (hm _ _ _ hj'))
      · exact N' p (List.mem_cons_of_mem _ hp)
    cases f with
    | ret v => exact .ret p
    | brk => exact .brk p
    | next => exact .next (fin p)
    | cont => exact .cont (fin p)
  · rintro h' tk m' news' F' N' _ hJ
    exact done m' news' h' tk hJ F' N'

/-- a for over a range by a written step -/
theorem iter_range {r : Addr} {a b c : Int} {t u v : Tok} {n : Nat} {m₀ : Str → Option Value} {news : List (Addr × Obj)} (J : Nat → (Str → Option Value) → List (Addr × Obj) → Prop)
    (hh : A.handled = none) (hr : IsRange s.heap r a b c t u v) (hsm : Builtin.Range.small a b c = true) (hn : Builtin.Range.rangeSize a b c = ((n : Nat) : Int))
    (F : Fr h₀ env.locals s.heap m₀) (N : News h₀ env.locals s.heap news) (hj : J 0 m₀ news)
    (turn : ∀ i t m₁ nw I oI h tk, i < n → J i m₁ nw → Off I nw → Fr h₀ env.locals h (fun y => if y = x then some (.int (a + i * c) t) else m₁ y) → News h₀ env.locals h ((I, oI) :: nw) →
      wpAny (model prog w) A (execs body env) (TurnPost h₀ env.locals I oI (J (i + 1)) { s with heap := h, toks := tk } Q) E { s with heap := h, toks := tk })
    (done : ∀ m₁ nw h tk, J n m₁ nw → Fr h₀ env.locals h m₁ → News h₀ env.locals h nw → Q .next { s with heap := h, toks := tk }) :
    wpAny (model prog w) A (pyIter (.ref r)) (fun it s₂ => LoopAtV prog w A h₀ env x body Q E it s₂) E s := by
  refine wpAny_pyIter_range hr hsm ?_
  have W := Walks.range (prog := prog) (w := w) hh s.heap.objs.size a c n
  refine ⟨_, _, _, n, _, _, m₀, news, J, rfl, W, ?_, ?_, ?_, (by show IsRangeIter _ _ _ _ _; rw [hn]; simpa using Heap.get?_push_size _ rfl), F.push _, (fun p hp => ⟨Heap.get?_push_of_some _ (N p hp).1, (N p hp).2⟩), hj, ?_, ?_⟩
  · intro hm
    exact absurd F.ns.lt ((List.mem_singleton.mp hm) ▸ Nat.lt_irrefl _)
  · intro b hb
    rw [List.mem_singleton.mp hb]
    exact next_is_new F
  · intro p hp hI
    exact absurd (Heap.lt_size (N p hp).1) ((List.mem_singleton.mp hI) ▸ Nat.lt_irrefl _)
  · rintro i v m₁ news₁ s₁ own ⟨hh', tk', rfl⟩ hin hP hJ hoff hown hget hin' hst F₁ N₁
    obtain ⟨t, rfl⟩ := hP
    have heI : hh'.get? s.heap.objs.size = some _ := hst
    have hIown := hin' _ (by simp) (next_is_new F) _ heI
    have hoffI : Off s.heap.objs.size news₁ := Off.of fun p hp q => hoff p hp (List.mem_singleton.mpr q)
    generalize hoI : ({ cls := .type "range_iterator", data := .fields #[rawInt (a + ((i + 1 : Nat) : Int) * c), rawInt ((n : Int) - ((i + 1 : Nat) : Int)), rawInt c] } : Obj) = oI at heI hIown
    refine wpAny_mono (turn i t m₁ news₁ s.heap.objs.size oI hh' tk' hin hJ hoffI F₁ (fun p hp => by
      rcases List.mem_cons.mp hp with rfl | hp
      · exact N₁ _ (List.mem_append_left _ hIown)
      · exact N₁ _ (List.mem_append_right _ hp))) (fun f s₂ p => ?_) fun _ _ e => e
    have fin : TurnEnd h₀ env.locals s.heap.objs.size oI (J (i + 1)) { s with heap := hh', toks := tk' } s₂ → LoopStepU h₀ env.locals [s.heap.objs.size] own (J (i + 1)) { s with heap := hh', toks := tk' } .next s₂ := by
      rintro ⟨h', tk, m', nx, e, F', N', hoff', hj'⟩
      refine ⟨rfl, h', tk, m', nx, e, F', fun p hp => ?_, fun p hp q => hoff'.mem p hp (List.mem_singleton.mp q), hj'⟩
      rcases List.mem_append.mp hp with hp | hp
      · have hg := hget p hp
        have h1 := List.mem_singleton.mp (hown p hp)
        obtain ⟨a, o⟩ := p
        dsimp only at h1 hg
        subst h1
        have e9 : o = oI := by
          have := heI.symm.trans hg
          exact (Option.some.inj this).symm
        rw [e9]
        exact N' _ List.mem_cons_self
      · exact N' p (List.mem_cons_of_mem _ hp)
    cases f with
    | ret v => exact .ret p
    | brk => exact .brk p
    | next => exact .next (fin p)
    | cont => exact .cont (fin p)
  · rintro h' tk m' news' F' N' _ hJ
    exact done m' news' h' tk hJ F' N'
end

section
open LCg
variable {prog : Program} {w : World} {A : Around} {h₀ : Heap} {L : Addr} {m : Str → Option Value} {env : Env} {ct elt : Expr} {x : Str} {scope : Scope} {cl : List (Str × Addr)} {s : Shared} {S : List (Addr × Obj) → Prop} {P : Nat → Value → Prop} {Fin : List Value → List (Addr × Obj) → Prop} {news : List (Addr × Obj)}

/-- a comprehension without a test, by an invariant -/
theorem comp_inv {n : Nat} (J : Nat → List Value → List (Addr × Obj) → Prop) (h0 : J 0 [] news)
    (turn : ∀ i v ys nw I oI C oC D m₂ h tk (E' : Value → Shared → Prop), i < n → P i v → J i ys nw → NsObj oC m₂ → m₂ x = some v → Fr h₀ L h m → News h₀ L h ((I, oI) :: (C, oC) :: (D, lst ys) :: nw) → Off3 I C D nw → ((@Ne Nat I C) ∧ (@Ne Nat I D) ∧ (@Ne Nat C D)) →
      wpAny (model prog w) A (eval elt (compEnvC scope cl C env)) (CompEnd h₀ L m { s with heap := h, toks := tk } I oI C oC D (lst ys) S (fun y nw' => J (i + 1) (ys ++ [y]) nw')) E' { s with heap := h, toks := tk })
    (fin : ∀ ys nw, J n ys nw → Fin ys nw) : CompRest prog w A h₀ L m env elt x scope cl s S P Fin n 0 [] news := by
  have key : ∀ (j i : Nat) (ys : List Value) (nw : List (Addr × Obj)), i + j = n → J i ys nw → CompRest prog w A h₀ L m env elt x scope cl s S P Fin j i ys nw := by
    intro j
    induction j with
    | zero => intro i ys nw e hj; obtain rfl : i = n := by omega
              exact fin ys nw hj
    | succ j ih =>
      intro i ys nw e hj v I oI C oC D m₂ h tk E' hP hC hx F N off ne
      refine wpAny_mono (turn i v ys nw I oI C oC D m₂ h tk E' (by omega) hP hj hC hx F N off ne) (fun y s₂ hq => ?_) fun _ _ e => e
      obtain ⟨h', tk', nw', e', F', N', off', hS, hj'⟩ := hq
      exact ⟨h', tk', nw', e', F', N', off', hS, ih (i + 1) _ _ (by omega) hj'⟩
  exact key n 0 [] news (by omega) h0

/-- a comprehension with a test, by an invariant -/
theorem compT_inv {n : Nat} (J : Nat → List Value → List (Addr × Obj) → Prop) (h0 : J 0 [] news)
    (turn : ∀ i v ys nw I oI C oC D m₂ h tk (E' : Value → Shared → Prop), i < n → P i v → J i ys nw → NsObj oC m₂ → m₂ x = some v → Fr h₀ L h m → News h₀ L h ((I, oI) :: (C, oC) :: (D, lst ys) :: nw) → Off3 I C D nw → ((@Ne Nat I C) ∧ (@Ne Nat I D) ∧ (@Ne Nat C D)) →
      wpAny (model prog w) A (isTrue ct (compEnvC scope cl C env) (eval ct (compEnvC scope cl C env))) (fun ok s' => if ok = true then
        wpAny (model prog w) A (eval elt (compEnvC scope cl C env)) (CompEnd h₀ L m { s with heap := h, toks := tk } I oI C oC D (lst ys) S (fun y nw' => J (i + 1) (ys ++ [y]) nw')) E' s'
        else CompEnd h₀ L m { s with heap := h, toks := tk } I oI C oC D (lst ys) S (fun _ nw' => J (i + 1) ys nw') Value.none s') E' { s with heap := h, toks := tk })
    (fin : ∀ ys nw, J n ys nw → Fin ys nw) : LCt.CompRestT prog w A h₀ L m env ct elt x scope cl s S P Fin n 0 [] news := by
  have key : ∀ (j i : Nat) (ys : List Value) (nw : List (Addr × Obj)), i + j = n → J i ys nw → LCt.CompRestT prog w A h₀ L m env ct elt x scope cl s S P Fin j i ys nw := by
    intro j
    induction j with
    | zero => intro i ys nw e hj; obtain rfl : i = n := by omega
              exact fin ys nw hj
    | succ j ih =>
      intro i ys nw e hj v I oI C oC D m₂ h tk E' hP hC hx F N off ne
      refine wpAny_mono (turn i v ys nw I oI C oC D m₂ h tk E' (by omega) hP hj hC hx F N off ne) (fun ok s₂ hq => ?_) fun _ _ e => e
      cases ok with
      | true =>
        simp only [if_true] at hq ⊢
        refine wpAny_mono hq (fun y s₃ hr => ?_) fun _ _ e => e
        obtain ⟨h', tk', nw', e', F', N', off', hS, hj'⟩ := hr
        exact ⟨h', tk', nw', e', F', N', off', hS, ih (i + 1) _ _ (by omega) hj'⟩
      | false =>
        simp only [Bool.false_eq_true, if_false] at hq ⊢
        obtain ⟨h', tk', nw', e', F', N', off', hS, hj'⟩ := hq
        exact ⟨h', tk', nw', e', F', N', off', hS, ih (i + 1) _ _ (by omega) hj'⟩
  exact key n 0 [] news (by omega) h0
end

/-! lists of values by what they stand for -/
abbrev Pd {α : Type} (F : α → Value → Prop) (as : List α) (vs : List Value) : Prop := PySem.Paired F as vs
theorem pd_len {α : Type} {F : α → Value → Prop} {as : List α} {vs : List Value} (h : Pd F as vs) : as.length = vs.length := PySem.Paired.length h
theorem pd_at {α : Type} {F : α → Value → Prop} : ∀ {as : List α} {vs : List Value}, Pd F as vs → ∀ (i : Nat) (v : Value), vs[i]? = some v → ∃ a, as[i]? = some a ∧ F a v
  | _, _, .nil, i, v, h => by simp at h
  | _, _, .cons h₁ t, 0, v, h => by simp at h; subst h; exact ⟨_, by simp, h₁⟩
  | _, _, .cons h₁ t, i + 1, v, h => by simp at h; obtain ⟨a, e, f⟩ := pd_at t i v h; exact ⟨a, by simpa using e, f⟩
theorem pd_get {α : Type} {F : α → Value → Prop} : ∀ {as : List α} {vs : List Value}, Pd F as vs → ∀ (i : Nat) (a : α), as[i]? = some a → ∃ v, vs[i]? = some v ∧ F a v
  | _, _, .nil, i, v, h => by simp at h
  | _, _, .cons h₁ t, 0, v, h => by simp at h; subst h; exact ⟨_, by simp, h₁⟩
  | _, _, .cons h₁ t, i + 1, v, h => by simp at h; obtain ⟨a, e, f⟩ := pd_get t i v h; exact ⟨a, by simpa using e, f⟩
theorem pd_mono {α : Type} {F G : α → Value → Prop} : ∀ {as : List α} {vs : List Value}, Pd F as vs → (∀ a v, a ∈ as → F a v → G a v) → Pd G as vs
  | _, _, .nil, _ => .nil
  | _, _, .cons h₁ t, k => .cons (k _ _ List.mem_cons_self h₁) (pd_mono t fun a v ha => k a v (List.mem_cons_of_mem _ ha))
theorem pd_map {α β : Type} {F : β → Value → Prop} (f : α → β) : ∀ {as : List α} {vs : List Value}, Pd (fun a v => F (f a) v) as vs → Pd F (as.map f) vs
  | _, _, .nil => .nil
  | _, _, .cons h₁ t => .cons h₁ (pd_map f t)
theorem pd_of_map {α β : Type} {F : β → Value → Prop} (f : α → β) : ∀ {as : List α} {vs : List Value}, Pd F (as.map f) vs → Pd (fun a v => F (f a) v) as vs
  | [], _, .nil => .nil
  | _ :: _, _, .cons h₁ t => .cons h₁ (pd_of_map f t)
def IntV (n : Int) (v : Value) : Prop := ∃ t, v = .int n t
def StrV (x : Str) (v : Value) : Prop := ∃ t, v = .str x t
theorem pd_ints : ∀ {vs : List Value} {ns : List Int}, IntsAre vs ns → Pd IntV ns vs
  | _, _, .nil => .nil
  | _, _, .cons n t h => .cons ⟨t, rfl⟩ (pd_ints h)
theorem ints_pd : ∀ {vs : List Value} {ns : List Int}, Pd IntV ns vs → IntsAre vs ns
  | _, _, .nil => .nil
  | _, _, .cons ⟨_, e⟩ h => by rw [e]; exact .cons _ _ (ints_pd h)

section
open LCg
variable {prog : Program} {w : World} {A : Around} {h₀ : Heap} {L : Addr} {m : Str → Option Value} {env : Env} {ct elt : Expr} {x : Str} {scope : Scope} {cl : List (Str × Addr)} {s : Shared} {S : List (Addr × Obj) → Prop} {Fin : List Value → List (Addr × Obj) → Prop} {news : List (Addr × Obj)}

/-- a comprehension over a list that leaves the ledger as it was, item by item -/
theorem comp_pd {α β : Type} {F : α → Value → Prop} (G : β → Value → Prop) (f : α → β) {as : List α} {its : Array Value} (hi : Pd F as its.toList)
    (turn : ∀ a v I oI C oC D ys m₂ h tk (E' : Value → Shared → Prop), a ∈ as → F a v → ys.length ≤ as.length → NsObj oC m₂ → m₂ x = some v → Fr h₀ L h m → News h₀ L h ((I, oI) :: (C, oC) :: (D, lst ys) :: news) → Off3 I C D news → ((@Ne Nat I C) ∧ (@Ne Nat I D) ∧ (@Ne Nat C D)) →
      wpAny (model prog w) A (eval elt (compEnvC scope cl C env)) (CompEnd h₀ L m { s with heap := h, toks := tk } I oI C oC D (lst ys) S (fun y nw' => nw' = news ∧ G (f a) y)) E' { s with heap := h, toks := tk })
    (fin : ∀ ys, Pd G (as.map f) ys → Fin ys news) : CompRest prog w A h₀ L m env elt x scope cl s S (fun i v => its[i]? = some v) Fin its.size 0 [] news := by
  have hl := pd_len hi
  refine comp_inv (fun i ys nw => nw = news ∧ Pd G ((as.take i).map f) ys) ⟨rfl, by simp; exact .nil⟩ ?_ ?_
  · intro i v ys nw I oI C oC D m₂ h tk E' hin hP hJ hC hx F' N off ne
    obtain ⟨rfl, hy⟩ := hJ
    obtain ⟨a, ha, hF⟩ := pd_at hi i v (by simpa using hP)
    have hyl := pd_len hy
    refine wpAny_mono (turn a v I oI C oC D ys m₂ h tk E' (List.mem_of_getElem? ha) hF (by rw [← hyl]; simp; omega) hC hx F' N off ne) (fun y s₂ hq => ?_) fun _ _ e => e
    obtain ⟨h', tk', nw', e', F₂, N₂, off', hS, hn, hg⟩ := hq
    refine ⟨h', tk', nw', e', F₂, N₂, off', hS, hn, ?_⟩
    rw [List.take_add_one, ha, List.map_append]
    exact PySem.Paired.snoc hy hg
  · rintro ys nw ⟨rfl, hy⟩
    refine fin ys ?_
    have : as.take its.size = as := by rw [List.take_of_length_le]; simp at hl; omega
    rwa [this] at hy

/-- the same with a test -/
theorem compT_pd {α β : Type} {F : α → Value → Prop} (G : β → Value → Prop) (p : α → Bool) (f : α → β) {as : List α} {its : Array Value} (hi : Pd F as its.toList)
    (turn : ∀ a v I oI C oC D ys m₂ h tk (E' : Value → Shared → Prop), a ∈ as → F a v → ys.length ≤ as.length → NsObj oC m₂ → m₂ x = some v → Fr h₀ L h m → News h₀ L h ((I, oI) :: (C, oC) :: (D, lst ys) :: news) → Off3 I C D news → ((@Ne Nat I C) ∧ (@Ne Nat I D) ∧ (@Ne Nat C D)) →
      wpAny (model prog w) A (isTrue ct (compEnvC scope cl C env) (eval ct (compEnvC scope cl C env))) (fun ok s' => if ok = true then
        wpAny (model prog w) A (eval elt (compEnvC scope cl C env)) (CompEnd h₀ L m { s with heap := h, toks := tk } I oI C oC D (lst ys) S (fun y nw' => nw' = news ∧ p a = true ∧ G (f a) y)) E' s'
        else CompEnd h₀ L m { s with heap := h, toks := tk } I oI C oC D (lst ys) S (fun _ nw' => nw' = news ∧ p a = false) Value.none s') E' { s with heap := h, toks := tk })
    (fin : ∀ ys, Pd G ((as.filter p).map f) ys → Fin ys news) : LCt.CompRestT prog w A h₀ L m env ct elt x scope cl s S (fun i v => its[i]? = some v) Fin its.size 0 [] news := by
  have hl := pd_len hi
  refine compT_inv (fun i ys nw => nw = news ∧ Pd G (((as.take i).filter p).map f) ys) ⟨rfl, by simp; exact .nil⟩ ?_ ?_
  · intro i v ys nw I oI C oC D m₂ h tk E' hin hP hJ hC hx F' N off ne
    obtain ⟨rfl, hy⟩ := hJ
    obtain ⟨a, ha, hF⟩ := pd_at hi i v (by simpa using hP)
    have hyl := pd_len hy
    have hle : ys.length ≤ as.length := by
      rw [← hyl, List.length_map]
      exact Nat.le_trans (List.length_filter_le _ _) (by simp; omega)
    refine wpAny_mono (turn a v I oI C oC D ys m₂ h tk E' (List.mem_of_getElem? ha) hF hle hC hx F' N off ne) (fun ok s₂ hq => ?_) fun _ _ e => e
    cases ok with
    | true =>
      simp only [if_true] at hq ⊢
      refine wpAny_mono hq (fun y s₃ hr => ?_) fun _ _ e => e
      obtain ⟨h', tk', nw', e', F₂, N₂, off', hS, hn, hp, hg⟩ := hr
      refine ⟨h', tk', nw', e', F₂, N₂, off', hS, hn, ?_⟩
      rw [PySem.take_succ_filter p as i a ha, List.map_append, hp]
      exact PySem.Paired.snoc hy hg
    | false =>
      simp only [Bool.false_eq_true, if_false] at hq ⊢
      obtain ⟨h', tk', nw', e', F₂, N₂, off', hS, hn, hp⟩ := hq
      refine ⟨h', tk', nw', e', F₂, N₂, off', hS, hn, ?_⟩
      rw [PySem.take_succ_filter p as i a ha, List.map_append, hp]
      simpa using hy
  · rintro ys nw ⟨rfl, hy⟩
    refine fin ys ?_
    have : as.take its.size = as := by rw [List.take_of_length_le]; simp at hl; omega
    rwa [this] at hy
end

/-! a call whose body leaves all that stood as it stood: the whole heap is its ground -/
def LeaveB (g : Heap) (R : Result → Shared → Prop) (v : Value) (s' : Shared) : Prop := ∃ L' m', Fr g L' s'.heap m' ∧ R (.ok (.ret v)) s'
theorem LeaveB.intro {g : Heap} {R : Result → Shared → Prop} {v : Value} {s' : Shared} {L' : Addr} {m' : Str → Option Value} (F : Fr g L' s'.heap m') (h : R (.ok (.ret v)) s') : LeaveB g R v s' := ⟨L', m', F, h⟩
section
variable {prog : Program} {w : World} {A A₀ : Around} {s : Shared} {K : Frag} {L : Addr} {h₀ base : Heap} {m mg mb : Str → Option Value} {p : Program} {loose : List Str} {mean : ExcName → Option Value}

theorem code_base {env : Env} {outer : List Env} {R : Result → Shared → Prop} {name qual : Str} {params : Arguments} {body : List Stmt} {scope : Scope} {dV kV doc pm cdv ct oc : Value} {an od : Option Addr} {osl : Array (Option Value)} {f : Addr} {args : Args} {binds : List (Str × Value)}
    (B : Below A₀ base outer h₀) (F : Fr h₀ L s.heap m) (X₀ : K.In h₀) (T : Top p loose mean mg mb h₀) (hA : A.frames = some (env :: outer)) (hf : env.frame = some L) (hke : env.scope.kind = .function)
    (ho : K.lookup f = some ⟨oc, od, .func (fnOf name qual params body scope dV kV doc pm an cdv ct), osl⟩) (hcd : codeIn K cdv qual = true) (hroom : A.depth < recursionLimit)
    (hbind : BindsTo s (fnOf name qual params body scope dV kV doc pm an cdv ct) args binds) (hloc : ∀ y ∈ binds, scope.names.lookup y.1 = some .local)
    (h : ∀ L' h₁, Fr s.heap L' h₁ (fun y => binds.reverse.lookup y) → News s.heap L' h₁ [] → Below A base (env :: outer) s.heap → K.In s.heap → Top p loose mean mg mb s.heap →
      wpAny (model prog w) (A.deeper (envOf qual scope L' f cdv)) (execs body (envOf qual scope L' f cdv))
        (fun fl s' => LeaveB s.heap R (match fl with | .ret v => v | _ => .none) s')
        (fun e s' => wpAny (model prog w) (A.deeper (envOf qual scope L' f cdv)) (leaving (envOf qual scope L' f cdv) e) (fun _ s'' => R (.error e) s'') (fun e' s'' => R (.error e') s'') s')
        { s with heap := h₁, toks := s.toks + binds.length })
    (hco : scope.isCoroutine = false := by rfl) (hgen : scope.isGenerator = false := by rfl) (hk : scope.kind = .function := by rfl)
    (hcell : ∀ x ∈ scope.names, x.2 ≠ .cell := by decide) : codeAny (model prog w) A (.call (.ref f) args) R s := by
  obtain ⟨FG, BG, st, lv⟩ := groundX (R := R) B F (News.nil (h₀ := h₀) (L := L) (h := s.heap)) hA hf hke
  refine codeAny_call_def (fd := fnOf name qual params body scope dV kV doc pm an cdv ct) (body := body) (binds := binds) hroom ((X₀.keeps F.keep) _ _ ho) rfl (T.nolimit.keeps F.keep) (codeRec_of (X₀.keeps F.keep) hcd) rfl hbind hcell hloc (fun h₁ hns hk₁ => ?_) hco hgen hk
  exact wpAny_mono (h s.heap.objs.size h₁ ⟨hns, hk₁, Nat.le_refl _⟩ News.nil BG (X₀.keeps F.keep) (T.keeps F.keep)) (fun fl s' ⟨_, _, _, hr⟩ => hr) fun _ _ y => y
end

/-! the frame's map between turns: the stored names by u, all else by m₀ -/
def over (u m₀ : Str → Option Value) : List Str → Str → Option Value
  | [], y => m₀ y
  | a :: r, y => if y = a then u a else over u m₀ r y
theorem over_in {u m₀ : Str → Option Value} : ∀ {l : List Str} {y : Str}, (y ∉ l → u y = m₀ y) → over u m₀ l y = u y
  | [], y, h => (h List.not_mem_nil).symm
  | a :: r, y, h => by
    unfold over
    by_cases e : y = a
    · rw [if_pos e, e]
    · rw [if_neg e]
      exact over_in fun hn => h fun hm => (List.mem_cons.mp hm).elim e hn
theorem over_set {u m₀ : Str → Option Value} {l : List Str} {x : Str} {v : Option Value} (h : ∀ z, z ≠ x → z ∉ l → u z = m₀ z) : (fun y => if y = x then v else u y) = fun y => if y = x then v else over u m₀ l y := by
  funext y
  by_cases e : y = x
  · rw [if_pos e, if_pos e]
  · rw [if_neg e, if_neg e, over_in fun hn => h y e hn]
theorem over_self {u m₀ : Str → Option Value} {l : List Str} {x : Str} (h : ∀ z, z ≠ x → z ∉ l → u z = m₀ z) : u = fun y => if y = x then u x else over u m₀ l y := by
  funext y
  by_cases e : y = x
  · rw [if_pos e, e]
  · rw [if_neg e, over_in fun hn => h y e hn]
def Same (x : Str) (stored : List Str) (m₀ m' : Str → Option Value) : Prop := ∀ z, z ≠ x → z ∉ stored → m' z = m₀ z
section
variable {prog : Program} {w : World} {A : Around} {E : Value → Shared → Prop} {s : Shared} {env : Env} {h₀ : Heap} {x : Str} {body : List Stmt} {Q : Flow → Shared → Prop}
theorem iter_list_o (stored : List Str) {l : Addr} {its : Array Value} {m₀ : Str → Option Value} {news : List (Addr × Obj)} (J : Nat → (Str → Option Value) → List (Addr × Obj) → Prop)
    (hh : A.handled = none) (src : h₀.IsList l its ∨ ∃ ol k, ol.cls = .type "list" ∧ ol.data = .seq its k ∧ ∀ i m nx, J i m nx → (l, ol) ∈ nx)
    (F : Fr h₀ env.locals s.heap m₀) (N : News h₀ env.locals s.heap news) (hj : J 0 m₀ news)
    (turn : ∀ i v u nw I oI h tk, its[i]? = some v → J i u nw → Off I nw → Fr h₀ env.locals h (fun y => if y = x then some v else over u m₀ stored y) → News h₀ env.locals h ((I, oI) :: nw) →
      wpAny (model prog w) A (execs body env) (TurnPost h₀ env.locals I oI (fun m' nx => Same x stored m₀ m' ∧ J (i + 1) m' nx) { s with heap := h, toks := tk } Q) E { s with heap := h, toks := tk })
    (done : ∀ u nw h tk, J its.size u nw → Fr h₀ env.locals h (fun y => if y = x then u x else over u m₀ stored y) → News h₀ env.locals h nw → Q .next { s with heap := h, toks := tk }) :
    wpAny (model prog w) A (pyIter (.ref l)) (fun it s₂ => LoopAtV prog w A h₀ env x body Q E it s₂) E s := by
  refine iter_list (fun i m nx => Same x stored m₀ m ∧ J i m nx) hh (src.imp id fun ⟨ol, k, a, b, c⟩ => ⟨ol, k, a, b, fun i m nx h => c i m nx h.2⟩) F N ⟨fun _ _ _ => rfl, hj⟩ ?_ ?_
  · rintro i v m₁ nw I oI h tk hv ⟨hs, hJ⟩ hoff F₁ N₁
    rw [over_set hs] at F₁
    exact turn i v m₁ nw I oI h tk hv hJ hoff F₁ N₁
  · rintro m₁ nw h tk ⟨hs, hJ⟩ F₁ N₁
    refine done m₁ nw h tk hJ ?_ N₁
    rw [← over_self hs]; exact F₁
theorem iter_range_o (stored : List Str) {r : Addr} {a b c : Int} {t u v : Tok} {n : Nat} {m₀ : Str → Option Value} {news : List (Addr × Obj)} (J : Nat → (Str → Option Value) → List (Addr × Obj) → Prop)
    (hh : A.handled = none) (hr : IsRange s.heap r a b c t u v) (hsm : Builtin.Range.small a b c = true) (hn : Builtin.Range.rangeSize a b c = ((n : Nat) : Int))
    (F : Fr h₀ env.locals s.heap m₀) (N : News h₀ env.locals s.heap news) (hj : J 0 m₀ news)
    (turn : ∀ i t u nw I oI h tk, i < n → J i u nw → Off I nw → Fr h₀ env.locals h (fun y => if y = x then some (.int (a + i * c) t) else over u m₀ stored y) → News h₀ env.locals h ((I, oI) :: nw) →
      wpAny (model prog w) A (execs body env) (TurnPost h₀ env.locals I oI (fun m' nx => Same x stored m₀ m' ∧ J (i + 1) m' nx) { s with heap := h, toks := tk } Q) E { s with heap := h, toks := tk })
    (done : ∀ u nw h tk, J n u nw → Fr h₀ env.locals h (fun y => if y = x then u x else over u m₀ stored y) → News h₀ env.locals h nw → Q .next { s with heap := h, toks := tk }) :
    wpAny (model prog w) A (pyIter (.ref r)) (fun it s₂ => LoopAtV prog w A h₀ env x body Q E it s₂) E s := by
  refine iter_range (fun i m nx => Same x stored m₀ m ∧ J i m nx) hh hr hsm hn F N ⟨fun _ _ _ => rfl, hj⟩ ?_ ?_
  · rintro i t m₁ nw I oI h tk hi ⟨hs, hJ⟩ hoff F₁ N₁
    rw [over_set hs] at F₁
    exact turn i t m₁ nw I oI h tk hi hJ hoff F₁ N₁
  · rintro m₁ nw h tk ⟨hs, hJ⟩ F₁ N₁
    refine done m₁ nw h tk hJ ?_ N₁
    rw [← over_self hs]; exact F₁

/-- the ledger stays: J is of the names alone -/
theorem iter_list_s (stored : List Str) {l : Addr} {its : Array Value} {m₀ : Str → Option Value} {news : List (Addr × Obj)} (J : Nat → (Str → Option Value) → Prop)
    (hh : A.handled = none) (src : h₀.IsList l its ∨ ∃ ol k, ol.cls = .type "list" ∧ ol.data = .seq its k ∧ (l, ol) ∈ news)
    (F : Fr h₀ env.locals s.heap m₀) (N : News h₀ env.locals s.heap news) (hj : J 0 m₀)
    (turn : ∀ i v u I oI h tk, its[i]? = some v → J i u → Off I news → Fr h₀ env.locals h (fun y => if y = x then some v else over u m₀ stored y) → News h₀ env.locals h ((I, oI) :: news) →
      wpAny (model prog w) A (execs body env) (TurnPost h₀ env.locals I oI (fun m' nx => Same x stored m₀ m' ∧ nx = news ∧ J (i + 1) m') { s with heap := h, toks := tk } Q) E { s with heap := h, toks := tk })
    (done : ∀ u h tk, J its.size u → Fr h₀ env.locals h (fun y => if y = x then u x else over u m₀ stored y) → News h₀ env.locals h news → Q .next { s with heap := h, toks := tk }) :
    wpAny (model prog w) A (pyIter (.ref l)) (fun it s₂ => LoopAtV prog w A h₀ env x body Q E it s₂) E s := by
  refine iter_list_o stored (fun i m nx => nx = news ∧ J i m) hh (src.imp id fun ⟨ol, k, a, b, c⟩ => ⟨ol, k, a, b, fun i m nx h => h.1 ▸ c⟩) F N ⟨rfl, hj⟩ ?_ ?_
  · rintro i v u nw I oI h tk hv ⟨rfl, hJ⟩ hoff F₁ N₁
    exact turn i v u I oI h tk hv hJ hoff F₁ N₁
  · rintro u nw h tk ⟨rfl, hJ⟩ F₁ N₁
    exact done u h tk hJ F₁ N₁
theorem iter_range_s (stored : List Str) {r : Addr} {a b c : Int} {t u v : Tok} {n : Nat} {m₀ : Str → Option Value} {news : List (Addr × Obj)} (J : Nat → (Str → Option Value) → Prop)
    (hh : A.handled = none) (hr : IsRange s.heap r a b c t u v) (hsm : Builtin.Range.small a b c = true) (hn : Builtin.Range.rangeSize a b c = ((n : Nat) : Int))
    (F : Fr h₀ env.locals s.heap m₀) (N : News h₀ env.locals s.heap news) (hj : J 0 m₀)
    (turn : ∀ i t u I oI h tk, i < n → J i u → Off I news → Fr h₀ env.locals h (fun y => if y = x then some (.int (a + i * c) t) else over u m₀ stored y) → News h₀ env.locals h ((I, oI) :: news) →
      wpAny (model prog w) A (execs body env) (TurnPost h₀ env.locals I oI (fun m' nx => Same x stored m₀ m' ∧ nx = news ∧ J (i + 1) m') { s with heap := h, toks := tk } Q) E { s with heap := h, toks := tk })
    (done : ∀ u h tk, J n u → Fr h₀ env.locals h (fun y => if y = x then u x else over u m₀ stored y) → News h₀ env.locals h news → Q .next { s with heap := h, toks := tk }) :
    wpAny (model prog w) A (pyIter (.ref r)) (fun it s₂ => LoopAtV prog w A h₀ env x body Q E it s₂) E s := by
  refine iter_range_o stored (fun i m nx => nx = news ∧ J i m) hh hr hsm hn F N ⟨rfl, hj⟩ ?_ ?_
  · rintro i t u nw I oI h tk hv ⟨rfl, hJ⟩ hoff F₁ N₁
    exact turn i t u I oI h tk hv hJ hoff F₁ N₁
  · rintro u nw h tk ⟨rfl, hJ⟩ F₁ N₁
    exact done u h tk hJ F₁ N₁
end

/-- a turn's end: what the turn has made and dropped stands ahead (ext) -/
theorem TurnEnd.mk' {h₀ : Heap} {L I : Addr} {oI : Obj} {J : (Str → Option Value) → List (Addr × Obj) → Prop} {s₁ : Shared} {h' : Heap} {tk : Nat} {m' : Str → Option Value} (ext : List (Addr × Obj)) {nx : List (Addr × Obj)}
    (F : Fr h₀ L h' m') (N : News h₀ L h' (ext ++ (I, oI) :: nx)) (off : Off I nx) (hj : J m' nx) :
    TurnEnd h₀ L I oI J s₁ { s₁ with heap := h', toks := tk } := ⟨h', tk, m', nx, rfl, F, fun p hp => N p (List.mem_append_right _ hp), off, hj⟩

section
variable {prog : Program} {w : World} {A : Around} {E : Value → Shared → Prop} {s : Shared} {env : Env} {h₀ : Heap} {x : Str} {body : List Stmt} {Q : Flow → Shared → Prop}
theorem take_split {α : Type} {as : List α} {i : Nat} {a : α} (h : as[i]? = some a) : as = as.take i ++ a :: as.drop (i + 1) := by
  have hi : i < as.length := by
    rcases Nat.lt_or_ge i as.length with q | q
    · exact q
    · rw [List.getElem?_eq_none q] at h; cases h
  have : as[i] = a := by rw [List.getElem?_eq_getElem hi] at h; exact Option.some.inj h
  rw [← this, ← List.drop_eq_getElem_cons hi, List.take_append_drop]
theorem take_next {α : Type} {as : List α} {i : Nat} {a : α} (h : as[i]? = some a) : as.take (i + 1) = as.take i ++ [a] := by rw [List.take_add_one, h]; rfl

/-- a for over a list that stands for as: the word speaks of what has been taken -/
theorem iter_pd_o {α : Type} {F : α → Value → Prop} {as : List α} {its : Array Value} (hi : Pd F as its.toList) (stored : List Str) {l : Addr} {m₀ : Str → Option Value} {news : List (Addr × Obj)} (J : List α → (Str → Option Value) → List (Addr × Obj) → Prop)
    (hh : A.handled = none) (src : h₀.IsList l its ∨ ∃ ol k, ol.cls = .type "list" ∧ ol.data = .seq its k ∧ ∀ pre m nx, J pre m nx → (l, ol) ∈ nx)
    (Fr₀ : Fr h₀ env.locals s.heap m₀) (N : News h₀ env.locals s.heap news) (hj : J [] m₀ news)
    (turn : ∀ pre a post v u nw I oI h tk, as = pre ++ a :: post → F a v → J pre u nw → Off I nw → Fr h₀ env.locals h (fun y => if y = x then some v else over u m₀ stored y) → News h₀ env.locals h ((I, oI) :: nw) →
      wpAny (model prog w) A (execs body env) (TurnPost h₀ env.locals I oI (fun m' nx => Same x stored m₀ m' ∧ J (pre ++ [a]) m' nx) { s with heap := h, toks := tk } Q) E { s with heap := h, toks := tk })
    (done : ∀ u nw h tk, J as u nw → Fr h₀ env.locals h (fun y => if y = x then u x else over u m₀ stored y) → News h₀ env.locals h nw → Q .next { s with heap := h, toks := tk }) :
    wpAny (model prog w) A (pyIter (.ref l)) (fun it s₂ => LoopAtV prog w A h₀ env x body Q E it s₂) E s := by
  have hl := pd_len hi
  refine iter_list_o stored (its := its) (fun i m nx => J (as.take i) m nx) hh (src.imp id fun ⟨ol, k, a, b, c⟩ => ⟨ol, k, a, b, fun i m nx h => c _ m nx h⟩) Fr₀ N (by simpa using hj) ?_ ?_
  · intro i v u nw I oI h tk hv hJ hoff F₁ N₁
    obtain ⟨a, ha, hF⟩ := pd_at hi i v (by simpa using hv)
    rw [take_next ha]
    exact turn _ a _ v u nw I oI h tk (take_split ha) hF hJ hoff F₁ N₁
  · intro u nw h tk hJ F₁ N₁
    refine done u nw h tk ?_ F₁ N₁
    have e : as.take its.size = as := List.take_of_length_le (by rw [hl]; simp)
    rwa [e] at hJ
/-- the same, the ledger stays -/
theorem iter_pd_s {α : Type} {F : α → Value → Prop} {as : List α} {its : Array Value} (hi : Pd F as its.toList) (stored : List Str) {l : Addr} {m₀ : Str → Option Value} {news : List (Addr × Obj)} (J : List α → (Str → Option Value) → Prop)
    (hh : A.handled = none) (src : h₀.IsList l its ∨ ∃ ol k, ol.cls = .type "list" ∧ ol.data = .seq its k ∧ (l, ol) ∈ news)
    (Fr₀ : Fr h₀ env.locals s.heap m₀) (N : News h₀ env.locals s.heap news) (hj : J [] m₀)
    (turn : ∀ pre a post v u I oI h tk, as = pre ++ a :: post → F a v → J pre u → Off I news → Fr h₀ env.locals h (fun y => if y = x then some v else over u m₀ stored y) → News h₀ env.locals h ((I, oI) :: news) →
      wpAny (model prog w) A (execs body env) (TurnPost h₀ env.locals I oI (fun m' nx => Same x stored m₀ m' ∧ nx = news ∧ J (pre ++ [a]) m') { s with heap := h, toks := tk } Q) E { s with heap := h, toks := tk })
    (done : ∀ u h tk, J as u → Fr h₀ env.locals h (fun y => if y = x then u x else over u m₀ stored y) → News h₀ env.locals h news → Q .next { s with heap := h, toks := tk }) :
    wpAny (model prog w) A (pyIter (.ref l)) (fun it s₂ => LoopAtV prog w A h₀ env x body Q E it s₂) E s := by
  refine iter_pd_o hi stored (fun pre m nx => nx = news ∧ J pre m) hh (src.imp id fun ⟨ol, k, a, b, c⟩ => ⟨ol, k, a, b, fun _ _ nx h => h.1 ▸ c⟩) Fr₀ N ⟨rfl, hj⟩ ?_ ?_
  · rintro pre a post v u nw I oI h tk e hF ⟨rfl, hJ⟩ hoff F₁ N₁
    exact turn pre a post v u I oI h tk e hF hJ hoff F₁ N₁
  · rintro u nw h tk ⟨rfl, hJ⟩ F₁ N₁
    exact done u h tk hJ F₁ N₁
end

section
variable {prog : Program} {w : World} {A : Around} {E : Value → Shared → Prop} {s : Shared} {h₀ : Heap} {L D : Addr} {m : Str → Option Value} {news news' : List (Addr × Obj)} {n : Nat} {k : Int} {t : Tok}
theorem last_at (zs : List Value) (v : Value) : ((zs ++ [v]).toArray)[((-1 : Int) + ((zs ++ [v]).toArray.size : Nat)).toNat]? = some v := by
  have e : ((-1 : Int) + ((zs ++ [v]).toArray.size : Nat)).toNat = zs.length := by
    rw [List.size_toArray, List.length_append, List.length_singleton]; omega
  rw [e]; simp
theorem get_last {zs : List Value} {v : Value} {Q : Value → Shared → Prop} (N : News h₀ L s.heap news) (hm : (D, listOf (zs ++ [v]).toArray n) ∈ news) (h : Q v s) :
    wpAny (model prog w) A (getItem (.ref D) (.int (-1) t)) Q E s :=
  wpAny_getItem_list_neg (PySem.IsL.isList (n := n) (N _ hm).1) (by decide) (by rw [List.size_toArray, List.length_append, List.length_singleton]; omega) (by decide) (last_at zs v) h
theorem tail_last {value slice : PySem.Expr} {zs : List Value} {v : Value} {Q : Value → Shared → Prop} (N : News h₀ L s.heap news) (hm : (D, listOf (zs ++ [v]).toArray n) ∈ news) (h : Q v s)
    (hs : subscripted slice false (.ref D) (.int (-1) t) = operate [.ref D, .int (-1) t] (getItem (.ref D) (.int (-1) t)) := by with_unfolding_all rfl) :
    wpAny (model prog w) A (subscriptTail value slice (.ref D) (.int (-1) t)) Q E s :=
  tail_any (PySem.IsL.isList (n := n) (N _ hm).1).typeIs slot_list_getitem.lookup (get_last N hm h) hs
theorem set_last {zs : List Value} {v v' : Value} {Q : Unit → Shared → Prop} (F : Fr h₀ L s.heap m) (N : News h₀ L s.heap news) (U : Upd D (listOf (zs ++ [v]).toArray n) (listOf (zs ++ [v']).toArray n) news news')
    (h : ∀ h', Fr h₀ L h' m → News h₀ L h' news' → Q () { s with heap := h' }) :
    wpAny (model prog w) A (setItem (.ref D) (.int (-1) t) v') Q E s := by
  obtain ⟨pre, post, rfl, rfl, a, b⟩ := U.split
  have z := N (D, listOf (zs ++ [v]).toArray n) (List.mem_append.mpr (.inr (.head _)))
  refine ki_setBack z.1 (by decide) (by rw [List.size_toArray, List.length_append, List.length_singleton]; omega) (by decide) (h _ (F.change (Heap.SameBut.update ..) z.2.1 z.2.2) (ki_turn _ N a b ?_ ?_))
  · have e : ((-1 : Int) + ((zs ++ [v]).toArray.size : Nat)).toNat = zs.length := by
      rw [List.size_toArray, List.length_append, List.length_singleton]; omega
    show (zs ++ [v]).toArray.setIfInBounds _ v' = (zs ++ [v']).toArray
    rw [e]
    apply Array.toList_inj.mp
    simp
  · simp
theorem get_at {its : Array Value} {v : Value} {Q : Value → Shared → Prop} (hl : s.heap.IsList D its) (h0 : 0 ≤ k) (hfit : k < 2 ^ 63) (hx : its[k.toNat]? = some v) (h : Q v s) :
    wpAny (model prog w) A (getItem (.ref D) (.int k t)) Q E s := wpAny_getItem_list hl h0 hfit hx h
theorem tail_at {value slice : PySem.Expr} {its : Array Value} {v : Value} {Q : Value → Shared → Prop} (hl : s.heap.IsList D its) (h0 : 0 ≤ k) (hfit : k < 2 ^ 63) (hx : its[k.toNat]? = some v) (h : Q v s)
    (hs : subscripted slice false (.ref D) (.int k t) = operate [.ref D, .int k t] (getItem (.ref D) (.int k t)) := by with_unfolding_all rfl) :
    wpAny (model prog w) A (subscriptTail value slice (.ref D) (.int k t)) Q E s :=
  tail_any hl.typeIs slot_list_getitem.lookup (get_at hl h0 hfit hx h) hs
end

section
variable {prog : Program} {w : World} {A : Around} {E : Value → Shared → Prop} {s : Shared} {h₀ : Heap} {L D : Addr} {m : Str → Option Value} {news news' : List (Addr × Obj)} {n : Nat}
theorem append_l {zs : List Value} {x : Value} {Q : Value → Shared → Prop} (F : Fr h₀ L s.heap m) (N : News h₀ L s.heap news) (U : Upd D (listOf zs.toArray n) (listOf (zs ++ [x]).toArray (n + 1)) news news')
    (h : ∀ h', Fr h₀ L h' m → News h₀ L h' news' → Q .none { s with heap := h' }) (hsz : zs.length ≤ sizeLine) : wpAny (model prog w) A (call (.builtin "list.append") [.ref D, x]) Q E s :=
  append_K F N (by rw [List.push_toArray]; exact U) h (by rw [List.size_toArray]; exact hsz)
end

section
variable {prog : Program} {w : World} {A : Around} {E : Value → Shared → Prop} {s : Shared} {h₀ : Heap} {L D a b l : Addr} {m : Str → Option Value} {news news' : List (Addr × Obj)} {n k : Nat} {xs zs : List Value} {Q : Value → Shared → Prop}
theorem is_l (N : News h₀ L s.heap news) (ha : (a, listOf xs.toArray n) ∈ news) : s.heap.IsList a xs.toArray := PySem.IsL.isList (n := n) (N _ ha).1
theorem len_l (N : News h₀ L s.heap news) (ha : (a, listOf xs.toArray n) ∈ news) (hz : xs.length ≤ sizeLine) (h : Q (.int xs.length (s.toks + 1)) { s with toks := s.toks + 1 + 1 }) :
    wpAny (model prog w) A (call (.builtin "len") [.ref a]) Q E s := by
  have e : xs.toArray.size = xs.length := List.size_toArray ..
  refine len_list (is_l N ha) ?_ (by rw [e]; exact h)
  rw [e]; rw [sizeLine_eq] at hz; omega
theorem add_l (F : Fr h₀ L s.heap m) (N : News h₀ L s.heap news) (ha : (a, listOf xs.toArray n) ∈ news) (hb : (b, listOf zs.toArray k) ∈ news) (hz : xs.length + zs.length ≤ sizeLine)
    (h : ∀ D h', Fr h₀ L h' m → News h₀ L h' ((D, listOf (xs ++ zs).toArray 0) :: news) → (∀ p ∈ news, p.1 < D) → Q (.ref D) { s with heap := h' }) : wpAny (model prog w) A (binaryOp .Add (.ref a) (.ref b)) Q E s :=
  kmk_add_lit F N (is_l N ha) (is_l N hb) rfl h hz
theorem copy_l (F : Fr h₀ L s.heap m) (N : News h₀ L s.heap news) (hb : (b, listOf xs.toArray n) ∈ news) (hz : xs.length ≤ sizeLine)
    (h : ∀ D c h', Fr h₀ L h' m → News h₀ L h' ((D, listOf xs.toArray c) :: news) → (∀ q ∈ news, q.1 < D) → Q (.ref D) { s with heap := h' }) : wpAny (model prog w) A (call (.type "list") [.ref b]) Q E s :=
  kup_listOf F N hb rfl h hz
theorem slice_l {value slice : PySem.Expr} {vl vu : Value} {lo hi : Option Int} (F : Fr h₀ L s.heap m) (N : News h₀ L s.heap news) (hl : (l, listOf xs.toArray n) ∈ news) (pl : IsPart vl lo) (pu : IsPart vu hi)
    (h : ∀ D h', Fr h₀ L h' m → News h₀ L h' ((D, listOf (kms_pick xs lo hi).toArray 0) :: news) → (∀ p ∈ news, p.1 < D) → Q (.ref D) { s with heap := h' })
    (hs : subscripted slice false (.ref l) (.ref s.heap.objs.size) = operate [.ref s.heap.objs.size, .ref l] (getItem (.ref l) (.ref s.heap.objs.size))) (ht : ∀ r, letTemporaryGo value (.ref l) r = pure ()) (hz : xs.length ≤ sizeLine) :
    wpAny (model prog w) A (subscriptTail value slice (.ref l) (.ref s.heap.objs.size)) Q E { s with heap := s.heap.push { cls := .type "slice", data := .fields #[vl, vu, .none] } } :=
  kms_slice_lit F N (is_l N hl) pl pu rfl h hs ht (by rw [List.size_toArray]; exact hz)
theorem pick_to (xs : List Value) (j : Nat) : kms_pick xs none (some (j : Int)) = xs.take j := by
  unfold kms_pick kms_lo kms_hi
  have : ¬ ((j : Int) < 0) := by omega
  simp only [this, if_false, List.drop_zero, Int.toNat_natCast, Nat.sub_zero]
  rcases Nat.le_total j xs.length with q | q
  · rw [Nat.min_eq_left q]
  · rw [Nat.min_eq_right q, List.take_of_length_le (Nat.le_refl _), List.take_of_length_le q]
theorem pick_from (xs : List Value) (j : Nat) : kms_pick xs (some (j : Int)) none = xs.drop j := by
  unfold kms_pick kms_lo kms_hi
  have : ¬ ((j : Int) < 0) := by omega
  simp only [this, if_false, Int.toNat_natCast]
  rcases Nat.le_total j xs.length with q | q
  · rw [Nat.min_eq_left q, List.take_of_length_le (by simp)]
  · rw [Nat.min_eq_right q, List.drop_eq_nil_of_le (Nat.le_refl _), List.drop_eq_nil_of_le q]; simp
end

section
variable {prog : Program} {w : World} {A : Around} {E : Value → Shared → Prop} {s : Shared} {env : Env} {h₀ : Heap} {x : Str} {body : List Stmt} {Q : Flow → Shared → Prop}
/-- for i in range(a, b): the turns' numbers -/
theorem iter_count_o (stored : List Str) {r : Addr} {a b : Int} {t u v : Tok} (n : Nat) {m₀ : Str → Option Value} {news : List (Addr × Obj)} (J : Nat → (Str → Option Value) → List (Addr × Obj) → Prop)
    (hh : A.handled = none) (hr : IsRange s.heap r a b 1 t u v) (hn : (b - a).toNat = n) (ha : -1000000 ≤ a ∧ a ≤ 1000000) (hb : -1000000 ≤ b ∧ b ≤ 1000000)
    (F : Fr h₀ env.locals s.heap m₀) (N : News h₀ env.locals s.heap news) (hj : J 0 m₀ news)
    (turn : ∀ (i : Nat) (t : Tok) u nw I oI h tk, i < n → J i u nw → Off I nw → Fr h₀ env.locals h (fun y => if y = x then some (.int (a + (i : Int)) t) else over u m₀ stored y) → News h₀ env.locals h ((I, oI) :: nw) →
      wpAny (model prog w) A (execs body env) (TurnPost h₀ env.locals I oI (fun m' nx => Same x stored m₀ m' ∧ J (i + 1) m' nx) { s with heap := h, toks := tk } Q) E { s with heap := h, toks := tk })
    (done : ∀ u nw h tk, J n u nw → Fr h₀ env.locals h (fun y => if y = x then u x else over u m₀ stored y) → News h₀ env.locals h nw → Q .next { s with heap := h, toks := tk }) :
    wpAny (model prog w) A (pyIter (.ref r)) (fun it s₂ => LoopAtV prog w A h₀ env x body Q E it s₂) E s := by
  refine iter_range_o stored (n := n) J hh hr (small_one (by omega) (by omega) (by omega) (by omega)) (by rw [rangeSize_nat, hn]) F N hj (fun i t u nw I oI h tk hi hJ ho F₁ N₁ => ?_) done
  rw [Int.mul_one] at F₁
  exact turn i t u nw I oI h tk hi hJ ho F₁ N₁
theorem iter_count_s (stored : List Str) {r : Addr} {a b : Int} {t u v : Tok} (n : Nat) {m₀ : Str → Option Value} {news : List (Addr × Obj)} (J : Nat → (Str → Option Value) → Prop)
    (hh : A.handled = none) (hr : IsRange s.heap r a b 1 t u v) (hn : (b - a).toNat = n) (ha : -1000000 ≤ a ∧ a ≤ 1000000) (hb : -1000000 ≤ b ∧ b ≤ 1000000)
    (F : Fr h₀ env.locals s.heap m₀) (N : News h₀ env.locals s.heap news) (hj : J 0 m₀)
    (turn : ∀ (i : Nat) (t : Tok) u I oI h tk, i < n → J i u → Off I news → Fr h₀ env.locals h (fun y => if y = x then some (.int (a + (i : Int)) t) else over u m₀ stored y) → News h₀ env.locals h ((I, oI) :: news) →
      wpAny (model prog w) A (execs body env) (TurnPost h₀ env.locals I oI (fun m' nx => Same x stored m₀ m' ∧ nx = news ∧ J (i + 1) m') { s with heap := h, toks := tk } Q) E { s with heap := h, toks := tk })
    (done : ∀ u h tk, J n u → Fr h₀ env.locals h (fun y => if y = x then u x else over u m₀ stored y) → News h₀ env.locals h news → Q .next { s with heap := h, toks := tk }) :
    wpAny (model prog w) A (pyIter (.ref r)) (fun it s₂ => LoopAtV prog w A h₀ env x body Q E it s₂) E s := by
  refine iter_count_o stored n (fun i m nx => nx = news ∧ J i m) hh hr hn ha hb F N ⟨rfl, hj⟩ ?_ ?_
  · rintro i t u nw I oI h tk hv ⟨rfl, hJ⟩ hoff F₁ N₁
    exact turn i t u I oI h tk hv hJ hoff F₁ N₁
  · rintro u nw h tk ⟨rfl, hJ⟩ F₁ N₁
    exact done u h tk hJ F₁ N₁
end

section
open LCg
variable {prog : Program} {w : World} {A : Around} {E : Value → Shared → Prop} {s : Shared} {h₀ : Heap} {L : Addr} {m : Str → Option Value} {env : Env}
theorem pyIter_str {x : Str} {t : Tok} {Q : Value → Shared → Prop}
    (hQ : ∀ (o : Obj) (St : Nat → Heap → Prop), (∀ A' : Around, A'.handled = none → Walks prog w A' s.heap.objs.size [s.heap.objs.size] [s.heap.objs.size] x.cps.size (SignAt x) St) → St 0 (s.heap.push o) → o.isFreed = false → (∀ i h, St i h → ∃ o, h.get? s.heap.objs.size = some o) →
      Q (.ref s.heap.objs.size) { s with heap := s.heap.push o }) : wpAny (model prog w) A (pyIter (.str x t)) Q E s := by
  cases ha : x.cps.all (· < 128)
  · exact wpAny_pyIter_wide ha (hQ _ _ (fun A' hA => Walks.strWide hA _ x t) ⟨_, Heap.get?_push_size _ rfl, rfl, rfl⟩ rfl fun i h ⟨o, e, _⟩ => ⟨o, e⟩)
  · exact wpAny_pyIter_ascii ha (hQ _ _ (fun A' hA => Walks.strAscii hA _ x t) ⟨_, Heap.get?_push_size _ rfl, rfl, rfl⟩ rfl fun i h ⟨o, e, _⟩ => ⟨o, e⟩)

def SrcS (prog : Program) (w : World) (A : Around) (h₀ : Heap) (L : Addr) (m : Str → Option Value) (env : Env) (elt : Expr) (x : Str) (scope : Scope) (cl : List (Str × Addr)) (Fin : Shared → List Value → List (Addr × Obj) → Prop) (xv : Value) (s₁ : Shared) : Prop :=
  ∃ y t news, xv = .str y t ∧ A.handled = none ∧ Fr h₀ L s₁.heap m ∧ News h₀ L s₁.heap news ∧ y.length ≤ sizeLine ∧
    ∀ s₂ : Shared, (∃ h, s₂ = { s₁ with heap := h }) → CompRest prog w A h₀ L m env elt x scope cl s₂ (fun _ => True) (SignAt y) (Fin s₂) y.cps.size 0 [] news
theorem SrcS.intro {elt : Expr} {x : Str} {scope : Scope} {cl : List (Str × Addr)} {Fin : Shared → List Value → List (Addr × Obj) → Prop} {y : Str} {t : Tok} {news : List (Addr × Obj)} {s₁ : Shared}
    (hh : A.handled = none) (F : Fr h₀ L s₁.heap m) (N : News h₀ L s₁.heap news) (hz : y.length ≤ sizeLine)
    (h : ∀ g, CompRest prog w A h₀ L m env elt x scope cl { s₁ with heap := g } (fun _ => True) (SignAt y) (Fin { s₁ with heap := g }) y.cps.size 0 [] news) : SrcS prog w A h₀ L m env elt x scope cl Fin (.str y t) s₁ :=
  ⟨y, t, news, rfl, hh, F, N, hz, fun _ ⟨g, e⟩ => e ▸ h g⟩

/-- a comprehension without a test over a text's signs -/
theorem ListComp_S {elt iter : Expr} {x : Str} {px : Pos} {scope : Scope} {cl : List (Str × Addr)} {pos : Pos} {Q : Value → Shared → Prop} (_F₀ : Fr h₀ L s.heap m)
    (hclos : closureFor scope env = pure cl) (hcell : ∀ y ∈ scope.names, y.2 ≠ .cell) (hkind : scope.kind = .function)
    (hnames : ∀ y ∈ scope.names, y.2 = .local → scope.names.lookup y.1 = some .local) (hx : scope.names.lookup x = some .local)
    (h : wpAny (model prog w) A (eval iter env) (SrcS prog w A h₀ L m env elt x scope cl (fun s₂ => FinE h₀ L m s₂ Q)) E s)
    (hs : ∀ x, foldedSetIterable iter env x = pure x := by intro _; rfl) :
    wpAny (model prog w) A (eval (.ListComp elt [⟨.Name x px, iter, [], 0⟩] scope pos) env) Q E s := by
  rw [eval_ListComp]
  refine wpAny_comprehension_free (use := none) rfl hs hclos hkind hnames (wpAny_mono h (fun xv s₁ h₁ => ?_) fun _ _ e => e)
  obtain ⟨y, t, news, rfl, hh, F, N, hz, R⟩ := h₁
  refine pyIter_str fun o St hW hst hfr hIo => ?_
  have W := hW A hh
  have up : ∀ b o', s₁.heap.get? b = some o' → (s₁.heap.push o).get? b = some o' := fun b o' e => Heap.get?_push_of_some _ e
  refine block_U (h₀ := h₀) (L := L) (m := m) W (by show y.cps.size ≤ sizeLine; exact hz) hIo (fun i h h' o' nw st e e' _ _ _ => W.frame _ _ _ st fun b hb o₂ q => ?_) hcell hkind hx hst (fun b hb => ?_)
    (F.keeps up) (N.grown up) (Nat.ne_of_lt F.ns.lt) (next_is_new F) (fun p hp => Nat.ne_of_lt (Heap.lt_size (N p hp).1)) trivial (R _ ⟨_, rfl⟩) ?_
  · rw [List.mem_singleton.mp hb] at q ⊢
    rw [e] at q; cases q; exact e'
  · rw [List.mem_singleton.mp hb]
    show s₁.heap.objs.size < (s₁.heap.push _).objs.size
    rw [Heap.size_push]; exact Nat.lt_succ_self _
  · intro D C h tk m' ys news' F' N' o1 hn hC₀ hD₀ hCL hDL hCD offC fin
    refine ⟨m', hn, fun h'' hs'' => fin D h'' tk (F'.change hs'' hCL hC₀) (fun p hp => ?_) o1⟩
    refine ⟨hs''.extBut _ _ ?_ (N' p hp).1, (N' p hp).2⟩
    rcases List.mem_cons.mp hp with rfl | hp
    · exact Ne.symm hCD
    · exact offC p hp
end
def CharV (c : Nat) (v : Value) : Prop := ∃ t, v = .str ⟨#[c]⟩ t
section
open LCg
variable {prog : Program} {w : World} {A : Around} {h₀ : Heap} {L : Addr} {m : Str → Option Value} {env : Env} {elt : Expr} {x : Str} {scope : Scope} {cl : List (Str × Addr)} {s : Shared} {S : List (Addr × Obj) → Prop} {Fin : List Value → List (Addr × Obj) → Prop} {news : List (Addr × Obj)}
/-- over a text's signs, item by item, the ledger as it was -/
theorem comp_signs {β : Type} (G : β → Value → Prop) (f : Nat → β) {y : Str}
    (turn : ∀ c t I oI C oC D ys m₂ h tk (E' : Value → Shared → Prop), c ∈ y.cps.toList → ys.length ≤ y.cps.size → NsObj oC m₂ → m₂ x = some (.str ⟨#[c]⟩ t) → Fr h₀ L h m → News h₀ L h ((I, oI) :: (C, oC) :: (D, lst ys) :: news) → Off3 I C D news → ((@Ne Nat I C) ∧ (@Ne Nat I D) ∧ (@Ne Nat C D)) →
      wpAny (model prog w) A (eval elt (compEnvC scope cl C env)) (CompEnd h₀ L m { s with heap := h, toks := tk } I oI C oC D (lst ys) S (fun v nw' => nw' = news ∧ G (f c) v)) E' { s with heap := h, toks := tk })
    (fin : ∀ ys, Pd G (y.cps.toList.map f) ys → Fin ys news) : CompRest prog w A h₀ L m env elt x scope cl s S (SignAt y) Fin y.cps.size 0 [] news := by
  refine comp_inv (fun i ys nw => nw = news ∧ Pd G ((y.cps.toList.take i).map f) ys) ⟨rfl, by simp; exact .nil⟩ ?_ ?_
  · intro i v ys nw I oI C oC D m₂ h tk E' hin hP hJ hC hx F' N' off ne
    obtain ⟨rfl, hy⟩ := hJ
    obtain ⟨c, u, hc, rfl⟩ := hP
    have hc' : y.cps.toList[i]? = some c := by simpa using hc
    have hyl := pd_len hy
    refine wpAny_mono (turn c u I oI C oC D ys m₂ h tk E' (List.mem_of_getElem? hc') (by rw [← hyl]; simp; omega) hC hx F' N' off ne) (fun v s₂ hq => ?_) fun _ _ e => e
    obtain ⟨h', tk', nw', e', F₂, N₂, off', hS, hn, hg⟩ := hq
    refine ⟨h', tk', nw', e', F₂, N₂, off', hS, hn, ?_⟩
    rw [take_next hc', List.map_append]
    exact PySem.Paired.snoc hy hg
  · rintro ys nw ⟨rfl, hy⟩
    refine fin ys ?_
    have : y.cps.toList.take y.cps.size = y.cps.toList := by rw [List.take_of_length_le]; simp
    rwa [this] at hy
end

theorem cend {h₀ : Heap} {L I C D : Addr} {m : Str → Option Value} {s₁ : Shared} {oI oC oD : Obj} {S : List (Addr × Obj) → Prop} {rest : Value → List (Addr × Obj) → Prop} {y : Value} {h' : Heap} {tk : Nat} (ext : List (Addr × Obj)) {news' : List (Addr × Obj)}
    (F : Fr h₀ L h' m) (N : News h₀ L h' (ext ++ (I, oI) :: (C, oC) :: (D, oD) :: news')) (off : LCg.Off3 I C D news') (hS : S news') (r : rest y news') :
    LCg.CompEnd h₀ L m s₁ I oI C oC D oD S rest y { s₁ with heap := h', toks := tk } := ⟨h', tk, news', rfl, F, fun p hp => N p (List.mem_append_right _ hp), off, hS, r⟩

section
variable {prog : Program} {w : World} {A A₀ : Around} {s : Shared} {K : Frag} {L : Addr} {h₀ base : Heap} {m mg mb : Str → Option Value} {p : Program} {loose : List Str} {mean : ExcName → Option Value}
theorem code_baseC {env : Env} {outer : List Env} {R : Result → Shared → Prop} {name qual : Str} {params : Arguments} {body : List Stmt} {scope : Scope} {dV kV doc pm cdv ct oc : Value} {an od : Option Addr} {osl : Array (Option Value)} {f : Addr} {args : Args} {binds : List (Str × Value)}
    (B : Below A₀ base outer h₀) (F : Fr h₀ L s.heap m) (X₀ : K.In h₀) (T : Top p loose mean mg mb h₀) (hA : A.frames = some (env :: outer)) (hf : env.frame = some L) (hke : env.scope.kind = .function)
    (ho : K.lookup f = some ⟨oc, od, .func (fnOf name qual params body scope dV kV doc pm an cdv ct), osl⟩) (hcd : codeIn K cdv qual = true) (hroom : A.depth < recursionLimit)
    (hbind : BindsTo s (fnOf name qual params body scope dV kV doc pm an cdv ct) args binds) (hkind : (binds.all fun y => scope.names.lookup y.1 == some .local || scope.names.lookup y.1 == some .cell) = true)
    (hnd : ((cellsFrom 0 scope.names []).map (·.1)).Nodup)
    (h : ∀ L' h₁ tk cells, Fr s.heap L' h₁ (bindL (envOfC qual scope L' f cdv).kindOf binds fun _ => none) → News s.heap L' h₁ cells →
      CellsAre (bindC (envOfC qual scope L' f cdv).kindOf binds fun _ => none) (cellsFrom (L' + 1) scope.names []) cells → Below A base (env :: outer) s.heap → K.In s.heap → Top p loose mean mg mb s.heap →
      wpAny (model prog w) (A.deeper (envOfC qual scope L' f cdv)) (execs body (envOfC qual scope L' f cdv))
        (fun fl s' => LeaveB s.heap R (match fl with | .ret v => v | _ => .none) s')
        (fun e s' => wpAny (model prog w) (A.deeper (envOfC qual scope L' f cdv)) (leaving (envOfC qual scope L' f cdv) e) (fun _ s'' => R (.error e) s'') (fun e' s'' => R (.error e') s'') s')
        { s with heap := h₁, toks := tk })
    (hco : scope.isCoroutine = false := by rfl) (hgen : scope.isGenerator = false := by rfl) (hk : scope.kind = .function := by rfl) : codeAny (model prog w) A (.call (.ref f) args) R s := by
  obtain ⟨FG, BG, st, lv⟩ := groundX (R := R) B F (News.nil (h₀ := h₀) (L := L) (h := s.heap)) hA hf hke
  refine codeAny_call_function hroom ((X₀.keeps F.keep) _ _ ho) rfl hco hgen rfl (codeRec_of (X₀.keeps F.keep) hcd) (hbind _ _ _ _ ?_)
  refine wpAny_newFunctionEnv_cells hk (kindsX hkind _) fun env' he s' x => ?_
  subst he
  refine ⟨(T.nolimit.keeps F.keep).keeps x.toInCall.keep, codeAny_func ?_⟩
  obtain ⟨h₁, tk, rfl, _⟩ := x.done
  have hk₁ := x.toInCall.keep
  obtain ⟨cells, NC, Y⟩ := Cl.news (h₀ := s.heap) (Nat.le_refl _) fun n c hm => ⟨x.cell n c (lookup_of_mem_nodup (cellsFrom_names scope.names 0 (s.heap.objs.size + 1) [] [] rfl ▸ hnd) hm), x.above n c hm⟩
  exact wpAny_mono (h s.heap.objs.size h₁ tk cells ⟨x.toInCall.ns, hk₁, Nat.le_refl _⟩ NC Y BG (X₀.keeps F.keep) (T.keeps F.keep)) (fun fl s' ⟨_, _, _, hr⟩ => hr) fun _ _ y => y
end

section
open LCg
variable {prog : Program} {w : World} {A : Around} {h₀ : Heap} {L : Addr} {m : Str → Option Value} {env : Env} {ct elt : Expr} {x : Str} {scope : Scope} {cl : List (Str × Addr)} {s : Shared} {S : List (Addr × Obj) → Prop} {Fin : List Value → List (Addr × Obj) → Prop} {news : List (Addr × Obj)}
theorem range_next (n : Nat) : List.range (n + 1) = List.range n ++ [n] := List.range_succ
/-- over a range, with a test, the ledger as it was -/
theorem compT_count {β : Type} (G : β → Value → Prop) (p : Nat → Bool) (f : Nat → β) {n : Nat} {a : Int}
    (turn : ∀ (i : Nat) (t : Tok) I oI C oC D ys m₂ h tk (E' : Value → Shared → Prop), i < n → ys.length ≤ n → NsObj oC m₂ → m₂ x = some (.int (a + (i : Int)) t) → Fr h₀ L h m → News h₀ L h ((I, oI) :: (C, oC) :: (D, lst ys) :: news) → Off3 I C D news → ((@Ne Nat I C) ∧ (@Ne Nat I D) ∧ (@Ne Nat C D)) →
      wpAny (model prog w) A (isTrue ct (compEnvC scope cl C env) (eval ct (compEnvC scope cl C env))) (fun ok s' => if ok = true then
        wpAny (model prog w) A (eval elt (compEnvC scope cl C env)) (CompEnd h₀ L m { s with heap := h, toks := tk } I oI C oC D (lst ys) S (fun y nw' => nw' = news ∧ p i = true ∧ G (f i) y)) E' s'
        else CompEnd h₀ L m { s with heap := h, toks := tk } I oI C oC D (lst ys) S (fun _ nw' => nw' = news ∧ p i = false) Value.none s') E' { s with heap := h, toks := tk })
    (fin : ∀ ys, Pd G (((List.range n).filter p).map f) ys → Fin ys news) : LCt.CompRestT prog w A h₀ L m env ct elt x scope cl s S (fun i v => ∃ t, v = .int (a + (i : Int)) t) Fin n 0 [] news := by
  refine compT_inv (fun i ys nw => nw = news ∧ Pd G (((List.range i).filter p).map f) ys) ⟨rfl, .nil⟩ ?_ ?_
  · intro i v ys nw I oI C oC D m₂ h tk E' hin hP hJ hC hx F' N' off ne
    obtain ⟨rfl, hy⟩ := hJ
    obtain ⟨t, rfl⟩ := hP
    have hyl := pd_len hy
    have hle : ys.length ≤ n := by
      rw [← hyl, List.length_map]
      exact Nat.le_trans (List.length_filter_le _ _) (by rw [List.length_range]; omega)
    refine wpAny_mono (turn i t I oI C oC D ys m₂ h tk E' hin hle hC hx F' N' off ne) (fun ok s₂ hq => ?_) fun _ _ e => e
    cases ok with
    | true =>
      simp only [if_true] at hq ⊢
      refine wpAny_mono hq (fun y s₃ hr => ?_) fun _ _ e => e
      obtain ⟨h', tk', nw', e', F₂, N₂, off', hS, hn, hp, hg⟩ := hr
      refine ⟨h', tk', nw', e', F₂, N₂, off', hS, hn, ?_⟩
      rw [range_next, List.filter_append, List.map_append, List.filter_cons_of_pos hp, List.filter_nil]
      exact PySem.Paired.snoc hy hg
    | false =>
      simp only [Bool.false_eq_true, if_false] at hq ⊢
      obtain ⟨h', tk', nw', e', F₂, N₂, off', hS, hn, hp⟩ := hq
      refine ⟨h', tk', nw', e', F₂, N₂, off', hS, hn, ?_⟩
      rw [range_next, List.filter_append, List.map_append, List.filter_cons_of_neg (by rw [hp]; decide), List.filter_nil]
      simpa using hy
  · rintro ys nw ⟨rfl, hy⟩
    exact fin ys hy
/-- over a range, no test -/
theorem comp_count {β : Type} (G : β → Value → Prop) (f : Nat → β) {n : Nat} {a : Int}
    (turn : ∀ (i : Nat) (t : Tok) I oI C oC D ys m₂ h tk (E' : Value → Shared → Prop), i < n → ys.length ≤ n → NsObj oC m₂ → m₂ x = some (.int (a + (i : Int)) t) → Fr h₀ L h m → News h₀ L h ((I, oI) :: (C, oC) :: (D, lst ys) :: news) → Off3 I C D news → ((@Ne Nat I C) ∧ (@Ne Nat I D) ∧ (@Ne Nat C D)) →
      wpAny (model prog w) A (eval elt (compEnvC scope cl C env)) (CompEnd h₀ L m { s with heap := h, toks := tk } I oI C oC D (lst ys) S (fun y nw' => nw' = news ∧ G (f i) y)) E' { s with heap := h, toks := tk })
    (fin : ∀ ys, Pd G ((List.range n).map f) ys → Fin ys news) : CompRest prog w A h₀ L m env elt x scope cl s S (fun i v => ∃ t, v = .int (a + (i : Int)) t) Fin n 0 [] news := by
  refine comp_inv (fun i ys nw => nw = news ∧ Pd G ((List.range i).map f) ys) ⟨rfl, .nil⟩ ?_ ?_
  · intro i v ys nw I oI C oC D m₂ h tk E' hin hP hJ hC hx F' N' off ne
    obtain ⟨rfl, hy⟩ := hJ
    obtain ⟨t, rfl⟩ := hP
    have hyl := pd_len hy
    refine wpAny_mono (turn i t I oI C oC D ys m₂ h tk E' hin (by rw [← hyl, List.length_map, List.length_range]; omega) hC hx F' N' off ne) (fun y s₂ hq => ?_) fun _ _ e => e
    obtain ⟨h', tk', nw', e', F₂, N₂, off', hS, hn, hg⟩ := hq
    refine ⟨h', tk', nw', e', F₂, N₂, off', hS, hn, ?_⟩
    rw [range_next, List.map_append]
    exact PySem.Paired.snoc hy hg
  · rintro ys nw ⟨rfl, hy⟩
    exact fin ys hy
end
section
variable {prog : Program} {w : World} {A : Around} {E : Value → Shared → Prop} {s : Shared} {g : Heap} {L D : Addr} {m : Str → Option Value} {its : Array Value} {k : Int} {j : Nat} {t : Tok} {v : Value} {Q : Value → Shared → Prop}
theorem at_up (hl : g.IsList D its) (F : Fr g L s.heap m) : s.heap.IsList D its := hl.at fun o e => F.keep _ _ e
theorem tail_nat {value slice : PySem.Expr} (hl : g.IsList D its) (F : Fr g L s.heap m) (hx : its[j]? = some v) (hk : k = (j : Int)) (hj : (j : Int) < 1000000) (h : Q v s)
    (hs : subscripted slice false (.ref D) (.int k t) = operate [.ref D, .int k t] (getItem (.ref D) (.int k t)) := by with_unfolding_all rfl) :
    wpAny (model prog w) A (subscriptTail value slice (.ref D) (.int k t)) Q E s :=
  tail_at (at_up hl F) (by omega) (by omega) (by rw [hk, Int.toNat_natCast]; exact hx) h hs
theorem len_b (hl : g.IsList D its) (F : Fr g L s.heap m) (hz : its.size ≤ sizeLine) (h : Q (.int its.size (s.toks + 1)) { s with toks := s.toks + 1 + 1 }) :
    wpAny (model prog w) A (call (.builtin "len") [.ref D]) Q E s :=
  len_list (at_up hl F) (by rw [sizeLine_eq] at hz; omega) h
end

/-! a for with any target (a local, a captured name, a tuple) -/
section
variable {prog : Program} {w : World} {A : Around} {s : Shared} {env : Env} {h₀ : Heap} {L : Addr}

theorem codeAny_forT {R : Result → Shared → Prop} {target : Expr} {body : List Stmt} {I : Addr} {fp wr : List Addr} {n : Nat} {P : Nat → Value → Prop} {St : Nat → Heap → Prop} {m : Str → Option Value}
    {news : List (Addr × Obj)} (W : Walks prog w A I fp wr n P St) (hLf : L ∉ fp) (hwr : ∀ b ∈ wr, h₀.get? b = none) (hnw : ∀ p ∈ news, p.1 ∉ wr)
    (hst : St 0 s.heap) (F : Fr h₀ L s.heap m) (N : News h₀ L s.heap news)
    (J : Nat → (Str → Option Value) → List (Addr × Obj) → Prop) (h0 : J 0 m news)
    (step : ∀ i v m₁ news₁ s₁ own, (∃ h tk, s₁ = { s with heap := h, toks := tk }) → i < n → P i v → J i m₁ news₁ → (∀ p ∈ news₁, p.1 ∉ wr) → (∀ p ∈ own, p.1 ∈ fp) → (∀ p ∈ own, s₁.heap.get? p.1 = some p.2) → (∀ b ∈ fp, h₀.get? b = none → ∀ o, s₁.heap.get? b = some o → (b, o) ∈ own) → St (i + 1) s₁.heap →
      Fr h₀ L s₁.heap m₁ → News h₀ L s₁.heap (own ++ news₁) →
      wpAny (model prog w) A (assign target env v) (fun _ s₂ => wpAny (model prog w) A (execs body env) (LoopStepV h₀ L wr own (J (i + 1)) s₁ (fun v s' => R (.ok (.ret v)) s') fun s' => R (.ok .next) s') (notedBy (model prog w) A env fun e s' => R (.error e) s') s₂) (notedBy (model prog w) A env fun e s' => R (.error e) s') s₁)
    (hR : ∀ h' tk m' news', Fr h₀ L h' m' → News h₀ L h' news' → (∀ p ∈ news', p.1 ∉ wr) → J n m' news' → R (.ok .next) { s with heap := h', toks := tk })
    (ht : ∀ v, letOwnedTupleGo target (.ref I) v = pure ()) :
    codeAny (model prog w) A (.forLoop target (.ref I) body [] env) R s := by
  have hLw : L ∉ wr := fun h => hLf (W.sub _ h)
  have old : ∀ b o, h₀.get? b = some o → b ∉ wr := fun b o e hb => by rw [hwr b hb] at e; cases e
  refine codeAny_forLoop
    (fun k s' => ∃ h' tk m' news' i, s' = { s with heap := h', toks := tk } ∧ St i h' ∧ Fr h₀ L h' m' ∧ News h₀ L h' news' ∧ (∀ p ∈ news', p.1 ∉ wr) ∧ J i m' news' ∧ i ≤ n ∧ k = n + 1 - i) ?_ (n + 1)
    ⟨s.heap, s.toks, m, news, 0, rfl, hst, F, N, hnw, h0, Nat.zero_le _, rfl⟩ ht
  rintro k s' ⟨h', tk, m', news', i, rfl, hst', F', N', hnw', hJ, hi, rfl⟩
  have next : ∀ h₁ : Heap, (∀ b o, b ∉ wr → h'.get? b = some o → h₁.get? b = some o) → Fr h₀ L h₁ m' ∧ News h₀ L h₁ news' := fun h₁ hk₁ =>
    ⟨⟨F'.ns.at' fun o e => hk₁ _ o hLw e, fun b o e => hk₁ b o (old b o e) (F'.keep b o e), F'.above⟩, fun p hp => ⟨hk₁ _ _ (hnw' p hp) (N' p hp).1, (N' p hp).2⟩⟩
  by_cases hlt : i < n
  · refine W.item i _ _ _ hlt hst' fun v h₁ tk₁ hP hst₁ hk₁ => ?_
    obtain ⟨F₁, N₁⟩ := next h₁ hk₁
    have Nown : News h₀ L h₁ (ownOf h₀ fp h₁) := news_ownOf hLf
    refine wpAny_mono (step i v m' news' _ (ownOf h₀ fp h₁) ⟨_, _, rfl⟩ hlt hP hJ hnw' ownOf_sub (fun p hp => (Nown p hp).1) (fun b hb hn o e => mem_ownOf hb hn e) hst₁ F₁ (Nown.append N₁)) (fun _ s₂ h₂ => wpAny_mono h₂ (fun f s₃ h₃ => ?_) fun _ _ e => e) fun _ _ e => e
    have fin : LoopStepU h₀ L wr (ownOf h₀ fp h₁) (J (i + 1)) { s with heap := h₁, toks := tk₁ } .next s₃ → ∃ m, m < n + 1 - i ∧ ∃ h' tk m' news' i, s₃ = { s with heap := h', toks := tk } ∧ St i h' ∧ Fr h₀ L h' m' ∧ News h₀ L h' news' ∧ (∀ p ∈ news', p.1 ∉ wr) ∧ J i m' news' ∧ i ≤ n ∧ m = n + 1 - i := by
      rintro ⟨_, h₃', tk₃, m₂, news₂, rfl, F₃, N₃, ha₃, hJ₃⟩
      refine ⟨n + 1 - (i + 1), by omega, h₃', tk₃, m₂, news₂, i + 1, rfl, ?_, F₃, N₃.right, ha₃, hJ₃, hlt, rfl⟩
      refine W.frame _ _ _ hst₁ fun b hb o e => ?_
      cases hn : h₀.get? b with
      | some o₀ =>
        have : o₀ = o := by have := F₁.keep b o₀ hn; rw [e] at this; exact (Option.some.inj this).symm
        exact this ▸ F₃.keep b o₀ hn
      | none => exact (N₃ _ (List.mem_append_left _ (mem_ownOf hb hn e))).1
    cases f with
    | ret v => exact h₃
    | brk => exact h₃
    | cont => exact fin h₃
    | next => exact fin h₃
  · have hin : i = n := by omega
    subst hin
    refine W.done _ _ _ hst' fun h₁ tk₁ hk₁ => wpAny_execs_nil ?_
    obtain ⟨F₁, N₁⟩ := next h₁ hk₁
    exact hR h₁ tk₁ m' news' F₁ N₁ hnw' hJ

def LoopAtT (prog : Program) (w : World) (A : Around) (h₀ : Heap) (L : Addr) (env : Env) (target : Expr) (body : List Stmt) (Q : Flow → Shared → Prop) (E : Value → Shared → Prop) (it : Value) (s₂ : Shared) : Prop :=
  ∃ (I : Addr) (fp wr : List Addr) (n : Nat) (P : Nat → Value → Prop) (St : Nat → Heap → Prop) (m : Str → Option Value) (news : List (Addr × Obj)) (J : Nat → (Str → Option Value) → List (Addr × Obj) → Prop),
    it = .ref I ∧ Walks prog w A I fp wr n P St ∧ L ∉ fp ∧ (∀ b ∈ wr, h₀.get? b = none) ∧ (∀ p ∈ news, p.1 ∉ wr) ∧ St 0 s₂.heap ∧ Fr h₀ L s₂.heap m ∧ News h₀ L s₂.heap news ∧ J 0 m news ∧
    (∀ i v m₁ news₁ s₁ own, (∃ h tk, s₁ = { s₂ with heap := h, toks := tk }) → i < n → P i v → J i m₁ news₁ → (∀ p ∈ news₁, p.1 ∉ wr) → (∀ p ∈ own, p.1 ∈ fp) → (∀ p ∈ own, s₁.heap.get? p.1 = some p.2) → (∀ b ∈ fp, h₀.get? b = none → ∀ o, s₁.heap.get? b = some o → (b, o) ∈ own) → St (i + 1) s₁.heap →
      Fr h₀ L s₁.heap m₁ → News h₀ L s₁.heap (own ++ news₁) →
      wpAny (model prog w) A (assign target env v) (fun _ s₃ => wpAny (model prog w) A (execs body env) (LoopStepV h₀ L wr own (J (i + 1)) s₁ (fun v s' => Q (.ret v) s') fun s' => Q .next s') E s₃) E s₁) ∧
    ∀ h' tk m' news', Fr h₀ L h' m' → News h₀ L h' news' → (∀ p ∈ news', p.1 ∉ wr) → J n m' news' → Q .next { s₂ with heap := h', toks := tk }

theorem For_T {E : Value → Shared → Prop} {Q : Flow → Shared → Prop} {target : Expr} {pos : Pos} {iter : Expr} {body : List Stmt} {m : Str → Option Value} (_F : Fr h₀ L s.heap m)
    (ht : ∀ it v, letOwnedTupleGo target it v = pure ())
    (h : wpAny (model prog w) A (eval iter env) (fun xv s₁ => wpAny (model prog w) A (pyIter xv) (fun it s₂ => LoopAtT prog w A h₀ L env target body Q E it s₂) E s₁) E s)
    (hs : ∀ x, foldedSetIterable iter env x = pure x := by intro _; rfl)
    (hE : PassesOwn (model prog w) A env E := by passes_own) :
    wpAny (model prog w) A (exec (.For target iter body [] pos) env) Q E s := by
  refine wpAny_For (wpAny_mono h (fun xv s₁ h₁ => wpAny_mono h₁ (fun it s₂ h₂ => ?_) fun _ _ e => e) fun _ _ e => e) hs
  obtain ⟨I, fp, wr, n, P, St, m, news, J, rfl, W, hLf, hwr, hnw, hst, F, N, h0, step, hQ⟩ := h₂
  refine codeAny_forT (R := fun r s' => match r with | .ok f => Q f s' | .error e => cameBackBy (model prog w) A env E e s') W hLf hwr hnw hst F N J h0 ?_ hQ (ht _)
  intro i v m₁ news₁ s₁ own a b c d e f g k st F₁ N₁
  exact wpAny_passesOwn hE (wpAny_mono (step i v m₁ news₁ s₁ own a b c d e f g k st F₁ N₁) (fun _ s₃ h₃ => wpAny_passesOwn hE h₃) fun _ _ e => e)
end

section
variable {prog : Program} {w : World} {A : Around} {E : Value → Shared → Prop} {s : Shared} {env : Env} {h₀ : Heap} {L : Addr} {target : Expr} {body : List Stmt} {Q : Flow → Shared → Prop}
def SameT (stored : List Str) (m₀ m' : Str → Option Value) : Prop := ∀ z, z ∉ stored → m' z = m₀ z
theorem over_T {u m₀ : Str → Option Value} {l : List Str} (h : SameT l m₀ u) : u = over u m₀ l := funext fun y => (over_in fun hn => h y hn).symm

/-- over a list's items -/
theorem forT_list (stored : List Str) {l : Addr} {its : Array Value} {m₀ : Str → Option Value} {news : List (Addr × Obj)} (J : Nat → (Str → Option Value) → List (Addr × Obj) → Prop)
    (hh : A.handled = none) (src : h₀.IsList l its ∨ ∃ ol k, ol.cls = .type "list" ∧ ol.data = .seq its k ∧ ∀ i m nx, J i m nx → (l, ol) ∈ nx)
    (F : Fr h₀ L s.heap m₀) (N : News h₀ L s.heap news) (hj : J 0 m₀ news)
    (turn : ∀ i v u nw I oI h tk, its[i]? = some v → J i u nw → Off I nw → Fr h₀ L h (over u m₀ stored) → News h₀ L h ((I, oI) :: nw) →
      wpAny (model prog w) A (assign target env v) (fun _ s₂ => wpAny (model prog w) A (execs body env) (TurnPost h₀ L I oI (fun m' nx => SameT stored m₀ m' ∧ J (i + 1) m' nx) { s with heap := h, toks := tk } Q) E s₂) E { s with heap := h, toks := tk })
    (done : ∀ u nw h tk, J its.size u nw → Fr h₀ L h (over u m₀ stored) → News h₀ L h nw → Q .next { s with heap := h, toks := tk }) :
    wpAny (model prog w) A (pyIter (.ref l)) (fun it s₂ => LoopAtT prog w A h₀ L env target body Q E it s₂) E s := by
  have hls : s.heap.IsList l its := by
    rcases src with hl | ⟨ol, k, hc, hd, hm⟩
    · exact hl.at fun o e => F.keep l o e
    · exact ⟨ol, (N _ (hm _ _ _ hj)).1, hc, k, hd⟩
  obtain ⟨ol', hol, _⟩ := id hls
  have hlt : l < s.heap.objs.size := Heap.lt_size hol
  have hne : l ≠ s.heap.objs.size := Nat.ne_of_lt hlt
  have hLl : L ≠ l := by
    rcases src with hl | ⟨ol, k, hc, hd, hm⟩
    · obtain ⟨o, e, _⟩ := hl
      exact fun q => absurd (Nat.lt_of_lt_of_le (Heap.lt_size e) F.above) (q ▸ Nat.lt_irrefl _)
    · exact fun q => (N _ (hm _ _ _ hj)).2.1 q.symm
  refine wpAny_pyIter_list hls ?_
  have W := Walks.list (prog := prog) (w := w) hh s.heap.objs.size l hne its
  refine ⟨_, _, _, its.size, _, _, m₀, news, (fun i m nx => SameT stored m₀ m ∧ J i m nx), rfl, W, ?_, ?_, ?_, ⟨⟨_, Heap.get?_push_size _ rfl, rfl, rfl⟩, hls.at fun o e => Heap.get?_push_of_some _ e⟩, F.push _, (fun p hp => ⟨Heap.get?_push_of_some _ (N p hp).1, (N p hp).2⟩), ⟨fun _ _ => rfl, hj⟩, ?_, ?_⟩
  · intro hm
    rcases List.mem_cons.mp hm with e | hm
    · exact absurd F.ns.lt (e ▸ Nat.lt_irrefl _)
    · exact hLl (List.mem_singleton.mp hm)
  · intro b hb
    rw [List.mem_singleton.mp hb]
    exact next_is_new F
  · intro p hp hI
    exact absurd (Heap.lt_size (N p hp).1) ((List.mem_singleton.mp hI) ▸ Nat.lt_irrefl _)
  · rintro i v m₁ news₁ s₁ own ⟨hh', tk', rfl⟩ hin hP ⟨hs, hJ⟩ hoff hown hget hin' hst F₁ N₁
    obtain ⟨oI, heI, _⟩ := hst.1
    have hIown : (s.heap.objs.size, oI) ∈ own := hin' _ (by simp) (next_is_new F) oI heI
    have hoffI : Off s.heap.objs.size news₁ := Off.of fun p hp q => hoff p hp (List.mem_singleton.mpr q)
    rw [over_T hs] at F₁
    refine wpAny_mono (turn i v m₁ news₁ _ oI hh' tk' hP hJ hoffI F₁ (fun p hp => by
      rcases List.mem_cons.mp hp with rfl | hp
      · exact N₁ _ (List.mem_append_left _ hIown)
      · exact N₁ _ (List.mem_append_right _ hp))) (fun _ s₂ h₂ => wpAny_mono h₂ (fun f s₃ p => ?_) fun _ _ e => e) fun _ _ e => e
    have fin : TurnEnd h₀ L s.heap.objs.size oI (fun m' nx => SameT stored m₀ m' ∧ J (i + 1) m' nx) { s with heap := hh', toks := tk' } s₃ → LoopStepU h₀ L [s.heap.objs.size] own (fun m nx => SameT stored m₀ m ∧ J (i + 1) m nx) { s with heap := hh', toks := tk' } .next s₃ := by
      rintro ⟨h', tk, m', nx, e, F', N', hoff', hj'⟩
      refine ⟨rfl, h', tk, m', nx, e, F', fun p hp => ?_, fun p hp q => hoff'.mem p hp (List.mem_singleton.mp q), hj'⟩
      rcases List.mem_append.mp hp with hp | hp
      · have hg := hget p hp
        have h0 := (N₁ p (List.mem_append_left _ hp)).2.2
        rcases List.mem_cons.mp (hown p hp) with h1 | h1
        · have e1 : p = (s.heap.objs.size, oI) := by
            obtain ⟨a, o⟩ := p
            dsimp only at h1 hg
            subst h1
            have := heI.symm.trans hg
            rw [Option.some.inj this]
          rw [e1]; exact N' _ List.mem_cons_self
        · have h2 : p.1 = l := List.mem_singleton.mp h1
          rcases src with hl | ⟨ol, k, hc, hd, hm⟩
          · obtain ⟨o, e, _⟩ := hl
            rw [h2, e] at h0; cases h0
          · have e1 : p = (l, ol) := by
              obtain ⟨a, o⟩ := p
              dsimp only at h2 hg
              subst h2
              have := (N₁ _ (List.mem_append_right _ (hm _ _ _ hJ))).1
              have := hg.symm.trans this
              rw [Option.some.inj this]
            rw [e1]; exact N' _ (List.mem_cons_of_mem _ (hm _ _ _ hj'.2))
      · exact N' p (List.mem_cons_of_mem _ hp)
    cases f with
    | ret v => exact .ret p
    | brk => exact .brk p
    | next => exact .next (fin p)
    | cont => exact .cont (fin p)
  · rintro h' tk m' news' F' N' _ ⟨hs, hJ⟩
    rw [over_T hs] at F'
    exact done m' news' h' tk hJ F' N'

/-- over range(a, b) -/
theorem forT_count (stored : List Str) {r : Addr} {a b : Int} {t u v : Tok} (n : Nat) {m₀ : Str → Option Value} {news : List (Addr × Obj)} (J : Nat → (Str → Option Value) → List (Addr × Obj) → Prop)
    (hh : A.handled = none) (hr : IsRange s.heap r a b 1 t u v) (hn : (b - a).toNat = n) (ha : -1000000 ≤ a ∧ a ≤ 1000000) (hb : -1000000 ≤ b ∧ b ≤ 1000000)
    (F : Fr h₀ L s.heap m₀) (N : News h₀ L s.heap news) (hj : J 0 m₀ news)
    (turn : ∀ (i : Nat) (t : Tok) u nw I oI h tk, i < n → J i u nw → Off I nw → Fr h₀ L h (over u m₀ stored) → News h₀ L h ((I, oI) :: nw) →
      wpAny (model prog w) A (assign target env (.int (a + (i : Int)) t)) (fun _ s₂ => wpAny (model prog w) A (execs body env) (TurnPost h₀ L I oI (fun m' nx => SameT stored m₀ m' ∧ J (i + 1) m' nx) { s with heap := h, toks := tk } Q) E s₂) E { s with heap := h, toks := tk })
    (done : ∀ u nw h tk, J n u nw → Fr h₀ L h (over u m₀ stored) → News h₀ L h nw → Q .next { s with heap := h, toks := tk }) :
    wpAny (model prog w) A (pyIter (.ref r)) (fun it s₂ => LoopAtT prog w A h₀ L env target body Q E it s₂) E s := by
  have hsm := small_one (a := a) (b := b) (by omega) (by omega) (by omega) (by omega)
  have hn' : Builtin.Range.rangeSize a b 1 = ((n : Nat) : Int) := by rw [rangeSize_nat, hn]
  refine wpAny_pyIter_range hr hsm ?_
  have W := Walks.range (prog := prog) (w := w) hh s.heap.objs.size a 1 n
  refine ⟨_, _, _, n, _, _, m₀, news, (fun i m nx => SameT stored m₀ m ∧ J i m nx), rfl, W, ?_, ?_, ?_, (by show IsRangeIter _ _ _ _ _; rw [hn']; simpa using Heap.get?_push_size _ rfl), F.push _, (fun p hp => ⟨Heap.get?_push_of_some _ (N p hp).1, (N p hp).2⟩), ⟨fun _ _ => rfl, hj⟩, ?_, ?_⟩
  · intro hm
    exact absurd F.ns.lt ((List.mem_singleton.mp hm) ▸ Nat.lt_irrefl _)
  · intro b hb
    rw [List.mem_singleton.mp hb]
    exact next_is_new F
  · intro p hp hI
    exact absurd (Heap.lt_size (N p hp).1) ((List.mem_singleton.mp hI) ▸ Nat.lt_irrefl _)
  · rintro i v m₁ news₁ s₁ own ⟨hh', tk', rfl⟩ hin hP ⟨hs, hJ⟩ hoff hown hget hin' hst F₁ N₁
    obtain ⟨t, rfl⟩ := hP
    have heI : hh'.get? s.heap.objs.size = some _ := hst
    have hIown := hin' _ (by simp) (next_is_new F) _ heI
    have hoffI : Off s.heap.objs.size news₁ := Off.of fun p hp q => hoff p hp (List.mem_singleton.mpr q)
    generalize hoI : ({ cls := .type "range_iterator", data := .fields #[rawInt (a + ((i + 1 : Nat) : Int) * 1), rawInt ((n : Int) - ((i + 1 : Nat) : Int)), rawInt 1] } : Obj) = oI at heI hIown
    rw [over_T hs] at F₁
    rw [Int.mul_one]
    refine wpAny_mono (turn i t m₁ news₁ s.heap.objs.size oI hh' tk' hin hJ hoffI F₁ (fun p hp => by
      rcases List.mem_cons.mp hp with rfl | hp
      · exact N₁ _ (List.mem_append_left _ hIown)
      · exact N₁ _ (List.mem_append_right _ hp))) (fun _ s₂ h₂ => wpAny_mono h₂ (fun f s₃ p => ?_) fun _ _ e => e) fun _ _ e => e
    have fin : TurnEnd h₀ L s.heap.objs.size oI (fun m' nx => SameT stored m₀ m' ∧ J (i + 1) m' nx) { s with heap := hh', toks := tk' } s₃ → LoopStepU h₀ L [s.heap.objs.size] own (fun m nx => SameT stored m₀ m ∧ J (i + 1) m nx) { s with heap := hh', toks := tk' } .next s₃ := by
      rintro ⟨h', tk, m', nx, e, F', N', hoff', hj'⟩
      refine ⟨rfl, h', tk, m', nx, e, F', fun p hp => ?_, fun p hp q => hoff'.mem p hp (List.mem_singleton.mp q), hj'⟩
      rcases List.mem_append.mp hp with hp | hp
      · have hg := hget p hp
        have h1 := List.mem_singleton.mp (hown p hp)
        obtain ⟨a, o⟩ := p
        dsimp only at h1 hg
        subst h1
        have e9 : o = oI := by
          have := heI.symm.trans hg
          exact (Option.some.inj this).symm
        rw [e9]
        exact N' _ List.mem_cons_self
      · exact N' p (List.mem_cons_of_mem _ hp)
    cases f with
    | ret v => exact .ret p
    | brk => exact .brk p
    | next => exact .next (fin p)
    | cont => exact .cont (fin p)
  · rintro h' tk m' news' F' N' _ ⟨hs, hJ⟩
    rw [over_T hs] at F'
    exact done m' news' h' tk hJ F' N'

theorem forT_pd {α : Type} {G : α → Value → Prop} {as : List α} {its : Array Value} (hi : Pd G as its.toList) (stored : List Str) {l : Addr} {m₀ : Str → Option Value} {news : List (Addr × Obj)} (J : List α → (Str → Option Value) → List (Addr × Obj) → Prop)
    (hh : A.handled = none) (src : h₀.IsList l its ∨ ∃ ol k, ol.cls = .type "list" ∧ ol.data = .seq its k ∧ ∀ pre m nx, J pre m nx → (l, ol) ∈ nx)
    (F : Fr h₀ L s.heap m₀) (N : News h₀ L s.heap news) (hj : J [] m₀ news)
    (turn : ∀ pre a post v u nw I oI h tk, as = pre ++ a :: post → G a v → J pre u nw → Off I nw → Fr h₀ L h (over u m₀ stored) → News h₀ L h ((I, oI) :: nw) →
      wpAny (model prog w) A (assign target env v) (fun _ s₂ => wpAny (model prog w) A (execs body env) (TurnPost h₀ L I oI (fun m' nx => SameT stored m₀ m' ∧ J (pre ++ [a]) m' nx) { s with heap := h, toks := tk } Q) E s₂) E { s with heap := h, toks := tk })
    (done : ∀ u nw h tk, J as u nw → Fr h₀ L h (over u m₀ stored) → News h₀ L h nw → Q .next { s with heap := h, toks := tk }) :
    wpAny (model prog w) A (pyIter (.ref l)) (fun it s₂ => LoopAtT prog w A h₀ L env target body Q E it s₂) E s := by
  have hl := pd_len hi
  refine forT_list stored (its := its) (fun i m nx => J (as.take i) m nx) hh (src.imp id fun ⟨ol, k, a, b, c⟩ => ⟨ol, k, a, b, fun i m nx h => c _ m nx h⟩) F N (by simpa using hj) ?_ ?_
  · intro i v u nw I oI h tk hv hJ hoff F₁ N₁
    obtain ⟨a, ha, hF⟩ := pd_at hi i v (by simpa using hv)
    rw [take_next ha]
    exact turn _ a _ v u nw I oI h tk (take_split ha) hF hJ hoff F₁ N₁
  · intro u nw h tk hJ F₁ N₁
    refine done u nw h tk ?_ F₁ N₁
    have e : as.take its.size = as := List.take_of_length_le (by rw [hl]; simp)
    rwa [e] at hJ
end

theorem strs_pd : ∀ {xs : List Str} {vs : List Value}, Pd StrV xs vs → StrsAre vs xs
  | _, _, .nil => .nil
  | _, _, .cons ⟨_, e⟩ h => by rw [e]; exact .cons _ _ (strs_pd h)
theorem pd_strs : ∀ {vs : List Value} {xs : List Str}, StrsAre vs xs → Pd StrV xs vs
  | _, _, .nil => .nil
  | _, _, .cons _ t h => .cons ⟨t, rfl⟩ (pd_strs h)
section
variable {prog : Program} {w : World} {A : Around} {E : Value → Shared → Prop} {s : Shared} {g : Heap} {L D : Addr} {m : Str → Option Value} {its : Array Value} {xs : List Str} {k : Str} {t : Tok} {Q : Value → Shared → Prop}
theorem in_b (hl : g.IsList D its) (F : Fr g L s.heap m) (hi : Pd StrV xs its.toList) (h : Q (.bool (xs.any (· == k))) s) : wpAny (model prog w) A (compareOp .In (.str k t) (.ref D)) Q E s :=
  in_list_strs (vs := its.toList) (by rw [Array.toArray_toList]; exact at_up hl F) (strs_pd hi) h
end

section
variable {h₀ h h' : Heap} {L D : Addr} {m : Str → Option Value} {news : List (Addr × Obj)} {o : Obj}
theorem after_keep (F : Fr h₀ L h m) (N : News h₀ L h news) (k : ∀ b o, h.get? b = some o → h'.get? b = some o) : Fr h₀ L h' m ∧ News h₀ L h' news := ⟨F.keeps k, N.grown k⟩
theorem after_new (F : Fr h₀ L h m) (N : News h₀ L h news) (k : ∀ b o, h.get? b = some o → h'.get? b = some o) (hD : h.get? D = none) (hg : h'.get? D = some o) : Fr h₀ L h' m ∧ News h₀ L h' ((D, o) :: news) ∧ Off D news := by
  refine ⟨F.keeps k, fun p hp => ?_, Off.of fun p hp q => ?_⟩
  · rcases List.mem_cons.mp hp with rfl | hp
    · refine ⟨hg, fun q => ?_, ?_⟩
      · obtain ⟨oL, _, _, hL, _⟩ := F.ns
        have q' : D = L := q
        rw [q'] at hD; rw [hD] at hL; cases hL
      · cases e : h₀.get? D with
        | none => rfl
        | some o' => have := F.keep _ _ e; rw [hD] at this; cases this
    · exact N.grown k p hp
  · have := (N p hp).1
    rw [q, hD] at this; cases this
end
theorem off1 {a z : Str} (h : z ∉ [a]) : z ≠ a := fun e => h (by rw [e]; exact List.mem_cons_self)

section
variable {prog : Program} {w : World} {A : Around} {E : Value → Shared → Prop} {s : Shared} {env : Env} {h₀ : Heap} {L : Addr} {target : Expr} {body : List Stmt} {Q : Flow → Shared → Prop}
/-- over range(a, b), the ledger stays -/
theorem forT_count_s (stored : List Str) {r : Addr} {a b : Int} {t u v : Tok} (n : Nat) {m₀ : Str → Option Value} {news : List (Addr × Obj)} (J : Nat → (Str → Option Value) → Prop)
    (hh : A.handled = none) (hr : IsRange s.heap r a b 1 t u v) (hn : (b - a).toNat = n) (ha : -1000000 ≤ a ∧ a ≤ 1000000) (hb : -1000000 ≤ b ∧ b ≤ 1000000)
    (F : Fr h₀ L s.heap m₀) (N : News h₀ L s.heap news) (hj : J 0 m₀)
    (turn : ∀ (i : Nat) (t : Tok) u I oI h tk, i < n → J i u → Off I news → Fr h₀ L h (over u m₀ stored) → News h₀ L h ((I, oI) :: news) →
      wpAny (model prog w) A (assign target env (.int (a + (i : Int)) t)) (fun _ s₂ => wpAny (model prog w) A (execs body env) (TurnPost h₀ L I oI (fun m' nx => nx = news ∧ SameT stored m₀ m' ∧ J (i + 1) m') { s with heap := h, toks := tk } Q) E s₂) E { s with heap := h, toks := tk })
    (done : ∀ u h tk, J n u → Fr h₀ L h (over u m₀ stored) → News h₀ L h news → Q .next { s with heap := h, toks := tk }) :
    wpAny (model prog w) A (pyIter (.ref r)) (fun it s₂ => LoopAtT prog w A h₀ L env target body Q E it s₂) E s := by
  refine forT_count stored n (fun i m nx => nx = news ∧ J i m) hh hr hn ha hb F N ⟨rfl, hj⟩ ?_ ?_
  · rintro i t u nw I oI h tk hv ⟨rfl, hJ⟩ hoff F₁ N₁
    refine wpAny_mono (turn i t u I oI h tk hv hJ hoff F₁ N₁) (fun _ s₂ h₂ => wpAny_mono h₂ (fun f s₃ h₃ => ?_) fun _ _ e => e) fun _ _ e => e
    have fin : TurnEnd h₀ L I oI (fun m' nx => nx = nw ∧ SameT stored m₀ m' ∧ J (i + 1) m') { s with heap := h, toks := tk } s₃ → TurnEnd h₀ L I oI (fun m' nx => SameT stored m₀ m' ∧ nx = nw ∧ J (i + 1) m') { s with heap := h, toks := tk } s₃ := fun ⟨h', tk, m', nx, e, a, b, c, d1, d2, d3⟩ => ⟨h', tk, m', nx, e, a, b, c, d2, d1, d3⟩
    cases f with
    | ret v => exact h₃
    | brk => exact h₃
    | next => exact fin h₃
    | cont => exact fin h₃
  · rintro u nw h tk ⟨rfl, hJ⟩ F₁ N₁
    exact done u h tk hJ F₁ N₁
theorem forT_pd_s {α : Type} {G : α → Value → Prop} {as : List α} {its : Array Value} (hi : Pd G as its.toList) (stored : List Str) {l : Addr} {m₀ : Str → Option Value} {news : List (Addr × Obj)} (J : List α → (Str → Option Value) → Prop)
    (hh : A.handled = none) (src : h₀.IsList l its ∨ ∃ ol k, ol.cls = .type "list" ∧ ol.data = .seq its k ∧ (l, ol) ∈ news)
    (F : Fr h₀ L s.heap m₀) (N : News h₀ L s.heap news) (hj : J [] m₀)
    (turn : ∀ pre a post v u I oI h tk, as = pre ++ a :: post → G a v → J pre u → Off I news → Fr h₀ L h (over u m₀ stored) → News h₀ L h ((I, oI) :: news) →
      wpAny (model prog w) A (assign target env v) (fun _ s₂ => wpAny (model prog w) A (execs body env) (TurnPost h₀ L I oI (fun m' nx => nx = news ∧ SameT stored m₀ m' ∧ J (pre ++ [a]) m') { s with heap := h, toks := tk } Q) E s₂) E { s with heap := h, toks := tk })
    (done : ∀ u h tk, J as u → Fr h₀ L h (over u m₀ stored) → News h₀ L h news → Q .next { s with heap := h, toks := tk }) :
    wpAny (model prog w) A (pyIter (.ref l)) (fun it s₂ => LoopAtT prog w A h₀ L env target body Q E it s₂) E s := by
  refine forT_pd hi stored (fun pre m nx => nx = news ∧ J pre m) hh (src.imp id fun ⟨ol, k, a, b, c⟩ => ⟨ol, k, a, b, fun _ _ nx h => h.1 ▸ c⟩) F N ⟨rfl, hj⟩ ?_ ?_
  · rintro pre a post v u nw I oI h tk e hG ⟨rfl, hJ⟩ hoff F₁ N₁
    refine wpAny_mono (turn pre a post v u I oI h tk e hG hJ hoff F₁ N₁) (fun _ s₂ h₂ => wpAny_mono h₂ (fun f s₃ h₃ => ?_) fun _ _ e => e) fun _ _ e => e
    have fin : TurnEnd h₀ L I oI (fun m' nx => nx = nw ∧ SameT stored m₀ m' ∧ J (pre ++ [a]) m') { s with heap := h, toks := tk } s₃ → TurnEnd h₀ L I oI (fun m' nx => SameT stored m₀ m' ∧ nx = nw ∧ J (pre ++ [a]) m') { s with heap := h, toks := tk } s₃ := fun ⟨h', tk, m', nx, e, a, b, c, d1, d2, d3⟩ => ⟨h', tk, m', nx, e, a, b, c, d2, d1, d3⟩
    cases f with
    | ret v => exact h₃
    | brk => exact h₃
    | next => exact fin h₃
    | cont => exact fin h₃
  · rintro u nw h tk ⟨rfl, hJ⟩ F₁ N₁
    exact done u h tk hJ F₁ N₁
end
theorem news_tail {h₀ h : Heap} {L : Addr} {p : Addr × Obj} {news : List (Addr × Obj)} (N : News h₀ L h (p :: news)) : News h₀ L h news := fun q hq => N q (List.mem_cons_of_mem _ hq)
theorem news_head {h₀ h : Heap} {L : Addr} {p : Addr × Obj} {news : List (Addr × Obj)} (N : News h₀ L h (p :: news)) : News h₀ L h [p] := fun q hq => N q (by rw [List.mem_singleton.mp hq]; exact List.mem_cons_self)

section
variable {prog : Program} {w : World} {A : Around} {E : Value → Shared → Prop} {s : Shared} {h₀ : Heap} {L D : Addr} {m : Str → Option Value} {news : List (Addr × Obj)} {vs : List Value} {n : Nat} {k : Int} {j : Nat} {t : Tok} {v : Value} {Q : Value → Shared → Prop}
theorem tail_l {value slice : PySem.Expr} (N : News h₀ L s.heap news) (hm : (D, listOf vs.toArray n) ∈ news) (hx : vs[j]? = some v) (hk : k = (j : Int)) (hj : (j : Int) < 1000000) (h : Q v s)
    (hs : subscripted slice false (.ref D) (.int k t) = operate [.ref D, .int k t] (getItem (.ref D) (.int k t)) := by with_unfolding_all rfl) :
    wpAny (model prog w) A (subscriptTail value slice (.ref D) (.int k t)) Q E s :=
  tail_at (is_l N hm) (by omega) (by omega) (by rw [hk, Int.toNat_natCast]; simpa using hx) h hs
theorem tail_pd {value slice : PySem.Expr} {α : Type} {F : α → Value → Prop} {as : List α} {a : α} (N : News h₀ L s.heap news) (hm : (D, listOf vs.toArray n) ∈ news) (hp : Pd F as vs) (ha : as[j]? = some a) (hk : k = (j : Int)) (hj : (j : Int) < 1000000) (h : ∀ v, F a v → Q v s)
    (hs : subscripted slice false (.ref D) (.int k t) = operate [.ref D, .int k t] (getItem (.ref D) (.int k t)) := by with_unfolding_all rfl) :
    wpAny (model prog w) A (subscriptTail value slice (.ref D) (.int k t)) Q E s := by
  obtain ⟨v, hv, hF⟩ := pd_get hp j a ha
  exact tail_l N hm hv hk hj (h v hF) hs
end

section
variable {prog : Program} {w : World} {A : Around} {E : Value → Shared → Prop} {s : Shared} {h₀ : Heap} {L l : Addr} {m : Str → Option Value} {news : List (Addr × Obj)} {n : Nat} {xs : List Value} {Q : Value → Shared → Prop} {value slice : PySem.Expr} {k : Int} {t : Tok}
theorem pick_to' (xs : List Value) (h : 0 ≤ k) : kms_pick xs none (some k) = xs.take k.toNat := by
  have := pick_to xs k.toNat
  rwa [Int.toNat_of_nonneg h] at this
theorem pick_from' (xs : List Value) (h : 0 ≤ k) : kms_pick xs (some k) none = xs.drop k.toNat := by
  have := pick_from xs k.toNat
  rwa [Int.toNat_of_nonneg h] at this
/-- l[:k] -/
theorem slice_to (F : Fr h₀ L s.heap m) (N : News h₀ L s.heap news) (hl : (l, listOf xs.toArray n) ∈ news) (h0 : 0 ≤ k)
    (h : ∀ D h', Fr h₀ L h' m → News h₀ L h' ((D, listOf (xs.take k.toNat).toArray 0) :: news) → (∀ p ∈ news, p.1 < D) → Q (.ref D) { s with heap := h' })
    (hs : subscripted slice false (.ref l) (.ref s.heap.objs.size) = operate [.ref s.heap.objs.size, .ref l] (getItem (.ref l) (.ref s.heap.objs.size))) (ht : ∀ r, letTemporaryGo value (.ref l) r = pure ()) (hz : xs.length ≤ sizeLine) :
    wpAny (model prog w) A (subscriptTail value slice (.ref l) (.ref s.heap.objs.size)) Q E { s with heap := s.heap.push { cls := .type "slice", data := .fields #[.none, .int k t, .none] } } :=
  slice_l F N hl .none (.int _ _) (fun D h' F' N' l1 => h D h' F' (by rw [← pick_to' xs h0]; exact N') l1) hs ht hz
/-- l[k:] -/
theorem slice_from (F : Fr h₀ L s.heap m) (N : News h₀ L s.heap news) (hl : (l, listOf xs.toArray n) ∈ news) (h0 : 0 ≤ k)
    (h : ∀ D h', Fr h₀ L h' m → News h₀ L h' ((D, listOf (xs.drop k.toNat).toArray 0) :: news) → (∀ p ∈ news, p.1 < D) → Q (.ref D) { s with heap := h' })
    (hs : subscripted slice false (.ref l) (.ref s.heap.objs.size) = operate [.ref s.heap.objs.size, .ref l] (getItem (.ref l) (.ref s.heap.objs.size))) (ht : ∀ r, letTemporaryGo value (.ref l) r = pure ()) (hz : xs.length ≤ sizeLine) :
    wpAny (model prog w) A (subscriptTail value slice (.ref l) (.ref s.heap.objs.size)) Q E { s with heap := s.heap.push { cls := .type "slice", data := .fields #[.int k t, .none, .none] } } :=
  slice_l F N hl (.int _ _) .none (fun D h' F' N' l1 => h D h' F' (by rw [← pick_from' xs h0]; exact N') l1) hs ht hz
end

theorem pd_take {α : Type} {F : α → Value → Prop} : ∀ {as : List α} {vs : List Value}, Pd F as vs → ∀ n, Pd F (as.take n) (vs.take n)
  | _, _, .nil, n => by simp; exact .nil
  | _, _, .cons h t, 0 => by simp; exact .nil
  | _, _, .cons h t, n + 1 => .cons h (pd_take t n)
theorem pd_drop {α : Type} {F : α → Value → Prop} : ∀ {as : List α} {vs : List Value}, Pd F as vs → ∀ n, Pd F (as.drop n) (vs.drop n)
  | _, _, .nil, n => by simp; exact .nil
  | _, _, .cons h t, 0 => .cons h t
  | _, _, .cons h t, n + 1 => pd_drop t n
theorem pd_app {α : Type} {F : α → Value → Prop} : ∀ {as bs : List α} {vs ws : List Value}, Pd F as vs → Pd F bs ws → Pd F (as ++ bs) (vs ++ ws)
  | _, _, _, _, .nil, h => h
  | _, _, _, _, .cons h t, k => .cons h (pd_app t k)
theorem toNat_succ (i : Nat) : ((i : Int) + 1).toNat = i + 1 := by omega
section
variable {prog : Program} {w : World} {A : Around} {E : Value → Shared → Prop} {s : Shared} {env : Env} {h₀ : Heap} {L : Addr} {target : Expr} {body : List Stmt} {Q Q' : Flow → Shared → Prop}
/-- one word behind a loop, however it ends -/
theorem join_loop {v : Value} (Q' : Flow → Shared → Prop) (h : wpAny (model prog w) A (pyIter v) (fun it s₂ => LoopAtT prog w A h₀ L env target body Q' E it s₂) E s) (hq : ∀ f s', Q' f s' → Q f s') :
    wpAny (model prog w) A (pyIter v) (fun it s₂ => LoopAtT prog w A h₀ L env target body Q E it s₂) E s := by
  refine wpAny_mono h (fun it s₂ h₂ => ?_) fun _ _ e => e
  obtain ⟨I, fp, wr, n, P, St, m, news, J, e, W, hLf, hwr, hnw, hst, F, N, h0, step, hQ⟩ := h₂
  refine ⟨I, fp, wr, n, P, St, m, news, J, e, W, hLf, hwr, hnw, hst, F, N, h0, ?_, fun h' tk m' news' a b c d => hq _ _ (hQ h' tk m' news' a b c d)⟩
  intro i v m₁ news₁ s₁ own a b c d e f g k st F₁ N₁
  refine wpAny_mono (step i v m₁ news₁ s₁ own a b c d e f g k st F₁ N₁) (fun _ s₃ h₃ => wpAny_mono h₃ (fun fl s₄ h₄ => ?_) fun _ _ e => e) fun _ _ e => e
  cases fl with
  | ret v => exact hq _ _ h₄
  | brk => exact hq _ _ h₄
  | next => exact h₄
  | cont => exact h₄
end

section
variable {prog : Program} {w : World} {A : Around} {E : Value → Shared → Prop} {s : Shared} {env : Env} {h₀ : Heap} {L : Addr} {target : Expr} {body : List Stmt} {Q : Flow → Shared → Prop}
/-- a for over a list that turns one other list of the ledger -/
theorem forT_pd_l {α : Type} {G : α → Value → Prop} {as : List α} {its : Array Value} (hi : Pd G as its.toList) (stored : List Str) (lead : List (Addr × Obj)) {rest : List (Addr × Obj)} {lt : Addr} {zs₀ : List Value} {c₀ : Nat} {l : Addr} {m₀ : Str → Option Value} (J : List α → (Str → Option Value) → List Value → Prop)
    (hh : A.handled = none) (src : h₀.IsList l its ∨ ∃ ol k, ol.cls = .type "list" ∧ ol.data = .seq its k ∧ ((l, ol) ∈ lead ∨ (l, ol) ∈ rest))
    (F : Fr h₀ L s.heap m₀) (N : News h₀ L s.heap (lead ++ (lt, W.listOf zs₀.toArray c₀) :: rest)) (hj : J [] m₀ zs₀)
    (turn : ∀ pre a post v u zs c I oI h tk, as = pre ++ a :: post → G a v → J pre u zs → Off I (lead ++ (lt, W.listOf zs.toArray c) :: rest) → Fr h₀ L h (over u m₀ stored) → News h₀ L h ((I, oI) :: (lead ++ (lt, W.listOf zs.toArray c) :: rest)) →
      wpAny (model prog w) A (assign target env v) (fun _ s₂ => wpAny (model prog w) A (execs body env) (TurnPost h₀ L I oI (fun m' nx => SameT stored m₀ m' ∧ ∃ zs' c', nx = lead ++ (lt, W.listOf zs'.toArray c') :: rest ∧ J (pre ++ [a]) m' zs') { s with heap := h, toks := tk } Q) E s₂) E { s with heap := h, toks := tk })
    (done : ∀ u zs c h tk, J as u zs → Fr h₀ L h (over u m₀ stored) → News h₀ L h (lead ++ (lt, W.listOf zs.toArray c) :: rest) → Q .next { s with heap := h, toks := tk }) :
    wpAny (model prog w) A (pyIter (.ref l)) (fun it s₂ => LoopAtT prog w A h₀ L env target body Q E it s₂) E s := by
  refine forT_pd hi stored (fun pre m nx => ∃ zs c, nx = lead ++ (lt, W.listOf zs.toArray c) :: rest ∧ J pre m zs) hh (src.imp id fun ⟨ol, k, a, b, c⟩ => ⟨ol, k, a, b, fun _ _ nx ⟨zs, c1, e, _⟩ => by
    rw [e]
    exact c.elim (fun q => List.mem_append_left _ q) fun q => List.mem_append_right _ (List.mem_cons_of_mem _ q)⟩) F N ⟨_, _, rfl, hj⟩ ?_ ?_
  · rintro pre a post v u nw I oI h tk e hG ⟨zs, c, rfl, hJ⟩ hoff F₁ N₁
    exact turn pre a post v u zs c I oI h tk e hG hJ hoff F₁ N₁
  · rintro u nw h tk ⟨zs, c, rfl, hJ⟩ F₁ N₁
    exact done u zs c h tk hJ F₁ N₁
end
theorem tw_all {l : List Nat} {c : Nat} (h : c ∉ l) : l.takeWhile (· != c) = l := by
  induction l with
  | nil => rfl
  | cons a r ih =>
    simp only [List.mem_cons, not_or] at h
    rw [List.takeWhile_cons_of_pos (by simpa using Ne.symm h.1), ih h.2]
theorem tw_stop {l r : List Nat} {c : Nat} (h : c ∉ l) : (l ++ c :: r).takeWhile (· != c) = l := by
  induction l with
  | nil => simp
  | cons a t ih =>
    simp only [List.mem_cons, not_or] at h
    rw [List.cons_append, List.takeWhile_cons_of_pos (by simpa using Ne.symm h.1), ih h.2]
theorem inr_mem {p : Addr × Obj} {l : List (Addr × Obj)} (h : p ∈ l) : p ∈ l := h

section
variable {prog : Program} {w : World} {A : Around} {E : Value → Shared → Prop} {s : Shared} {env : Env} {h₀ : Heap} {L : Addr} {target : Expr} {body : List Stmt} {Q : Flow → Shared → Prop}
/-- how a loop that breaks may end: one word for both ends -/
def QJ (h₀ : Heap) (L : Addr) (stored : List Str) (m₀ : Str → Option Value) (s : Shared) (P : (Str → Option Value) → List (Addr × Obj) → Prop) (Q : Flow → Shared → Prop) (f : Flow) (s' : Shared) : Prop := match f with
  | .next => ∃ h tk m' nx, s' = { s with heap := h, toks := tk } ∧ Fr h₀ L h m' ∧ News h₀ L h nx ∧ SameT stored m₀ m' ∧ P m' nx
  | f => Q f s'
/-- a for over a list that turns one other list of the ledger, and may break -/
theorem forT_pd_lj {α : Type} {G : α → Value → Prop} {as : List α} {its : Array Value} (hi : Pd G as its.toList) (stored : List Str) (lead : List (Addr × Obj)) {rest : List (Addr × Obj)} {lt : Addr} {zs₀ : List Value} {c₀ : Nat} {l : Addr} {m₀ : Str → Option Value} (J : List α → (Str → Option Value) → List Value → Prop) (P : (Str → Option Value) → List Value → Prop)
    (hh : A.handled = none) (src : h₀.IsList l its ∨ ∃ ol k, ol.cls = .type "list" ∧ ol.data = .seq its k ∧ ((l, ol) ∈ lead ∨ (l, ol) ∈ rest))
    (F : Fr h₀ L s.heap m₀) (N : News h₀ L s.heap (lead ++ (lt, W.listOf zs₀.toArray c₀) :: rest)) (hj : J [] m₀ zs₀)
    (turn : ∀ pre a post v u zs c I oI h tk, as = pre ++ a :: post → G a v → J pre u zs → Off I (lead ++ (lt, W.listOf zs.toArray c) :: rest) → Fr h₀ L h (over u m₀ stored) → News h₀ L h ((I, oI) :: (lead ++ (lt, W.listOf zs.toArray c) :: rest)) →
      wpAny (model prog w) A (assign target env v) (fun _ s₂ => wpAny (model prog w) A (execs body env) (TurnPost h₀ L I oI (fun m' nx => SameT stored m₀ m' ∧ ∃ zs' c', nx = lead ++ (lt, W.listOf zs'.toArray c') :: rest ∧ J (pre ++ [a]) m' zs') { s with heap := h, toks := tk }
        (QJ h₀ L stored m₀ s (fun m' nx => ∃ zs' c', nx = lead ++ (lt, W.listOf zs'.toArray c') :: rest ∧ P m' zs') Q)) E s₂) E { s with heap := h, toks := tk })
    (done : ∀ u zs, J as u zs → SameT stored m₀ u → P u zs)
    (cont : ∀ u zs c h tk, P u zs → Fr h₀ L h (over u m₀ stored) → News h₀ L h (lead ++ (lt, W.listOf zs.toArray c) :: rest) → Q .next { s with heap := h, toks := tk }) :
    wpAny (model prog w) A (pyIter (.ref l)) (fun it s₂ => LoopAtT prog w A h₀ L env target body Q E it s₂) E s := by
  refine join_loop (QJ h₀ L stored m₀ s (fun m' nx => ∃ zs' c', nx = lead ++ (lt, W.listOf zs'.toArray c') :: rest ∧ P m' zs') Q) ?_ ?_
  · refine forT_pd hi stored (fun pre m nx => SameT stored m₀ m ∧ ∃ zs c, nx = lead ++ (lt, W.listOf zs.toArray c) :: rest ∧ J pre m zs) hh (src.imp id fun ⟨ol, k, a, b, c⟩ => ⟨ol, k, a, b, fun _ _ nx ⟨_, zs, c1, e, _⟩ => by
      rw [e]
      exact c.elim (fun q => List.mem_append_left _ q) fun q => List.mem_append_right _ (List.mem_cons_of_mem _ q)⟩) F N ⟨fun _ _ => rfl, _, _, rfl, hj⟩ ?_ ?_
    · rintro pre a post v u nw I oI h tk e hG ⟨hs, zs, c, rfl, hJ⟩ hoff F₁ N₁
      refine wpAny_mono (turn pre a post v u zs c I oI h tk e hG hJ hoff F₁ N₁) (fun _ s₂ h₂ => wpAny_mono h₂ (fun f s₃ h₃ => ?_) fun _ _ e => e) fun _ _ e => e
      have fin : TurnEnd h₀ L I oI (fun m' nx => SameT stored m₀ m' ∧ ∃ zs' c', nx = lead ++ (lt, W.listOf zs'.toArray c') :: rest ∧ J (pre ++ [a]) m' zs') { s with heap := h, toks := tk } s₃ → TurnEnd h₀ L I oI (fun m' nx => SameT stored m₀ m' ∧ SameT stored m₀ m' ∧ ∃ zs' c', nx = lead ++ (lt, W.listOf zs'.toArray c') :: rest ∧ J (pre ++ [a]) m' zs') { s with heap := h, toks := tk } s₃ :=
        fun ⟨h', tk, m', nx, e, a, b, c, d1, d2⟩ => ⟨h', tk, m', nx, e, a, b, c, d1, d1, d2⟩
      cases f with
      | ret v => exact h₃
      | brk => exact h₃
      | next => exact fin h₃
      | cont => exact fin h₃
    · rintro u nw h tk ⟨hs, zs, c, rfl, hJ⟩ F₁ N₁
      exact ⟨h, tk, u, _, rfl, by rw [over_T hs]; exact F₁, N₁, hs, zs, c, rfl, done u zs hJ hs⟩
  · intro f s' hq
    cases f with
    | next =>
      obtain ⟨h, tk, m', nx, rfl, F₁, N₁, hs, zs, c, rfl, hP⟩ := hq
      rw [over_T hs] at F₁
      exact cont m' zs c h tk hP F₁ N₁
    | ret v => exact hq
    | brk => exact hq
    | cont => exact hq
end
end Mine
end
section
namespace Mine
/-- the name's part ahead of its first slash, in small letters -/
def token (name : Str) : Str := Txt.lower (((Txt.split name (Str.ofString "/"))[0]?).getD Str.empty)
theorem token_of {name y : Str} (e : (Txt.split name (Str.ofString "/"))[0]? = some y) : token name = Txt.lower y := by unfold token; rw [e]; rfl
def fitsOne (name a : Str) : Bool := a != Str.ofString "*" && !(Builtin.Str.occurrences (token name) (Txt.lower a) 0 (token name).length 1).isEmpty

/-- p lies in r -/
def Lies (p r : List Nat) : Prop := ∃ i, i + p.length ≤ r.length ∧ (r.drop i).take p.length = p
theorem occ_lies (x y : Str) : (!(Builtin.Str.occurrences x y 0 x.length 1).isEmpty) = true ↔ Lies y.cps.toList x.cps.toList := by
  rw [StrLaws.found_iff]
  unfold Lies
  constructor
  · rintro ⟨i, h1, h2⟩
    rw [StrLaws.subAt_eq, beq_iff_eq] at h2
    exact ⟨i, h1, h2⟩
  · rintro ⟨i, h1, h2⟩
    exact ⟨i, h1, by rw [StrLaws.subAt_eq, beq_iff_eq]; exact h2⟩
theorem slash_is : Str.ofString "/" = ⟨#[47]⟩ := by decide +kernel
theorem star_is : Str.ofString "*" = ⟨#[42]⟩ := by decide +kernel

theorem takeWhile_at {l : List Nat} {c i : Nat} (h : l[i]? = some c) (hn : ∀ k, k < i → l[k]? ≠ some c) : l.takeWhile (· != c) = l.take i := by
  induction l generalizing i with
  | nil => simp at h
  | cons a r ih =>
    cases i with
    | zero =>
      simp at h; subst h
      simp
    | succ i =>
      have ha : a ≠ c := fun e => hn 0 (by omega) (by simp [e])
      rw [List.takeWhile_cons_of_pos (by simpa using ha), List.take_succ_cons]
      rw [ih (by simpa using h) fun k hk => by have := hn (k + 1) (by omega); simpa using this]
theorem takeWhile_none {l : List Nat} {c : Nat} (hn : c ∉ l) : l.takeWhile (· != c) = l := by
  induction l with
  | nil => rfl
  | cons a r ih =>
    simp only [List.mem_cons, not_or] at hn
    rw [List.takeWhile_cons_of_pos (by simpa using Ne.symm hn.1), ih hn.2]

theorem split_head (x : Str) : (Txt.split x (Str.ofString "/"))[0]? = some ⟨(x.cps.toList.takeWhile (· != 47)).toArray⟩ := by
  rw [slash_is]
  have whole : 47 ∉ x.cps.toList → some x = some (⟨(x.cps.toList.takeWhile (· != 47)).toArray⟩ : Str) := fun h => by
    rw [takeWhile_none h]
  have hk : ¬ (Builtin.Str.strKind x < Builtin.Str.strKind ⟨#[47]⟩) := by
    have h1 : Builtin.Str.strKind ⟨#[47]⟩ = 1 := by decide +kernel
    rw [h1]
    unfold Builtin.Str.strKind
    split
    · omega
    · split <;> omega
  unfold Txt.split
  by_cases hl : x.length < 1
  · have : x.cps.toList = [] := by
      have h : x.cps.size = 0 := by unfold Str.length at hl; omega
      apply List.eq_nil_of_length_eq_zero; simpa using h
    rw [if_pos (by simp only [Bool.or_eq_true, decide_eq_true_eq]; left; exact hl)]
    simpa using whole (by rw [this]; simp)
  · rw [if_neg (by
      simp only [Bool.or_eq_true, decide_eq_true_eq]
      rintro (h | h)
      · exact hl h
      · exact hk h)]
    have hat : ∀ i, StrLaws.At x ⟨#[47]⟩ x.length i ↔ x.cps.toList[i]? = some 47 := fun i => StrLaws.subAt_one x 47 i
    rcases StrLaws.occ_head x ⟨#[47]⟩ (x.length + 1) (by omega) with ⟨h0, hn⟩ | ⟨i, r, h0, ha, hn⟩
    · rw [if_pos (by rw [h0]; rfl)]
      refine whole fun hm => ?_
      obtain ⟨i, hi⟩ := List.mem_iff_getElem?.mp hm
      exact hn i ((hat i).mpr hi)
    · rw [if_neg (by rw [h0]; simp), h0, StrLaws.partsBetween_eq]
      show some (Builtin.Str.strSub x 0 i) = _
      refine congrArg some (Str.ext' ?_)
      have h1 := StrLaws.strSub_toList x 0 i
      rw [takeWhile_at ((hat i).mp ha) fun k hk q => hn k hk ((hat k).mpr q)]
      have h2 : (Builtin.Str.strSub x 0 i).cps.toList = x.cps.toList.take i := by rw [h1]; simp
      rw [← h2]

theorem placed_map (x : Str) (f : Nat → Nat → List Nat) (g : Nat → Nat) (h : ∀ i c, x.cps.toList[i]? = some c → f i c = [g c]) : (placed x f).toList = x.cps.toList.map g := by
  unfold placed
  have e : x.cps.mapIdx (fun i c => (f i c).toArray) = x.cps.map fun c => #[g c] := by
    apply Array.ext
    · simp
    · intro i h1 h2
      simp only [Array.getElem_mapIdx, Array.getElem_map]
      have hi : i < x.cps.size := by simpa using h1
      rw [h i x.cps[i] (by simp [hi])]
  rw [e]
  have : ∀ l : List Nat, ((l.map fun c => #[g c]).toArray.flatten).toList = l.map g := by
    intro l
    induction l with
    | nil => rfl
    | cons a r ih => simp at ih ⊢; exact ih
  have h3 := this x.cps.toList
  rw [← h3]
  simp

/-- a letter whose small form is one sign -/
theorem lower_map (x : Str) (g : Nat → Nat) (h : ∀ c ∈ x.cps.toList, c ≠ 0x3A3 ∧ Unicode.lowerOf c = [g c]) : (Txt.lower x).cps.toList = x.cps.toList.map g := by
  refine placed_map x _ g fun i c hc => ?_
  unfold Unicode.lowerAt
  have h1 : x.cps[i]? = some c := by simpa using hc
  rw [h1]
  obtain ⟨h2, h3⟩ := h c (List.mem_of_getElem? hc)
  have : (c == 0x3A3) = false := by simpa using h2
  simp [this, h3]

theorem token_cps (name : Str) (g : Nat → Nat) (h : ∀ c ∈ name.cps.toList, c ≠ 0x3A3 ∧ Unicode.lowerOf c = [g c]) : (token name).cps.toList = (name.cps.toList.takeWhile (· != 47)).map g := by
  rw [token_of (split_head name)]
  exact lower_map ⟨_⟩ g fun c hc => h c ((List.takeWhile_sublist _).subset (by simpa using hc))

theorem fits_iff (name a : Str) (g : Nat → Nat) (hn : ∀ c ∈ name.cps.toList, c ≠ 0x3A3 ∧ Unicode.lowerOf c = [g c]) (ha : ∀ c ∈ a.cps.toList, c ≠ 0x3A3 ∧ Unicode.lowerOf c = [g c]) :
    fitsOne name a = true ↔ a.cps.toList ≠ [42] ∧ Lies (a.cps.toList.map g) ((name.cps.toList.takeWhile (· != 47)).map g) := by
  unfold fitsOne
  rw [Bool.and_eq_true, occ_lies, token_cps name g hn, lower_map a g ha]
  refine and_congr_left fun _ => ?_
  rw [star_is, bne_iff_ne]
  refine not_congr ⟨fun e => by rw [e], fun e => Str.ext' (by show a.cps = #[42]; rw [← Array.toArray_toList (xs := a.cps), e])⟩
theorem sign_eq (a b : Nat) : (({ cps := #[a] } : Str) == { cps := #[b] }) = (a == b) := by
  by_cases h : a = b
  · simp [h]
  · have h1 : ({ cps := #[a] } : Str) ≠ { cps := #[b] } := fun e => h (by injection e with e; simpa using e)
    rw [beq_eq_false_iff_ne.mpr h1, beq_eq_false_iff_ne.mpr h]
theorem sign_slash (a : Nat) : (({ cps := #[a] } : Str) == Str.ofString "/") = (a == 47) := by rw [slash_is]; exact sign_eq a 47
end Mine
end
section
namespace Mine
def alph : List Nat := [97, 98, 65, 66, 42, 47, 32, 45]
def g8 (c : Nat) : Nat := if c = 65 then 97 else if c = 66 then 98 else c
end Mine
local macro_rules | `(tactic| walk_at "eval ListComp") => `(tactic| (k_here; refine Mine.stop ?_))
local macro_rules | `(tactic| walk_at "SrcS") => `(tactic| (k_here; refine Mine.stop ?_))
local macro_rules | `(tactic| walk_at "CompEnd") => `(tactic| (refine Mine.stop ?_))
set_option maxRecDepth 100000 in
set_option maxHeartbeats 8000000 in
theorem Mine.small04 {w : World} {p : Program} {loose : List Str} {mean : ExcName → Option Value} {mg mb : Str → Option Value} {base h₀ : Heap} {L : Addr} {m : Str → Option Value} {env : Env} {s : Shared} {Q : Value → Shared → Prop} {E : Value → Shared → Prop}
  (hf : env.frame = some L) (hke : env.scope.kind = .function) (B : Below callerA base [] h₀) (F : Fr h₀ L s.heap m) (X : (Mine.hd04.heap_39 w.params).In h₀) (T : Top p loose mean mg mb h₀)
  {x : Str} {tn : Tok} (hx : ∀ c ∈ x.cps.toList, c ∈ Mine.alph) (hlen : x.length ≤ 1000)
  (hpost : ∀ h' tk D ys c, (∀ b o, s.heap.get? b = some o → h'.get? b = some o) → s.heap.get? D = none → h'.get? D = some (W.listOf (List.toArray ys) c) → Mine.Pd Mine.CharV (x.cps.toList.map Mine.g8) ys → Q (.ref D) { s with heap := h', toks := tk }) :
  wpAny (model PySem.Challenge.rw_kn0091_04.row.prog w) (callerA.deeper env) (call (.ref 68) [.str x tn] []) Q E s := by
  revert X; k_fill; intro X
  refine wpAny_call (Mine.code_base (K := Mine.hd04.heap_39 w.params) B F X T rfl hf hke (by k_is) (by k_is) (by k_room) (BindsTo.of_eq rfl) (locs rfl) ?_ rfl rfl rfl (by decide))
  intro L' h₁ F' N' B' X' T'
  dsimp only
  clear F B X T
  repeat' (first | (k_unfold; (try dsimp only)) | walk1 | (dsimp only; walk1) | fail "no step")
  refine Mine.unstop ?_
  k_dflt (refine Mine.ListComp_S (_F₀ := by k_asm) (by with_unfolding_all rfl) (by decide) (by rfl) (by decide) (by rfl) ?_)
  repeat' (first | (k_unfold; (try dsimp only)) | walk1 | (dsimp only; walk1) | fail "no step")
  refine Mine.unstop (Mine.SrcS.intro rfl (by k_asm) (by k_asm) (by rw [PySem.sizeLine_eq]; omega) ?_)
  intro g
  refine Mine.comp_signs Mine.CharV Mine.g8 ?_ ?_
  · intro c t I oI C oC D ys m₂ h tk E' hc hyl hC hx' F N off0 ne
    have off := off0
    simp only [LCg.Off3, and_true] at off
    have hc' := hx c hc
    simp only [Mine.alph, List.mem_cons, List.not_mem_nil, or_false] at hc'
    rcases hc' with rfl | rfl | rfl | rfl | rfl | rfl | rfl | rfl
    all_goals (repeat' (first | (k_unfold; (try dsimp only)) | walk1 | (dsimp only; walk1) | fail "no step"))
    all_goals (refine Mine.unstop (Mine.cend [_] (by assumption) (by assumption) off0 trivial ?_))
    all_goals (first | exact ⟨rfl, _, rfl⟩ | exact ⟨rfl, _, congrArg (fun z => Value.str z _) (by decide +kernel)⟩)
  · intro ys hy
    repeat' (first | (k_unfold; (try dsimp only)) | walk1 | (dsimp only; walk1) | fail "no step")
    rename Fr _ _ _ _ => F8
    rename News _ _ _ _ => N8
    have hD := N8 _ (List.mem_cons_self)
    exact Mine.LeaveB.intro F8 (hpost _ _ _ ys _ F8.keep hD.2.2 hD.1 hy)
end
section
namespace Mine
def liesB (p r : List Nat) : Bool := (List.range (r.length + 1 - p.length)).any fun i => ((List.range p.length).filter fun k => r[i + k]? != p[k]?) == []
theorem one_ne (a b : Nat) : (some a != some b) = (({ cps := #[a] } : Str) != { cps := #[b] }) := by
  by_cases h : a = b
  · simp [h]
  · have h1 : ({ cps := #[a] } : Str) ≠ { cps := #[b] } := fun e => h (by injection e with e; simpa using e)
    have h2 : some a ≠ some b := fun e => h (Option.some.inj e)
    rw [bne_iff_ne.mpr h1, bne_iff_ne.mpr h2]
theorem ne_at {rs ps : List Nat} {i k a b : Nat} (e1 : rs[i]? = some a) (e2 : ps[k]? = some b) : (rs[i]? != ps[k]?) = (({ cps := #[a] } : Str) != { cps := #[b] }) := by rw [e1, e2]; exact one_ne a b
end Mine
local macro_rules | `(tactic| walk_at "pyIter ref") => `(tactic| (k_here; refine Mine.stop ?_))
local macro_rules | `(tactic| walk_at "call builtin:len") => `(tactic| (k_here; (with_reducible show wpAny _ _ (call (Value.builtin "len") [Value.ref _]) _ _ _); k_dflt (refine Mine.len_b (by assumption) (by k_asm) (by rw [PySem.sizeLine_eq]; omega) ?_)))
local macro_rules | `(tactic| walk_at "subscriptTail") => `(tactic| (k_here; (with_reducible show wpAny _ _ (subscriptTail _ _ (Value.ref _) (Value.int _ _)) _ _ _); k_dflt (refine Mine.tail_nat (by assumption) (by k_asm) (by assumption) (by omega) (by omega) ?_)))
local macro_rules | `(tactic| walk_at "CompEnd") => `(tactic| (refine Mine.stop ?_))
local macro_rules | `(tactic| walk_at "CompSrcT") => `(tactic| (k_here; refine Mine.stop ?_))
local macro_rules | `(tactic| walk_at "eval ListComp") => `(tactic| (k_here; lct_look; k_dflt (refine LCt.ListComp_T (F₀ := by k_asm) (by with_unfolding_all rfl) (by decide) (by rfl) (by decide) (by rfl) ?_)))
local macro_rules | `(tactic| walk_at "exec For Name Call cons nil") => `(tactic| (k_here; k_dflt (refine Mine.For_T (by k_asm) (by intro _ _; rfl) ?_)))
local macro_rules | `(tactic| walk_at "exec For Name Name cons nil") => `(tactic| (k_here; k_dflt (refine Mine.For_T (by k_asm) (by intro _ _; rfl) ?_)))
local macro_rules | `(tactic| walk_at "exec For Name Attribute cons nil") => `(tactic| (k_here; k_dflt (refine Mine.For_T (by k_asm) (by intro _ _; rfl) ?_)))
set_option maxRecDepth 100000 in
set_option maxHeartbeats 8000000 in
theorem Mine.stands04 {w : World} {p : Program} {loose : List Str} {mean : ExcName → Option Value} {mg mb : Str → Option Value} {base h₀ : Heap} {L : Addr} {m : Str → Option Value} {env : Env} {s : Shared} {Q : Value → Shared → Prop} {E : Value → Shared → Prop}
  (hf : env.frame = some L) (hke : env.scope.kind = .function) (B : Below callerA base [] h₀) (F : Fr h₀ L s.heap m) (X : (Mine.hd04.heap_39 w.params).In h₀) (T : Top p loose mean mg mb h₀)
  {a b : Addr} {ia ib : Array Value} {ps rs : List Nat} (ha : s.heap.IsList a ia) (hb : s.heap.IsList b ib) (hpa : Mine.Pd Mine.CharV ps ia.toList) (hpb : Mine.Pd Mine.CharV rs ib.toList) (hla : ps.length ≤ 1000) (hlb : rs.length ≤ 1000)
  (hpost : ∀ h' tk, (∀ b o, s.heap.get? b = some o → h'.get? b = some o) → Q (.bool (Mine.liesB ps rs)) { s with heap := h', toks := tk }) :
  wpAny (model PySem.Challenge.rw_kn0091_04.row.prog w) (callerA.deeper env) (call (.ref 73) [.ref a, .ref b] []) Q E s := by
  revert X; k_fill; intro X
  refine wpAny_call (Mine.code_baseC (K := Mine.hd04.heap_39 w.params) B F X T rfl hf hke (by k_is) (by k_is) (by k_room) (BindsTo.of_eq rfl) rfl (by decide +kernel) ?_ rfl rfl rfl)
  intro L' h₁ tk' cells' F' N' Y' B' X' T'
  k_cells Y'
  have hsa : ia.size = ps.length := by have := Mine.pd_len hpa; simpa using this.symm
  have hsb : ib.size = rs.length := by have := Mine.pd_len hpb; simpa using this.symm
  dsimp only
  clear F B X T
  repeat' (first | (k_unfold; (try dsimp only)) | walk1 | (dsimp only; walk1) | fail "no step")
  rename Fr _ _ _ _ => F9
  rename News _ _ _ _ => N9
  refine Mine.unstop (Mine.forT_count [] (rs.length + 1 - ps.length) (fun i u nw => ∃ o3, (∃ vo, o3.data = .cell vo) ∧ (∀ j, j < i → ((List.range ps.length).filter fun k => rs[j + k]? != ps[k]?) ≠ []) ∧ nw = [(L' + 1 + 1 + 1, o3), _, _]) rfl (by assumption) (by omega) (by omega) (by omega) F9 N9 ⟨_, ⟨_, by assumption⟩, fun j hj => absurd hj (Nat.not_lt_zero j), rfl⟩ ?_ ?_)
  · intro i t u nw I oI h tk hi hJ hoff0 F N
    obtain ⟨o3, ⟨vo, ho3⟩, hno, rfl⟩ := hJ
    have hoff := hoff0
    simp only [Mine.Off, and_true] at hoff
    simp only [Mine.over] at F
    repeat' (first | (k_unfold; (try dsimp only)) | walk1 | (dsimp only; walk1) | fail "no step")
    refine Mine.unstop (LCt.CompSrcT.range (n := ps.length) rfl (by assumption) (by assumption) (by assumption) (small_one (by omega) (by omega) (by omega) (by omega)) (by rw [rangeSize_nat]; omega) (by rw [PySem.sizeLine_eq]; omega) ?_)
    intro g
    refine Mine.compT_count Mine.IntV (fun k => rs[i + k]? != ps[k]?) (fun k => (k : Int)) ?_ ?_
    · intro k t9 I9 oI9 C9 oC9 D9 ys m₂ h9 tk9 E9 hk hyl hC hx' F9 N9 off0 ne
      have off := off0
      simp only [LCg.Off3, and_true] at off
      have hik : i + k < rs.length := by omega
      obtain ⟨v1, hx1, t1, rfl⟩ := Mine.pd_get hpb (i + k) _ (List.getElem?_eq_getElem hik)
      obtain ⟨v2, hx2, t2, rfl⟩ := Mine.pd_get hpa k _ (List.getElem?_eq_getElem hk)
      rw [Array.getElem?_toList] at hx1 hx2
      repeat' (first | (k_unfold; (try dsimp only)) | walk1 | (dsimp only; walk1) | fail "no step")
      all_goals have e3 := Mine.ne_at (List.getElem?_eq_getElem hik) (List.getElem?_eq_getElem hk)
      · refine Mine.unstop (Mine.cend [] (by assumption) (by assumption) off0 trivial ⟨rfl, by rw [e3]; assumption, t9, by rw [Int.zero_add]⟩)
      · refine Mine.unstop (Mine.cend [] (by assumption) (by assumption) off0 trivial ⟨rfl, ?_⟩)
        rw [e3]; assumption
    · intro ys hy
      have hyI := Mine.ints_pd hy
      have hyl := hyI.length
      repeat' (first | (k_unfold; (try dsimp only)) | walk1 | (dsimp only; walk1) | fail "no step")
      · rename (decide _ = true) => e1
        rename Fr s.heap _ _ _ => F8
        dsimp only [Mine.TurnPost]
        refine Mine.LeaveB.intro F8 ?_
        have e2 : Mine.liesB ps rs = true := List.any_eq_true.mpr ⟨i, List.mem_range.mpr hi, by
          have := of_decide_eq_true e1
          rw [List.map_eq_nil_iff] at this
          rw [this]; rfl⟩
        rw [e2] at hpost
        exact hpost _ _ F8.keep
      · rename (decide _ = false) => e1
        dsimp only [Mine.TurnPost]
        refine Mine.TurnEnd.mk' [_, _] (by assumption) (by assumption) (by exact hoff0) ⟨fun z _ => rfl, _, ⟨_, by assumption⟩, fun j hj => ?_, rfl⟩
        rcases Nat.lt_or_ge j i with q | q
        · exact hno j q
        · obtain rfl : j = i := by omega
          have := of_decide_eq_false e1
          rwa [List.map_eq_nil_iff] at this
  · intro u nw h tk hJ F N
    obtain ⟨o3, ⟨vo, ho3⟩, hno, rfl⟩ := hJ
    simp only [Mine.over] at F
    dsimp only
    repeat' (first | (k_unfold; (try dsimp only)) | walk1 | (dsimp only; walk1) | fail "no step")
    refine Mine.LeaveB.intro F ?_
    have e2 : Mine.liesB ps rs = false := List.any_eq_false.mpr fun i hi q => hno i (List.mem_range.mp hi) (by simpa using q)
    rw [e2] at hpost
    exact hpost _ _ F.keep
end
section
namespace Mine
theorem inst_up {g h : Heap} {L : Addr} {m : Str → Option Value} {x C : Addr} {ox : Obj} {od : Option Obj} (I : InstAt g x ox C od) (F : Fr g L h m) : InstAt h x ox C od :=
  ⟨F.keep _ _ I.at_, I.cls, I.no, by
    have := I.dict
    revert this
    cases ox.dict with
    | none => cases od with
      | none => exact id
      | some o => exact id
    | some a => cases od with
      | none => exact id
      | some o => exact fun e => F.keep _ _ e⟩
/-- an Entry's own dict, as __init__ leaves it -/
abbrev entryDict (h1 h2 h3 h4 : Int) (t1 t2 t3 t4 : Tok) (ua rl dl rr : Value) (n : Nat) : Obj :=
  dictOf [⟨h1, .str (Str.ofString "useragents") t1, ua⟩, ⟨h2, .str (Str.ofString "rulelines") t2, rl⟩, ⟨h3, .str (Str.ofString "delay") t3, dl⟩, ⟨h4, .str (Str.ofString "req_rate") t4, rr⟩] n
end Mine
local macro_rules | `(tactic| k_inst) => `(tactic| first | exact Mine.inst_up (by assumption) (by assumption) | exact Mine.inst_up (Mine.inst_up (by assumption) (by assumption)) (by assumption))
local macro_rules | `(tactic| walk_at "pyIter ref") => `(tactic| (k_here; refine Mine.stop ?_))
local macro_rules | `(tactic| walk_at "call builtin:str.lower") => `(tactic| first
  | ((rename (∀ a, a ∈ _ → Str.length a ≤ _) => hs'); (rename (_[_]? = some _) => hy'); (have hk' := hs' _ (List.mem_of_getElem? hy')); refine SCL.lower (by omega) ?_; intro _)
  | (refine SCL.lower (by omega) ?_; intro _))
set_option maxRecDepth 100000 in
set_option maxHeartbeats 8000000 in
theorem Mine.applies {w : World} {p : Program} {loose : List Str} {mean : ExcName → Option Value} {mg mb : Str → Option Value} {base h₀ : Heap} {L : Addr} {m : Str → Option Value} {env : Env} {s : Shared} {Q : Value → Shared → Prop} {E : Value → Shared → Prop}
  (hf : env.frame = some L) (hke : env.scope.kind = .function) (B : Below callerA base [] h₀) (F : Fr h₀ L s.heap m) (X : (Mine.hd04.heap_39 w.params).In h₀) (T : Top p loose mean mg mb h₀)
  {x d l : Addr} {h1 h2 h3 h4 : Int} {t1 t2 t3 t4 : Tok} {rl dl rr : Value} {n : Nat} {its : Array Value} {xs : List Str} {name : Str} {tn : Tok}
  (I : InstAt s.heap x (instObj 59 d) 59 (some (Mine.entryDict h1 h2 h3 h4 t1 t2 t3 t4 (.ref l) rl dl rr n))) (hl : s.heap.IsList l its) (hv : Mine.Pd Mine.StrV xs its.toList)
  (hlen : ∀ x ∈ xs, x.length ≤ 1000) (hnm : name.length ≤ 1000)
  (hpost : ∀ h' tk, (∀ b o, s.heap.get? b = some o → h'.get? b = some o) → Q (.bool (xs.any (Mine.fitsOne name))) { s with heap := h', toks := tk }) :
  wpAny (model PySem.Challenge.rw_kn0091_04.row.prog w) (callerA.deeper env) (call (.ref 49) [.ref x, .str name tn] []) Q E s := by
  revert X; k_fill; intro X
  refine wpAny_call (Mine.code_base (K := Mine.hd04.heap_39 w.params) B F X T rfl hf hke (by k_is) (by k_is) (by k_room) (BindsTo.of_eq rfl) (locs rfl) ?_ rfl rfl rfl (by decide))
  intro L' h₁ F' N' B' X' T'
  dsimp only
  clear F B X T
  repeat' (first | (k_unfold; (try dsimp only)) | walk1 | (dsimp only; walk1) | fail "no step")
  rename Fr _ _ _ _ => F9
  rename News _ _ _ _ => N9
  rename (List.map _ _ = Txt.split _ _) => hlk
  rename (_[_]? = some _) => hy9
  have htok := Mine.token_of (by rw [← hlk]; exact hy9)
  refine Mine.unstop (Mine.iter_list_s [] (its := its) (fun i u => ∀ j b, j < i → xs[j]? = some b → Mine.fitsOne name b = false) rfl (.inl hl) F9 N9 (fun j b hj => absurd hj (Nat.not_lt_zero j)) ?_ ?_)
  · intro i v u I' oI' h tk hv' hJ hoff0 F N
    have hoff := hoff0
    simp only [Mine.Off, and_true] at hoff
    simp only [Mine.over] at F
    obtain ⟨a, ha, t, rfl⟩ := Mine.pd_at hv i v (by simpa using hv')
    have hal := hlen a (List.mem_of_getElem? ha)
    have hnext : Mine.fitsOne name a = false → ∀ j b, j < i + 1 → xs[j]? = some b → Mine.fitsOne name b = false := fun e j b hj hb => by
      rcases Nat.lt_or_ge j i with q | q
      · exact hJ j b q hb
      · obtain rfl : j = i := by omega
        rw [ha] at hb; cases hb; exact e
    (repeat' (first | (k_unfold; (try dsimp only)) | walk1 | (dsimp only; walk1) | fail "no step"))
    · rename ((a != Str.ofString "*") = true) => e1
      rename (List.isEmpty _ = true) => e2
      dsimp only [Mine.TurnPost]
      refine Mine.TurnEnd.mk' [] (by assumption) (by assumption) hoff0 ⟨fun z z1 _ => (if_neg z1).trans (if_neg z1), rfl, hnext ?_⟩
      unfold Mine.fitsOne
      rw [htok, e2]; simp
    · rename ((a != Str.ofString "*") = true) => e1
      rename (List.isEmpty _ = false) => e2
      rename Fr s.heap _ _ _ => F8
      dsimp only [Mine.TurnPost]
      refine Mine.LeaveB.intro F8 ?_
      have e3 : xs.any (Mine.fitsOne name) = true := List.any_eq_true.mpr ⟨a, List.mem_of_getElem? ha, by unfold Mine.fitsOne; rw [htok, e2, e1]; rfl⟩
      rw [e3] at hpost
      exact hpost _ _ F8.keep
    · rename ((a != Str.ofString "*") = false) => e1
      dsimp only [Mine.TurnPost]
      refine Mine.TurnEnd.mk' [] (by assumption) (by assumption) hoff0 ⟨fun z z1 _ => if_neg z1, rfl, hnext ?_⟩
      unfold Mine.fitsOne
      rw [e1]; rfl
  · intro u h tk hJ F N
    simp only [Mine.over] at F
    dsimp only
    repeat' (first | (k_unfold; (try dsimp only)) | walk1 | (dsimp only; walk1) | fail "no step")
    refine Mine.LeaveB.intro F ?_
    have e3 : xs.any (Mine.fitsOne name) = false := List.any_eq_false.mpr fun a ha q => by
      obtain ⟨j, hj⟩ := List.mem_iff_getElem?.mp ha
      have hjl : j < xs.length := by
        rcases Nat.lt_or_ge j xs.length with q | q
        · exact q
        · rw [List.getElem?_eq_none q] at hj; cases hj
      have := hJ j a (by have := Mine.pd_len hv; simp at this; omega) hj
      rw [this] at q; cases q
    rw [e3] at hpost
    exact hpost _ _ F.keep
local macro_rules | `(tactic| walk_at "compareOp In str ref") => `(tactic| (k_here; k_dflt (refine Mine.in_b (by assumption) (by k_asm) (by assumption) ?_)))
set_option maxRecDepth 100000 in
set_option maxHeartbeats 8000000 in
theorem Mine.appliesNone {w : World} {p : Program} {loose : List Str} {mean : ExcName → Option Value} {mg mb : Str → Option Value} {base h₀ : Heap} {L : Addr} {m : Str → Option Value} {env : Env} {s : Shared} {Q : Value → Shared → Prop} {E : Value → Shared → Prop}
  (hf : env.frame = some L) (hke : env.scope.kind = .function) (B : Below callerA base [] h₀) (F : Fr h₀ L s.heap m) (X : (Mine.hd04.heap_39 w.params).In h₀) (T : Top p loose mean mg mb h₀)
  {x d l : Addr} {h1 h2 h3 h4 : Int} {t1 t2 t3 t4 : Tok} {rl dl rr : Value} {n : Nat} {its : Array Value} {xs : List Str}
  (I : InstAt s.heap x (instObj 59 d) 59 (some (Mine.entryDict h1 h2 h3 h4 t1 t2 t3 t4 (.ref l) rl dl rr n))) (hl : s.heap.IsList l its) (hv : Mine.Pd Mine.StrV xs its.toList)
  (hpost : ∀ h' tk, (∀ b o, s.heap.get? b = some o → h'.get? b = some o) → Q (.bool (xs.any (· == Str.ofString "*"))) { s with heap := h', toks := tk }) :
  wpAny (model PySem.Challenge.rw_kn0091_04.row.prog w) (callerA.deeper env) (call (.ref 49) [.ref x, .none] []) Q E s := by
  revert X; k_fill; intro X
  refine wpAny_call (Mine.code_base (K := Mine.hd04.heap_39 w.params) B F X T rfl hf hke (by k_is) (by k_is) (by k_room) (BindsTo.of_eq rfl) (locs rfl) ?_ rfl rfl rfl (by decide))
  intro L' h₁ F' N' B' X' T'
  dsimp only
  clear F B X T
  repeat' (first | (k_unfold; (try dsimp only)) | walk1 | (dsimp only; walk1) | fail "no step")
  rename Fr _ _ _ _ => F9
  exact Mine.LeaveB.intro F9 (hpost _ _ F9.keep)
end
section
namespace Mine
def fitB (tk : List Nat) (a : Str) : Bool := a != Str.ofString "*" && liesB (a.cps.toList.map g8) tk
theorem liesB_iff (p r : List Nat) : liesB p r = true ↔ Lies p r := by
  unfold liesB Lies
  rw [List.any_eq_true]
  constructor
  · rintro ⟨i, hi, h⟩
    have hi' := List.mem_range.mp hi
    have hle : i + p.length ≤ r.length := by omega
    refine ⟨i, hle, List.ext_getElem? fun k => ?_⟩
    have h' : ((List.range p.length).filter fun k => r[i + k]? != p[k]?) = [] := by simpa using h
    by_cases hk : k < p.length
    · have := List.filter_eq_nil_iff.mp h' k (List.mem_range.mpr hk)
      have e : r[i + k]? = p[k]? := by simpa using this
      rw [List.getElem?_take_of_lt hk, List.getElem?_drop, e]
    · rw [List.getElem?_eq_none (by rw [List.length_take]; omega), List.getElem?_eq_none (by omega)]
  · rintro ⟨i, hle, h⟩
    refine ⟨i, List.mem_range.mpr (by omega), ?_⟩
    rw [beq_iff_eq, List.filter_eq_nil_iff]
    intro k hk
    have hk' := List.mem_range.mp hk
    have : r[i + k]? = p[k]? := by
      conv => rhs; rw [← h]
      rw [List.getElem?_take_of_lt hk', List.getElem?_drop]
    simp [this]
theorem alph_low : ∀ c ∈ alph, c ≠ 0x3A3 ∧ Unicode.lowerOf c = [g8 c] := by decide +kernel
theorem alph_slash : ∀ c ∈ alph, (g8 c = 47 ↔ c = 47) := by decide +kernel
theorem tw_map : ∀ (l : List Nat), (∀ c ∈ l, c ∈ alph) → (l.map g8).takeWhile (· != 47) = (l.takeWhile (· != 47)).map g8
  | [], _ => rfl
  | a :: r, h => by
    have ih := tw_map r fun c hc => h c (List.mem_cons_of_mem _ hc)
    have ha := alph_slash a (h a List.mem_cons_self)
    by_cases e : a = 47
    · rw [List.map_cons, List.takeWhile_cons_of_neg (by rw [ha.mpr e]; decide), List.takeWhile_cons_of_neg (by rw [e]; decide)]; rfl
    · rw [List.map_cons, List.takeWhile_cons_of_pos (by simpa using fun q => e (ha.mp q)), List.takeWhile_cons_of_pos (by simpa using e), List.map_cons, ih]
theorem fits_eq {asked a : Str} (hn : ∀ c ∈ asked.cps.toList, c ∈ alph) (ha : ∀ c ∈ a.cps.toList, c ∈ alph) :
    fitsOne asked a = fitB ((asked.cps.toList.map g8).takeWhile (· != 47)) a := by
  rw [Bool.eq_iff_iff, fits_iff asked a g8 (fun c hc => alph_low c (hn c hc)) (fun c hc => alph_low c (ha c hc)), tw_map _ hn]
  unfold fitB
  rw [Bool.and_eq_true, liesB_iff, bne_iff_ne]
  refine and_congr_left fun _ => not_congr ⟨fun e => ?_, fun e => by rw [e, star_is]⟩
  rw [star_is]
  exact Str.ext' (by show a.cps = #[42]; rw [← Array.toArray_toList (xs := a.cps), e])
theorem any_eq {asked : Str} {as : List Str} (hn : ∀ c ∈ asked.cps.toList, c ∈ alph) (ha : ∀ a ∈ as, ∀ c ∈ a.cps.toList, c ∈ alph) :
    as.any (fitsOne asked) = as.any (fitB ((asked.cps.toList.map g8).takeWhile (· != 47))) := by
  induction as with
  | nil => rfl
  | cons a r ih =>
    rw [List.any_cons, List.any_cons, fits_eq hn (ha a List.mem_cons_self), ih fun b hb => ha b (List.mem_cons_of_mem _ hb)]
theorem any_snoc {α : Type} (f : α → Bool) (l : List α) (a : α) : (l ++ [a]).any f = (l.any f || f a) := by simp
end Mine
namespace Mine
theorem alph_ok : ∀ c ∈ alph, c < 0x110000 := by decide +kernel
theorem strs_layAll {ns : List Str} (ho : ∀ a ∈ ns, ∀ c ∈ a.cps.toList, c ∈ alph) : PyData.canLayAll0 (ns.map PyData.str) = true := by
  rw [canLayAll_strs', List.all_eq_true]
  intro a ha
  unfold PyData.strOk
  rw [Array.all_eq_true']
  intro c hc
  simpa using alph_ok c (ho a ha c (by simpa using hc))
theorem strs_depthAll : ∀ ns : List Str, PyData.depthAll (ns.map PyData.str) = 0
  | [] => rfl
  | _ :: r => by simp [PyData.depthAll, PyData.depth, strs_depthAll r]
theorem strs_shaped {ns : List Str} (ho : ∀ a ∈ ns, ∀ c ∈ a.cps.toList, c ∈ alph) : PySem.SeqAt.shaped (.list (ns.map PyData.str)) = true := by
  simp [PySem.SeqAt.shaped, PyData.canLay0, PyData.depth, strs_layAll ho, strs_depthAll]
theorem strs_sameAll : ∀ ns ms : List Str, PySem.Spec.sameAll (ns.map PyData.str) (ms.map PyData.str) = decide (ns = ms)
  | [], [] => by simp [PySem.Spec.sameAll]
  | [], _ :: _ => by simp [PySem.Spec.sameAll]
  | _ :: _, [] => by simp [PySem.Spec.sameAll]
  | a :: r, b :: t => by
    simp only [List.map_cons, PySem.Spec.sameAll, PySem.Spec.same, strs_sameAll r t]
    by_cases h : a = b <;> by_cases h' : r = t <;> simp [h, h']
theorem strs_carried : ∀ {ns : List Str} {vs : List Value}, Pd StrV ns vs → PyProof.Rows.CarriedAll vs (ns.map PyData.str)
  | _, _, .nil => .nil
  | _, _, .cons ⟨t, e⟩ r => by subst e; exact .cons (.str _ t) (strs_carried r)
theorem ne_strs {prog : Program} {w : World} {A : Around} {E : Value → Shared → Prop} {s : Shared} {a b : Addr} {xs ys : List Value} {ns ms : List Str} {Q : Value → Shared → Prop}
    (ha : s.heap.IsList a xs.toArray) (hb : s.heap.IsList b ys.toArray) (hi : Pd StrV ns xs) (hj : Pd StrV ms ys) (ho : ∀ a ∈ ns, ∀ c ∈ a.cps.toList, c ∈ alph) (ho' : ∀ a ∈ ms, ∀ c ∈ a.cps.toList, c ∈ alph) (hu : A.units + 64 < cLine) (h : Q (.bool (!decide (ns = ms))) s) :
    wpAny (model prog w) A (compareOp .NotEq (.ref a) (.ref b)) Q E s :=
  PyProof.Rows.ne_dataH_same (PyProof.Rows.reads_newData ha (strs_carried hi)) (PyProof.Rows.reads_newData hb (strs_carried hj)) (strs_shaped ho) (strs_shaped ho') hu (PySem.SeqAt.noMix_of_shape (.list .str) rfl _ _ (list_map_has fun _ => rfl) (list_map_has fun _ => rfl)) (by simp only [PySem.Spec.same]; rw [strs_sameAll]; exact h)
end Mine
namespace Mine
theorem any_len {α : Type} {p : α → Bool} {l : List α} {n : Nat} (h : (l.filter p).length = n) : l.any p = decide (0 < (n : Int)) := by
  subst h
  rw [Bool.eq_iff_iff, List.any_eq_true, decide_eq_true_iff]
  constructor
  · rintro ⟨a, ha, hp⟩
    have := List.length_pos_of_mem (List.mem_filter.mpr ⟨ha, hp⟩)
    omega
  · intro h
    have h' : 0 < (l.filter p).length := by omega
    obtain ⟨a, ha⟩ := List.exists_mem_of_length_pos h'
    exact ⟨a, List.mem_filter.mp ha⟩
end Mine
end
section
namespace Mine
def bstep (ts : List Str) (x : Int) : List Str := if 7 < Int.fmod x 10 then ts ++ [Str.ofString ""] else ts.dropLast ++ [(ts.getLast?.getD (Str.ofString "")) ++ Txt.item (Str.ofString "abAB*/ -") (Int.fmod x 10)]
abbrev build (pre : List Int) : List Str := List.foldl bstep [Str.ofString ""] pre
theorem bstep_new {ts : List Str} {x : Int} (h : 7 < Int.fmod x 10) : bstep ts x = ts ++ [Str.ofString ""] := if_pos h
theorem bstep_on {ts : List Str} {z : Str} {x : Int} (h : ¬ 7 < Int.fmod x 10) : bstep (ts ++ [z]) x = ts ++ [z ++ Txt.item (Str.ofString "abAB*/ -") (Int.fmod x 10)] := by
  unfold bstep
  rw [if_neg h]; simp
theorem build_snoc {pre : List Int} {x : Int} : build (pre ++ [x]) = bstep (build pre) x := by simp [build, List.foldl_append]
theorem item8 (x : Int) (h : ¬ 7 < Int.fmod x 10) : ∃ c ∈ alph, Txt.item (Str.ofString "abAB*/ -") (Int.fmod x 10) = ⟨#[c]⟩ := by
  have h0 : 0 ≤ Int.fmod x 10 := Int.fmod_nonneg_of_pos x (by decide)
  generalize Int.fmod x 10 = r at h h0
  have : r = 0 ∨ r = 1 ∨ r = 2 ∨ r = 3 ∨ r = 4 ∨ r = 5 ∨ r = 6 ∨ r = 7 := by omega
  rcases this with rfl | rfl | rfl | rfl | rfl | rfl | rfl | rfl
  · exact ⟨97, by decide, by decide +kernel⟩
  · exact ⟨98, by decide, by decide +kernel⟩
  · exact ⟨65, by decide, by decide +kernel⟩
  · exact ⟨66, by decide, by decide +kernel⟩
  · exact ⟨42, by decide, by decide +kernel⟩
  · exact ⟨47, by decide, by decide +kernel⟩
  · exact ⟨32, by decide, by decide +kernel⟩
  · exact ⟨45, by decide, by decide +kernel⟩
def Good8 (n : Nat) (t : Str) : Prop := t.length ≤ n ∧ ∀ c ∈ t.cps.toList, c ∈ alph
theorem empty_is : Str.ofString "" = ⟨#[]⟩ := by decide +kernel
theorem good_empty (n : Nat) : Good8 n (Str.ofString "") := by rw [empty_is]; exact ⟨Nat.zero_le _, fun c hc => by simp at hc⟩
theorem build_good (pre : List Int) : (build pre).length ≤ pre.length + 1 ∧ (∀ t ∈ build pre, Good8 pre.length t) ∧ build pre ≠ [] := by
  induction h : pre.length generalizing pre with
  | zero =>
    have : pre = [] := List.eq_nil_of_length_eq_zero h
    subst this
    exact ⟨Nat.le_refl _, fun t ht => by rw [List.mem_singleton.mp ht]; exact good_empty _, by simp [build]⟩
  | succ n ih =>
    obtain ⟨q, x, rfl⟩ : ∃ q x, pre = q ++ [x] := ⟨pre.dropLast, pre.getLast (by intro e; simp [e] at h), (List.dropLast_concat_getLast _).symm⟩
    have hq : q.length = n := by simpa using h
    obtain ⟨h1, h2, h3⟩ := ih q hq
    rw [build_snoc]
    obtain ⟨ts, z, e⟩ : ∃ ts z, build q = ts ++ [z] := ⟨_, _, (List.dropLast_concat_getLast h3).symm⟩
    rw [e] at h1 h2 ⊢
    have up : ∀ t, Good8 n t → Good8 (n + 1) t := fun t ht => ⟨Nat.le_succ_of_le ht.1, ht.2⟩
    by_cases hx : 7 < Int.fmod x 10
    · rw [bstep_new hx]
      refine ⟨by simp at h1 ⊢; omega, fun t ht => ?_, by simp⟩
      rcases List.mem_append.mp ht with ht | ht
      · exact up t (h2 t ht)
      · rw [List.mem_singleton.mp ht]; exact good_empty _
    · rw [bstep_on hx]
      refine ⟨by simp at h1 ⊢; omega, fun t ht => ?_, by simp⟩
      rcases List.mem_append.mp ht with ht | ht
      · exact up t (h2 t (List.mem_append_left _ ht))
      · rw [List.mem_singleton.mp ht]
        obtain ⟨c, hc, ec⟩ := item8 x hx
        obtain ⟨g1, g2⟩ := h2 z (by simp)
        rw [ec]
        refine ⟨by rw [Str.length_append]; show z.length + 1 ≤ n + 1; omega, fun d hd => ?_⟩
        rw [Str.cps_append, Array.toList_append] at hd
        rcases List.mem_append.mp hd with hd | hd
        · exact g2 d hd
        · simp at hd; rw [hd]; exact hc
theorem build_of {pre : List Int} {ts : List Str} (h : build pre = ts) : ts.length ≤ pre.length + 1 ∧ (∀ t ∈ ts, Good8 pre.length t) ∧ ts ≠ [] := h ▸ build_good pre
end Mine
local macro_rules | `(tactic| walk_at "subscriptTail") => `(tactic| (k_here; (with_reducible show wpAny _ _ (subscriptTail _ _ (Value.ref _) (Value.int _ _)) _ _ _); refine Mine.stop ?_))
local macro_rules | `(tactic| walk_at "pyIter ref") => `(tactic| (k_here; refine Mine.stop ?_))
local macro_rules | `(tactic| walk_at "call builtin:list.append") => `(tactic| (k_here; (with_reducible show wpAny _ _ (call (Value.builtin _) [Value.ref _, _]) _ _ _); k_dflt (refine' Mine.append_l ?k1 ?k2 ?k3 ?_ ?z; (case k1 => k_asm); (case k2 => k_asm); (case k3 => k_upd); (case z => (rw [PySem.sizeLine_eq]; omega)); k_whole); intro h' F' N'; (try k_sweep)))
local macro_rules | `(tactic| walk_at "getItem ref int") => `(tactic| (k_here; k_dflt (refine Mine.get_last (by k_asm) (by k_mem) ?_)))
local macro_rules | `(tactic| walk_at "subscriptTail") => `(tactic| (k_here; (with_reducible show wpAny _ _ (subscriptTail _ _ (Value.ref _) (Value.int _ _)) _ _ _); k_dflt (refine Mine.tail_last (by k_asm) (by k_mem) ?_)))
local macro_rules | `(tactic| walk_at "setItem ref int") => `(tactic| (k_here; k_dflt (refine' Mine.set_last ?k1 ?k2 ?k3 ?_; (case k1 => k_asm); (case k2 => k_asm); (case k3 => k_upd); k_whole); intro h' F' N'; (try k_sweep)))
local macro_rules | `(tactic| walk_at "call builtin:len") => `(tactic| (k_here; (with_reducible show wpAny _ _ (call (Value.builtin "len") [Value.ref _]) _ _ _); k_dflt (refine' Mine.len_l ?k1 ?k2 ?k3 ?_; (case k1 => k_asm); (case k2 => k_mem); (case k3 => (rw [PySem.sizeLine_eq]; (try simp only [List.length_append, List.length_cons, List.length_nil]); omega)); k_whole)))
local macro_rules | `(tactic| walk_at "binaryOp Add ref ref") => `(tactic| (k_here; k_dflt (refine' Mine.add_l ?k1 ?k2 ?k3 ?k4 ?k5 ?_; (case k1 => k_asm); (case k2 => k_asm); (case k3 => k_mem); (case k4 => k_mem); (case k5 => (rw [PySem.sizeLine_eq]; (try simp only [List.length_append, List.length_cons, List.length_nil, List.length_take, List.length_drop]); omega)); k_whole); intro D' h' F' N' l1; (try k_lt l1); (try k_sweep)))
local macro_rules | `(tactic| walk_at "call type:list") => `(tactic| (k_here; (with_reducible show wpAny _ _ (call (Value.type _) [Value.ref _]) _ _ _); k_dflt (refine' Mine.copy_l ?k1 ?k2 ?k3 ?k4 ?_; (case k1 => k_asm); (case k2 => k_asm); (case k3 => k_mem); (case k4 => (rw [PySem.sizeLine_eq]; (try simp only [List.length_append, List.length_cons, List.length_nil, List.length_take, List.length_drop]); omega)); k_whole); intro D' c' h' F' N' l1; (try k_lt l1); (try k_sweep)))
local macro_rules | `(tactic| walk_at "subscriptTail Name Slice ref ref") => `(tactic| (k_here; (with_reducible show wpAny _ _ (subscriptTail _ (PySem.Expr.Slice _ _ none _) (Value.ref _) (Value.ref _)) _ _ _); k_dflt ((first | refine' Mine.slice_to ?F ?N ?l ?p ?_ ?s ?t ?z | refine' Mine.slice_from ?F ?N ?l ?p ?_ ?s ?t ?z); (case F => k_asm); (case N => k_asm); (case l => k_mem); (case p => omega); (case s => with_unfolding_all rfl); (case t => kmk_pure); (case z => (rw [PySem.sizeLine_eq]; omega))); intro D' h' F' N' l1; (try k_lt l1); (try k_sweep)))
local macro_rules | `(tactic| walk_at "eval ListComp") => `(tactic| (k_here; first
  | (lcg_look; k_dflt (refine LCg.ListComp_U (F₀ := by k_asm) (by with_unfolding_all rfl) (by decide) (by rfl) (by decide) (by rfl) ?_); k_dflt lcg_toSrc)
  | (lcf_look; k_dflt (refine LCg.ListComp_U (F₀ := by k_asm) (by with_unfolding_all rfl) (by decide) (by rfl) (by decide) (by rfl) ?_); k_dflt lcg_toSrc)
  | (lct_look; k_dflt (refine LCt.ListComp_T (F₀ := by k_asm) (by with_unfolding_all rfl) (by decide) (by rfl) (by decide) (by rfl) ?_); k_dflt lct_toSrc)))
local macro_rules | `(tactic| walk_at "exec Assign cons ListComp") => `(tactic| (k_here; first
  | (lcg_look; k_dflt (refine LCg.Assign_ListComp_U (F₀ := by k_asm) (by rfl) (by with_unfolding_all rfl) (by with_unfolding_all rfl) (by decide) (by rfl) (by decide) (by rfl) (by rfl) (by rfl) ?_); k_dflt lcg_toSrc)
  | (lcf_look; k_dflt (refine LCg.Assign_ListComp_U (F₀ := by k_asm) (by rfl) (by with_unfolding_all rfl) (by with_unfolding_all rfl) (by decide) (by rfl) (by decide) (by rfl) (by rfl) (by rfl) ?_); k_dflt lcg_toSrc)
  | (lct_look; k_dflt (refine LCt.Assign_ListComp_T (F₀ := by k_asm) (by rfl) (by with_unfolding_all rfl) (by with_unfolding_all rfl) (by decide) (by rfl) (by decide) (by rfl) (by rfl) (by rfl) ?_); k_dflt lct_toSrc)))
local macro_rules | `(tactic| walk_at "CompSrc") => `(tactic| (k_here; k_dflt (first
  | (refine LCg.CompSrc.ledger (by rfl) (by k_asm) (by k_asm) (by k_mem) (by first | (simp only [List.size_toArray, List.length_append, List.length_cons, List.length_nil, List.length_take, List.length_drop, PySem.sizeLine_eq]; omega) | size_fits) ?_; intro g'; refine Mine.stop ?_)
  | (refine LCg.CompSrc.base (by rfl) (by k_asm) (by k_asm) (by assumption) (by first | (simp only [List.size_toArray, List.length_append, List.length_cons, List.length_nil, List.length_take, List.length_drop, PySem.sizeLine_eq]; omega) | size_fits) ?_; intro g'; refine Mine.stop ?_))))
local macro_rules | `(tactic| walk_at "CompSrcT") => `(tactic| (k_here; k_dflt (first
  | (refine LCt.CompSrcT.ledger (by rfl) (by k_asm) (by k_asm) (by k_mem) (by first | (simp only [List.size_toArray, List.length_append, List.length_cons, List.length_nil, List.length_take, List.length_drop, PySem.sizeLine_eq]; omega) | size_fits) ?_; intro g'; refine Mine.stop ?_)
  | (refine LCt.CompSrcT.base (by rfl) (by k_asm) (by k_asm) (by assumption) (by first | (simp only [List.size_toArray, List.length_append, List.length_cons, List.length_nil, List.length_take, List.length_drop, PySem.sizeLine_eq]; omega) | size_fits) ?_; intro g'; refine Mine.stop ?_))))
local macro_rules | `(tactic| walk_at "exec Assign") => `(tactic| (k_here; with_reducible refine plainObj_wpAny_Assign_Attribute ?_ ?_; rotate_left; with_unfolding_all rfl))
local macro_rules | `(tactic| walk_at "exec For Name Call cons nil") => `(tactic| (k_here; k_dflt (refine Mine.For_T (by k_asm) (by intro _ _; rfl) ?_)))
local macro_rules | `(tactic| walk_at "exec For Name Name cons nil") => `(tactic| (k_here; k_dflt (refine Mine.For_T (by k_asm) (by intro _ _; rfl) ?_)))
local macro_rules | `(tactic| walk_at "exec For Name Attribute cons nil") => `(tactic| (k_here; k_dflt (refine Mine.For_T (by k_asm) (by intro _ _; rfl) ?_)))
local macro_rules | `(tactic| walk_at "CompEnd") => `(tactic| (k_here; refine Mine.stop ?_))
local macro_rules | `(tactic| ktr_rel) => `(tactic| first
  | ((with_reducible show wpAny _ _ (subscriptTail _ _ (Value.ref _) (Value.int _ _)) _ _ _); (first | ((with_reducible show wpAny _ _ (subscriptTail _ _ (Value.ref _) (Value.int (-1) _)) _ _ _); k_dflt (refine Mine.tail_last (by k_asm) (by k_mem) ?_)) | refine Mine.stop ?_))
  | ((with_reducible show wpAny _ _ (call (Value.ref 68) _ _) _ _ _); refine Mine.stop ?_)
  | ((with_reducible show wpAny _ _ (eval (PySem.Expr.ListComp _ _ _ _) _) _ _ _); refine Mine.stop ?_)
  | ((with_reducible show wpAny _ _ (call (Value.ref 73) _ _) _ _ _); refine Mine.stop ?_)
  | ((with_reducible show wpAny _ _ (compareOp CmpOp.NotEq (Value.ref _) (Value.ref _)) _ _ _); refine Mine.stop ?_)
  | ((with_reducible show wpAny _ _ (call (Value.ref 49) _ _) _ _ _); refine Mine.stop ?_))
local macro_rules | `(tactic| ktr_unf) => `(tactic| repeat' (first | (k_unfold; (try dsimp only)) | ktr_rel | walk1 | (dsimp only; walk1) | fail "no step"))
set_option maxRecDepth 100000 in
set_option maxHeartbeats 8000000 in
theorem PySem.Challenge.cw_kn0091_04_holds : PySem.Challenge.rw_kn0091_04.Holds := by
  refine Mine.hd04 (by
  k_go0
  (all_goals try k_fold)
  rename ¬ ((63 : Nat) : Int) < _ => hle
  rename IntsAre _ _ => hI
  have hlv := hI.length
  ktr_unf
  rename Fr _ _ _ _ => F9
  rename News _ _ _ _ => N9
  rename Heap.IsList _ _ _ => hl9
  rename_i lT hq1 lq1 hq2
  rename IntsAre _ _ => hI
  refine Mine.unstop (Mine.forT_pd (Mine.pd_ints hI) [Str.ofString "x"] (fun pre u nw => ∃ ts z zs t k, Mine.build pre = ts ++ [z] ∧ Mine.Pd Mine.StrV ts zs ∧ nw = [(lT, W.listOf (List.toArray (zs ++ [Value.str z t])) k)]) rfl (.inl hl9) F9 N9 ⟨[], Str.ofString "", [], _, 0, rfl, .nil, rfl⟩ ?_ ?_)
  · intro pre x post v u nw I oI h tk hsp hv hJ hoff0 F N
    obtain ⟨ts, z, zs, t9, k, hfo, hp, rfl⟩ := hJ
    have hoff := hoff0
    have hbg := Mine.build_of hfo
    have hpl : pre.length < 63 + 1 := by have := congrArg List.length hsp; simp at this; omega
    have hzsl := Mine.pd_len hp
    have hyl : (zs ++ [Value.str z t9]).length ≤ 200 := by have := hbg.1; simp at this ⊢; omega
    have hzl : z.length ≤ 100 := Nat.le_trans (hbg.2.1 z (by simp)).1 (by omega)
    simp only [Mine.Off, and_true] at hoff
    simp only [Mine.over] at F
    obtain ⟨t, rfl⟩ := hv
    ktr_unf
    · rename (7 < Int.fmod x 10) => hx
      dsimp only [Mine.TurnPost]
      refine Mine.TurnEnd.mk' [] (by assumption) (by assumption) (by exact ⟨hoff, True.intro⟩) ⟨fun z1 h1 => by simp only [if_neg (Mine.off1 h1)], ts ++ [z], _, zs ++ [Value.str z t9], _, _, ?_, PySem.Paired.snoc hp ⟨_, rfl⟩, rfl⟩
      rw [Mine.build_snoc, hfo, Mine.bstep_new hx]
    · rename (¬ 7 < Int.fmod x 10) => hx
      dsimp only [Mine.TurnPost]
      refine Mine.TurnEnd.mk' [] (by assumption) (by assumption) (by exact ⟨hoff, True.intro⟩) ⟨fun z1 h1 => by simp only [if_neg (Mine.off1 h1)], ts, _, zs, _, _, ?_, hp, rfl⟩
      rw [Mine.build_snoc, hfo, Mine.bstep_on hx]
  · intro u nw h tk hJ F N
    obtain ⟨ts, z, zs, t9, k, hfo, hp, rfl⟩ := hJ
    have hbg := Mine.build_of hfo
    have hzsl := Mine.pd_len hp
    have hyl : (zs ++ [Value.str z t9]).length ≤ 200 := by have := hbg.1; simp at this ⊢; omega
    simp only [Mine.over] at F
    dsimp only
    ktr_unf
    have hpa : Mine.Pd Mine.StrV (ts ++ [z]) (zs ++ [Value.str z t9]) := PySem.Paired.snoc hp ⟨_, rfl⟩
    have hlen : (ts ++ [z]).length ≤ 64 := by have := hbg.1; omega
    have hgood : ∀ t ∈ (ts ++ [z]).filter (fun t => t != Str.ofString ""), Mine.Good8 63 t ∧ t ≠ Str.ofString "" := fun t ht => by
      obtain ⟨h1, h2⟩ := List.mem_filter.mp ht
      obtain ⟨g1, g2⟩ := hbg.2.1 t h1
      exact ⟨⟨by omega, g2⟩, by simpa using h2⟩
    have hfl : ((ts ++ [z]).filter (fun t => t != Str.ofString "")).length ≤ 64 := Nat.le_trans (List.length_filter_le _ _) hlen
    refine Mine.unstop (Mine.compT_pd Mine.StrV (fun t => t != Str.ofString "") id hpa ?_ ?_)
    · intro a v I oI C oC D ys m₂ h tk E' ha hF hyl hC hx F' N' off ne
      obtain ⟨t, rfl⟩ := hF
      have off0 := off
      simp only [LCg.Off3, and_true] at off
      ktr_unf
      · refine Mine.unstop (Mine.cend [] (by assumption) (by assumption) off0 (.inr ⟨W.listOf _ _, by k_mem, rfl, _, rfl⟩) ⟨rfl, by assumption, t, rfl⟩)
      · refine Mine.unstop (Mine.cend [] (by assumption) (by assumption) off0 (.inr ⟨W.listOf _ _, by k_mem, rfl, _, rfl⟩) ⟨rfl, by assumption⟩)
    · intro ys hy
      rw [List.map_id] at hy
      generalize (ts ++ [z]).filter (fun t => t != Str.ofString "") = xs at hgood hfl hy
      have hyl := Mine.pd_len hy
      clear hpa hlen hbg hp hfo hzsl
      ktr_unf
      rename Fr _ _ _ _ => F8
      rename News _ _ _ _ => N8
      have N7 := Mine.news_head N8
      clear N8
      refine Mine.unstop (Mine.forT_count_s [Str.ofString "k", Str.ofString "asked", Str.ofString "agents", Str.ofString "one", Str.ofString "token", Str.ofString "sign", Str.ofString "due", Str.ofString "agent"] (xs.length + 1) (fun i u => True) rfl (by assumption) (by omega) (by omega) (by omega) F8 N7 True.intro ?_ ?_)
      · intro i t u I oI h tk hi hJ hoff0 F N
        clear F8 N7
        have hoff := hoff0
        simp only [Mine.Off, and_true] at hoff
        simp only [Mine.over] at F
        rw [Int.zero_add]
        obtain ⟨asked, hask⟩ : ∃ a, (xs ++ [Str.ofString ""])[i]? = some a := ⟨_, List.getElem?_eq_getElem (by simp; omega)⟩
        ktr_unf
        refine Mine.unstop (Mine.tail_pd (by k_asm) (by k_mem) (PySem.Paired.snoc hy ⟨_, rfl⟩) hask (by omega) (by omega) ?_)
        rintro v ⟨ta, rfl⟩
        ktr_unf
        have hag : Mine.Good8 63 asked := by
          rcases List.mem_append.mp (List.mem_of_getElem? hask) with q | q
          · exact (hgood _ q).1
          · rw [List.mem_singleton.mp q]; exact Mine.good_empty _
        rename Fr _ _ _ _ => F6
        rename News _ _ _ _ => N6
        simp only [Int.toNat_natCast, Mine.toNat_succ] at N6
        refine Mine.unstop (Mine.small04 rfl rfl (by assumption) F6 (by assumption) (by assumption) hag.2 (by have := hag.1; omega) ?_)
        intro h5 tk5 D5 zs5 c5 keep5 hD5 hget5 hy5
        obtain ⟨F5, N5, off5⟩ := Mine.after_new F6 N6 keep5 hD5 hget5
        simp only [Mine.Off, and_true] at off5
        clear F6 N6 keep5 hD5 hget5
        ktr_unf
        refine Mine.unstop (Mine.forT_pd_lj hy5 [Str.ofString "sign"] [_] (fun pre u zs => 47 ∉ pre ∧ Mine.Pd Mine.CharV pre zs) (fun u zs => Mine.Pd Mine.CharV ((asked.cps.toList.map Mine.g8).takeWhile (· != 47)) zs) rfl (.inr ⟨_, _, rfl, rfl, .inl (List.mem_cons_self)⟩) F5 N5 ⟨List.not_mem_nil, .nil⟩ ?_ ?_ ?_)
        · intro pre9 a9 post9 v9 u9 zs9 c9 I9 oI9 h9 tk9 hsp9 hv9 hJ9 hoff90 F9 N9
          clear F5 N5
          have hoff9 := hoff90
          simp only [Mine.Off, List.cons_append, List.nil_append, and_true] at hoff9
          simp only [List.cons_append, List.nil_append] at N9
          simp only [Mine.over] at F9
          have hzl9 := Mine.pd_len hJ9.2
          obtain ⟨t9, rfl⟩ := hv9
          have hpl9 : zs9.length ≤ 100 := by
            have := congrArg List.length hsp9
            have hl := hag.1
            simp at this; unfold Str.length at hl; omega
          ktr_unf
          · rename (_ == Str.ofString "/") = true => e9
            rw [Mine.sign_slash, beq_iff_eq] at e9
            subst e9
            dsimp only [Mine.TurnPost, Mine.QJ]
            exact ⟨_, _, _, _, rfl, by assumption, Mine.news_tail (by assumption), fun z1 h1 => by simp only [if_neg (Mine.off1 h1)], zs9, c9, rfl, by rw [hsp9, Mine.tw_stop hJ9.1]; exact hJ9.2⟩
          · rename (_ == Str.ofString "/") = false => e9
            rw [Mine.sign_slash, beq_eq_false_iff_ne] at e9
            dsimp only [Mine.TurnPost]
            refine Mine.TurnEnd.mk' [] (by assumption) (by assumption) (by exact hoff90) ⟨fun z1 h1 => by simp only [if_neg (Mine.off1 h1)], zs9 ++ [_], c9 + 1, rfl, ?_, PySem.Paired.snoc hJ9.2 ⟨t9, rfl⟩⟩
            rw [List.mem_append, List.mem_singleton]
            exact fun q => q.elim hJ9.1 fun q => e9 q.symm
        · intro u9 zs9 hJ9 hs9
          rw [Mine.tw_all hJ9.1]; exact hJ9.2
        · intro u9 zs9 c9 h9 tk9 hP9 F9 N9
          clear F5 N5
          simp only [List.cons_append, List.nil_append] at N9
          simp only [Mine.over] at F9
          dsimp only
          have htkl : ((asked.cps.toList.map Mine.g8).takeWhile (· != 47)).length ≤ 63 := by
            refine Nat.le_trans (List.takeWhile_sublist _).length_le ?_
            have := hag.1; unfold Str.length at this; simpa using this
          generalize htk : (asked.cps.toList.map Mine.g8).takeWhile (· != 47) = tks at htkl hP9
          have hpag := Mine.pd_app (Mine.pd_take hy i) (Mine.pd_drop hy (i + 1))
          have hgag : ∀ a ∈ xs.take i ++ xs.drop (i + 1), Mine.Good8 63 a := fun a ha => by
            rcases List.mem_append.mp ha with q | q
            · exact (hgood _ (List.mem_of_mem_take q)).1
            · exact (hgood _ (List.mem_of_mem_drop q)).1
          ktr_unf
          skip
          rename Fr _ _ _ _ => F4
          rename News _ _ _ _ => N4
          refine Mine.unstop (Mine.forT_pd_s hpag [Str.ofString "agent", Str.ofString "due"] (fun pre u => u (Str.ofString "due") = some (.bool (pre.any (Mine.fitB tks)))) rfl (.inr ⟨W.listOf _ _, _, rfl, rfl, by k_mem⟩) F4 N4 rfl ?_ ?_)
          · intro pre3 a3 post3 v3 u3 I3 oI3 h3 tk3 hsp3 hv3 hJ3 hoff30 F3 N3
            clear F4 N4
            have hoff3 := hoff30
            simp only [Mine.Off, and_true] at hoff3
            simp only [Mine.over, hJ3] at F3
            obtain ⟨t3, rfl⟩ := hv3
            have hg3 := hgag a3 (by rw [hsp3]; simp)
            ktr_unf
            · rename ((a3 != Str.ofString "*") = true) => e3
              rename Fr _ _ _ _ => F2
              rename News _ _ _ _ => N2
              refine Mine.unstop (Mine.small04 rfl rfl (by assumption) F2 (by assumption) (by assumption) hg3.2 (by have := hg3.1; omega) ?_)
              intro h2 tk2 D2 zs2 c2 keep2 hD2 hget2 hy2
              obtain ⟨F1, N1, off1⟩ := Mine.after_new F2 N2 keep2 hD2 hget2
              simp only [Mine.Off, and_true] at off1
              clear F2 N2 keep2 hD2 hget2
              ktr_unf
              rename Fr _ _ _ _ => F2
              rename News _ _ _ _ => N2
              refine Mine.unstop (Mine.stands04 (ia := zs2.toArray) (ib := zs9.toArray) rfl rfl (by assumption) F2 (by assumption) (by assumption) (Mine.is_l N2 (by k_mem)) (Mine.is_l N2 (by k_mem)) hy2 hP9 (by have := hg3.1; unfold Str.length at this; simpa using Nat.le_trans this (by omega)) (by omega) ?_)
              intro h1 tk1 keep1
              obtain ⟨F1, N1⟩ := Mine.after_keep F2 N2 keep1
              clear F2 N2 keep1
              have h23 : ∀ z, z ∉ [Str.ofString "agent", Str.ofString "due"] → z ≠ Str.ofString "agent" ∧ z ≠ Str.ofString "due" := fun z q => ⟨fun e => q (by rw [e]; exact List.mem_cons_self), fun e => q (by rw [e]; exact List.mem_cons_of_mem _ List.mem_cons_self)⟩
              ktr_unf
              · rename (Mine.liesB _ _ = true) => e4
                dsimp only [Mine.TurnPost]
                refine Mine.TurnEnd.mk' [_] (by assumption) (by assumption) (by exact hoff30) ⟨rfl, fun z1 h1 => by simp only [if_neg (h23 z1 h1).1, if_neg (h23 z1 h1).2], ?_⟩
                rw [Mine.any_snoc, show Mine.fitB tks a3 = true by unfold Mine.fitB; rw [e3, e4]; rfl, Bool.or_true]
                rfl
              · rename (Mine.liesB _ _ = false) => e4
                dsimp only [Mine.TurnPost]
                refine Mine.TurnEnd.mk' [_] (by assumption) (by assumption) (by exact hoff30) ⟨rfl, fun z1 h1 => by simp only [if_neg (h23 z1 h1).1, if_neg (h23 z1 h1).2], ?_⟩
                rw [Mine.any_snoc, show Mine.fitB tks a3 = false by unfold Mine.fitB; rw [e4, Bool.and_false], Bool.or_false]
                rfl
            · rename ((a3 != Str.ofString "*") = false) => e3
              have h23 : ∀ z, z ∉ [Str.ofString "agent", Str.ofString "due"] → z ≠ Str.ofString "agent" ∧ z ≠ Str.ofString "due" := fun z q => ⟨fun e => q (by rw [e]; exact List.mem_cons_self), fun e => q (by rw [e]; exact List.mem_cons_of_mem _ List.mem_cons_self)⟩
              dsimp only [Mine.TurnPost]
              refine Mine.TurnEnd.mk' [] (by assumption) (by assumption) (by exact hoff30) ⟨rfl, fun z1 h1 => by simp only [if_neg (h23 z1 h1).1, if_neg (h23 z1 h1).2], ?_⟩
              rw [Mine.any_snoc, show Mine.fitB tks a3 = false by unfold Mine.fitB; rw [e3, Bool.false_and], Bool.or_false]
              rfl
          · intro u3 h3 tk3 hJ3 F3 N3
            clear F4 N4
            simp only [Mine.over, hJ3] at F3
            dsimp only
            ktr_unf
            rename Fr _ _ _ _ => F4
            rename News _ _ _ _ => N4
            refine Mine.unstop (Mine.applies (its := (ys.take i ++ ys.drop (i + 1)).toArray) rfl rfl (by assumption) F4 (by assumption) (by assumption) (InstAt.of_news N4 (by k_mem) (by k_mem)) (Mine.is_l N4 (by k_mem)) hpag (fun a ha => Nat.le_trans (hgag a ha).1 (by omega)) (Nat.le_trans hag.1 (by omega)) ?_)
            intro h2 tk2 keep2
            obtain ⟨F1, N1⟩ := Mine.after_keep F4 N4 keep2
            clear F4 N4 keep2
            have hdue : (xs.take i ++ xs.drop (i + 1)).any (Mine.fitsOne asked) = (xs.take i ++ xs.drop (i + 1)).any (Mine.fitB tks) := by
              rw [← htk]; exact Mine.any_eq hag.2 fun a ha => (hgag a ha).2
            rw [hdue]
            ktr_unf
            · rename ((_ != _) = true) => e6
              rw [bne_self_eq_false] at e6
              cases e6
            · rename Fr _ _ _ _ => F4
              rename News _ _ _ _ => N4
              refine Mine.unstop (Mine.appliesNone (its := (ys.take i ++ ys.drop (i + 1)).toArray) rfl rfl (by assumption) F4 (by assumption) (by assumption) (InstAt.of_news N4 (by k_mem) (by k_mem)) (Mine.is_l N4 (by k_mem)) hpag ?_)
              intro h2 tk2 keep2
              obtain ⟨F1, N1⟩ := Mine.after_keep F4 N4 keep2
              clear F4 N4 keep2
              ktr_unf
              refine Mine.unstop ?_
              lct_look
              k_dflt (refine LCt.ListComp_T (F₀ := by k_asm) (by with_unfolding_all rfl) (by decide) (by rfl) (by decide) (by rfl) ?_); k_dflt lct_toSrc
              refine Mine.unstop (Mine.compT_pd Mine.StrV (fun t => t == Str.ofString "*") id hpag ?_ ?_)
              · intro a v I9 oI9 C9 oC9 D9 yr9 m₂ h9 tk9 E' ha hF hyl hC hx F' N' off ne
                obtain ⟨t, rfl⟩ := hF
                have off0 := off
                simp only [LCg.Off3, and_true] at off
                ktr_unf
                · refine Mine.unstop (Mine.cend [] (by assumption) (by assumption) off0 (.inr ⟨W.listOf _ _, by k_mem, rfl, _, rfl⟩) ⟨rfl, by assumption, t, rfl⟩)
                · refine Mine.unstop (Mine.cend [] (by assumption) (by assumption) off0 (.inr ⟨W.listOf _ _, by k_mem, rfl, _, rfl⟩) ⟨rfl, by assumption⟩)
              · intro ys9 hy9
                rw [List.map_id] at hy9
                have hstar := Mine.any_len (Mine.pd_len hy9)
                have hyl9 : ys9.length ≤ 64 := by
                  rw [← Mine.pd_len hy9]
                  refine Nat.le_trans (List.length_filter_le _ _) ?_
                  rw [List.length_append, List.length_take, List.length_drop]; omega
                ktr_unf
                · rename ((_ != _) = true) => e7
                  rw [hstar, bne_self_eq_false] at e7
                  cases e7
                · rename Fr _ _ _ _ => F4
                  rename News _ _ _ _ => N4
                  refine Mine.unstop (Mine.ne_strs (xs := ys.take i ++ ys.drop (i + 1)) (ys := ys.take i ++ ys.drop (i + 1)) (Mine.is_l N4 (by k_mem)) (Mine.is_l N4 (by k_mem)) hpag hpag (fun a ha => (hgag a ha).2) (fun a ha => (hgag a ha).2) (by ke_room) ?_)
                  rw [decide_eq_true rfl, Bool.not_true]
                  ktr_unf
                  dsimp only [Mine.TurnPost]
                  refine Mine.TurnEnd.mk' [_, _, _, _, _, _, _, _, _, _, _, _, _] (by assumption) (by assumption) (by exact hoff0) ⟨rfl, fun z1 h1 => ?_, True.intro⟩
                  simp only [List.mem_cons, not_or, List.not_mem_nil, not_false_iff, and_true] at h1
                  obtain ⟨n1, n2, n3, n4, n5, n6, n7, n8⟩ := h1
                  simp only [if_neg n1, if_neg n2, if_neg n3, if_neg n4, if_neg n5, if_neg n6, if_neg n7, if_neg n8]
      · intro u h tk hJ F N
        clear F8 N7
        simp only [Mine.over] at F
        dsimp only
        ktr_unf
        all_goals (k_end; wrow_close))
end
