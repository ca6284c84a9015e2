import PyProof.Rows.All
import Wide.All
import OpenK.AllK
import Wide.FinOn
import PySem.Challenge.RW_kn0091_05
open PySem PySem.W PyProof.Rows
set_option Elab.async false
section
set_option maxRecDepth 100000 in
set_option maxHeartbeats 8000000 in
open_top Mine.hd05 for PySem.Challenge.rw_kn0091_05
end
section
namespace Mine
open PySem.Calls PySem.Spec

def Stop (P : Prop) : Prop := P
theorem stop {P : Prop} (h : Stop P) : P := h
theorem unstop {P : Prop} (h : P) : Stop P := h

/-- no entry of the ledger stands at I -/
def Off (I : Addr) : List (Addr × Obj) → Prop
  | [] => True
  | p :: r => (@Ne Nat p.1 I) ∧ Off I r
theorem Off.mem {I : Addr} : ∀ {l : List (Addr × Obj)}, Off I l → ∀ p ∈ l, p.1 ≠ I
  | [], _, _, h => nomatch h
  | _ :: _, x, p, h => by
    rcases List.mem_cons.mp h with rfl | h
    · exact x.1
    · exact Off.mem x.2 p h
theorem Off.of {I : Addr} : ∀ {l : List (Addr × Obj)}, (∀ p ∈ l, p.1 ≠ I) → Off I l
  | [], _ => trivial
  | _ :: _, h => ⟨h _ List.mem_cons_self, Off.of fun p hp => h p (List.mem_cons_of_mem _ hp)⟩

section
variable {prog : Program} {w : World} {A : Around} {E : Value → Shared → Prop} {s : Shared} {env : Env} {h₀ : Heap} {x : Str} {body : List Stmt} {Q : Flow → Shared → Prop}

def TurnEnd (h₀ : Heap) (L I : Addr) (oI : Obj) (J : (Str → Option Value) → List (Addr × Obj) → Prop) (s₁ s₂ : Shared) : Prop :=
  ∃ h' tk m' nx, s₂ = { s₁ with heap := h', toks := tk } ∧ Fr h₀ L h' m' ∧ News h₀ L h' ((I, oI) :: nx) ∧ Off I nx ∧ J m' nx
def TurnPost (h₀ : Heap) (L I : Addr) (oI : Obj) (J : (Str → Option Value) → List (Addr × Obj) → Prop) (s₁ : Shared) (Q : Flow → Shared → Prop) (f : Flow) (s₂ : Shared) : Prop :=
  match f with
  | .ret v => Q (.ret v) s₂
  | .brk => Q .next s₂
  | .next => TurnEnd h₀ L I oI J s₁ s₂
  | .cont => TurnEnd h₀ L I oI J s₁ s₂

theorem TurnEnd.intro {L I : Addr} {oI : Obj} {J : (Str → Option Value) → List (Addr × Obj) → Prop} {s₁ : Shared} {h' : Heap} {tk : Nat} {m' : Str → Option Value} {all : List (Addr × Obj)}
    (F : Fr h₀ L h' m') (N : News h₀ L h' all) (nx : List (Addr × Obj)) (sub : ∀ p ∈ (I, oI) :: nx, p ∈ all) (off : Off I nx) (hj : J m' nx) :
    TurnEnd h₀ L I oI J s₁ { s₁ with heap := h', toks := tk } := ⟨h', tk, m', nx, rfl, F, fun p hp => N p (sub p hp), off, hj⟩

/-- a for over a list, by any invariant of the frame's names and of the ledger -/
theorem iter_list {l : Addr} {its : Array Value} {m₀ : Str → Option Value} {news : List (Addr × Obj)} (J : Nat → (Str → Option Value) → List (Addr × Obj) → Prop)
    (hh : A.handled = none) (src : h₀.IsList l its ∨ ∃ ol k, ol.cls = .type "list" ∧ ol.data = .seq its k ∧ ∀ i m nx, J i m nx → (l, ol) ∈ nx)
    (F : Fr h₀ env.locals s.heap m₀) (N : News h₀ env.locals s.heap news) (hj : J 0 m₀ news)
    (turn : ∀ i v m₁ nw I oI h tk, its[i]? = some v → J i m₁ nw → Off I nw → Fr h₀ env.locals h (fun y => if y = x then some v else m₁ y) → News h₀ env.locals h ((I, oI) :: nw) →
      wpAny (model prog w) A (execs body env) (TurnPost h₀ env.locals I oI (J (i + 1)) { s with heap := h, toks := tk } Q) E { s with heap := h, toks := tk })
    (done : ∀ m₁ nw h tk, J its.size m₁ nw → Fr h₀ env.locals h m₁ → News h₀ env.locals h nw → Q .next { s with heap := h, toks := tk }) :
    wpAny (model prog w) A (pyIter (.ref l)) (fun it s₂ => LoopAtV prog w A h₀ env x body Q E it s₂) E s := by
  have hls : s.heap.IsList l its := by
    rcases src with hl | ⟨ol, k, hc, hd, hm⟩
    · exact hl.at fun o e => F.keep l o e
    · exact ⟨ol, (N _ (hm _ _ _ hj)).1, hc, k, hd⟩
  obtain ⟨ol', hol, _⟩ := id hls
  have hlt : l < s.heap.objs.size := Heap.lt_size hol
  have hne : l ≠ s.heap.objs.size := Nat.ne_of_lt hlt
  have hLl : env.locals ≠ l := by
    rcases src with hl | ⟨ol, k, hc, hd, hm⟩
    · obtain ⟨o, e, _⟩ := hl
      exact fun q => absurd (Nat.lt_of_lt_of_le (Heap.lt_size e) F.above) (q ▸ Nat.lt_irrefl _)
    · exact fun q => (N _ (hm _ _ _ hj)).2.1 q.symm
  refine wpAny_pyIter_list hls ?_
  have W := Walks.list (prog := prog) (w := w) hh s.heap.objs.size l hne its
  refine ⟨_, _, _, its.size, _, _, m₀, news, J, rfl, W, ?_, ?_, ?_, ⟨⟨_, Heap.get?_push_size _ rfl, rfl, rfl⟩, hls.at fun o e => Heap.get?_push_of_some _ e⟩, F.push _, (fun p hp => ⟨Heap.get?_push_of_some _ (N p hp).1, (N p hp).2⟩), hj, ?_, ?_⟩
  · intro hm
    rcases List.mem_cons.mp hm with e | hm
    · exact absurd F.ns.lt (e ▸ Nat.lt_irrefl _)
    · exact hLl (List.mem_singleton.mp hm)
  · intro b hb
    rw [List.mem_singleton.mp hb]
    exact next_is_new F
  · intro p hp hI
    exact absurd (Heap.lt_size (N p hp).1) ((List.mem_singleton.mp hI) ▸ Nat.lt_irrefl _)
  · rintro i v m₁ news₁ s₁ own ⟨hh', tk', rfl⟩ hin hP hJ hoff hown hget hin' hst F₁ N₁
    obtain ⟨oI, heI, _⟩ := hst.1
    have hIown : (s.heap.objs.size, oI) ∈ own := hin' _ (by simp) (next_is_new F) oI heI
    have hoffI : Off s.heap.objs.size news₁ := Off.of fun p hp q => hoff p hp (List.mem_singleton.mpr q)
    have N₂ : News h₀ env.locals hh' ((s.heap.objs.size, oI) :: news₁) := fun p hp => by
      rcases List.mem_cons.mp hp with rfl | hp
      · exact N₁ _ (List.mem_append_left _ hIown)
      · exact N₁ _ (List.mem_append_right _ hp)
    refine wpAny_mono (turn i v m₁ news₁ _ oI hh' tk' hP hJ hoffI F₁ N₂) (fun f s₂ p => ?_) fun _ _ e => e
    have fin : TurnEnd h₀ env.locals s.heap.objs.size oI (J (i + 1)) { s with heap := hh', toks := tk' } s₂ → LoopStepU h₀ env.locals [s.heap.objs.size] own (J (i + 1)) { s with heap := hh', toks := tk' } .next s₂ := by
      rintro ⟨h', tk, m', nx, e, F', N', hoff', hj'⟩
      refine ⟨rfl, h', tk, m', nx, e, F', fun p hp => ?_, fun p hp q => hoff'.mem p hp (List.mem_singleton.mp q), hj'⟩
      rcases List.mem_append.mp hp with hp | hp
      · have hg := hget p hp
        have h0 := (N₁ p (List.mem_append_left _ hp)).2.2
        rcases List.mem_cons.mp (hown p hp) with h1 | h1
        · have e1 : p = (s.heap.objs.size, oI) := by
            obtain ⟨a, o⟩ := p
            dsimp only at h1 hg
            subst h1
            rw [heI] at hg; cases hg; rfl
          rw [e1]; exact N' _ List.mem_cons_self
        · have h2 : p.1 = l := List.mem_singleton.mp h1
          rcases src with hl | ⟨ol, k, hc, hd, hm⟩
          · obtain ⟨o, e, _⟩ := hl
            rw [h2, e] at h0; cases h0
          · have e1 : p = (l, ol) := by
              obtain ⟨a, o⟩ := p
              dsimp only at h2 hg
              subst h2
              have := (N₁ _ (List.mem_append_right _ (hm _ _ _ hJ))).1
              rw [hg] at this
              cases this; rfl
            rw [e1]; exact N' _ (List.mem_cons_of_mem _ (hm _ _ _ hj'))
      · exact N' p (List.mem_cons_of_mem _ hp)
    cases f with
    | ret v => exact .ret p
    | brk => exact .brk p
    | next => exact .next (fin p)
    | cont => exact .cont (fin p)
  · rintro h' tk m' news' F' N' _ hJ
    exact done m' news' h' tk hJ F' N'

/-- a for over a range by a written step -/
theorem iter_range {r : Addr} {a b c : Int} {t u v : Tok} {n : Nat} {m₀ : Str → Option Value} {news : List (Addr × Obj)} (J : Nat → (Str → Option Value) → List (Addr × Obj) → Prop)
    (hh : A.handled = none) (hr : IsRange s.heap r a b c t u v) (hsm : Builtin.Range.small a b c = true) (hn : Builtin.Range.rangeSize a b c = ((n : Nat) : Int))
    (F : Fr h₀ env.locals s.heap m₀) (N : News h₀ env.locals s.heap news) (hj : J 0 m₀ news)
    (turn : ∀ i t m₁ nw I oI h tk, i < n → J i m₁ nw → Off I nw → Fr h₀ env.locals h (fun y => if y = x then some (.int (a + i * c) t) else m₁ y) → News h₀ env.locals h ((I, oI) :: nw) →
      wpAny (model prog w) A (execs body env) (TurnPost h₀ env.locals I oI (J (i + 1)) { s with heap := h, toks := tk } Q) E { s with heap := h, toks := tk })
    (done : ∀ m₁ nw h tk, J n m₁ nw → Fr h₀ env.locals h m₁ → News h₀ env.locals h nw → Q .next { s with heap := h, toks := tk }) :
    wpAny (model prog w) A (pyIter (.ref r)) (fun it s₂ => LoopAtV prog w A h₀ env x body Q E it s₂) E s := by
  refine wpAny_pyIter_range hr hsm ?_
  have W := Walks.range (prog := prog) (w := w) hh s.heap.objs.size a c n
  refine ⟨_, _, _, n, _, _, m₀, news, J, rfl, W, ?_, ?_, ?_, (by show IsRangeIter _ _ _ _ _; rw [hn]; simpa using Heap.get?_push_size _ rfl), F.push _, (fun p hp => ⟨Heap.get?_push_of_some _ (N p hp).1, (N p hp).2⟩), hj, ?_, ?_⟩
  · intro hm
    exact absurd F.ns.lt ((List.mem_singleton.mp hm) ▸ Nat.lt_irrefl _)
  · intro b hb
    rw [List.mem_singleton.mp hb]
    exact next_is_new F
  · intro p hp hI
    exact absurd (Heap.lt_size (N p hp).1) ((List.mem_singleton.mp hI) ▸ Nat.lt_irrefl _)
  · rintro i v m₁ news₁ s₁ own ⟨hh', tk', rfl⟩ hin hP hJ hoff hown hget hin' hst F₁ N₁
    obtain ⟨t, rfl⟩ := hP
    have heI : hh'.get? s.heap.objs.size = some _ := hst
    have hIown := hin' _ (by simp) (next_is_new F) _ heI
    have hoffI : Off s.heap.objs.size news₁ := Off.of fun p hp q => hoff p hp (List.mem_singleton.mpr q)
    generalize hoI : ({ cls := .type "range_iterator", data := .fields #[rawInt (a + ((i + 1 : Nat) : Int) * c), rawInt ((n : Int) - ((i + 1 : Nat) : Int)), rawInt c] } : Obj) = oI at heI hIown
    refine wpAny_mono (turn i t m₁ news₁ s.heap.objs.size oI hh' tk' hin hJ hoffI F₁ (fun p hp => by
      rcases List.mem_cons.mp hp with rfl | hp
      · exact N₁ _ (List.mem_append_left _ hIown)
      · exact N₁ _ (List.mem_append_right _ hp))) (fun f s₂ p => ?_) fun _ _ e => e
    have fin : TurnEnd h₀ env.locals s.heap.objs.size oI (J (i + 1)) { s with heap := hh', toks := tk' } s₂ → LoopStepU h₀ env.locals [s.heap.objs.size] own (J (i + 1)) { s with heap := hh', toks := tk' } .next s₂ := by
      rintro ⟨h', tk, m', nx, e, F', N', hoff', hj'⟩
      refine ⟨rfl, h', tk, m', nx, e, F', fun p hp => ?_, fun p hp q => hoff'.mem p hp (List.mem_singleton.mp q), hj'⟩
      rcases List.mem_append.mp hp with hp | hp
      · have hg := hget p hp
        have h1 := List.mem_singleton.mp (hown p hp)
        obtain ⟨a, o⟩ := p
        dsimp only at h1 hg
        subst h1
        have e9 : o = oI := by
          have := heI.symm.trans hg
          exact (Option.some.inj this).symm
        rw [e9]
        exact N' _ List.mem_cons_self
      · exact N' p (List.mem_cons_of_mem _ hp)
    cases f with
    | ret v => exact .ret p
    | brk => exact .brk p
    | next => exact .next (fin p)
    | cont => exact .cont (fin p)
  · rintro h' tk m' news' F' N' _ hJ
    exact done m' news' h' tk hJ F' N'
end

section
open LCg
variable {prog : Program} {w : World} {A : Around} {h₀ : Heap} {L : Addr} {m : Str → Option Value} {env : Env} {ct elt : Expr} {x : Str} {scope : Scope} {cl : List (Str × Addr)} {s : Shared} {S : List (Addr × Obj) → Prop} {P : Nat → Value → Prop} {Fin : List Value → List (Addr × Obj) → Prop} {news : List (Addr × Obj)}

/-- a comprehension without a test, by an invariant -/
theorem comp_inv {n : Nat} (J : Nat → List Value → List (Addr × Obj) → Prop) (h0 : J 0 [] news)
    (turn : ∀ i v ys nw I oI C oC D m₂ h tk (E' : Value → Shared → Prop), i < n → P i v → J i ys nw → NsObj oC m₂ → m₂ x = some v → Fr h₀ L h m → News h₀ L h ((I, oI) :: (C, oC) :: (D, lst ys) :: nw) → Off3 I C D nw → ((@Ne Nat I C) ∧ (@Ne Nat I D) ∧ (@Ne Nat C D)) →
      wpAny (model prog w) A (eval elt (compEnvC scope cl C env)) (CompEnd h₀ L m { s with heap := h, toks := tk } I oI C oC D (lst ys) S (fun y nw' => J (i + 1) (ys ++ [y]) nw')) E' { s with heap := h, toks := tk })
    (fin : ∀ ys nw, J n ys nw → Fin ys nw) : CompRest prog w A h₀ L m env elt x scope cl s S P Fin n 0 [] news := by
  have key : ∀ (j i : Nat) (ys : List Value) (nw : List (Addr × Obj)), i + j = n → J i ys nw → CompRest prog w A h₀ L m env elt x scope cl s S P Fin j i ys nw := by
    intro j
    induction j with
    | zero => intro i ys nw e hj; obtain rfl : i = n := by omega
              exact fin ys nw hj
    | succ j ih =>
      intro i ys nw e hj v I oI C oC D m₂ h tk E' hP hC hx F N off ne
      refine wpAny_mono (turn i v ys nw I oI C oC D m₂ h tk E' (by omega) hP hj hC hx F N off ne) (fun y s₂ hq => ?_) fun _ _ e => e
      obtain ⟨h', tk', nw', e', F', N', off', hS, hj'⟩ := hq
      exact ⟨h', tk', nw', e', F', N', off', hS, ih (i + 1) _ _ (by omega) hj'⟩
  exact key n 0 [] news (by omega) h0

/-- a comprehension with a test, by an invariant -/
theorem compT_inv {n : Nat} (J : Nat → List Value → List (Addr × Obj) → Prop) (h0 : J 0 [] news)
    (turn : ∀ i v ys nw I oI C oC D m₂ h tk (E' : Value → Shared → Prop), i < n → P i v → J i ys nw → NsObj oC m₂ → m₂ x = some v → Fr h₀ L h m → News h₀ L h ((I, oI) :: (C, oC) :: (D, lst ys) :: nw) → Off3 I C D nw → ((@Ne Nat I C) ∧ (@Ne Nat I D) ∧ (@Ne Nat C D)) →
      wpAny (model prog w) A (isTrue ct (compEnvC scope cl C env) (eval ct (compEnvC scope cl C env))) (fun ok s' => if ok = true then
        wpAny (model prog w) A (eval elt (compEnvC scope cl C env)) (CompEnd h₀ L m { s with heap := h, toks := tk } I oI C oC D (lst ys) S (fun y nw' => J (i + 1) (ys ++ [y]) nw')) E' s'
        else CompEnd h₀ L m { s with heap := h, toks := tk } I oI C oC D (lst ys) S (fun _ nw' => J (i + 1) ys nw') Value.none s') E' { s with heap := h, toks := tk })
    (fin : ∀ ys nw, J n ys nw → Fin ys nw) : LCt.CompRestT prog w A h₀ L m env ct elt x scope cl s S P Fin n 0 [] news := by
  have key : ∀ (j i : Nat) (ys : List Value) (nw : List (Addr × Obj)), i + j = n → J i ys nw → LCt.CompRestT prog w A h₀ L m env ct elt x scope cl s S P Fin j i ys nw := by
    intro j
    induction j with
    | zero => intro i ys nw e hj; obtain rfl : i = n := by omega
              exact fin ys nw hj
    | succ j ih =>
      intro i ys nw e hj v I oI C oC D m₂ h tk E' hP hC hx F N off ne
      refine wpAny_mono (turn i v ys nw I oI C oC D m₂ h tk E' (by omega) hP hj hC hx F N off ne) (fun ok s₂ hq => ?_) fun _ _ e => e
      cases ok with
      | true =>
        simp only [if_true] at hq ⊢
        refine wpAny_mono hq (fun y s₃ hr => ?_) fun _ _ e => e
        obtain ⟨h', tk', nw', e', F', N', off', hS, hj'⟩ := hr
        exact ⟨h', tk', nw', e', F', N', off', hS, ih (i + 1) _ _ (by omega) hj'⟩
      | false =>
        simp only [Bool.false_eq_true, if_false] at hq ⊢
        obtain ⟨h', tk', nw', e', F', N', off', hS, hj'⟩ := hq
        exact ⟨h', tk', nw', e', F', N', off', hS, ih (i + 1) _ _ (by omega) hj'⟩
  exact key n 0 [] news (by omega) h0
end

/-! lists of values by what they stand for -/
abbrev Pd {α : Type} (F : α → Value → Prop) (as : List α) (vs : List Value) : Prop := PySem.Paired F as vs
theorem pd_len {α : Type} {F : α → Value → Prop} {as : List α} {vs : List Value} (h : Pd F as vs) : as.length = vs.length := PySem.Paired.length h
theorem pd_at {α : Type} {F : α → Value → Prop} : ∀ {as : List α} {vs : List Value}, Pd F as vs → ∀ (i : Nat) (v : Value), vs[i]? = some v → ∃ a, as[i]? = some a ∧ F a v
  | _, _, .nil, i, v, h => by simp at h
  | _, _, .cons h₁ t, 0, v, h => by simp at h; subst h; exact ⟨_, by simp, h₁⟩
  | _, _, .cons h₁ t, i + 1, v, h => by simp at h; obtain ⟨a, e, f⟩ := pd_at t i v h; exact ⟨a, by simpa using e, f⟩
theorem pd_get {α : Type} {F : α → Value → Prop} : ∀ {as : List α} {vs : List Value}, Pd F as vs → ∀ (i : Nat) (a : α), as[i]? = some a → ∃ v, vs[i]? = some v ∧ F a v
  | _, _, .nil, i, v, h => by simp at h
  | _, _, .cons h₁ t, 0, v, h => by simp at h; subst h; exact ⟨_, by simp, h₁⟩
  | _, _, .cons h₁ t, i + 1, v, h => by simp at h; obtain ⟨a, e, f⟩ := pd_get t i v h; exact ⟨a, by simpa using e, f⟩
theorem pd_mono {α : Type} {F G : α → Value → Prop} : ∀ {as : List α} {vs : List Value}, Pd F as vs → (∀ a v, a ∈ as → F a v → G a v) → Pd G as vs
  | _, _, .nil, _ => .nil
  | _, _, .cons h₁ t, k => .cons (k _ _ List.mem_cons_self h₁) (pd_mono t fun a v ha => k a v (List.mem_cons_of_mem _ ha))
theorem pd_map {α β : Type} {F : β → Value → Prop} (f : α → β) : ∀ {as : List α} {vs : List Value}, Pd (fun a v => F (f a) v) as vs → Pd F (as.map f) vs
  | _, _, .nil => .nil
  | _, _, .cons h₁ t => .cons h₁ (pd_map f t)
theorem pd_of_map {α β : Type} {F : β → Value → Prop} (f : α → β) : ∀ {as : List α} {vs : List Value}, Pd F (as.map f) vs → Pd (fun a v => F (f a) v) as vs
  | [], _, .nil => .nil
  | _ :: _, _, .cons h₁ t => .cons h₁ (pd_of_map f t)
def IntV (n : Int) (v : Value) : Prop := ∃ t, v = .int n t
def StrV (x : Str) (v : Value) : Prop := ∃ t, v = .str x t
theorem pd_ints : ∀ {vs : List Value} {ns : List Int}, IntsAre vs ns → Pd IntV ns vs
  | _, _, .nil => .nil
  | _, _, .cons n t h => .cons ⟨t, rfl⟩ (pd_ints h)
theorem ints_pd : ∀ {vs : List Value} {ns : List Int}, Pd IntV ns vs → IntsAre vs ns
  | _, _, .nil => .nil
  | _, _, .cons ⟨_, e⟩ h => by rw [e]; exact .cons _ _ (ints_pd h)

section
open LCg
variable {prog : Program} {w : World} {A : Around} {h₀ : Heap} {L : Addr} {m : Str → Option Value} {env : Env} {ct elt : Expr} {x : Str} {scope : Scope} {cl : List (Str × Addr)} {s : Shared} {S : List (Addr × Obj) → Prop} {Fin : List Value → List (Addr × Obj) → Prop} {news : List (Addr × Obj)}

/-- a comprehension over a list that leaves the ledger as it was, item by item -/
theorem comp_pd {α β : Type} {F : α → Value → Prop} (G : β → Value → Prop) (f : α → β) {as : List α} {its : Array Value} (hi : Pd F as its.toList)
    (turn : ∀ a v I oI C oC D ys m₂ h tk (E' : Value → Shared → Prop), a ∈ as → F a v → ys.length ≤ as.length → NsObj oC m₂ → m₂ x = some v → Fr h₀ L h m → News h₀ L h ((I, oI) :: (C, oC) :: (D, lst ys) :: news) → Off3 I C D news → ((@Ne Nat I C) ∧ (@Ne Nat I D) ∧ (@Ne Nat C D)) →
      wpAny (model prog w) A (eval elt (compEnvC scope cl C env)) (CompEnd h₀ L m { s with heap := h, toks := tk } I oI C oC D (lst ys) S (fun y nw' => nw' = news ∧ G (f a) y)) E' { s with heap := h, toks := tk })
    (fin : ∀ ys, Pd G (as.map f) ys → Fin ys news) : CompRest prog w A h₀ L m env elt x scope cl s S (fun i v => its[i]? = some v) Fin its.size 0 [] news := by
  have hl := pd_len hi
  refine comp_inv (fun i ys nw => nw = news ∧ Pd G ((as.take i).map f) ys) ⟨rfl, by simp; exact .nil⟩ ?_ ?_
  · intro i v ys nw I oI C oC D m₂ h tk E' hin hP hJ hC hx F' N off ne
    obtain ⟨rfl, hy⟩ := hJ
    obtain ⟨a, ha, hF⟩ := pd_at hi i v (by simpa using hP)
    have hyl := pd_len hy
    refine wpAny_mono (turn a v I oI C oC D ys m₂ h tk E' (List.mem_of_getElem? ha) hF (by rw [← hyl]; simp; omega) hC hx F' N off ne) (fun y s₂ hq => ?_) fun _ _ e => e
    obtain ⟨h', tk', nw', e', F₂, N₂, off', hS, hn, hg⟩ := hq
    refine ⟨h', tk', nw', e', F₂, N₂, off', hS, hn, ?_⟩
    rw [List.take_add_one, ha, List.map_append]
    exact PySem.Paired.snoc hy hg
  · rintro ys nw ⟨rfl, hy⟩
    refine fin ys ?_
    have : as.take its.size = as := by rw [List.take_of_length_le]; simp at hl; omega
    rwa [this] at hy

/-- the same with a test -/
theorem compT_pd {α β : Type} {F : α → Value → Prop} (G : β → Value → Prop) (p : α → Bool) (f : α → β) {as : List α} {its : Array Value} (hi : Pd F as its.toList)
    (turn : ∀ a v I oI C oC D ys m₂ h tk (E' : Value → Shared → Prop), a ∈ as → F a v → ys.length ≤ as.length → NsObj oC m₂ → m₂ x = some v → Fr h₀ L h m → News h₀ L h ((I, oI) :: (C, oC) :: (D, lst ys) :: news) → Off3 I C D news → ((@Ne Nat I C) ∧ (@Ne Nat I D) ∧ (@Ne Nat C D)) →
      wpAny (model prog w) A (isTrue ct (compEnvC scope cl C env) (eval ct (compEnvC scope cl C env))) (fun ok s' => if ok = true then
        wpAny (model prog w) A (eval elt (compEnvC scope cl C env)) (CompEnd h₀ L m { s with heap := h, toks := tk } I oI C oC D (lst ys) S (fun y nw' => nw' = news ∧ p a = true ∧ G (f a) y)) E' s'
        else CompEnd h₀ L m { s with heap := h, toks := tk } I oI C oC D (lst ys) S (fun _ nw' => nw' = news ∧ p a = false) Value.none s') E' { s with heap := h, toks := tk })
    (fin : ∀ ys, Pd G ((as.filter p).map f) ys → Fin ys news) : LCt.CompRestT prog w A h₀ L m env ct elt x scope cl s S (fun i v => its[i]? = some v) Fin its.size 0 [] news := by
  have hl := pd_len hi
  refine compT_inv (fun i ys nw => nw = news ∧ Pd G (((as.take i).filter p).map f) ys) ⟨rfl, by simp; exact .nil⟩ ?_ ?_
  · intro i v ys nw I oI C oC D m₂ h tk E' hin hP hJ hC hx F' N off ne
    obtain ⟨rfl, hy⟩ := hJ
    obtain ⟨a, ha, hF⟩ := pd_at hi i v (by simpa using hP)
    have hyl := pd_len hy
    have hle : ys.length ≤ as.length := by
      rw [← hyl, List.length_map]
      exact Nat.le_trans (List.length_filter_le _ _) (by simp; omega)
    refine wpAny_mono (turn a v I oI C oC D ys m₂ h tk E' (List.mem_of_getElem? ha) hF hle hC hx F' N off ne) (fun ok s₂ hq => ?_) fun _ _ e => e
    cases ok with
    | true =>
      simp only [if_true] at hq ⊢
      refine wpAny_mono hq (fun y s₃ hr => ?_) fun _ _ e => e
      obtain ⟨h', tk', nw', e', F₂, N₂, off', hS, hn, hp, hg⟩ := hr
      refine ⟨h', tk', nw', e', F₂, N₂, off', hS, hn, ?_⟩
      rw [PySem.take_succ_filter p as i a ha, List.map_append, hp]
      exact PySem.Paired.snoc hy hg
    | false =>
      simp only [Bool.false_eq_true, if_false] at hq ⊢
      obtain ⟨h', tk', nw', e', F₂, N₂, off', hS, hn, hp⟩ := hq
      refine ⟨h', tk', nw', e', F₂, N₂, off', hS, hn, ?_⟩
      rw [PySem.take_succ_filter p as i a ha, List.map_append, hp]
      simpa using hy
  · rintro ys nw ⟨rfl, hy⟩
    refine fin ys ?_
    have : as.take its.size = as := by rw [List.take_of_length_le]; simp at hl; omega
    rwa [this] at hy
end

/-! a call whose body leaves all that stood as it stood: the whole heap is its ground -/
def LeaveB (g : Heap) (R : Result → Shared → Prop) (v : Value) (s' : Shared) : Prop := ∃ L' m', Fr g L' s'.heap m' ∧ R (.ok (.ret v)) s'
theorem LeaveB.intro {g : Heap} {R : Result → Shared → Prop} {v : Value} {s' : Shared} {L' : Addr} {m' : Str → Option Value} (F : Fr g L' s'.heap m') (h : R (.ok (.ret v)) s') : LeaveB g R v s' := ⟨L', m', F, h⟩
section
variable {prog : Program} {w : World} {A A₀ : Around} {s : Shared} {K : Frag} {L : Addr} {h₀ base : Heap} {m mg mb : Str → Option Value} {p : Program} {loose : List Str} {mean : ExcName → Option Value}

theorem code_base {env : Env} {outer : List Env} {R : Result → Shared → Prop} {name qual : Str} {params : Arguments} {body : List Stmt} {scope : Scope} {dV kV doc pm cdv ct oc : Value} {an od : Option Addr} {osl : Array (Option Value)} {f : Addr} {args : Args} {binds : List (Str × Value)}
    (B : Below A₀ base outer h₀) (F : Fr h₀ L s.heap m) (X₀ : K.In h₀) (T : Top p loose mean mg mb h₀) (hA : A.frames = some (env :: outer)) (hf : env.frame = some L) (hke : env.scope.kind = .function)
    (ho : K.lookup f = some ⟨oc, od, .func (fnOf name qual params body scope dV kV doc pm an cdv ct), osl⟩) (hcd : codeIn K cdv qual = true) (hroom : A.depth < recursionLimit)
    (hbind : BindsTo s (fnOf name qual params body scope dV kV doc pm an cdv ct) args binds) (hloc : ∀ y ∈ binds, scope.names.lookup y.1 = some .local)
    (h : ∀ L' h₁, Fr s.heap L' h₁ (fun y => binds.reverse.lookup y) → News s.heap L' h₁ [] → Below A base (env :: outer) s.heap → K.In s.heap → Top p loose mean mg mb s.heap →
      wpAny (model prog w) (A.deeper (envOf qual scope L' f cdv)) (execs body (envOf qual scope L' f cdv))
        (fun fl s' => LeaveB s.heap R (match fl with | .ret v => v | _ => .none) s')
        (fun e s' => wpAny (model prog w) (A.deeper (envOf qual scope L' f cdv)) (leaving (envOf qual scope L' f cdv) e) (fun _ s'' => R (.error e) s'') (fun e' s'' => R (.error e') s'') s')
        { s with heap := h₁, toks := s.toks + binds.length })
    (hco : scope.isCoroutine = false := by rfl) (hgen : scope.isGenerator = false := by rfl) (hk : scope.kind = .function := by rfl)
    (hcell : ∀ x ∈ scope.names, x.2 ≠ .cell := by decide) : codeAny (model prog w) A (.call (.ref f) args) R s := by
  obtain ⟨FG, BG, st, lv⟩ := groundX (R := R) B F (News.nil (h₀ := h₀) (L := L) (h := s.heap)) hA hf hke
  refine codeAny_call_def (fd := fnOf name qual params body scope dV kV doc pm an cdv ct) (body := body) (binds := binds) hroom ((X₀.keeps F.keep) _ _ ho) rfl (T.nolimit.keeps F.keep) (codeRec_of (X₀.keeps F.keep) hcd) rfl hbind hcell hloc (fun h₁ hns hk₁ => ?_) hco hgen hk
  exact wpAny_mono (h s.heap.objs.size h₁ ⟨hns, hk₁, Nat.le_refl _⟩ News.nil BG (X₀.keeps F.keep) (T.keeps F.keep)) (fun fl s' ⟨_, _, _, hr⟩ => hr) fun _ _ y => y
end

/-! the frame's map between turns: the stored names by u, all else by m₀ -/
def over (u m₀ : Str → Option Value) : List Str → Str → Option Value
  | [], y => m₀ y
  | a :: r, y => if y = a then u a else over u m₀ r y
theorem over_in {u m₀ : Str → Option Value} : ∀ {l : List Str} {y : Str}, (y ∉ l → u y = m₀ y) → over u m₀ l y = u y
  | [], y, h => (h List.not_mem_nil).symm
  | a :: r, y, h => by
    unfold over
    by_cases e : y = a
    · rw [if_pos e, e]
    · rw [if_neg e]
      exact over_in fun hn => h fun hm => (List.mem_cons.mp hm).elim e hn
theorem over_set {u m₀ : Str → Option Value} {l : List Str} {x : Str} {v : Option Value} (h : ∀ z, z ≠ x → z ∉ l → u z = m₀ z) : (fun y => if y = x then v else u y) = fun y => if y = x then v else over u m₀ l y := by
  funext y
  by_cases e : y = x
  · rw [if_pos e, if_pos e]
  · rw [if_neg e, if_neg e, over_in fun hn => h y e hn]
theorem over_self {u m₀ : Str → Option Value} {l : List Str} {x : Str} (h : ∀ z, z ≠ x → z ∉ l → u z = m₀ z) : u = fun y => if y = x then u x else over u m₀ l y := by
  funext y
  by_cases e : y = x
  · rw [if_pos e, e]
  · rw [if_neg e, over_in fun hn => h y e hn]
def Same (x : Str) (stored : List Str) (m₀ m' : Str → Option Value) : Prop := ∀ z, z ≠ x → z ∉ stored → m' z = m₀ z
section
variable {prog : Program} {w : World} {A : Around} {E : Value → Shared → Prop} {s : Shared} {env : Env} {h₀ : Heap} {x : Str} {body : List Stmt} {Q : Flow → Shared → Prop}
theorem iter_list_o (stored : List Str) {l : Addr} {its : Array Value} {m₀ : Str → Option Value} {news : List (Addr × Obj)} (J : Nat → (Str → Option Value) → List (Addr × Obj) → Prop)
    (hh : A.handled = none) (src : h₀.IsList l its ∨ ∃ ol k, ol.cls = .type "list" ∧ ol.data = .seq its k ∧ ∀ i m nx, J i m nx → (l, ol) ∈ nx)
    (F : Fr h₀ env.locals s.heap m₀) (N : News h₀ env.locals s.heap news) (hj : J 0 m₀ news)
    (turn : ∀ i v u nw I oI h tk, its[i]? = some v → J i u nw → Off I nw → Fr h₀ env.locals h (fun y => if y = x then some v else over u m₀ stored y) → News h₀ env.locals h ((I, oI) :: nw) →
      wpAny (model prog w) A (execs body env) (TurnPost h₀ env.locals I oI (fun m' nx => Same x stored m₀ m' ∧ J (i + 1) m' nx) { s with heap := h, toks := tk } Q) E { s with heap := h, toks := tk })
    (done : ∀ u nw h tk, J its.size u nw → Fr h₀ env.locals h (fun y => if y = x then u x else over u m₀ stored y) → News h₀ env.locals h nw → Q .next { s with heap := h, toks := tk }) :
    wpAny (model prog w) A (pyIter (.ref l)) (fun it s₂ => LoopAtV prog w A h₀ env x body Q E it s₂) E s := by
  refine iter_list (fun i m nx => Same x stored m₀ m ∧ J i m nx) hh (src.imp id fun ⟨ol, k, a, b, c⟩ => ⟨ol, k, a, b, fun i m nx h => c i m nx h.2⟩) F N ⟨fun _ _ _ => rfl, hj⟩ ?_ ?_
  · rintro i v m₁ nw I oI h tk hv ⟨hs, hJ⟩ hoff F₁ N₁
    rw [over_set hs] at F₁
    exact turn i v m₁ nw I oI h tk hv hJ hoff F₁ N₁
  · rintro m₁ nw h tk ⟨hs, hJ⟩ F₁ N₁
    refine done m₁ nw h tk hJ ?_ N₁
    rw [← over_self hs]; exact F₁
theorem iter_range_o (stored : List Str) {r : Addr} {a b c : Int} {t u v : Tok} {n : Nat} {m₀ : Str → Option Value} {news : List (Addr × Obj)} (J : Nat → (Str → Option Value) → List (Addr × Obj) → Prop)
    (hh : A.handled = none) (hr : IsRange s.heap r a b c t u v) (hsm : Builtin.Range.small a b c = true) (hn : Builtin.Range.rangeSize a b c = ((n : Nat) : Int))
    (F : Fr h₀ env.locals s.heap m₀) (N : News h₀ env.locals s.heap news) (hj : J 0 m₀ news)
    (turn : ∀ i t u nw I oI h tk, i < n → J i u nw → Off I nw → Fr h₀ env.locals h (fun y => if y = x then some (.int (a + i * c) t) else over u m₀ stored y) → News h₀ env.locals h ((I, oI) :: nw) →
      wpAny (model prog w) A (execs body env) (TurnPost h₀ env.locals I oI (fun m' nx => Same x stored m₀ m' ∧ J (i + 1) m' nx) { s with heap := h, toks := tk } Q) E { s with heap := h, toks := tk })
    (done : ∀ u nw h tk, J n u nw → Fr h₀ env.locals h (fun y => if y = x then u x else over u m₀ stored y) → News h₀ env.locals h nw → Q .next { s with heap := h, toks := tk }) :
    wpAny (model prog w) A (pyIter (.ref r)) (fun it s₂ => LoopAtV prog w A h₀ env x body Q E it s₂) E s := by
  refine iter_range (fun i m nx => Same x stored m₀ m ∧ J i m nx) hh hr hsm hn F N ⟨fun _ _ _ => rfl, hj⟩ ?_ ?_
  · rintro i t m₁ nw I oI h tk hi ⟨hs, hJ⟩ hoff F₁ N₁
    rw [over_set hs] at F₁
    exact turn i t m₁ nw I oI h tk hi hJ hoff F₁ N₁
  · rintro m₁ nw h tk ⟨hs, hJ⟩ F₁ N₁
    refine done m₁ nw h tk hJ ?_ N₁
    rw [← over_self hs]; exact F₁

/-- the ledger stays: J is of the names alone -/
theorem iter_list_s (stored : List Str) {l : Addr} {its : Array Value} {m₀ : Str → Option Value} {news : List (Addr × Obj)} (J : Nat → (Str → Option Value) → Prop)
    (hh : A.handled = none) (src : h₀.IsList l its ∨ ∃ ol k, ol.cls = .type "list" ∧ ol.data = .seq its k ∧ (l, ol) ∈ news)
    (F : Fr h₀ env.locals s.heap m₀) (N : News h₀ env.locals s.heap news) (hj : J 0 m₀)
    (turn : ∀ i v u I oI h tk, its[i]? = some v → J i u → Off I news → Fr h₀ env.locals h (fun y => if y = x then some v else over u m₀ stored y) → News h₀ env.locals h ((I, oI) :: news) →
      wpAny (model prog w) A (execs body env) (TurnPost h₀ env.locals I oI (fun m' nx => Same x stored m₀ m' ∧ nx = news ∧ J (i + 1) m') { s with heap := h, toks := tk } Q) E { s with heap := h, toks := tk })
    (done : ∀ u h tk, J its.size u → Fr h₀ env.locals h (fun y => if y = x then u x else over u m₀ stored y) → News h₀ env.locals h news → Q .next { s with heap := h, toks := tk }) :
    wpAny (model prog w) A (pyIter (.ref l)) (fun it s₂ => LoopAtV prog w A h₀ env x body Q E it s₂) E s := by
  refine iter_list_o stored (fun i m nx => nx = news ∧ J i m) hh (src.imp id fun ⟨ol, k, a, b, c⟩ => ⟨ol, k, a, b, fun i m nx h => h.1 ▸ c⟩) F N ⟨rfl, hj⟩ ?_ ?_
  · rintro i v u nw I oI h tk hv ⟨rfl, hJ⟩ hoff F₁ N₁
    exact turn i v u I oI h tk hv hJ hoff F₁ N₁
  · rintro u nw h tk ⟨rfl, hJ⟩ F₁ N₁
    exact done u h tk hJ F₁ N₁
theorem iter_range_s (stored : List Str) {r : Addr} {a b c : Int} {t u v : Tok} {n : Nat} {m₀ : Str → Option Value} {news : List (Addr × Obj)} (J : Nat → (Str → Option Value) → Prop)
    (hh : A.handled = none) (hr : IsRange s.heap r a b c t u v) (hsm : Builtin.Range.small a b c = true) (hn : Builtin.Range.rangeSize a b c = ((n : Nat) : Int))
    (F : Fr h₀ env.locals s.heap m₀) (N : News h₀ env.locals s.heap news) (hj : J 0 m₀)
    (turn : ∀ i t u I oI h tk, i < n → J i u → Off I news → Fr h₀ env.locals h (fun y => if y = x then some (.int (a + i * c) t) else over u m₀ stored y) → News h₀ env.locals h ((I, oI) :: news) →
      wpAny (model prog w) A (execs body env) (TurnPost h₀ env.locals I oI (fun m' nx => Same x stored m₀ m' ∧ nx = news ∧ J (i + 1) m') { s with heap := h, toks := tk } Q) E { s with heap := h, toks := tk })
    (done : ∀ u h tk, J n u → Fr h₀ env.locals h (fun y => if y = x then u x else over u m₀ stored y) → News h₀ env.locals h news → Q .next { s with heap := h, toks := tk }) :
    wpAny (model prog w) A (pyIter (.ref r)) (fun it s₂ => LoopAtV prog w A h₀ env x body Q E it s₂) E s := by
  refine iter_range_o stored (fun i m nx => nx = news ∧ J i m) hh hr hsm hn F N ⟨rfl, hj⟩ ?_ ?_
  · rintro i t u nw I oI h tk hv ⟨rfl, hJ⟩ hoff F₁ N₁
    exact turn i t u I oI h tk hv hJ hoff F₁ N₁
  · rintro u nw h tk ⟨rfl, hJ⟩ F₁ N₁
    exact done u h tk hJ F₁ N₁
end

/-- a turn's end: what the turn has made and dropped stands ahead (ext) -/
theorem TurnEnd.mk' {h₀ : Heap} {L I : Addr} {oI : Obj} {J : (Str → Option Value) → List (Addr × Obj) → Prop} {s₁ : Shared} {h' : Heap} {tk : Nat} {m' : Str → Option Value} (ext : List (Addr × Obj)) {nx : List (Addr × Obj)}
    (F : Fr h₀ L h' m') (N : News h₀ L h' (ext ++ (I, oI) :: nx)) (off : Off I nx) (hj : J m' nx) :
    TurnEnd h₀ L I oI J s₁ { s₁ with heap := h', toks := tk } := ⟨h', tk, m', nx, rfl, F, fun p hp => N p (List.mem_append_right _ hp), off, hj⟩

section
variable {prog : Program} {w : World} {A : Around} {E : Value → Shared → Prop} {s : Shared} {env : Env} {h₀ : Heap} {x : Str} {body : List Stmt} {Q : Flow → Shared → Prop}
theorem take_split {α : Type} {as : List α} {i : Nat} {a : α} (h : as[i]? = some a) : as = as.take i ++ a :: as.drop (i + 1) := by
  have hi : i < as.length := by
    rcases Nat.lt_or_ge i as.length with q | q
    · exact q
    · rw [List.getElem?_eq_none q] at h; cases h
  have : as[i] = a := by rw [List.getElem?_eq_getElem hi] at h; exact Option.some.inj h
  rw [← this, ← List.drop_eq_getElem_cons hi, List.take_append_drop]
theorem take_next {α : Type} {as : List α} {i : Nat} {a : α} (h : as[i]? = some a) : as.take (i + 1) = as.take i ++ [a] := by rw [List.take_add_one, h]; rfl

/-- a for over a list that stands for as: the word speaks of what has been taken -/
theorem iter_pd_o {α : Type} {F : α → Value → Prop} {as : List α} {its : Array Value} (hi : Pd F as its.toList) (stored : List Str) {l : Addr} {m₀ : Str → Option Value} {news : List (Addr × Obj)} (J : List α → (Str → Option Value) → List (Addr × Obj) → Prop)
    (hh : A.handled = none) (src : h₀.IsList l its ∨ ∃ ol k, ol.cls = .type "list" ∧ ol.data = .seq its k ∧ ∀ pre m nx, J pre m nx → (l, ol) ∈ nx)
    (Fr₀ : Fr h₀ env.locals s.heap m₀) (N : News h₀ env.locals s.heap news) (hj : J [] m₀ news)
    (turn : ∀ pre a post v u nw I oI h tk, as = pre ++ a :: post → F a v → J pre u nw → Off I nw → Fr h₀ env.locals h (fun y => if y = x then some v else over u m₀ stored y) → News h₀ env.locals h ((I, oI) :: nw) →
      wpAny (model prog w) A (execs body env) (TurnPost h₀ env.locals I oI (fun m' nx => Same x stored m₀ m' ∧ J (pre ++ [a]) m' nx) { s with heap := h, toks := tk } Q) E { s with heap := h, toks := tk })
    (done : ∀ u nw h tk, J as u nw → Fr h₀ env.locals h (fun y => if y = x then u x else over u m₀ stored y) → News h₀ env.locals h nw → Q .next { s with heap := h, toks := tk }) :
    wpAny (model prog w) A (pyIter (.ref l)) (fun it s₂ => LoopAtV prog w A h₀ env x body Q E it s₂) E s := by
  have hl := pd_len hi
  refine iter_list_o stored (its := its) (fun i m nx => J (as.take i) m nx) hh (src.imp id fun ⟨ol, k, a, b, c⟩ => ⟨ol, k, a, b, fun i m nx h => c _ m nx h⟩) Fr₀ N (by simpa using hj) ?_ ?_
  · intro i v u nw I oI h tk hv hJ hoff F₁ N₁
    obtain ⟨a, ha, hF⟩ := pd_at hi i v (by simpa using hv)
    rw [take_next ha]
    exact turn _ a _ v u nw I oI h tk (take_split ha) hF hJ hoff F₁ N₁
  · intro u nw h tk hJ F₁ N₁
    refine done u nw h tk ?_ F₁ N₁
    have e : as.take its.size = as := List.take_of_length_le (by rw [hl]; simp)
    rwa [e] at hJ
/-- the same, the ledger stays -/
theorem iter_pd_s {α : Type} {F : α → Value → Prop} {as : List α} {its : Array Value} (hi : Pd F as its.toList) (stored : List Str) {l : Addr} {m₀ : Str → Option Value} {news : List (Addr × Obj)} (J : List α → (Str → Option Value) → Prop)
    (hh : A.handled = none) (src : h₀.IsList l its ∨ ∃ ol k, ol.cls = .type "list" ∧ ol.data = .seq its k ∧ (l, ol) ∈ news)
    (Fr₀ : Fr h₀ env.locals s.heap m₀) (N : News h₀ env.locals s.heap news) (hj : J [] m₀)
    (turn : ∀ pre a post v u I oI h tk, as = pre ++ a :: post → F a v → J pre u → Off I news → Fr h₀ env.locals h (fun y => if y = x then some v else over u m₀ stored y) → News h₀ env.locals h ((I, oI) :: news) →
      wpAny (model prog w) A (execs body env) (TurnPost h₀ env.locals I oI (fun m' nx => Same x stored m₀ m' ∧ nx = news ∧ J (pre ++ [a]) m') { s with heap := h, toks := tk } Q) E { s with heap := h, toks := tk })
    (done : ∀ u h tk, J as u → Fr h₀ env.locals h (fun y => if y = x then u x else over u m₀ stored y) → News h₀ env.locals h news → Q .next { s with heap := h, toks := tk }) :
    wpAny (model prog w) A (pyIter (.ref l)) (fun it s₂ => LoopAtV prog w A h₀ env x body Q E it s₂) E s := by
  refine iter_pd_o hi stored (fun pre m nx => nx = news ∧ J pre m) hh (src.imp id fun ⟨ol, k, a, b, c⟩ => ⟨ol, k, a, b, fun _ _ nx h => h.1 ▸ c⟩) Fr₀ N ⟨rfl, hj⟩ ?_ ?_
  · rintro pre a post v u nw I oI h tk e hF ⟨rfl, hJ⟩ hoff F₁ N₁
    exact turn pre a post v u I oI h tk e hF hJ hoff F₁ N₁
  · rintro u nw h tk ⟨rfl, hJ⟩ F₁ N₁
    exact done u h tk hJ F₁ N₁
end

section
variable {prog : Program} {w : World} {A : Around} {E : Value → Shared → Prop} {s : Shared} {h₀ : Heap} {L D : Addr} {m : Str → Option Value} {news news' : List (Addr × Obj)} {n : Nat} {k : Int} {t : Tok}
theorem last_at (zs : List Value) (v : Value) : ((zs ++ [v]).toArray)[((-1 : Int) + ((zs ++ [v]).toArray.size : Nat)).toNat]? = some v := by
  have e : ((-1 : Int) + ((zs ++ [v]).toArray.size : Nat)).toNat = zs.length := by
    rw [List.size_toArray, List.length_append, List.length_singleton]; omega
  rw [e]; simp
theorem get_last {zs : List Value} {v : Value} {Q : Value → Shared → Prop} (N : News h₀ L s.heap news) (hm : (D, listOf (zs ++ [v]).toArray n) ∈ news) (h : Q v s) :
    wpAny (model prog w) A (getItem (.ref D) (.int (-1) t)) Q E s :=
  wpAny_getItem_list_neg (PySem.IsL.isList (n := n) (N _ hm).1) (by decide) (by rw [List.size_toArray, List.length_append, List.length_singleton]; omega) (by decide) (last_at zs v) h
theorem tail_last {value slice : PySem.Expr} {zs : List Value} {v : Value} {Q : Value → Shared → Prop} (N : News h₀ L s.heap news) (hm : (D, listOf (zs ++ [v]).toArray n) ∈ news) (h : Q v s)
    (hs : subscripted slice false (.ref D) (.int (-1) t) = operate [.ref D, .int (-1) t] (getItem (.ref D) (.int (-1) t)) := by with_unfolding_all rfl) :
    wpAny (model prog w) A (subscriptTail value slice (.ref D) (.int (-1) t)) Q E s :=
  tail_any (PySem.IsL.isList (n := n) (N _ hm).1).typeIs slot_list_getitem.lookup (get_last N hm h) hs
theorem set_last {zs : List Value} {v v' : Value} {Q : Unit → Shared → Prop} (F : Fr h₀ L s.heap m) (N : News h₀ L s.heap news) (U : Upd D (listOf (zs ++ [v]).toArray n) (listOf (zs ++ [v']).toArray n) news news')
    (h : ∀ h', Fr h₀ L h' m → News h₀ L h' news' → Q () { s with heap := h' }) :
    wpAny (model prog w) A (setItem (.ref D) (.int (-1) t) v') Q E s := by
  obtain ⟨pre, post, rfl, rfl, a, b⟩ := U.split
  have z := N (D, listOf (zs ++ [v]).toArray n) (List.mem_append.mpr (.inr (.head _)))
  refine ki_setBack z.1 (by decide) (by rw [List.size_toArray, List.length_append, List.length_singleton]; omega) (by decide) (h _ (F.change (Heap.SameBut.update ..) z.2.1 z.2.2) (ki_turn _ N a b ?_ ?_))
  · have e : ((-1 : Int) + ((zs ++ [v]).toArray.size : Nat)).toNat = zs.length := by
      rw [List.size_toArray, List.length_append, List.length_singleton]; omega
    show (zs ++ [v]).toArray.setIfInBounds _ v' = (zs ++ [v']).toArray
    rw [e]
    apply Array.toList_inj.mp
    simp
  · simp
theorem get_at {its : Array Value} {v : Value} {Q : Value → Shared → Prop} (hl : s.heap.IsList D its) (h0 : 0 ≤ k) (hfit : k < 2 ^ 63) (hx : its[k.toNat]? = some v) (h : Q v s) :
    wpAny (model prog w) A (getItem (.ref D) (.int k t)) Q E s := wpAny_getItem_list hl h0 hfit hx h
theorem tail_at {value slice : PySem.Expr} {its : Array Value} {v : Value} {Q : Value → Shared → Prop} (hl : s.heap.IsList D its) (h0 : 0 ≤ k) (hfit : k < 2 ^ 63) (hx : its[k.toNat]? = some v) (h : Q v s)
    (hs : subscripted slice false (.ref D) (.int k t) = operate [.ref D, .int k t] (getItem (.ref D) (.int k t)) := by with_unfolding_all rfl) :
    wpAny (model prog w) A (subscriptTail value slice (.ref D) (.int k t)) Q E s :=
  tail_any hl.typeIs slot_list_getitem.lookup (get_at hl h0 hfit hx h) hs
end

section
variable {prog : Program} {w : World} {A : Around} {E : Value → Shared → Prop} {s : Shared} {h₀ : Heap} {L D : Addr} {m : Str → Option Value} {news news' : List (Addr × Obj)} {n : Nat}
theorem append_l {zs : List Value} {x : Value} {Q : Value → Shared → Prop} (F : Fr h₀ L s.heap m) (N : News h₀ L s.heap news) (U : Upd D (listOf zs.toArray n) (listOf (zs ++ [x]).toArray (n + 1)) news news')
    (h : ∀ h', Fr h₀ L h' m → News h₀ L h' news' → Q .none { s with heap := h' }) (hsz : zs.length ≤ sizeLine) : wpAny (model prog w) A (call (.builtin "list.append") [.ref D, x]) Q E s :=
  append_K F N (by rw [List.push_toArray]; exact U) h (by rw [List.size_toArray]; exact hsz)
end

section
variable {prog : Program} {w : World} {A : Around} {E : Value → Shared → Prop} {s : Shared} {h₀ : Heap} {L D a b l : Addr} {m : Str → Option Value} {news news' : List (Addr × Obj)} {n k : Nat} {xs zs : List Value} {Q : Value → Shared → Prop}
theorem is_l (N : News h₀ L s.heap news) (ha : (a, listOf xs.toArray n) ∈ news) : s.heap.IsList a xs.toArray := PySem.IsL.isList (n := n) (N _ ha).1
theorem len_l (N : News h₀ L s.heap news) (ha : (a, listOf xs.toArray n) ∈ news) (hz : xs.length ≤ sizeLine) (h : Q (.int xs.length (s.toks + 1)) { s with toks := s.toks + 1 + 1 }) :
    wpAny (model prog w) A (call (.builtin "len") [.ref a]) Q E s := by
  have e : xs.toArray.size = xs.length := List.size_toArray ..
  refine len_list (is_l N ha) ?_ (by rw [e]; exact h)
  rw [e]; rw [sizeLine_eq] at hz; omega
theorem add_l (F : Fr h₀ L s.heap m) (N : News h₀ L s.heap news) (ha : (a, listOf xs.toArray n) ∈ news) (hb : (b, listOf zs.toArray k) ∈ news) (hz : xs.length + zs.length ≤ sizeLine)
    (h : ∀ D h', Fr h₀ L h' m → News h₀ L h' ((D, listOf (xs ++ zs).toArray 0) :: news) → (∀ p ∈ news, p.1 < D) → Q (.ref D) { s with heap := h' }) : wpAny (model prog w) A (binaryOp .Add (.ref a) (.ref b)) Q E s :=
  kmk_add_lit F N (is_l N ha) (is_l N hb) rfl h hz
theorem copy_l (F : Fr h₀ L s.heap m) (N : News h₀ L s.heap news) (hb : (b, listOf xs.toArray n) ∈ news) (hz : xs.length ≤ sizeLine)
    (h : ∀ D c h', Fr h₀ L h' m → News h₀ L h' ((D, listOf xs.toArray c) :: news) → (∀ q ∈ news, q.1 < D) → Q (.ref D) { s with heap := h' }) : wpAny (model prog w) A (call (.type "list") [.ref b]) Q E s :=
  kup_listOf F N hb rfl h hz
theorem slice_l {value slice : PySem.Expr} {vl vu : Value} {lo hi : Option Int} (F : Fr h₀ L s.heap m) (N : News h₀ L s.heap news) (hl : (l, listOf xs.toArray n) ∈ news) (pl : IsPart vl lo) (pu : IsPart vu hi)
    (h : ∀ D h', Fr h₀ L h' m → News h₀ L h' ((D, listOf (kms_pick xs lo hi).toArray 0) :: news) → (∀ p ∈ news, p.1 < D) → Q (.ref D) { s with heap := h' })
    (hs : subscripted slice false (.ref l) (.ref s.heap.objs.size) = operate [.ref s.heap.objs.size, .ref l] (getItem (.ref l) (.ref s.heap.objs.size))) (ht : ∀ r, letTemporaryGo value (.ref l) r = pure ()) (hz : xs.length ≤ sizeLine) :
    wpAny (model prog w) A (subscriptTail value slice (.ref l) (.ref s.heap.objs.size)) Q E { s with heap := s.heap.push { cls := .type "slice", data := .fields #[vl, vu, .none] } } :=
  kms_slice_lit F N (is_l N hl) pl pu rfl h hs ht (by rw [List.size_toArray]; exact hz)
theorem pick_to (xs : List Value) (j : Nat) : kms_pick xs none (some (j : Int)) = xs.take j := by
  unfold kms_pick kms_lo kms_hi
  have : ¬ ((j : Int) < 0) := by omega
  simp only [this, if_false, List.drop_zero, Int.toNat_natCast, Nat.sub_zero]
  rcases Nat.le_total j xs.length with q | q
  · rw [Nat.min_eq_left q]
  · rw [Nat.min_eq_right q, List.take_of_length_le (Nat.le_refl _), List.take_of_length_le q]
theorem pick_from (xs : List Value) (j : Nat) : kms_pick xs (some (j : Int)) none = xs.drop j := by
  unfold kms_pick kms_lo kms_hi
  have : ¬ ((j : Int) < 0) := by omega
  simp only [this, if_false, Int.toNat_natCast]
  rcases Nat.le_total j xs.length with q | q
  · rw [Nat.min_eq_left q, List.take_of_length_le (by simp)]
  · rw [Nat.min_eq_right q, List.drop_eq_nil_of_le (Nat.le_refl _), List.drop_eq_nil_of_le q]; simp
end

section
variable {prog : Program} {w : World} {A : Around} {E : Value → Shared → Prop} {s : Shared} {env : Env} {h₀ : Heap} {x : Str} {body : List Stmt} {Q : Flow → Shared → Prop}
/-- for i in range(a, b): the turns' numbers -/
theorem iter_count_o (stored : List Str) {r : Addr} {a b : Int} {t u v : Tok} (n : Nat) {m₀ : Str → Option Value} {news : List (Addr × Obj)} (J : Nat → (Str → Option Value) → List (Addr × Obj) → Prop)
    (hh : A.handled = none) (hr : IsRange s.heap r a b 1 t u v) (hn : (b - a).toNat = n) (ha : -1000000 ≤ a ∧ a ≤ 1000000) (hb : -1000000 ≤ b ∧ b ≤ 1000000)
    (F : Fr h₀ env.locals s.heap m₀) (N : News h₀ env.locals s.heap news) (hj : J 0 m₀ news)
    (turn : ∀ (i : Nat) (t : Tok) u nw I oI h tk, i < n → J i u nw → Off I nw → Fr h₀ env.locals h (fun y => if y = x then some (.int (a + (i : Int)) t) else over u m₀ stored y) → News h₀ env.locals h ((I, oI) :: nw) →
      wpAny (model prog w) A (execs body env) (TurnPost h₀ env.locals I oI (fun m' nx => Same x stored m₀ m' ∧ J (i + 1) m' nx) { s with heap := h, toks := tk } Q) E { s with heap := h, toks := tk })
    (done : ∀ u nw h tk, J n u nw → Fr h₀ env.locals h (fun y => if y = x then u x else over u m₀ stored y) → News h₀ env.locals h nw → Q .next { s with heap := h, toks := tk }) :
    wpAny (model prog w) A (pyIter (.ref r)) (fun it s₂ => LoopAtV prog w A h₀ env x body Q E it s₂) E s := by
  refine iter_range_o stored (n := n) J hh hr (small_one (by omega) (by omega) (by omega) (by omega)) (by rw [rangeSize_nat, hn]) F N hj (fun i t u nw I oI h tk hi hJ ho F₁ N₁ => ?_) done
  rw [Int.mul_one] at F₁
  exact turn i t u nw I oI h tk hi hJ ho F₁ N₁
theorem iter_count_s (stored : List Str) {r : Addr} {a b : Int} {t u v : Tok} (n : Nat) {m₀ : Str → Option Value} {news : List (Addr × Obj)} (J : Nat → (Str → Option Value) → Prop)
    (hh : A.handled = none) (hr : IsRange s.heap r a b 1 t u v) (hn : (b - a).toNat = n) (ha : -1000000 ≤ a ∧ a ≤ 1000000) (hb : -1000000 ≤ b ∧ b ≤ 1000000)
    (F : Fr h₀ env.locals s.heap m₀) (N : News h₀ env.locals s.heap news) (hj : J 0 m₀)
    (turn : ∀ (i : Nat) (t : Tok) u I oI h tk, i < n → J i u → Off I news → Fr h₀ env.locals h (fun y => if y = x then some (.int (a + (i : Int)) t) else over u m₀ stored y) → News h₀ env.locals h ((I, oI) :: news) →
      wpAny (model prog w) A (execs body env) (TurnPost h₀ env.locals I oI (fun m' nx => Same x stored m₀ m' ∧ nx = news ∧ J (i + 1) m') { s with heap := h, toks := tk } Q) E { s with heap := h, toks := tk })
    (done : ∀ u h tk, J n u → Fr h₀ env.locals h (fun y => if y = x then u x else over u m₀ stored y) → News h₀ env.locals h news → Q .next { s with heap := h, toks := tk }) :
    wpAny (model prog w) A (pyIter (.ref r)) (fun it s₂ => LoopAtV prog w A h₀ env x body Q E it s₂) E s := by
  refine iter_count_o stored n (fun i m nx => nx = news ∧ J i m) hh hr hn ha hb F N ⟨rfl, hj⟩ ?_ ?_
  · rintro i t u nw I oI h tk hv ⟨rfl, hJ⟩ hoff F₁ N₁
    exact turn i t u I oI h tk hv hJ hoff F₁ N₁
  · rintro u nw h tk ⟨rfl, hJ⟩ F₁ N₁
    exact done u h tk hJ F₁ N₁
end

section
open LCg
variable {prog : Program} {w : World} {A : Around} {E : Value → Shared → Prop} {s : Shared} {h₀ : Heap} {L : Addr} {m : Str → Option Value} {env : Env}
theorem pyIter_str {x : Str} {t : Tok} {Q : Value → Shared → Prop}
    (hQ : ∀ (o : Obj) (St : Nat → Heap → Prop), (∀ A' : Around, A'.handled = none → Walks prog w A' s.heap.objs.size [s.heap.objs.size] [s.heap.objs.size] x.cps.size (SignAt x) St) → St 0 (s.heap.push o) → o.isFreed = false → (∀ i h, St i h → ∃ o, h.get? s.heap.objs.size = some o) →
      Q (.ref s.heap.objs.size) { s with heap := s.heap.push o }) : wpAny (model prog w) A (pyIter (.str x t)) Q E s := by
  cases ha : x.cps.all (· < 128)
  · exact wpAny_pyIter_wide ha (hQ _ _ (fun A' hA => Walks.strWide hA _ x t) ⟨_, Heap.get?_push_size _ rfl, rfl, rfl⟩ rfl fun i h ⟨o, e, _⟩ => ⟨o, e⟩)
  · exact wpAny_pyIter_ascii ha (hQ _ _ (fun A' hA => Walks.strAscii hA _ x t) ⟨_, Heap.get?_push_size _ rfl, rfl, rfl⟩ rfl fun i h ⟨o, e, _⟩ => ⟨o, e⟩)

def SrcS (prog : Program) (w : World) (A : Around) (h₀ : Heap) (L : Addr) (m : Str → Option Value) (env : Env) (elt : Expr) (x : Str) (scope : Scope) (cl : List (Str × Addr)) (Fin : Shared → List Value → List (Addr × Obj) → Prop) (xv : Value) (s₁ : Shared) : Prop :=
  ∃ y t news, xv = .str y t ∧ A.handled = none ∧ Fr h₀ L s₁.heap m ∧ News h₀ L s₁.heap news ∧ y.length ≤ sizeLine ∧
    ∀ s₂ : Shared, (∃ h, s₂ = { s₁ with heap := h }) → CompRest prog w A h₀ L m env elt x scope cl s₂ (fun _ => True) (SignAt y) (Fin s₂) y.cps.size 0 [] news
theorem SrcS.intro {elt : Expr} {x : Str} {scope : Scope} {cl : List (Str × Addr)} {Fin : Shared → List Value → List (Addr × Obj) → Prop} {y : Str} {t : Tok} {news : List (Addr × Obj)} {s₁ : Shared}
    (hh : A.handled = none) (F : Fr h₀ L s₁.heap m) (N : News h₀ L s₁.heap news) (hz : y.length ≤ sizeLine)
    (h : ∀ g, CompRest prog w A h₀ L m env elt x scope cl { s₁ with heap := g } (fun _ => True) (SignAt y) (Fin { s₁ with heap := g }) y.cps.size 0 [] news) : SrcS prog w A h₀ L m env elt x scope cl Fin (.str y t) s₁ :=
  ⟨y, t, news, rfl, hh, F, N, hz, fun _ ⟨g, e⟩ => e ▸ h g⟩

/-- a comprehension without a test over a text's signs -/
theorem ListComp_S {elt iter : Expr} {x : Str} {px : Pos} {scope : Scope} {cl : List (Str × Addr)} {pos : Pos} {Q : Value → Shared → Prop} (_F₀ : Fr h₀ L s.heap m)
    (hclos : closureFor scope env = pure cl) (hcell : ∀ y ∈ scope.names, y.2 ≠ .cell) (hkind : scope.kind = .function)
    (hnames : ∀ y ∈ scope.names, y.2 = .local → scope.names.lookup y.1 = some .local) (hx : scope.names.lookup x = some .local)
    (h : wpAny (model prog w) A (eval iter env) (SrcS prog w A h₀ L m env elt x scope cl (fun s₂ => FinE h₀ L m s₂ Q)) E s)
    (hs : ∀ x, foldedSetIterable iter env x = pure x := by intro _; rfl) :
    wpAny (model prog w) A (eval (.ListComp elt [⟨.Name x px, iter, [], 0⟩] scope pos) env) Q E s := by
  rw [eval_ListComp]
  refine wpAny_comprehension_free (use := none) rfl hs hclos hkind hnames (wpAny_mono h (fun xv s₁ h₁ => ?_) fun _ _ e => e)
  obtain ⟨y, t, news, rfl, hh, F, N, hz, R⟩ := h₁
  refine pyIter_str fun o St hW hst hfr hIo => ?_
  have W := hW A hh
  have up : ∀ b o', s₁.heap.get? b = some o' → (s₁.heap.push o).get? b = some o' := fun b o' e => Heap.get?_push_of_some _ e
  refine block_U (h₀ := h₀) (L := L) (m := m) W (by show y.cps.size ≤ sizeLine; exact hz) hIo (fun i h h' o' nw st e e' _ _ _ => W.frame _ _ _ st fun b hb o₂ q => ?_) hcell hkind hx hst (fun b hb => ?_)
    (F.keeps up) (N.grown up) (Nat.ne_of_lt F.ns.lt) (next_is_new F) (fun p hp => Nat.ne_of_lt (Heap.lt_size (N p hp).1)) trivial (R _ ⟨_, rfl⟩) ?_
  · rw [List.mem_singleton.mp hb] at q ⊢
    rw [e] at q; cases q; exact e'
  · rw [List.mem_singleton.mp hb]
    show s₁.heap.objs.size < (s₁.heap.push _).objs.size
    rw [Heap.size_push]; exact Nat.lt_succ_self _
  · intro D C h tk m' ys news' F' N' o1 hn hC₀ hD₀ hCL hDL hCD offC fin
    refine ⟨m', hn, fun h'' hs'' => fin D h'' tk (F'.change hs'' hCL hC₀) (fun p hp => ?_) o1⟩
    refine ⟨hs''.extBut _ _ ?_ (N' p hp).1, (N' p hp).2⟩
    rcases List.mem_cons.mp hp with rfl | hp
    · exact Ne.symm hCD
    · exact offC p hp
end
def CharV (c : Nat) (v : Value) : Prop := ∃ t, v = .str ⟨#[c]⟩ t
section
open LCg
variable {prog : Program} {w : World} {A : Around} {h₀ : Heap} {L : Addr} {m : Str → Option Value} {env : Env} {elt : Expr} {x : Str} {scope : Scope} {cl : List (Str × Addr)} {s : Shared} {S : List (Addr × Obj) → Prop} {Fin : List Value → List (Addr × Obj) → Prop} {news : List (Addr × Obj)}
/-- over a text's signs, item by item, the ledger as it was -/
theorem comp_signs {β : Type} (G : β → Value → Prop) (f : Nat → β) {y : Str}
    (turn : ∀ c t I oI C oC D ys m₂ h tk (E' : Value → Shared → Prop), c ∈ y.cps.toList → ys.length ≤ y.cps.size → NsObj oC m₂ → m₂ x = some (.str ⟨#[c]⟩ t) → Fr h₀ L h m → News h₀ L h ((I, oI) :: (C, oC) :: (D, lst ys) :: news) → Off3 I C D news → ((@Ne Nat I C) ∧ (@Ne Nat I D) ∧ (@Ne Nat C D)) →
      wpAny (model prog w) A (eval elt (compEnvC scope cl C env)) (CompEnd h₀ L m { s with heap := h, toks := tk } I oI C oC D (lst ys) S (fun v nw' => nw' = news ∧ G (f c) v)) E' { s with heap := h, toks := tk })
    (fin : ∀ ys, Pd G (y.cps.toList.map f) ys → Fin ys news) : CompRest prog w A h₀ L m env elt x scope cl s S (SignAt y) Fin y.cps.size 0 [] news := by
  refine comp_inv (fun i ys nw => nw = news ∧ Pd G ((y.cps.toList.take i).map f) ys) ⟨rfl, by simp; exact .nil⟩ ?_ ?_
  · intro i v ys nw I oI C oC D m₂ h tk E' hin hP hJ hC hx F' N' off ne
    obtain ⟨rfl, hy⟩ := hJ
    obtain ⟨c, u, hc, rfl⟩ := hP
    have hc' : y.cps.toList[i]? = some c := by simpa using hc
    have hyl := pd_len hy
    refine wpAny_mono (turn c u I oI C oC D ys m₂ h tk E' (List.mem_of_getElem? hc') (by rw [← hyl]; simp; omega) hC hx F' N' off ne) (fun v s₂ hq => ?_) fun _ _ e => e
    obtain ⟨h', tk', nw', e', F₂, N₂, off', hS, hn, hg⟩ := hq
    refine ⟨h', tk', nw', e', F₂, N₂, off', hS, hn, ?_⟩
    rw [take_next hc', List.map_append]
    exact PySem.Paired.snoc hy hg
  · rintro ys nw ⟨rfl, hy⟩
    refine fin ys ?_
    have : y.cps.toList.take y.cps.size = y.cps.toList := by rw [List.take_of_length_le]; simp
    rwa [this] at hy
end

theorem cend {h₀ : Heap} {L I C D : Addr} {m : Str → Option Value} {s₁ : Shared} {oI oC oD : Obj} {S : List (Addr × Obj) → Prop} {rest : Value → List (Addr × Obj) → Prop} {y : Value} {h' : Heap} {tk : Nat} (ext : List (Addr × Obj)) {news' : List (Addr × Obj)}
    (F : Fr h₀ L h' m) (N : News h₀ L h' (ext ++ (I, oI) :: (C, oC) :: (D, oD) :: news')) (off : LCg.Off3 I C D news') (hS : S news') (r : rest y news') :
    LCg.CompEnd h₀ L m s₁ I oI C oC D oD S rest y { s₁ with heap := h', toks := tk } := ⟨h', tk, news', rfl, F, fun p hp => N p (List.mem_append_right _ hp), off, hS, r⟩

section
variable {prog : Program} {w : World} {A A₀ : Around} {s : Shared} {K : Frag} {L : Addr} {h₀ base : Heap} {m mg mb : Str → Option Value} {p : Program} {loose : List Str} {mean : ExcName → Option Value}
theorem code_baseC {env : Env} {outer : List Env} {R : Result → Shared → Prop} {name qual : Str} {params : Arguments} {body : List Stmt} {scope : Scope} {dV kV doc pm cdv ct oc : Value} {an od : Option Addr} {osl : Array (Option Value)} {f : Addr} {args : Args} {binds : List (Str × Value)}
    (B : Below A₀ base outer h₀) (F : Fr h₀ L s.heap m) (X₀ : K.In h₀) (T : Top p loose mean mg mb h₀) (hA : A.frames = some (env :: outer)) (hf : env.frame = some L) (hke : env.scope.kind = .function)
    (ho : K.lookup f = some ⟨oc, od, .func (fnOf name qual params body scope dV kV doc pm an cdv ct), osl⟩) (hcd : codeIn K cdv qual = true) (hroom : A.depth < recursionLimit)
    (hbind : BindsTo s (fnOf name qual params body scope dV kV doc pm an cdv ct) args binds) (hkind : (binds.all fun y => scope.names.lookup y.1 == some .local || scope.names.lookup y.1 == some .cell) = true)
    (hnd : ((cellsFrom 0 scope.names []).map (·.1)).Nodup)
    (h : ∀ L' h₁ tk cells, Fr s.heap L' h₁ (bindL (envOfC qual scope L' f cdv).kindOf binds fun _ => none) → News s.heap L' h₁ cells →
      CellsAre (bindC (envOfC qual scope L' f cdv).kindOf binds fun _ => none) (cellsFrom (L' + 1) scope.names []) cells → Below A base (env :: outer) s.heap → K.In s.heap → Top p loose mean mg mb s.heap →
      wpAny (model prog w) (A.deeper (envOfC qual scope L' f cdv)) (execs body (envOfC qual scope L' f cdv))
        (fun fl s' => LeaveB s.heap R (match fl with | .ret v => v | _ => .none) s')
        (fun e s' => wpAny (model prog w) (A.deeper (envOfC qual scope L' f cdv)) (leaving (envOfC qual scope L' f cdv) e) (fun _ s'' => R (.error e) s'') (fun e' s'' => R (.error e') s'') s')
        { s with heap := h₁, toks := tk })
    (hco : scope.isCoroutine = false := by rfl) (hgen : scope.isGenerator = false := by rfl) (hk : scope.kind = .function := by rfl) : codeAny (model prog w) A (.call (.ref f) args) R s := by
  obtain ⟨FG, BG, st, lv⟩ := groundX (R := R) B F (News.nil (h₀ := h₀) (L := L) (h := s.heap)) hA hf hke
  refine codeAny_call_function hroom ((X₀.keeps F.keep) _ _ ho) rfl hco hgen rfl (codeRec_of (X₀.keeps F.keep) hcd) (hbind _ _ _ _ ?_)
  refine wpAny_newFunctionEnv_cells hk (kindsX hkind _) fun env' he s' x => ?_
  subst he
  refine ⟨(T.nolimit.keeps F.keep).keeps x.toInCall.keep, codeAny_func ?_⟩
  obtain ⟨h₁, tk, rfl, _⟩ := x.done
  have hk₁ := x.toInCall.keep
  obtain ⟨cells, NC, Y⟩ := Cl.news (h₀ := s.heap) (Nat.le_refl _) fun n c hm => ⟨x.cell n c (lookup_of_mem_nodup (cellsFrom_names scope.names 0 (s.heap.objs.size + 1) [] [] rfl ▸ hnd) hm), x.above n c hm⟩
  exact wpAny_mono (h s.heap.objs.size h₁ tk cells ⟨x.toInCall.ns, hk₁, Nat.le_refl _⟩ NC Y BG (X₀.keeps F.keep) (T.keeps F.keep)) (fun fl s' ⟨_, _, _, hr⟩ => hr) fun _ _ y => y
end

section
open LCg
variable {prog : Program} {w : World} {A : Around} {h₀ : Heap} {L : Addr} {m : Str → Option Value} {env : Env} {ct elt : Expr} {x : Str} {scope : Scope} {cl : List (Str × Addr)} {s : Shared} {S : List (Addr × Obj) → Prop} {Fin : List Value → List (Addr × Obj) → Prop} {news : List (Addr × Obj)}
theorem range_next (n : Nat) : List.range (n + 1) = List.range n ++ [n] := List.range_succ
/-- over a range, with a test, the ledger as it was -/
theorem compT_count {β : Type} (G : β → Value → Prop) (p : Nat → Bool) (f : Nat → β) {n : Nat} {a : Int}
    (turn : ∀ (i : Nat) (t : Tok) I oI C oC D ys m₂ h tk (E' : Value → Shared → Prop), i < n → ys.length ≤ n → NsObj oC m₂ → m₂ x = some (.int (a + (i : Int)) t) → Fr h₀ L h m → News h₀ L h ((I, oI) :: (C, oC) :: (D, lst ys) :: news) → Off3 I C D news → ((@Ne Nat I C) ∧ (@Ne Nat I D) ∧ (@Ne Nat C D)) →
      wpAny (model prog w) A (isTrue ct (compEnvC scope cl C env) (eval ct (compEnvC scope cl C env))) (fun ok s' => if ok = true then
        wpAny (model prog w) A (eval elt (compEnvC scope cl C env)) (CompEnd h₀ L m { s with heap := h, toks := tk } I oI C oC D (lst ys) S (fun y nw' => nw' = news ∧ p i = true ∧ G (f i) y)) E' s'
        else CompEnd h₀ L m { s with heap := h, toks := tk } I oI C oC D (lst ys) S (fun _ nw' => nw' = news ∧ p i = false) Value.none s') E' { s with heap := h, toks := tk })
    (fin : ∀ ys, Pd G (((List.range n).filter p).map f) ys → Fin ys news) : LCt.CompRestT prog w A h₀ L m env ct elt x scope cl s S (fun i v => ∃ t, v = .int (a + (i : Int)) t) Fin n 0 [] news := by
  refine compT_inv (fun i ys nw => nw = news ∧ Pd G (((List.range i).filter p).map f) ys) ⟨rfl, .nil⟩ ?_ ?_
  · intro i v ys nw I oI C oC D m₂ h tk E' hin hP hJ hC hx F' N' off ne
    obtain ⟨rfl, hy⟩ := hJ
    obtain ⟨t, rfl⟩ := hP
    have hyl := pd_len hy
    have hle : ys.length ≤ n := by
      rw [← hyl, List.length_map]
      exact Nat.le_trans (List.length_filter_le _ _) (by rw [List.length_range]; omega)
    refine wpAny_mono (turn i t I oI C oC D ys m₂ h tk E' hin hle hC hx F' N' off ne) (fun ok s₂ hq => ?_) fun _ _ e => e
    cases ok with
    | true =>
      simp only [if_true] at hq ⊢
      refine wpAny_mono hq (fun y s₃ hr => ?_) fun _ _ e => e
      obtain ⟨h', tk', nw', e', F₂, N₂, off', hS, hn, hp, hg⟩ := hr
      refine ⟨h', tk', nw', e', F₂, N₂, off', hS, hn, ?_⟩
      rw [range_next, List.filter_append, List.map_append, List.filter_cons_of_pos hp, List.filter_nil]
      exact PySem.Paired.snoc hy hg
    | false =>
      simp only [Bool.false_eq_true, if_false] at hq ⊢
      obtain ⟨h', tk', nw', e', F₂, N₂, off', hS, hn, hp⟩ := hq
      refine ⟨h', tk', nw', e', F₂, N₂, off', hS, hn, ?_⟩
      rw [range_next, List.filter_append, List.map_append, List.filter_cons_of_neg (by rw [hp]; decide), List.filter_nil]
      simpa using hy
  · rintro ys nw ⟨rfl, hy⟩
    exact fin ys hy
/-- over a range, no test -/
theorem comp_count {β : Type} (G : β → Value → Prop) (f : Nat → β) {n : Nat} {a : Int}
    (turn : ∀ (i : Nat) (t : Tok) I oI C oC D ys m₂ h tk (E' : Value → Shared → Prop), i < n → ys.length ≤ n → NsObj oC m₂ → m₂ x = some (.int (a + (i : Int)) t) → Fr h₀ L h m → News h₀ L h ((I, oI) :: (C, oC) :: (D, lst ys) :: news) → Off3 I C D news → ((@Ne Nat I C) ∧ (@Ne Nat I D) ∧ (@Ne Nat C D)) →
      wpAny (model prog w) A (eval elt (compEnvC scope cl C env)) (CompEnd h₀ L m { s with heap := h, toks := tk } I oI C oC D (lst ys) S (fun y nw' => nw' = news ∧ G (f i) y)) E' { s with heap := h, toks := tk })
    (fin : ∀ ys, Pd G ((List.range n).map f) ys → Fin ys news) : CompRest prog w A h₀ L m env elt x scope cl s S (fun i v => ∃ t, v = .int (a + (i : Int)) t) Fin n 0 [] news := by
  refine comp_inv (fun i ys nw => nw = news ∧ Pd G ((List.range i).map f) ys) ⟨rfl, .nil⟩ ?_ ?_
  · intro i v ys nw I oI C oC D m₂ h tk E' hin hP hJ hC hx F' N' off ne
    obtain ⟨rfl, hy⟩ := hJ
    obtain ⟨t, rfl⟩ := hP
    have hyl := pd_len hy
    refine wpAny_mono (turn i t I oI C oC D ys m₂ h tk E' hin (by rw [← hyl, List.length_map, List.length_range]; omega) hC hx F' N' off ne) (fun y s₂ hq => ?_) fun _ _ e => e
    obtain ⟨h', tk', nw', e', F₂, N₂, off', hS, hn, hg⟩ := hq
    refine ⟨h', tk', nw', e', F₂, N₂, off', hS, hn, ?_⟩
    rw [range_next, List.map_append]
    exact PySem.Paired.snoc hy hg
  · rintro ys nw ⟨rfl, hy⟩
    exact fin ys hy
end
section
variable {prog : Program} {w : World} {A : Around} {E : Value → Shared → Prop} {s : Shared} {g : Heap} {L D : Addr} {m : Str → Option Value} {its : Array Value} {k : Int} {j : Nat} {t : Tok} {v : Value} {Q : Value → Shared → Prop}
theorem at_up (hl : g.IsList D its) (F : Fr g L s.heap m) : s.heap.IsList D its := hl.at fun o e => F.keep _ _ e
theorem tail_nat {value slice : PySem.Expr} (hl : g.IsList D its) (F : Fr g L s.heap m) (hx : its[j]? = some v) (hk : k = (j : Int)) (hj : (j : Int) < 1000000) (h : Q v s)
    (hs : subscripted slice false (.ref D) (.int k t) = operate [.ref D, .int k t] (getItem (.ref D) (.int k t)) := by with_unfolding_all rfl) :
    wpAny (model prog w) A (subscriptTail value slice (.ref D) (.int k t)) Q E s :=
  tail_at (at_up hl F) (by omega) (by omega) (by rw [hk, Int.toNat_natCast]; exact hx) h hs
theorem len_b (hl : g.IsList D its) (F : Fr g L s.heap m) (hz : its.size ≤ sizeLine) (h : Q (.int its.size (s.toks + 1)) { s with toks := s.toks + 1 + 1 }) :
    wpAny (model prog w) A (call (.builtin "len") [.ref D]) Q E s :=
  len_list (at_up hl F) (by rw [sizeLine_eq] at hz; omega) h
end

/-! a for with any target (a local, a captured name, a tuple) -/
section
variable {prog : Program} {w : World} {A : Around} {s : Shared} {env : Env} {h₀ : Heap} {L : Addr}

theorem codeAny_forT {R : Result → Shared → Prop} {target : Expr} {body : List Stmt} {I : Addr} {fp wr : List Addr} {n : Nat} {P : Nat → Value → Prop} {St : Nat → Heap → Prop} {m : Str → Option Value}
    {news : List (Addr × Obj)} (W : Walks prog w A I fp wr n P St) (hLf : L ∉ fp) (hwr : ∀ b ∈ wr, h₀.get? b = none) (hnw : ∀ p ∈ news, p.1 ∉ wr)
    (hst : St 0 s.heap) (F : Fr h₀ L s.heap m) (N : News h₀ L s.heap news)
    (J : Nat → (Str → Option Value) → List (Addr × Obj) → Prop) (h0 : J 0 m news)
    (step : ∀ i v m₁ news₁ s₁ own, (∃ h tk, s₁ = { s with heap := h, toks := tk }) → i < n → P i v → J i m₁ news₁ → (∀ p ∈ news₁, p.1 ∉ wr) → (∀ p ∈ own, p.1 ∈ fp) → (∀ p ∈ own, s₁.heap.get? p.1 = some p.2) → (∀ b ∈ fp, h₀.get? b = none → ∀ o, s₁.heap.get? b = some o → (b, o) ∈ own) → St (i + 1) s₁.heap →
      Fr h₀ L s₁.heap m₁ → News h₀ L s₁.heap (own ++ news₁) →
      wpAny (model prog w) A (assign target env v) (fun _ s₂ => wpAny (model prog w) A (execs body env) (LoopStepV h₀ L wr own (J (i + 1)) s₁ (fun v s' => R (.ok (.ret v)) s') fun s' => R (.ok .next) s') (notedBy (model prog w) A env fun e s' => R (.error e) s') s₂) (notedBy (model prog w) A env fun e s' => R (.error e) s') s₁)
    (hR : ∀ h' tk m' news', Fr h₀ L h' m' → News h₀ L h' news' → (∀ p ∈ news', p.1 ∉ wr) → J n m' news' → R (.ok .next) { s with heap := h', toks := tk })
    (ht : ∀ v, letOwnedTupleGo target (.ref I) v = pure ()) :
    codeAny (model prog w) A (.forLoop target (.ref I) body [] env) R s := by
  have hLw : L ∉ wr := fun h => hLf (W.sub _ h)
  have old : ∀ b o, h₀.get? b = some o → b ∉ wr := fun b o e hb => by rw [hwr b hb] at e; cases e
  refine codeAny_forLoop
    (fun k s' => ∃ h' tk m' news' i, s' = { s with heap := h', toks := tk } ∧ St i h' ∧ Fr h₀ L h' m' ∧ News h₀ L h' news' ∧ (∀ p ∈ news', p.1 ∉ wr) ∧ J i m' news' ∧ i ≤ n ∧ k = n + 1 - i) ?_ (n + 1)
    ⟨s.heap, s.toks, m, news, 0, rfl, hst, F, N, hnw, h0, Nat.zero_le _, rfl⟩ ht
  rintro k s' ⟨h', tk, m', news', i, rfl, hst', F', N', hnw', hJ, hi, rfl⟩
  have next : ∀ h₁ : Heap, (∀ b o, b ∉ wr → h'.get? b = some o → h₁.get? b = some o) → Fr h₀ L h₁ m' ∧ News h₀ L h₁ news' := fun h₁ hk₁ =>
    ⟨⟨F'.ns.at' fun o e => hk₁ _ o hLw e, fun b o e => hk₁ b o (old b o e) (F'.keep b o e), F'.above⟩, fun p hp => ⟨hk₁ _ _ (hnw' p hp) (N' p hp).1, (N' p hp).2⟩⟩
  by_cases hlt : i < n
  · refine W.item i _ _ _ hlt hst' fun v h₁ tk₁ hP hst₁ hk₁ => ?_
    obtain ⟨F₁, N₁⟩ := next h₁ hk₁
    have Nown : News h₀ L h₁ (ownOf h₀ fp h₁) := news_ownOf hLf
    refine wpAny_mono (step i v m' news' _ (ownOf h₀ fp h₁) ⟨_, _, rfl⟩ hlt hP hJ hnw' ownOf_sub (fun p hp => (Nown p hp).1) (fun b hb hn o e => mem_ownOf hb hn e) hst₁ F₁ (Nown.append N₁)) (fun _ s₂ h₂ => wpAny_mono h₂ (fun f s₃ h₃ => ?_) fun _ _ e => e) fun _ _ e => e
    have fin : LoopStepU h₀ L wr (ownOf h₀ fp h₁) (J (i + 1)) { s with heap := h₁, toks := tk₁ } .next s₃ → ∃ m, m < n + 1 - i ∧ ∃ h' tk m' news' i, s₃ = { s with heap := h', toks := tk } ∧ St i h' ∧ Fr h₀ L h' m' ∧ News h₀ L h' news' ∧ (∀ p ∈ news', p.1 ∉ wr) ∧ J i m' news' ∧ i ≤ n ∧ m = n + 1 - i := by
      rintro ⟨_, h₃', tk₃, m₂, news₂, rfl, F₃, N₃, ha₃, hJ₃⟩
      refine ⟨n + 1 - (i + 1), by omega, h₃', tk₃, m₂, news₂, i + 1, rfl, ?_, F₃, N₃.right, ha₃, hJ₃, hlt, rfl⟩
      refine W.frame _ _ _ hst₁ fun b hb o e => ?_
      cases hn : h₀.get? b with
      | some o₀ =>
        have : o₀ = o := by have := F₁.keep b o₀ hn; rw [e] at this; exact (Option.some.inj this).symm
        exact this ▸ F₃.keep b o₀ hn
      | none => exact (N₃ _ (List.mem_append_left _ (mem_ownOf hb hn e))).1
    cases f with
    | ret v => exact h₃
    | brk => exact h₃
    | cont => exact fin h₃
    | next => exact fin h₃
  · have hin : i = n := by omega
    subst hin
    refine W.done _ _ _ hst' fun h₁ tk₁ hk₁ => wpAny_execs_nil ?_
    obtain ⟨F₁, N₁⟩ := next h₁ hk₁
    exact hR h₁ tk₁ m' news' F₁ N₁ hnw' hJ

def LoopAtT (prog : Program) (w : World) (A : Around) (h₀ : Heap) (L : Addr) (env : Env) (target : Expr) (body : List Stmt) (Q : Flow → Shared → Prop) (E : Value → Shared → Prop) (it : Value) (s₂ : Shared) : Prop :=
  ∃ (I : Addr) (fp wr : List Addr) (n : Nat) (P : Nat → Value → Prop) (St : Nat → Heap → Prop) (m : Str → Option Value) (news : List (Addr × Obj)) (J : Nat → (Str → Option Value) → List (Addr × Obj) → Prop),
    it = .ref I ∧ Walks prog w A I fp wr n P St ∧ L ∉ fp ∧ (∀ b ∈ wr, h₀.get? b = none) ∧ (∀ p ∈ news, p.1 ∉ wr) ∧ St 0 s₂.heap ∧ Fr h₀ L s₂.heap m ∧ News h₀ L s₂.heap news ∧ J 0 m news ∧
    (∀ i v m₁ news₁ s₁ own, (∃ h tk, s₁ = { s₂ with heap := h, toks := tk }) → i < n → P i v → J i m₁ news₁ → (∀ p ∈ news₁, p.1 ∉ wr) → (∀ p ∈ own, p.1 ∈ fp) → (∀ p ∈ own, s₁.heap.get? p.1 = some p.2) → (∀ b ∈ fp, h₀.get? b = none → ∀ o, s₁.heap.get? b = some o → (b, o) ∈ own) → St (i + 1) s₁.heap →
      Fr h₀ L s₁.heap m₁ → News h₀ L s₁.heap (own ++ news₁) →
      wpAny (model prog w) A (assign target env v) (fun _ s₃ => wpAny (model prog w) A (execs body env) (LoopStepV h₀ L wr own (J (i + 1)) s₁ (fun v s' => Q (.ret v) s') fun s' => Q .next s') E s₃) E s₁) ∧
    ∀ h' tk m' news', Fr h₀ L h' m' → News h₀ L h' news' → (∀ p ∈ news', p.1 ∉ wr) → J n m' news' → Q .next { s₂ with heap := h', toks := tk }

theorem For_T {E : Value → Shared → Prop} {Q : Flow → Shared → Prop} {target : Expr} {pos : Pos} {iter : Expr} {body : List Stmt} {m : Str → Option Value} (_F : Fr h₀ L s.heap m)
    (ht : ∀ it v, letOwnedTupleGo target it v = pure ())
    (h : wpAny (model prog w) A (eval iter env) (fun xv s₁ => wpAny (model prog w) A (pyIter xv) (fun it s₂ => LoopAtT prog w A h₀ L env target body Q E it s₂) E s₁) E s)
    (hs : ∀ x, foldedSetIterable iter env x = pure x := by intro _; rfl)
    (hE : PassesOwn (model prog w) A env E := by passes_own) :
    wpAny (model prog w) A (exec (.For target iter body [] pos) env) Q E s := by
  refine wpAny_For (wpAny_mono h (fun xv s₁ h₁ => wpAny_mono h₁ (fun it s₂ h₂ => ?_) fun _ _ e => e) fun _ _ e => e) hs
  obtain ⟨I, fp, wr, n, P, St, m, news, J, rfl, W, hLf, hwr, hnw, hst, F, N, h0, step, hQ⟩ := h₂
  refine codeAny_forT (R := fun r s' => match r with | .ok f => Q f s' | .error e => cameBackBy (model prog w) A env E e s') W hLf hwr hnw hst F N J h0 ?_ hQ (ht _)
  intro i v m₁ news₁ s₁ own a b c d e f g k st F₁ N₁
  exact wpAny_passesOwn hE (wpAny_mono (step i v m₁ news₁ s₁ own a b c d e f g k st F₁ N₁) (fun _ s₃ h₃ => wpAny_passesOwn hE h₃) fun _ _ e => e)
end

section
variable {prog : Program} {w : World} {A : Around} {E : Value → Shared → Prop} {s : Shared} {env : Env} {h₀ : Heap} {L : Addr} {target : Expr} {body : List Stmt} {Q : Flow → Shared → Prop}
def SameT (stored : List Str) (m₀ m' : Str → Option Value) : Prop := ∀ z, z ∉ stored → m' z = m₀ z
theorem over_T {u m₀ : Str → Option Value} {l : List Str} (h : SameT l m₀ u) : u = over u m₀ l := funext fun y => (over_in fun hn => h y hn).symm

/-- over a list's items -/
theorem forT_list (stored : List Str) {l : Addr} {its : Array Value} {m₀ : Str → Option Value} {news : List (Addr × Obj)} (J : Nat → (Str → Option Value) → List (Addr × Obj) → Prop)
    (hh : A.handled = none) (src : h₀.IsList l its ∨ ∃ ol k, ol.cls = .type "list" ∧ ol.data = .seq its k ∧ ∀ i m nx, J i m nx → (l, ol) ∈ nx)
    (F : Fr h₀ L s.heap m₀) (N : News h₀ L s.heap news) (hj : J 0 m₀ news)
    (turn : ∀ i v u nw I oI h tk, its[i]? = some v → J i u nw → Off I nw → Fr h₀ L h (over u m₀ stored) → News h₀ L h ((I, oI) :: nw) →
      wpAny (model prog w) A (assign target env v) (fun _ s₂ => wpAny (model prog w) A (execs body env) (TurnPost h₀ L I oI (fun m' nx => SameT stored m₀ m' ∧ J (i + 1) m' nx) { s with heap := h, toks := tk } Q) E s₂) E { s with heap := h, toks := tk })
    (done : ∀ u nw h tk, J its.size u nw → Fr h₀ L h (over u m₀ stored) → News h₀ L h nw → Q .next { s with heap := h, toks := tk }) :
    wpAny (model prog w) A (pyIter (.ref l)) (fun it s₂ => LoopAtT prog w A h₀ L env target body Q E it s₂) E s := by
  have hls : s.heap.IsList l its := by
    rcases src with hl | ⟨ol, k, hc, hd, hm⟩
    · exact hl.at fun o e => F.keep l o e
    · exact ⟨ol, (N _ (hm _ _ _ hj)).1, hc, k, hd⟩
  obtain ⟨ol', hol, _⟩ := id hls
  have hlt : l < s.heap.objs.size := Heap.lt_size hol
  have hne : l ≠ s.heap.objs.size := Nat.ne_of_lt hlt
  have hLl : L ≠ l := by
    rcases src with hl | ⟨ol, k, hc, hd, hm⟩
    · obtain ⟨o, e, _⟩ := hl
      exact fun q => absurd (Nat.lt_of_lt_of_le (Heap.lt_size e) F.above) (q ▸ Nat.lt_irrefl _)
    · exact fun q => (N _ (hm _ _ _ hj)).2.1 q.symm
  refine wpAny_pyIter_list hls ?_
  have W := Walks.list (prog := prog) (w := w) hh s.heap.objs.size l hne its
  refine ⟨_, _, _, its.size, _, _, m₀, news, (fun i m nx => SameT stored m₀ m ∧ J i m nx), rfl, W, ?_, ?_, ?_, ⟨⟨_, Heap.get?_push_size _ rfl, rfl, rfl⟩, hls.at fun o e => Heap.get?_push_of_some _ e⟩, F.push _, (fun p hp => ⟨Heap.get?_push_of_some _ (N p hp).1, (N p hp).2⟩), ⟨fun _ _ => rfl, hj⟩, ?_, ?_⟩
  · intro hm
    rcases List.mem_cons.mp hm with e | hm
    · exact absurd F.ns.lt (e ▸ Nat.lt_irrefl _)
    · exact hLl (List.mem_singleton.mp hm)
  · intro b hb
    rw [List.mem_singleton.mp hb]
    exact next_is_new F
  · intro p hp hI
    exact absurd (Heap.lt_size (N p hp).1) ((List.mem_singleton.mp hI) ▸ Nat.lt_irrefl _)
  · rintro i v m₁ news₁ s₁ own ⟨hh', tk', rfl⟩ hin hP ⟨hs, hJ⟩ hoff hown hget hin' hst F₁ N₁
    obtain ⟨oI, heI, _⟩ := hst.1
    have hIown : (s.heap.objs.size, oI) ∈ own := hin' _ (by simp) (next_is_new F) oI heI
    have hoffI : Off s.heap.objs.size news₁ := Off.of fun p hp q => hoff p hp (List.mem_singleton.mpr q)
    rw [over_T hs] at F₁
    refine wpAny_mono (turn i v m₁ news₁ _ oI hh' tk' hP hJ hoffI F₁ (fun p hp => by
      rcases List.mem_cons.mp hp with rfl | hp
      · exact N₁ _ (List.mem_append_left _ hIown)
      · exact N₁ _ (List.mem_append_right _ hp))) (fun _ s₂ h₂ => wpAny_mono h₂ (fun f s₃ p => ?_) fun _ _ e => e) fun _ _ e => e
    have fin : TurnEnd h₀ L s.heap.objs.size oI (fun m' nx => SameT stored m₀ m' ∧ J (i + 1) m' nx) { s with heap := hh', toks := tk' } s₃ → LoopStepU h₀ L [s.heap.objs.size] own (fun m nx => SameT stored m₀ m ∧ J (i + 1) m nx) { s with heap := hh', toks := tk' } .next s₃ := by
      rintro ⟨h', tk, m', nx, e, F', N', hoff', hj'⟩
      refine ⟨rfl, h', tk, m', nx, e, F', fun p hp => ?_, fun p hp q => hoff'.mem p hp (List.mem_singleton.mp q), hj'⟩
      rcases List.mem_append.mp hp with hp | hp
      · have hg := hget p hp
        have h0 := (N₁ p (List.mem_append_left _ hp)).2.2
        rcases List.mem_cons.mp (hown p hp) with h1 | h1
        · have e1 : p = (s.heap.objs.size, oI) := by
            obtain ⟨a, o⟩ := p
            dsimp only at h1 hg
            subst h1
            have := heI.symm.trans hg
            rw [Option.some.inj this]
          rw [e1]; exact N' _ List.mem_cons_self
        · have h2 : p.1 = l := List.mem_singleton.mp h1
          rcases src with hl | ⟨ol, k, hc, hd, hm⟩
          · obtain ⟨o, e, _⟩ := hl
            rw [h2, e] at h0; cases h0
          · have e1 : p = (l, ol) := by
              obtain ⟨a, o⟩ := p
              dsimp only at h2 hg
              subst h2
              have := (N₁ _ (List.mem_append_right _ (hm _ _ _ hJ))).1
              have := hg.symm.trans this
              rw [Option.some.inj this]
            rw [e1]; exact N' _ (List.mem_cons_of_mem _ (hm _ _ _ hj'.2))
      · exact N' p (List.mem_cons_of_mem _ hp)
    cases f with
    | ret v => exact .ret p
    | brk => exact .brk p
    | next => exact .next (fin p)
    | cont => exact .cont (fin p)
  · rintro h' tk m' news' F' N' _ ⟨hs, hJ⟩
    rw [over_T hs] at F'
    exact done m' news' h' tk hJ F' N'

/-- over range(a, b) -/
theorem forT_count (stored : List Str) {r : Addr} {a b : Int} {t u v : Tok} (n : Nat) {m₀ : Str → Option Value} {news : List (Addr × Obj)} (J : Nat → (Str → Option Value) → List (Addr × Obj) → Prop)
    (hh : A.handled = none) (hr : IsRange s.heap r a b 1 t u v) (hn : (b - a).toNat = n) (ha : -1000000 ≤ a ∧ a ≤ 1000000) (hb : -1000000 ≤ b ∧ b ≤ 1000000)
    (F : Fr h₀ L s.heap m₀) (N : News h₀ L s.heap news) (hj : J 0 m₀ news)
    (turn : ∀ (i : Nat) (t : Tok) u nw I oI h tk, i < n → J i u nw → Off I nw → Fr h₀ L h (over u m₀ stored) → News h₀ L h ((I, oI) :: nw) →
      wpAny (model prog w) A (assign target env (.int (a + (i : Int)) t)) (fun _ s₂ => wpAny (model prog w) A (execs body env) (TurnPost h₀ L I oI (fun m' nx => SameT stored m₀ m' ∧ J (i + 1) m' nx) { s with heap := h, toks := tk } Q) E s₂) E { s with heap := h, toks := tk })
    (done : ∀ u nw h tk, J n u nw → Fr h₀ L h (over u m₀ stored) → News h₀ L h nw → Q .next { s with heap := h, toks := tk }) :
    wpAny (model prog w) A (pyIter (.ref r)) (fun it s₂ => LoopAtT prog w A h₀ L env target body Q E it s₂) E s := by
  have hsm := small_one (a := a) (b := b) (by omega) (by omega) (by omega) (by omega)
  have hn' : Builtin.Range.rangeSize a b 1 = ((n : Nat) : Int) := by rw [rangeSize_nat, hn]
  refine wpAny_pyIter_range hr hsm ?_
  have W := Walks.range (prog := prog) (w := w) hh s.heap.objs.size a 1 n
  refine ⟨_, _, _, n, _, _, m₀, news, (fun i m nx => SameT stored m₀ m ∧ J i m nx), rfl, W, ?_, ?_, ?_, (by show IsRangeIter _ _ _ _ _; rw [hn']; simpa using Heap.get?_push_size _ rfl), F.push _, (fun p hp => ⟨Heap.get?_push_of_some _ (N p hp).1, (N p hp).2⟩), ⟨fun _ _ => rfl, hj⟩, ?_, ?_⟩
  · intro hm
    exact absurd F.ns.lt ((List.mem_singleton.mp hm) ▸ Nat.lt_irrefl _)
  · intro b hb
    rw [List.mem_singleton.mp hb]
    exact next_is_new F
  · intro p hp hI
    exact absurd (Heap.lt_size (N p hp).1) ((List.mem_singleton.mp hI) ▸ Nat.lt_irrefl _)
  · rintro i v m₁ news₁ s₁ own ⟨hh', tk', rfl⟩ hin hP ⟨hs, hJ⟩ hoff hown hget hin' hst F₁ N₁
    obtain ⟨t, rfl⟩ := hP
    have heI : hh'.get? s.heap.objs.size = some _ := hst
    have hIown := hin' _ (by simp) (next_is_new F) _ heI
    have hoffI : Off s.heap.objs.size news₁ := Off.of fun p hp q => hoff p hp (List.mem_singleton.mpr q)
    generalize hoI : ({ cls := .type "range_iterator", data := .fields #[rawInt (a + ((i + 1 : Nat) : Int) * 1), rawInt ((n : Int) - ((i + 1 : Nat) : Int)), rawInt 1] } : Obj) = oI at heI hIown
    rw [over_T hs] at F₁
    rw [Int.mul_one]
    refine wpAny_mono (turn i t m₁ news₁ s.heap.objs.size oI hh' tk' hin hJ hoffI F₁ (fun p hp => by
      rcases List.mem_cons.mp hp with rfl | hp
      · exact N₁ _ (List.mem_append_left _ hIown)
      · exact N₁ _ (List.mem_append_right _ hp))) (fun _ s₂ h₂ => wpAny_mono h₂ (fun f s₃ p => ?_) fun _ _ e => e) fun _ _ e => e
    have fin : TurnEnd h₀ L s.heap.objs.size oI (fun m' nx => SameT stored m₀ m' ∧ J (i + 1) m' nx) { s with heap := hh', toks := tk' } s₃ → LoopStepU h₀ L [s.heap.objs.size] own (fun m nx => SameT stored m₀ m ∧ J (i + 1) m nx) { s with heap := hh', toks := tk' } .next s₃ := by
      rintro ⟨h', tk, m', nx, e, F', N', hoff', hj'⟩
      refine ⟨rfl, h', tk, m', nx, e, F', fun p hp => ?_, fun p hp q => hoff'.mem p hp (List.mem_singleton.mp q), hj'⟩
      rcases List.mem_append.mp hp with hp | hp
      · have hg := hget p hp
        have h1 := List.mem_singleton.mp (hown p hp)
        obtain ⟨a, o⟩ := p
        dsimp only at h1 hg
        subst h1
        have e9 : o = oI := by
          have := heI.symm.trans hg
          exact (Option.some.inj this).symm
        rw [e9]
        exact N' _ List.mem_cons_self
      · exact N' p (List.mem_cons_of_mem _ hp)
    cases f with
    | ret v => exact .ret p
    | brk => exact .brk p
    | next => exact .next (fin p)
    | cont => exact .cont (fin p)
  · rintro h' tk m' news' F' N' _ ⟨hs, hJ⟩
    rw [over_T hs] at F'
    exact done m' news' h' tk hJ F' N'

theorem forT_pd {α : Type} {G : α → Value → Prop} {as : List α} {its : Array Value} (hi : Pd G as its.toList) (stored : List Str) {l : Addr} {m₀ : Str → Option Value} {news : List (Addr × Obj)} (J : List α → (Str → Option Value) → List (Addr × Obj) → Prop)
    (hh : A.handled = none) (src : h₀.IsList l its ∨ ∃ ol k, ol.cls = .type "list" ∧ ol.data = .seq its k ∧ ∀ pre m nx, J pre m nx → (l, ol) ∈ nx)
    (F : Fr h₀ L s.heap m₀) (N : News h₀ L s.heap news) (hj : J [] m₀ news)
    (turn : ∀ pre a post v u nw I oI h tk, as = pre ++ a :: post → G a v → J pre u nw → Off I nw → Fr h₀ L h (over u m₀ stored) → News h₀ L h ((I, oI) :: nw) →
      wpAny (model prog w) A (assign target env v) (fun _ s₂ => wpAny (model prog w) A (execs body env) (TurnPost h₀ L I oI (fun m' nx => SameT stored m₀ m' ∧ J (pre ++ [a]) m' nx) { s with heap := h, toks := tk } Q) E s₂) E { s with heap := h, toks := tk })
    (done : ∀ u nw h tk, J as u nw → Fr h₀ L h (over u m₀ stored) → News h₀ L h nw → Q .next { s with heap := h, toks := tk }) :
    wpAny (model prog w) A (pyIter (.ref l)) (fun it s₂ => LoopAtT prog w A h₀ L env target body Q E it s₂) E s := by
  have hl := pd_len hi
  refine forT_list stored (its := its) (fun i m nx => J (as.take i) m nx) hh (src.imp id fun ⟨ol, k, a, b, c⟩ => ⟨ol, k, a, b, fun i m nx h => c _ m nx h⟩) F N (by simpa using hj) ?_ ?_
  · intro i v u nw I oI h tk hv hJ hoff F₁ N₁
    obtain ⟨a, ha, hF⟩ := pd_at hi i v (by simpa using hv)
    rw [take_next ha]
    exact turn _ a _ v u nw I oI h tk (take_split ha) hF hJ hoff F₁ N₁
  · intro u nw h tk hJ F₁ N₁
    refine done u nw h tk ?_ F₁ N₁
    have e : as.take its.size = as := List.take_of_length_le (by rw [hl]; simp)
    rwa [e] at hJ
end

theorem strs_pd : ∀ {xs : List Str} {vs : List Value}, Pd StrV xs vs → StrsAre vs xs
  | _, _, .nil => .nil
  | _, _, .cons ⟨_, e⟩ h => by rw [e]; exact .cons _ _ (strs_pd h)
theorem pd_strs : ∀ {vs : List Value} {xs : List Str}, StrsAre vs xs → Pd StrV xs vs
  | _, _, .nil => .nil
  | _, _, .cons _ t h => .cons ⟨t, rfl⟩ (pd_strs h)
section
variable {prog : Program} {w : World} {A : Around} {E : Value → Shared → Prop} {s : Shared} {g : Heap} {L D : Addr} {m : Str → Option Value} {its : Array Value} {xs : List Str} {k : Str} {t : Tok} {Q : Value → Shared → Prop}
theorem in_b (hl : g.IsList D its) (F : Fr g L s.heap m) (hi : Pd StrV xs its.toList) (h : Q (.bool (xs.any (· == k))) s) : wpAny (model prog w) A (compareOp .In (.str k t) (.ref D)) Q E s :=
  in_list_strs (vs := its.toList) (by rw [Array.toArray_toList]; exact at_up hl F) (strs_pd hi) h
end

section
variable {h₀ h h' : Heap} {L D : Addr} {m : Str → Option Value} {news : List (Addr × Obj)} {o : Obj}
theorem after_keep (F : Fr h₀ L h m) (N : News h₀ L h news) (k : ∀ b o, h.get? b = some o → h'.get? b = some o) : Fr h₀ L h' m ∧ News h₀ L h' news := ⟨F.keeps k, N.grown k⟩
theorem after_new (F : Fr h₀ L h m) (N : News h₀ L h news) (k : ∀ b o, h.get? b = some o → h'.get? b = some o) (hD : h.get? D = none) (hg : h'.get? D = some o) : Fr h₀ L h' m ∧ News h₀ L h' ((D, o) :: news) ∧ Off D news := by
  refine ⟨F.keeps k, fun p hp => ?_, Off.of fun p hp q => ?_⟩
  · rcases List.mem_cons.mp hp with rfl | hp
    · refine ⟨hg, fun q => ?_, ?_⟩
      · obtain ⟨oL, _, _, hL, _⟩ := F.ns
        have q' : D = L := q
        rw [q'] at hD; rw [hD] at hL; cases hL
      · cases e : h₀.get? D with
        | none => rfl
        | some o' => have := F.keep _ _ e; rw [hD] at this; cases this
    · exact N.grown k p hp
  · have := (N p hp).1
    rw [q, hD] at this; cases this
end
theorem off1 {a z : Str} (h : z ∉ [a]) : z ≠ a := fun e => h (by rw [e]; exact List.mem_cons_self)

section
variable {prog : Program} {w : World} {A : Around} {E : Value → Shared → Prop} {s : Shared} {env : Env} {h₀ : Heap} {L : Addr} {target : Expr} {body : List Stmt} {Q : Flow → Shared → Prop}
/-- over range(a, b), the ledger stays -/
theorem forT_count_s (stored : List Str) {r : Addr} {a b : Int} {t u v : Tok} (n : Nat) {m₀ : Str → Option Value} {news : List (Addr × Obj)} (J : Nat → (Str → Option Value) → Prop)
    (hh : A.handled = none) (hr : IsRange s.heap r a b 1 t u v) (hn : (b - a).toNat = n) (ha : -1000000 ≤ a ∧ a ≤ 1000000) (hb : -1000000 ≤ b ∧ b ≤ 1000000)
    (F : Fr h₀ L s.heap m₀) (N : News h₀ L s.heap news) (hj : J 0 m₀)
    (turn : ∀ (i : Nat) (t : Tok) u I oI h tk, i < n → J i u → Off I news → Fr h₀ L h (over u m₀ stored) → News h₀ L h ((I, oI) :: news) →
      wpAny (model prog w) A (assign target env (.int (a + (i : Int)) t)) (fun _ s₂ => wpAny (model prog w) A (execs body env) (TurnPost h₀ L I oI (fun m' nx => nx = news ∧ SameT stored m₀ m' ∧ J (i + 1) m') { s with heap := h, toks := tk } Q) E s₂) E { s with heap := h, toks := tk })
    (done : ∀ u h tk, J n u → Fr h₀ L h (over u m₀ stored) → News h₀ L h news → Q .next { s with heap := h, toks := tk }) :
    wpAny (model prog w) A (pyIter (.ref r)) (fun it s₂ => LoopAtT prog w A h₀ L env target body Q E it s₂) E s := by
  refine forT_count stored n (fun i m nx => nx = news ∧ J i m) hh hr hn ha hb F N ⟨rfl, hj⟩ ?_ ?_
  · rintro i t u nw I oI h tk hv ⟨rfl, hJ⟩ hoff F₁ N₁
    refine wpAny_mono (turn i t u I oI h tk hv hJ hoff F₁ N₁) (fun _ s₂ h₂ => wpAny_mono h₂ (fun f s₃ h₃ => ?_) fun _ _ e => e) fun _ _ e => e
    have fin : TurnEnd h₀ L I oI (fun m' nx => nx = nw ∧ SameT stored m₀ m' ∧ J (i + 1) m') { s with heap := h, toks := tk } s₃ → TurnEnd h₀ L I oI (fun m' nx => SameT stored m₀ m' ∧ nx = nw ∧ J (i + 1) m') { s with heap := h, toks := tk } s₃ := fun ⟨h', tk, m', nx, e, a, b, c, d1, d2, d3⟩ => ⟨h', tk, m', nx, e, a, b, c, d2, d1, d3⟩
    cases f with
    | ret v => exact h₃
    | brk => exact h₃
    | next => exact fin h₃
    | cont => exact fin h₃
  · rintro u nw h tk ⟨rfl, hJ⟩ F₁ N₁
    exact done u h tk hJ F₁ N₁
theorem forT_pd_s {α : Type} {G : α → Value → Prop} {as : List α} {its : Array Value} (hi : Pd G as its.toList) (stored : List Str) {l : Addr} {m₀ : Str → Option Value} {news : List (Addr × Obj)} (J : List α → (Str → Option Value) → Prop)
    (hh : A.handled = none) (src : h₀.IsList l its ∨ ∃ ol k, ol.cls = .type "list" ∧ ol.data = .seq its k ∧ (l, ol) ∈ news)
    (F : Fr h₀ L s.heap m₀) (N : News h₀ L s.heap news) (hj : J [] m₀)
    (turn : ∀ pre a post v u I oI h tk, as = pre ++ a :: post → G a v → J pre u → Off I news → Fr h₀ L h (over u m₀ stored) → News h₀ L h ((I, oI) :: news) →
      wpAny (model prog w) A (assign target env v) (fun _ s₂ => wpAny (model prog w) A (execs body env) (TurnPost h₀ L I oI (fun m' nx => nx = news ∧ SameT stored m₀ m' ∧ J (pre ++ [a]) m') { s with heap := h, toks := tk } Q) E s₂) E { s with heap := h, toks := tk })
    (done : ∀ u h tk, J as u → Fr h₀ L h (over u m₀ stored) → News h₀ L h news → Q .next { s with heap := h, toks := tk }) :
    wpAny (model prog w) A (pyIter (.ref l)) (fun it s₂ => LoopAtT prog w A h₀ L env target body Q E it s₂) E s := by
  refine forT_pd hi stored (fun pre m nx => nx = news ∧ J pre m) hh (src.imp id fun ⟨ol, k, a, b, c⟩ => ⟨ol, k, a, b, fun _ _ nx h => h.1 ▸ c⟩) F N ⟨rfl, hj⟩ ?_ ?_
  · rintro pre a post v u nw I oI h tk e hG ⟨rfl, hJ⟩ hoff F₁ N₁
    refine wpAny_mono (turn pre a post v u I oI h tk e hG hJ hoff F₁ N₁) (fun _ s₂ h₂ => wpAny_mono h₂ (fun f s₃ h₃ => ?_) fun _ _ e => e) fun _ _ e => e
    have fin : TurnEnd h₀ L I oI (fun m' nx => nx = nw ∧ SameT stored m₀ m' ∧ J (pre ++ [a]) m') { s with heap := h, toks := tk } s₃ → TurnEnd h₀ L I oI (fun m' nx => SameT stored m₀ m' ∧ nx = nw ∧ J (pre ++ [a]) m') { s with heap := h, toks := tk } s₃ := fun ⟨h', tk, m', nx, e, a, b, c, d1, d2, d3⟩ => ⟨h', tk, m', nx, e, a, b, c, d2, d1, d3⟩
    cases f with
    | ret v => exact h₃
    | brk => exact h₃
    | next => exact fin h₃
    | cont => exact fin h₃
  · rintro u nw h tk ⟨rfl, hJ⟩ F₁ N₁
    exact done u h tk hJ F₁ N₁
end
theorem news_tail {h₀ h : Heap} {L : Addr} {p : Addr × Obj} {news : List (Addr × Obj)} (N : News h₀ L h (p :: news)) : News h₀ L h news := fun q hq => N q (List.mem_cons_of_mem _ hq)
theorem news_head {h₀ h : Heap} {L : Addr} {p : Addr × Obj} {news : List (Addr × Obj)} (N : News h₀ L h (p :: news)) : News h₀ L h [p] := fun q hq => N q (by rw [List.mem_singleton.mp hq]; exact List.mem_cons_self)

section
variable {prog : Program} {w : World} {A : Around} {E : Value → Shared → Prop} {s : Shared} {h₀ : Heap} {L D : Addr} {m : Str → Option Value} {news : List (Addr × Obj)} {vs : List Value} {n : Nat} {k : Int} {j : Nat} {t : Tok} {v : Value} {Q : Value → Shared → Prop}
theorem tail_l {value slice : PySem.Expr} (N : News h₀ L s.heap news) (hm : (D, listOf vs.toArray n) ∈ news) (hx : vs[j]? = some v) (hk : k = (j : Int)) (hj : (j : Int) < 1000000) (h : Q v s)
    (hs : subscripted slice false (.ref D) (.int k t) = operate [.ref D, .int k t] (getItem (.ref D) (.int k t)) := by with_unfolding_all rfl) :
    wpAny (model prog w) A (subscriptTail value slice (.ref D) (.int k t)) Q E s :=
  tail_at (is_l N hm) (by omega) (by omega) (by rw [hk, Int.toNat_natCast]; simpa using hx) h hs
theorem tail_pd {value slice : PySem.Expr} {α : Type} {F : α → Value → Prop} {as : List α} {a : α} (N : News h₀ L s.heap news) (hm : (D, listOf vs.toArray n) ∈ news) (hp : Pd F as vs) (ha : as[j]? = some a) (hk : k = (j : Int)) (hj : (j : Int) < 1000000) (h : ∀ v, F a v → Q v s)
    (hs : subscripted slice false (.ref D) (.int k t) = operate [.ref D, .int k t] (getItem (.ref D) (.int k t)) := by with_unfolding_all rfl) :
    wpAny (model prog w) A (subscriptTail value slice (.ref D) (.int k t)) Q E s := by
  obtain ⟨v, hv, hF⟩ := pd_get hp j a ha
  exact tail_l N hm hv hk hj (h v hF) hs
end

section
variable {prog : Program} {w : World} {A : Around} {E : Value → Shared → Prop} {s : Shared} {h₀ : Heap} {L l : Addr} {m : Str → Option Value} {news : List (Addr × Obj)} {n : Nat} {xs : List Value} {Q : Value → Shared → Prop} {value slice : PySem.Expr} {k : Int} {t : Tok}
theorem pick_to' (xs : List Value) (h : 0 ≤ k) : kms_pick xs none (some k) = xs.take k.toNat := by
  have := pick_to xs k.toNat
  rwa [Int.toNat_of_nonneg h] at this
theorem pick_from' (xs : List Value) (h : 0 ≤ k) : kms_pick xs (some k) none = xs.drop k.toNat := by
  have := pick_from xs k.toNat
  rwa [Int.toNat_of_nonneg h] at this
/-- l[:k] -/
theorem slice_to (F : Fr h₀ L s.heap m) (N : News h₀ L s.heap news) (hl : (l, listOf xs.toArray n) ∈ news) (h0 : 0 ≤ k)
    (h : ∀ D h', Fr h₀ L h' m → News h₀ L h' ((D, listOf (xs.take k.toNat).toArray 0) :: news) → (∀ p ∈ news, p.1 < D) → Q (.ref D) { s with heap := h' })
    (hs : subscripted slice false (.ref l) (.ref s.heap.objs.size) = operate [.ref s.heap.objs.size, .ref l] (getItem (.ref l) (.ref s.heap.objs.size))) (ht : ∀ r, letTemporaryGo value (.ref l) r = pure ()) (hz : xs.length ≤ sizeLine) :
    wpAny (model prog w) A (subscriptTail value slice (.ref l) (.ref s.heap.objs.size)) Q E { s with heap := s.heap.push { cls := .type "slice", data := .fields #[.none, .int k t, .none] } } :=
  slice_l F N hl .none (.int _ _) (fun D h' F' N' l1 => h D h' F' (by rw [← pick_to' xs h0]; exact N') l1) hs ht hz
/-- l[k:] -/
theorem slice_from (F : Fr h₀ L s.heap m) (N : News h₀ L s.heap news) (hl : (l, listOf xs.toArray n) ∈ news) (h0 : 0 ≤ k)
    (h : ∀ D h', Fr h₀ L h' m → News h₀ L h' ((D, listOf (xs.drop k.toNat).toArray 0) :: news) → (∀ p ∈ news, p.1 < D) → Q (.ref D) { s with heap := h' })
    (hs : subscripted slice false (.ref l) (.ref s.heap.objs.size) = operate [.ref s.heap.objs.size, .ref l] (getItem (.ref l) (.ref s.heap.objs.size))) (ht : ∀ r, letTemporaryGo value (.ref l) r = pure ()) (hz : xs.length ≤ sizeLine) :
    wpAny (model prog w) A (subscriptTail value slice (.ref l) (.ref s.heap.objs.size)) Q E { s with heap := s.heap.push { cls := .type "slice", data := .fields #[.int k t, .none, .none] } } :=
  slice_l F N hl (.int _ _) .none (fun D h' F' N' l1 => h D h' F' (by rw [← pick_from' xs h0]; exact N') l1) hs ht hz
end

theorem pd_take {α : Type} {F : α → Value → Prop} : ∀ {as : List α} {vs : List Value}, Pd F as vs → ∀ n, Pd F (as.take n) (vs.take n)
  | _, _, .nil, n => by simp; exact .nil
  | _, _, .cons h t, 0 => by simp; exact .nil
  | _, _, .cons h t, n + 1 => .cons h (pd_take t n)
theorem pd_drop {α : Type} {F : α → Value → Prop} : ∀ {as : List α} {vs : List Value}, Pd F as vs → ∀ n, Pd F (as.drop n) (vs.drop n)
  | _, _, .nil, n => by simp; exact .nil
  | _, _, .cons h t, 0 => .cons h t
  | _, _, .cons h t, n + 1 => pd_drop t n
theorem pd_app {α : Type} {F : α → Value → Prop} : ∀ {as bs : List α} {vs ws : List Value}, Pd F as vs → Pd F bs ws → Pd F (as ++ bs) (vs ++ ws)
  | _, _, _, _, .nil, h => h
  | _, _, _, _, .cons h t, k => .cons h (pd_app t k)
theorem toNat_succ (i : Nat) : ((i : Int) + 1).toNat = i + 1 := by omega
section
variable {prog : Program} {w : World} {A : Around} {E : Value → Shared → Prop} {s : Shared} {env : Env} {h₀ : Heap} {L : Addr} {target : Expr} {body : List Stmt} {Q Q' : Flow → Shared → Prop}
/-- one word behind a loop, however it ends -/
theorem join_loop {v : Value} (Q' : Flow → Shared → Prop) (h : wpAny (model prog w) A (pyIter v) (fun it s₂ => LoopAtT prog w A h₀ L env target body Q' E it s₂) E s) (hq : ∀ f s', Q' f s' → Q f s') :
    wpAny (model prog w) A (pyIter v) (fun it s₂ => LoopAtT prog w A h₀ L env target body Q E it s₂) E s := by
  refine wpAny_mono h (fun it s₂ h₂ => ?_) fun _ _ e => e
  obtain ⟨I, fp, wr, n, P, St, m, news, J, e, W, hLf, hwr, hnw, hst, F, N, h0, step, hQ⟩ := h₂
  refine ⟨I, fp, wr, n, P, St, m, news, J, e, W, hLf, hwr, hnw, hst, F, N, h0, ?_, fun h' tk m' news' a b c d => hq _ _ (hQ h' tk m' news' a b c d)⟩
  intro i v m₁ news₁ s₁ own a b c d e f g k st F₁ N₁
  refine wpAny_mono (step i v m₁ news₁ s₁ own a b c d e f g k st F₁ N₁) (fun _ s₃ h₃ => wpAny_mono h₃ (fun fl s₄ h₄ => ?_) fun _ _ e => e) fun _ _ e => e
  cases fl with
  | ret v => exact hq _ _ h₄
  | brk => exact hq _ _ h₄
  | next => exact h₄
  | cont => exact h₄
end

section
variable {prog : Program} {w : World} {A : Around} {E : Value → Shared → Prop} {s : Shared} {env : Env} {h₀ : Heap} {L : Addr} {target : Expr} {body : List Stmt} {Q : Flow → Shared → Prop}
/-- a for over a list that turns one other list of the ledger -/
theorem forT_pd_l {α : Type} {G : α → Value → Prop} {as : List α} {its : Array Value} (hi : Pd G as its.toList) (stored : List Str) (lead : List (Addr × Obj)) {rest : List (Addr × Obj)} {lt : Addr} {zs₀ : List Value} {c₀ : Nat} {l : Addr} {m₀ : Str → Option Value} (J : List α → (Str → Option Value) → List Value → Prop)
    (hh : A.handled = none) (src : h₀.IsList l its ∨ ∃ ol k, ol.cls = .type "list" ∧ ol.data = .seq its k ∧ ((l, ol) ∈ lead ∨ (l, ol) ∈ rest))
    (F : Fr h₀ L s.heap m₀) (N : News h₀ L s.heap (lead ++ (lt, W.listOf zs₀.toArray c₀) :: rest)) (hj : J [] m₀ zs₀)
    (turn : ∀ pre a post v u zs c I oI h tk, as = pre ++ a :: post → G a v → J pre u zs → Off I (lead ++ (lt, W.listOf zs.toArray c) :: rest) → Fr h₀ L h (over u m₀ stored) → News h₀ L h ((I, oI) :: (lead ++ (lt, W.listOf zs.toArray c) :: rest)) →
      wpAny (model prog w) A (assign target env v) (fun _ s₂ => wpAny (model prog w) A (execs body env) (TurnPost h₀ L I oI (fun m' nx => SameT stored m₀ m' ∧ ∃ zs' c', nx = lead ++ (lt, W.listOf zs'.toArray c') :: rest ∧ J (pre ++ [a]) m' zs') { s with heap := h, toks := tk } Q) E s₂) E { s with heap := h, toks := tk })
    (done : ∀ u zs c h tk, J as u zs → Fr h₀ L h (over u m₀ stored) → News h₀ L h (lead ++ (lt, W.listOf zs.toArray c) :: rest) → Q .next { s with heap := h, toks := tk }) :
    wpAny (model prog w) A (pyIter (.ref l)) (fun it s₂ => LoopAtT prog w A h₀ L env target body Q E it s₂) E s := by
  refine forT_pd hi stored (fun pre m nx => ∃ zs c, nx = lead ++ (lt, W.listOf zs.toArray c) :: rest ∧ J pre m zs) hh (src.imp id fun ⟨ol, k, a, b, c⟩ => ⟨ol, k, a, b, fun _ _ nx ⟨zs, c1, e, _⟩ => by
    rw [e]
    exact c.elim (fun q => List.mem_append_left _ q) fun q => List.mem_append_right _ (List.mem_cons_of_mem _ q)⟩) F N ⟨_, _, rfl, hj⟩ ?_ ?_
  · rintro pre a post v u nw I oI h tk e hG ⟨zs, c, rfl, hJ⟩ hoff F₁ N₁
    exact turn pre a post v u zs c I oI h tk e hG hJ hoff F₁ N₁
  · rintro u nw h tk ⟨zs, c, rfl, hJ⟩ F₁ N₁
    exact done u zs c h tk hJ F₁ N₁
end
theorem tw_all {l : List Nat} {c : Nat} (h : c ∉ l) : l.takeWhile (· != c) = l := by
  induction l with
  | nil => rfl
  | cons a r ih =>
    simp only [List.mem_cons, not_or] at h
    rw [List.takeWhile_cons_of_pos (by simpa using Ne.symm h.1), ih h.2]
theorem tw_stop {l r : List Nat} {c : Nat} (h : c ∉ l) : (l ++ c :: r).takeWhile (· != c) = l := by
  induction l with
  | nil => simp
  | cons a t ih =>
    simp only [List.mem_cons, not_or] at h
    rw [List.cons_append, List.takeWhile_cons_of_pos (by simpa using Ne.symm h.1), ih h.2]
theorem inr_mem {p : Addr × Obj} {l : List (Addr × Obj)} (h : p ∈ l) : p ∈ l := h

section
variable {prog : Program} {w : World} {A : Around} {E : Value → Shared → Prop} {s : Shared} {env : Env} {h₀ : Heap} {L : Addr} {target : Expr} {body : List Stmt} {Q : Flow → Shared → Prop}
/-- how a loop that breaks may end: one word for both ends -/
def QJ (h₀ : Heap) (L : Addr) (stored : List Str) (m₀ : Str → Option Value) (s : Shared) (P : (Str → Option Value) → List (Addr × Obj) → Prop) (Q : Flow → Shared → Prop) (f : Flow) (s' : Shared) : Prop := match f with
  | .next => ∃ h tk m' nx, s' = { s with heap := h, toks := tk } ∧ Fr h₀ L h m' ∧ News h₀ L h nx ∧ SameT stored m₀ m' ∧ P m' nx
  | f => Q f s'
/-- a for over a list that turns one other list of the ledger, and may break -/
theorem forT_pd_lj {α : Type} {G : α → Value → Prop} {as : List α} {its : Array Value} (hi : Pd G as its.toList) (stored : List Str) (lead : List (Addr × Obj)) {rest : List (Addr × Obj)} {lt : Addr} {zs₀ : List Value} {c₀ : Nat} {l : Addr} {m₀ : Str → Option Value} (J : List α → (Str → Option Value) → List Value → Prop) (P : (Str → Option Value) → List Value → Prop)
    (hh : A.handled = none) (src : h₀.IsList l its ∨ ∃ ol k, ol.cls = .type "list" ∧ ol.data = .seq its k ∧ ((l, ol) ∈ lead ∨ (l, ol) ∈ rest))
    (F : Fr h₀ L s.heap m₀) (N : News h₀ L s.heap (lead ++ (lt, W.listOf zs₀.toArray c₀) :: rest)) (hj : J [] m₀ zs₀)
    (turn : ∀ pre a post v u zs c I oI h tk, as = pre ++ a :: post → G a v → J pre u zs → Off I (lead ++ (lt, W.listOf zs.toArray c) :: rest) → Fr h₀ L h (over u m₀ stored) → News h₀ L h ((I, oI) :: (lead ++ (lt, W.listOf zs.toArray c) :: rest)) →
      wpAny (model prog w) A (assign target env v) (fun _ s₂ => wpAny (model prog w) A (execs body env) (TurnPost h₀ L I oI (fun m' nx => SameT stored m₀ m' ∧ ∃ zs' c', nx = lead ++ (lt, W.listOf zs'.toArray c') :: rest ∧ J (pre ++ [a]) m' zs') { s with heap := h, toks := tk }
        (QJ h₀ L stored m₀ s (fun m' nx => ∃ zs' c', nx = lead ++ (lt, W.listOf zs'.toArray c') :: rest ∧ P m' zs') Q)) E s₂) E { s with heap := h, toks := tk })
    (done : ∀ u zs, J as u zs → SameT stored m₀ u → P u zs)
    (cont : ∀ u zs c h tk, P u zs → Fr h₀ L h (over u m₀ stored) → News h₀ L h (lead ++ (lt, W.listOf zs.toArray c) :: rest) → Q .next { s with heap := h, toks := tk }) :
    wpAny (model prog w) A (pyIter (.ref l)) (fun it s₂ => LoopAtT prog w A h₀ L env target body Q E it s₂) E s := by
  refine join_loop (QJ h₀ L stored m₀ s (fun m' nx => ∃ zs' c', nx = lead ++ (lt, W.listOf zs'.toArray c') :: rest ∧ P m' zs') Q) ?_ ?_
  · refine forT_pd hi stored (fun pre m nx => SameT stored m₀ m ∧ ∃ zs c, nx = lead ++ (lt, W.listOf zs.toArray c) :: rest ∧ J pre m zs) hh (src.imp id fun ⟨ol, k, a, b, c⟩ => ⟨ol, k, a, b, fun _ _ nx ⟨_, zs, c1, e, _⟩ => by
      rw [e]
      exact c.elim (fun q => List.mem_append_left _ q) fun q => List.mem_append_right _ (List.mem_cons_of_mem _ q)⟩) F N ⟨fun _ _ => rfl, _, _, rfl, hj⟩ ?_ ?_
    · rintro pre a post v u nw I oI h tk e hG ⟨hs, zs, c, rfl, hJ⟩ hoff F₁ N₁
      refine wpAny_mono (turn pre a post v u zs c I oI h tk e hG hJ hoff F₁ N₁) (fun _ s₂ h₂ => wpAny_mono h₂ (fun f s₃ h₃ => ?_) fun _ _ e => e) fun _ _ e => e
      have fin : TurnEnd h₀ L I oI (fun m' nx => SameT stored m₀ m' ∧ ∃ zs' c', nx = lead ++ (lt, W.listOf zs'.toArray c') :: rest ∧ J (pre ++ [a]) m' zs') { s with heap := h, toks := tk } s₃ → TurnEnd h₀ L I oI (fun m' nx => SameT stored m₀ m' ∧ SameT stored m₀ m' ∧ ∃ zs' c', nx = lead ++ (lt, W.listOf zs'.toArray c') :: rest ∧ J (pre ++ [a]) m' zs') { s with heap := h, toks := tk } s₃ :=
        fun ⟨h', tk, m', nx, e, a, b, c, d1, d2⟩ => ⟨h', tk, m', nx, e, a, b, c, d1, d1, d2⟩
      cases f with
      | ret v => exact h₃
      | brk => exact h₃
      | next => exact fin h₃
      | cont => exact fin h₃
    · rintro u nw h tk ⟨hs, zs, c, rfl, hJ⟩ F₁ N₁
      exact ⟨h, tk, u, _, rfl, by rw [over_T hs]; exact F₁, N₁, hs, zs, c, rfl, done u zs hJ hs⟩
  · intro f s' hq
    cases f with
    | next =>
      obtain ⟨h, tk, m', nx, rfl, F₁, N₁, hs, zs, c, rfl, hP⟩ := hq
      rw [over_T hs] at F₁
      exact cont m' zs c h tk hP F₁ N₁
    | ret v => exact hq
    | brk => exact hq
    | cont => exact hq
end
end Mine
end
section
namespace Mine
/-- the name's part ahead of its first slash, in small letters -/
def token (name : Str) : Str := Txt.lower (((Txt.split name (Str.ofString "/"))[0]?).getD Str.empty)
theorem token_of {name y : Str} (e : (Txt.split name (Str.ofString "/"))[0]? = some y) : token name = Txt.lower y := by unfold token; rw [e]; rfl
def fitsOne (name a : Str) : Bool := a != Str.ofString "*" && !(Builtin.Str.occurrences (token name) (Txt.lower a) 0 (token name).length 1).isEmpty

/-- p lies in r -/
def Lies (p r : List Nat) : Prop := ∃ i, i + p.length ≤ r.length ∧ (r.drop i).take p.length = p
theorem occ_lies (x y : Str) : (!(Builtin.Str.occurrences x y 0 x.length 1).isEmpty) = true ↔ Lies y.cps.toList x.cps.toList := by
  rw [StrLaws.found_iff]
  unfold Lies
  constructor
  · rintro ⟨i, h1, h2⟩
    rw [StrLaws.subAt_eq, beq_iff_eq] at h2
    exact ⟨i, h1, h2⟩
  · rintro ⟨i, h1, h2⟩
    exact ⟨i, h1, by rw [StrLaws.subAt_eq, beq_iff_eq]; exact h2⟩
theorem slash_is : Str.ofString "/" = ⟨#[47]⟩ := by decide +kernel
theorem star_is : Str.ofString "*" = ⟨#[42]⟩ := by decide +kernel

theorem takeWhile_at {l : List Nat} {c i : Nat} (h : l[i]? = some c) (hn : ∀ k, k < i → l[k]? ≠ some c) : l.takeWhile (· != c) = l.take i := by
  induction l generalizing i with
  | nil => simp at h
  | cons a r ih =>
    cases i with
    | zero =>
      simp at h; subst h
      simp
    | succ i =>
      have ha : a ≠ c := fun e => hn 0 (by omega) (by simp [e])
      rw [List.takeWhile_cons_of_pos (by simpa using ha), List.take_succ_cons]
      rw [ih (by simpa using h) fun k hk => by have := hn (k + 1) (by omega); simpa using this]
theorem takeWhile_none {l : List Nat} {c : Nat} (hn : c ∉ l) : l.takeWhile (· != c) = l := by
  induction l with
  | nil => rfl
  | cons a r ih =>
    simp only [List.mem_cons, not_or] at hn
    rw [List.takeWhile_cons_of_pos (by simpa using Ne.symm hn.1), ih hn.2]

theorem split_head (x : Str) : (Txt.split x (Str.ofString "/"))[0]? = some ⟨(x.cps.toList.takeWhile (· != 47)).toArray⟩ := by
  rw [slash_is]
  have whole : 47 ∉ x.cps.toList → some x = some (⟨(x.cps.toList.takeWhile (· != 47)).toArray⟩ : Str) := fun h => by
    rw [takeWhile_none h]
  have hk : ¬ (Builtin.Str.strKind x < Builtin.Str.strKind ⟨#[47]⟩) := by
    have h1 : Builtin.Str.strKind ⟨#[47]⟩ = 1 := by decide +kernel
    rw [h1]
    unfold Builtin.Str.strKind
    split
    · omega
    · split <;> omega
  unfold Txt.split
  by_cases hl : x.length < 1
  · have : x.cps.toList = [] := by
      have h : x.cps.size = 0 := by unfold Str.length at hl; omega
      apply List.eq_nil_of_length_eq_zero; simpa using h
    rw [if_pos (by simp only [Bool.or_eq_true, decide_eq_true_eq]; left; exact hl)]
    simpa using whole (by rw [this]; simp)
  · rw [if_neg (by
      simp only [Bool.or_eq_true, decide_eq_true_eq]
      rintro (h | h)
      · exact hl h
      · exact hk h)]
    have hat : ∀ i, StrLaws.At x ⟨#[47]⟩ x.length i ↔ x.cps.toList[i]? = some 47 := fun i => StrLaws.subAt_one x 47 i
    rcases StrLaws.occ_head x ⟨#[47]⟩ (x.length + 1) (by omega) with ⟨h0, hn⟩ | ⟨i, r, h0, ha, hn⟩
    · rw [if_pos (by rw [h0]; rfl)]
      refine whole fun hm => ?_
      obtain ⟨i, hi⟩ := List.mem_iff_getElem?.mp hm
      exact hn i ((hat i).mpr hi)
    · rw [if_neg (by rw [h0]; simp), h0, StrLaws.partsBetween_eq]
      show some (Builtin.Str.strSub x 0 i) = _
      refine congrArg some (Str.ext' ?_)
      have h1 := StrLaws.strSub_toList x 0 i
      rw [takeWhile_at ((hat i).mp ha) fun k hk q => hn k hk ((hat k).mpr q)]
      have h2 : (Builtin.Str.strSub x 0 i).cps.toList = x.cps.toList.take i := by rw [h1]; simp
      rw [← h2]

theorem placed_map (x : Str) (f : Nat → Nat → List Nat) (g : Nat → Nat) (h : ∀ i c, x.cps.toList[i]? = some c → f i c = [g c]) : (placed x f).toList = x.cps.toList.map g := by
  unfold placed
  have e : x.cps.mapIdx (fun i c => (f i c).toArray) = x.cps.map fun c => #[g c] := by
    apply Array.ext
    · simp
    · intro i h1 h2
      simp only [Array.getElem_mapIdx, Array.getElem_map]
      have hi : i < x.cps.size := by simpa using h1
      rw [h i x.cps[i] (by simp [hi])]
  rw [e]
  have : ∀ l : List Nat, ((l.map fun c => #[g c]).toArray.flatten).toList = l.map g := by
    intro l
    induction l with
    | nil => rfl
    | cons a r ih => simp at ih ⊢; exact ih
  have h3 := this x.cps.toList
  rw [← h3]
  simp

/-- a letter whose small form is one sign -/
theorem lower_map (x : Str) (g : Nat → Nat) (h : ∀ c ∈ x.cps.toList, c ≠ 0x3A3 ∧ Unicode.lowerOf c = [g c]) : (Txt.lower x).cps.toList = x.cps.toList.map g := by
  refine placed_map x _ g fun i c hc => ?_
  unfold Unicode.lowerAt
  have h1 : x.cps[i]? = some c := by simpa using hc
  rw [h1]
  obtain ⟨h2, h3⟩ := h c (List.mem_of_getElem? hc)
  have : (c == 0x3A3) = false := by simpa using h2
  simp [this, h3]

theorem token_cps (name : Str) (g : Nat → Nat) (h : ∀ c ∈ name.cps.toList, c ≠ 0x3A3 ∧ Unicode.lowerOf c = [g c]) : (token name).cps.toList = (name.cps.toList.takeWhile (· != 47)).map g := by
  rw [token_of (split_head name)]
  exact lower_map ⟨_⟩ g fun c hc => h c ((List.takeWhile_sublist _).subset (by simpa using hc))

theorem fits_iff (name a : Str) (g : Nat → Nat) (hn : ∀ c ∈ name.cps.toList, c ≠ 0x3A3 ∧ Unicode.lowerOf c = [g c]) (ha : ∀ c ∈ a.cps.toList, c ≠ 0x3A3 ∧ Unicode.lowerOf c = [g c]) :
    fitsOne name a = true ↔ a.cps.toList ≠ [42] ∧ Lies (a.cps.toList.map g) ((name.cps.toList.takeWhile (· != 47)).map g) := by
  unfold fitsOne
  rw [Bool.and_eq_true, occ_lies, token_cps name g hn, lower_map a g ha]
  refine and_congr_left fun _ => ?_
  rw [star_is, bne_iff_ne]
  refine not_congr ⟨fun e => by rw [e], fun e => Str.ext' (by show a.cps = #[42]; rw [← Array.toArray_toList (xs := a.cps), e])⟩
theorem sign_eq (a b : Nat) : (({ cps := #[a] } : Str) == { cps := #[b] }) = (a == b) := by
  by_cases h : a = b
  · simp [h]
  · have h1 : ({ cps := #[a] } : Str) ≠ { cps := #[b] } := fun e => h (by injection e with e; simpa using e)
    rw [beq_eq_false_iff_ne.mpr h1, beq_eq_false_iff_ne.mpr h]
theorem sign_slash (a : Nat) : (({ cps := #[a] } : Str) == Str.ofString "/") = (a == 47) := by rw [slash_is]; exact sign_eq a 47
end Mine
end
section
namespace Mine
/-- one sign put for another -/
def swap (a b c : Nat) : Nat := if c = a then b else c
theorem swap_free (a b : Nat) : ∀ (l : List Nat), a ∉ l → l.map (swap a b) = l
  | [], _ => rfl
  | c :: r, h => by
    rw [List.mem_cons, not_or] at h
    rw [List.map_cons, swap_free a b r h.2, swap, if_neg fun e => h.1 e.symm]
theorem swap_join (a b : Nat) : ∀ (ps : List Str), (∀ p ∈ ps, a ∉ p.cps.toList) → (Str.join ⟨#[a]⟩ ps).cps.toList.map (swap a b) = (Str.join ⟨#[b]⟩ ps).cps.toList
  | [], _ => rfl
  | [p], h => swap_free a b _ (h p (List.mem_singleton.mpr rfl))
  | p :: q :: r, h => by
    have ih := swap_join a b (q :: r) fun c hc => h c (List.mem_cons_of_mem _ hc)
    show (p ++ ⟨#[a]⟩ ++ Str.join ⟨#[a]⟩ (q :: r)).cps.toList.map (swap a b) = (p ++ ⟨#[b]⟩ ++ Str.join ⟨#[b]⟩ (q :: r)).cps.toList
    simp only [Str.cps_append, Array.toList_append, List.map_append]
    rw [ih, swap_free a b _ (h p List.mem_cons_self)]
    simp [swap]
theorem replace_map (x : Str) (a b : Nat) : (Txt.replace x ⟨#[a]⟩ ⟨#[b]⟩).cps.toList = x.cps.toList.map (swap a b) := by
  rw [StrLaws.replace_one, ← swap_join a b _ (StrLaws.split_free x a), StrLaws.join_split]
theorem replace_len (x : Str) (a b : Nat) : (Txt.replace x ⟨#[a]⟩ ⟨#[b]⟩).length = x.length := by
  have := congrArg List.length (replace_map x a b)
  simpa [Str.length] using this
end Mine
namespace Mine
open PySem.Builtin PySem.Builtin.Str
theorem replaceP {prog : Program} {w : World} {A : Around} {E : Value → Shared → Prop} {s : Shared} {x y z : Str} {t u v : Tok} {Q : Value → Shared → Prop}
    (hu' : @LT.lt Nat _ 0 u) (hv' : @LT.lt Nat _ 0 v) (huv' : @LT.lt Nat _ u v) (hyz : (y == z) = false) (hx : x.length ≤ 1048576) (hz : z.length ≤ 14)
    (hq : ∀ t' k, @LE.le Nat _ s.toks k → Q (.str (Txt.replace x y z) t') { s with toks := k }) : wpAny (model prog w) A (call (.builtin "str.replace") [.str x t, .str y u, .str z v]) Q E s := by
  have hu : u ≠ 0 := Nat.ne_of_gt hu'
  have hv : v ≠ 0 := Nat.ne_of_gt hv'
  have huv : u ≠ v := Nat.ne_of_lt huv'
  have hb : x.length + (x.length + 1) * z.length ≤ 16777216 := by
    have h1 : (x.length + 1) * z.length ≤ (x.length + 1) * 14 := Nat.mul_le_mul_left _ hz
    omega
  have hl : tooLong (x.length + (occurrences x y 0 x.length (x.length + 1)).length * z.length) = false := by
    have h1 := StrLaws.occ_length_le x y 0 x.length (x.length + 1)
    have h2 : (occurrences x y 0 x.length (x.length + 1)).length * z.length ≤ (x.length + 1) * z.length := Nat.mul_le_mul_right _ h1
    unfold tooLong
    rw [PySem.sizeLine_eq]
    exact decide_eq_false (by omega)
  refine call_gives F.slot_str_replace (typeIs_str _ _ _) F.entry_str_replace (F.args_str_replace_3 _ _ _)
    (gives_str_replace x y z t u v fun _ => ⟨by simp [hu, hv], by simp [huv], hyz, hl⟩) ?_
  have hq' := hq
  unfold Txt.replace at hq'
  cases hc : ((occurrences x y 0 x.length (x.length + 1)).isEmpty || (y.length == 0 && z.length == 0))
  · rw [hc] at hq'
    simp only [Bool.false_eq_true, if_false] at hq' ⊢
    refine ⟨fits_replaced y hb, hq' _ _ ?_⟩
    omega
  · rw [hc] at hq'
    simp only [if_true] at hq' ⊢
    exact hq' t s.toks (Nat.le_refl _)
end Mine
end
section
namespace Mine
theorem inst_up {g h : Heap} {L : Addr} {m : Str → Option Value} {x C : Addr} {ox : Obj} {od : Option Obj} (I : InstAt g x ox C od) (F : Fr g L h m) : InstAt h x ox C od :=
  ⟨F.keep _ _ I.at_, I.cls, I.no, by
    have := I.dict
    revert this
    cases ox.dict with
    | none => cases od with
      | none => exact id
      | some o => exact id
    | some a => cases od with
      | none => exact id
      | some o => exact fun e => F.keep _ _ e⟩
/-- an Entry's own dict, as __init__ leaves it -/
abbrev entryDict (h1 h2 h3 h4 : Int) (t1 t2 t3 t4 : Tok) (ua rl dl rr : Value) (n : Nat) : Obj :=
  dictOf [⟨h1, .str (Str.ofString "useragents") t1, ua⟩, ⟨h2, .str (Str.ofString "rulelines") t2, rl⟩, ⟨h3, .str (Str.ofString "delay") t3, dl⟩, ⟨h4, .str (Str.ofString "req_rate") t4, rr⟩] n
end Mine
local macro_rules | `(tactic| k_inst) => `(tactic| first | exact Mine.inst_up (by assumption) (by assumption) | exact Mine.inst_up (Mine.inst_up (by assumption) (by assumption)) (by assumption))
local macro_rules | `(tactic| walk_at "pyIter ref") => `(tactic| (k_here; refine Mine.stop ?_))
local macro_rules | `(tactic| walk_at "call builtin:str.lower") => `(tactic| first
  | ((rename (∀ a, a ∈ _ → Str.length a ≤ _) => hs'); (rename (_[_]? = some _) => hy'); (have hk' := hs' _ (List.mem_of_getElem? hy')); refine SCL.lower (by omega) ?_; intro _)
  | (refine SCL.lower (by omega) ?_; intro _))
set_option maxRecDepth 100000 in
set_option maxHeartbeats 8000000 in
theorem Mine.applies {w : World} {p : Program} {loose : List Str} {mean : ExcName → Option Value} {mg mb : Str → Option Value} {base h₀ : Heap} {L : Addr} {m : Str → Option Value} {env : Env} {s : Shared} {Q : Value → Shared → Prop} {E : Value → Shared → Prop}
  (hf : env.frame = some L) (hke : env.scope.kind = .function) (B : Below callerA base [] h₀) (F : Fr h₀ L s.heap m) (X : (Mine.hd05.heap_39 w.params).In h₀) (T : Top p loose mean mg mb h₀)
  {x d l : Addr} {h1 h2 h3 h4 : Int} {t1 t2 t3 t4 : Tok} {rl dl rr : Value} {n : Nat} {its : Array Value} {xs : List Str} {name : Str} {tn : Tok}
  (I : InstAt s.heap x (instObj 59 d) 59 (some (Mine.entryDict h1 h2 h3 h4 t1 t2 t3 t4 (.ref l) rl dl rr n))) (hl : s.heap.IsList l its) (hv : Mine.Pd Mine.StrV xs its.toList)
  (hlen : ∀ x ∈ xs, x.length ≤ 1000) (hnm : name.length ≤ 1000)
  (hpost : ∀ h' tk, (∀ b o, s.heap.get? b = some o → h'.get? b = some o) → Q (.bool (xs.any (Mine.fitsOne name))) { s with heap := h', toks := tk }) :
  wpAny (model PySem.Challenge.rw_kn0091_05.row.prog w) (callerA.deeper env) (call (.ref 49) [.ref x, .str name tn] []) Q E s := by
  revert X; k_fill; intro X
  refine wpAny_call (Mine.code_base (K := Mine.hd05.heap_39 w.params) B F X T rfl hf hke (by k_is) (by k_is) (by k_room) (BindsTo.of_eq rfl) (locs rfl) ?_ rfl rfl rfl (by decide))
  intro L' h₁ F' N' B' X' T'
  dsimp only
  clear F B X T
  repeat' (first | (k_unfold; (try dsimp only)) | walk1 | (dsimp only; walk1) | fail "no step")
  rename Fr _ _ _ _ => F9
  rename News _ _ _ _ => N9
  rename (List.map _ _ = Txt.split _ _) => hlk
  rename (_[_]? = some _) => hy9
  have htok := Mine.token_of (by rw [← hlk]; exact hy9)
  refine Mine.unstop (Mine.iter_list_s [] (its := its) (fun i u => ∀ j b, j < i → xs[j]? = some b → Mine.fitsOne name b = false) rfl (.inl hl) F9 N9 (fun j b hj => absurd hj (Nat.not_lt_zero j)) ?_ ?_)
  · intro i v u I' oI' h tk hv' hJ hoff0 F N
    have hoff := hoff0
    simp only [Mine.Off, and_true] at hoff
    simp only [Mine.over] at F
    obtain ⟨a, ha, t, rfl⟩ := Mine.pd_at hv i v (by simpa using hv')
    have hal := hlen a (List.mem_of_getElem? ha)
    have hnext : Mine.fitsOne name a = false → ∀ j b, j < i + 1 → xs[j]? = some b → Mine.fitsOne name b = false := fun e j b hj hb => by
      rcases Nat.lt_or_ge j i with q | q
      · exact hJ j b q hb
      · obtain rfl : j = i := by omega
        rw [ha] at hb; cases hb; exact e
    (repeat' (first | (k_unfold; (try dsimp only)) | walk1 | (dsimp only; walk1) | fail "no step"))
    · rename ((a != Str.ofString "*") = true) => e1
      rename (List.isEmpty _ = true) => e2
      dsimp only [Mine.TurnPost]
      refine Mine.TurnEnd.mk' [] (by assumption) (by assumption) hoff0 ⟨fun z z1 _ => (if_neg z1).trans (if_neg z1), rfl, hnext ?_⟩
      unfold Mine.fitsOne
      rw [htok, e2]; simp
    · rename ((a != Str.ofString "*") = true) => e1
      rename (List.isEmpty _ = false) => e2
      rename Fr s.heap _ _ _ => F8
      dsimp only [Mine.TurnPost]
      refine Mine.LeaveB.intro F8 ?_
      have e3 : xs.any (Mine.fitsOne name) = true := List.any_eq_true.mpr ⟨a, List.mem_of_getElem? ha, by unfold Mine.fitsOne; rw [htok, e2, e1]; rfl⟩
      rw [e3] at hpost
      exact hpost _ _ F8.keep
    · rename ((a != Str.ofString "*") = false) => e1
      dsimp only [Mine.TurnPost]
      refine Mine.TurnEnd.mk' [] (by assumption) (by assumption) hoff0 ⟨fun z z1 _ => if_neg z1, rfl, hnext ?_⟩
      unfold Mine.fitsOne
      rw [e1]; rfl
  · intro u h tk hJ F N
    simp only [Mine.over] at F
    dsimp only
    repeat' (first | (k_unfold; (try dsimp only)) | walk1 | (dsimp only; walk1) | fail "no step")
    refine Mine.LeaveB.intro F ?_
    have e3 : xs.any (Mine.fitsOne name) = false := List.any_eq_false.mpr fun a ha q => by
      obtain ⟨j, hj⟩ := List.mem_iff_getElem?.mp ha
      have hjl : j < xs.length := by
        rcases Nat.lt_or_ge j xs.length with q | q
        · exact q
        · rw [List.getElem?_eq_none q] at hj; cases hj
      have := hJ j a (by have := Mine.pd_len hv; simp at this; omega) hj
      rw [this] at q; cases q
    rw [e3] at hpost
    exact hpost _ _ F.keep
local macro_rules | `(tactic| walk_at "compareOp In str ref") => `(tactic| (k_here; k_dflt (refine Mine.in_b (by assumption) (by k_asm) (by assumption) ?_)))
set_option maxRecDepth 100000 in
set_option maxHeartbeats 8000000 in
theorem Mine.appliesNone {w : World} {p : Program} {loose : List Str} {mean : ExcName → Option Value} {mg mb : Str → Option Value} {base h₀ : Heap} {L : Addr} {m : Str → Option Value} {env : Env} {s : Shared} {Q : Value → Shared → Prop} {E : Value → Shared → Prop}
  (hf : env.frame = some L) (hke : env.scope.kind = .function) (B : Below callerA base [] h₀) (F : Fr h₀ L s.heap m) (X : (Mine.hd05.heap_39 w.params).In h₀) (T : Top p loose mean mg mb h₀)
  {x d l : Addr} {h1 h2 h3 h4 : Int} {t1 t2 t3 t4 : Tok} {rl dl rr : Value} {n : Nat} {its : Array Value} {xs : List Str}
  (I : InstAt s.heap x (instObj 59 d) 59 (some (Mine.entryDict h1 h2 h3 h4 t1 t2 t3 t4 (.ref l) rl dl rr n))) (hl : s.heap.IsList l its) (hv : Mine.Pd Mine.StrV xs its.toList)
  (hpost : ∀ h' tk, (∀ b o, s.heap.get? b = some o → h'.get? b = some o) → Q (.bool (xs.any (· == Str.ofString "*"))) { s with heap := h', toks := tk }) :
  wpAny (model PySem.Challenge.rw_kn0091_05.row.prog w) (callerA.deeper env) (call (.ref 49) [.ref x, .none] []) Q E s := by
  revert X; k_fill; intro X
  refine wpAny_call (Mine.code_base (K := Mine.hd05.heap_39 w.params) B F X T rfl hf hke (by k_is) (by k_is) (by k_room) (BindsTo.of_eq rfl) (locs rfl) ?_ rfl rfl rfl (by decide))
  intro L' h₁ F' N' B' X' T'
  dsimp only
  clear F B X T
  repeat' (first | (k_unfold; (try dsimp only)) | walk1 | (dsimp only; walk1) | fail "no step")
  rename Fr _ _ _ _ => F9
  exact Mine.LeaveB.intro F9 (hpost _ _ F9.keep)
end
section
namespace Mine
def low2 (x : Str) : Str := Txt.replace (Txt.replace x (Str.ofString "A") (Str.ofString "a")) (Str.ofString "B") (Str.ofString "b")
theorem ofA : Str.ofString "A" = ⟨#[65]⟩ := by decide +kernel
theorem ofa : Str.ofString "a" = ⟨#[97]⟩ := by decide +kernel
theorem ofB : Str.ofString "B" = ⟨#[66]⟩ := by decide +kernel
theorem ofb : Str.ofString "b" = ⟨#[98]⟩ := by decide +kernel
theorem low2_cps (x : Str) : (low2 x).cps.toList = x.cps.toList.map fun c => swap 66 98 (swap 65 97 c) := by
  unfold low2
  rw [ofA, ofa, ofB, ofb, replace_map, replace_map, List.map_map]; rfl
theorem low2_len (x : Str) : (low2 x).length = x.length := by
  unfold low2
  rw [ofA, ofa, ofB, ofb, replace_len, replace_len]
theorem low1_len (x : Str) : (Txt.replace x (Str.ofString "A") (Str.ofString "a")).length = x.length := by
  rw [ofA, ofa, replace_len]
end Mine
local macro_rules | `(tactic| walk_at "call builtin:str.replace") => `(tactic| (k_here; (with_reducible show wpAny _ _ (call (Value.builtin "str.replace") _ _) _ _ _); k_dflt (refine Mine.replaceP (by omega) (by omega) (by omega) (by decide) (by (try rw [Mine.low1_len]); omega) (by decide) ?_); intro t' k hk; (try dsimp only at hk)))
set_option maxRecDepth 100000 in
set_option maxHeartbeats 8000000 in
theorem Mine.small05 {w : World} {p : Program} {loose : List Str} {mean : ExcName → Option Value} {mg mb : Str → Option Value} {base h₀ : Heap} {L : Addr} {m : Str → Option Value} {env : Env} {s : Shared} {Q : Value → Shared → Prop} {E : Value → Shared → Prop}
  (hf : env.frame = some L) (hke : env.scope.kind = .function) (B : Below callerA base [] h₀) (F : Fr h₀ L s.heap m) (X : (Mine.hd05.heap_39 w.params).In h₀) (T : Top p loose mean mg mb h₀)
  {x : Str} {tn : Tok} (hlen : x.length ≤ 1000)
  (hpost : ∀ h' tk t', (∀ b o, s.heap.get? b = some o → h'.get? b = some o) → Q (.str (Mine.low2 x) t') { s with heap := h', toks := tk }) :
  wpAny (model PySem.Challenge.rw_kn0091_05.row.prog w) (callerA.deeper env) (call (.ref 70) [.str x tn] []) Q E s := by
  revert X; k_fill; intro X
  refine wpAny_call (Mine.code_base (K := Mine.hd05.heap_39 w.params) B F X T rfl hf hke (by k_is) (by k_is) (by k_room) (BindsTo.of_eq rfl) (locs rfl) ?_ rfl rfl rfl (by decide))
  intro L' h₁ F' N' B' X' T'
  dsimp only
  clear F B X T
  show wpAny _ _ _ _ _ { heap := h₁, gens := s.gens, drawn := s.drawn, toks := s.toks + 1, os := s.os }
  obtain ⟨k1, hk1⟩ : ∃ k1, k1 = s.toks + 1 := ⟨_, rfl⟩
  rw [← hk1]
  have hk0 : 0 < k1 := by omega
  clear hk1
  repeat' (first | (k_unfold; (try dsimp only)) | walk1 | (dsimp only; walk1) | fail "no step")
  rename Fr _ _ _ _ => F9
  refine Mine.LeaveB.intro F9 ?_
  exact hpost _ _ _ F9.keep
end
section
namespace Mine
def abAB : List Nat := [97, 98, 65, 66]
def Word9 (t : Str) : Prop := t.length ≤ 9 ∧ ∀ c ∈ t.cps.toList, c ∈ abAB
def Agent9 (t : Str) : Prop := t = Str.ofString "*" ∨ t.length ≤ 3 ∧ ∀ c ∈ t.cps.toList, c ∈ abAB
def g5 (c : Nat) : Nat := if c = 65 then 97 else if c = 66 then 98 else c
def alph5 : List Nat := [97, 98, 65, 66, 42, 47]
theorem alph5_low : ∀ c ∈ alph5, c ≠ 0x3A3 ∧ Unicode.lowerOf c = [g5 c] := by decide +kernel
theorem ab5 : ∀ c ∈ abAB, c ∈ alph5 := by decide
theorem ab47 : ∀ c ∈ abAB, c ≠ 47 := by decide
theorem ab42 : ∀ c ∈ abAB, g5 c ≠ 42 := by decide
theorem swap_g5 (c : Nat) : swap 66 98 (swap 65 97 c) = g5 c := by
  unfold swap g5
  by_cases h : c = 65
  · subst h; rfl
  · rw [if_neg h, if_neg h]
theorem low2_g5 (x : Str) : (low2 x).cps.toList = x.cps.toList.map g5 := by
  rw [low2_cps]
  exact List.map_congr_left fun c _ => swap_g5 c
theorem str_eq {x y : Str} (h : x.cps.toList = y.cps.toList) : x = y := Str.ext' (by rw [← Array.toArray_toList (xs := x.cps), h])
theorem lies_step (a r : List Nat) : Lies a r ↔ a = r ∨ (r ≠ [] ∧ (Lies a r.dropLast ∨ Lies a r.tail)) := by
  unfold Lies
  constructor
  · rintro ⟨i, h1, h2⟩
    rcases Nat.eq_zero_or_pos i with rfl | hi
    · rcases Nat.lt_or_ge a.length r.length with q | q
      · have hr : r ≠ [] := fun e => by subst e; simp at q
        refine .inr ⟨hr, .inl ⟨0, by rw [List.length_dropLast]; omega, ?_⟩⟩
        rw [List.drop_zero] at h2 ⊢
        rw [List.dropLast_eq_take, List.take_take, Nat.min_eq_left (by omega)]
        exact h2
      · refine .inl ?_
        rw [List.drop_zero, List.take_of_length_le q] at h2
        exact h2.symm
    · have hr : r ≠ [] := fun e => by subst e; simp at h1; omega
      refine .inr ⟨hr, .inr ⟨i - 1, by rw [List.length_tail]; omega, ?_⟩⟩
      rw [← List.drop_one, List.drop_drop, show 1 + (i - 1) = i by omega]
      exact h2
  · rintro (rfl | ⟨hr, ⟨i, h1, h2⟩ | ⟨i, h1, h2⟩⟩)
    · exact ⟨0, by omega, by simp⟩
    · rw [List.length_dropLast] at h1
      have hp := List.length_pos_iff.mpr hr
      refine ⟨i, by omega, ?_⟩
      rw [List.dropLast_eq_take, List.drop_take, List.take_take, Nat.min_eq_left (by omega)] at h2
      exact h2
    · rw [List.length_tail] at h1
      have hp := List.length_pos_iff.mpr hr
      refine ⟨i + 1, by omega, ?_⟩
      rw [← List.drop_one, List.drop_drop, Nat.add_comm] at h2
      exact h2
def mk (l : List Nat) : Str := ⟨l.toArray⟩
theorem mk_cps (l : List Nat) : (mk l).cps.toList = l := rfl
theorem fits5 {p : List Nat} {a : Str} (hp : ∀ c ∈ p, c ∈ abAB) (ha : Agent9 a) :
    fitsOne (mk p) a = true ↔ a ≠ Str.ofString "*" ∧ Lies (a.cps.toList.map g5) (p.map g5) := by
  have h1 := fits_iff (mk p) a g5 (fun c hc => alph5_low c (ab5 c (hp c hc))) (fun c hc => by
    rcases ha with rfl | ⟨_, ha⟩
    · rw [star_is] at hc; simp at hc; subst hc; exact alph5_low 42 (by decide)
    · exact alph5_low c (ab5 c (ha c hc)))
  rw [mk_cps, tw_all fun q => ab47 _ (hp _ q) rfl] at h1
  rw [h1]
  refine and_congr_left fun _ => not_congr ⟨fun e => str_eq (by rw [e, star_is]), fun e => by rw [e, star_is]⟩
theorem low2_eq {p : List Nat} {a : Str} : (low2 a == low2 (mk p)) = true ↔ a.cps.toList.map g5 = p.map g5 := by
  rw [beq_iff_eq]
  constructor
  · intro h
    have := congrArg (fun x : Str => x.cps.toList) h
    simpa [low2_g5, mk_cps] using this
  · intro h
    exact str_eq (by rw [low2_g5, low2_g5, mk_cps, h])
theorem fits_step {p : List Nat} {a : Str} (hp : ∀ c ∈ p, c ∈ abAB) (ha : Agent9 a) :
    fitsOne (mk p) a = (low2 a == low2 (mk p) || (!p.isEmpty && (fitsOne (mk p.dropLast) a || fitsOne (mk p.tail) a))) := by
  have h1 := fits5 hp ha
  have h2 := fits5 (p := p.dropLast) (fun c hc => hp c (List.dropLast_subset _ hc)) ha
  have h3 := fits5 (p := p.tail) (fun c hc => hp c (List.mem_of_mem_tail hc)) ha
  have h4 := low2_eq (p := p) (a := a)
  have hs : a = Str.ofString "*" → ¬ (a.cps.toList.map g5 = p.map g5) := by
    rintro rfl e
    rw [star_is] at e
    have : 42 ∈ p.map g5 := by rw [← e]; decide
    obtain ⟨c, hc, e⟩ := List.mem_map.mp this
    exact ab42 c (hp c hc) e
  rw [Bool.eq_iff_iff, h1, Bool.or_eq_true, Bool.and_eq_true, Bool.or_eq_true, h2, h3, h4, lies_step, List.map_dropLast, List.map_tail]
  have he : (!p.isEmpty) = true ↔ p.map g5 ≠ [] := by cases p <;> simp
  rw [he]
  by_cases q : a = Str.ofString "*"
  · simp [q]
    have := hs q; rw [q] at this; exact this
  · simp [q]
def pc (word : Str) (n s : Nat) : List Nat := (word.cps.toList.drop s).take n
def due (us : List Str) (word : Str) (n s : Nat) : Bool := us.any (fitsOne (mk (pc word n s)))
theorem pc_sub {word : Str} (h : Word9 word) (n s : Nat) : ∀ c ∈ pc word n s, c ∈ abAB := fun c hc =>
  h.2 c (List.mem_of_mem_drop (List.mem_of_mem_take hc))
theorem any_step {as : List Str} (has : ∀ a ∈ as, Agent9 a) {p : List Nat} (hp : ∀ c ∈ p, c ∈ abAB) :
    as.any (fitsOne (mk p)) = ((as.map low2).any (fun x => x == low2 (mk p)) || (!p.isEmpty && (as.any (fitsOne (mk p.dropLast)) || as.any (fitsOne (mk p.tail))))) := by
  induction as with
  | nil => simp
  | cons a r ih =>
    rw [List.map_cons, List.any_cons, List.any_cons, List.any_cons, List.any_cons, ih fun b hb => has b (List.mem_cons_of_mem _ hb), fits_step hp (has a List.mem_cons_self)]
    cases (low2 a == low2 (mk p)) <;> cases (!p.isEmpty) <;> cases fitsOne (mk p.dropLast) a <;> cases fitsOne (mk p.tail) a <;> simp
theorem due_zero {as : List Str} (has : ∀ a ∈ as, Agent9 a) {word : Str} (hw : Word9 word) (j : Nat) :
    due as word 0 j = (as.map low2).any (fun x => x == low2 (mk (pc word 0 j))) := by
  unfold due
  rw [any_step has (pc_sub hw 0 j)]
  unfold pc
  simp
theorem due_succ {as : List Str} (has : ∀ a ∈ as, Agent9 a) {word : Str} (hw : Word9 word) {k j : Nat} (h : j + (k + 1) ≤ word.length) :
    due as word (k + 1) j = ((as.map low2).any (fun x => x == low2 (mk (pc word (k + 1) j))) || due as word k j || due as word k (j + 1)) := by
  unfold due
  have hl : k < (word.cps.toList.drop j).length := by unfold Str.length at h; simp; omega
  rw [any_step has (pc_sub hw (k + 1) j)]
  have h1 : (pc word (k + 1) j).dropLast = pc word k j := by
    unfold pc
    rw [List.dropLast_eq_take, List.take_take, List.length_take]
    congr 1; omega
  have h2 : (pc word (k + 1) j).tail = pc word k (j + 1) := by
    unfold pc
    rw [← List.drop_one, List.drop_take, List.drop_drop, Nat.add_sub_cancel]
  have h3 : (!(pc word (k + 1) j).isEmpty) = true := by
    have : (pc word (k + 1) j).length = k + 1 := by unfold pc; rw [List.length_take]; omega
    cases e : pc word (k + 1) j with
    | nil => rw [e] at this; simp at this
    | cons => rfl
  rw [h1, h2, h3, Bool.true_and, Bool.or_assoc]
theorem slice_pc {word : Str} {i j : Int} {k s : Nat} (hi : i = (s : Int)) (hj : j = ((s + k : Nat) : Int)) (h : s + k ≤ word.length) : Txt.slice word (some i) (some j) = mk (pc word k s) := by
  have := eq_of_beq (slice_closesL (x := word) (i := i) (j := j) (by omega) (by omega) (by omega))
  rw [this]
  unfold mk pc
  rw [show i.toNat = s by omega, show (j - i).toNat = k by omega]
theorem token_mk {p : List Nat} (hp : ∀ c ∈ p, c ∈ abAB) (w : Str) : token (mk p ++ Str.ofString "/" ++ w) = token (mk p) := by
  rw [token_of (split_head _), token_of (split_head _), mk_cps, tw_all fun q => ab47 _ (hp _ q) rfl]
  rw [Str.cps_append, Str.cps_append, Array.toList_append, Array.toList_append, mk_cps, slash_is]
  rw [List.append_assoc]
  rw [show (#[47] : Array Nat).toList ++ w.cps.toList = 47 :: w.cps.toList from rfl, tw_stop fun q => ab47 _ (hp _ q) rfl]
theorem due_asked {as : List Str} {word : Str} (hw : Word9 word) (k j : Nat) : as.any (fitsOne (mk (pc word k j) ++ Str.ofString "/" ++ word)) = due as word k j := by
  unfold due
  congr 1
  funext a
  unfold fitsOne
  rw [token_mk (pc_sub hw k j)]
end Mine
end
section
local macro_rules | `(tactic| walk_at "subscriptTail") => `(tactic| (k_here; (with_reducible show wpAny _ _ (subscriptTail _ _ (Value.ref _) (Value.int _ _)) _ _ _); refine Mine.stop ?_))
local macro_rules | `(tactic| walk_at "pyIter ref") => `(tactic| (k_here; refine Mine.stop ?_))
local macro_rules | `(tactic| walk_at "call builtin:list.append") => `(tactic| (k_here; (with_reducible show wpAny _ _ (call (Value.builtin _) [Value.ref _, _]) _ _ _); k_dflt (refine' Mine.append_l ?k1 ?k2 ?k3 ?_ ?z; (case k1 => k_asm); (case k2 => k_asm); (case k3 => k_upd); (case z => (rw [PySem.sizeLine_eq]; omega)); k_whole); intro h' F' N'; (try k_sweep)))
local macro_rules | `(tactic| walk_at "getItem ref int") => `(tactic| (k_here; k_dflt (refine Mine.get_last (by k_asm) (by k_mem) ?_)))
local macro_rules | `(tactic| walk_at "subscriptTail") => `(tactic| (k_here; (with_reducible show wpAny _ _ (subscriptTail _ _ (Value.ref _) (Value.int _ _)) _ _ _); k_dflt (refine Mine.tail_last (by k_asm) (by k_mem) ?_)))
local macro_rules | `(tactic| walk_at "setItem ref int") => `(tactic| (k_here; k_dflt (refine' Mine.set_last ?k1 ?k2 ?k3 ?_; (case k1 => k_asm); (case k2 => k_asm); (case k3 => k_upd); k_whole); intro h' F' N'; (try k_sweep)))
local macro_rules | `(tactic| walk_at "call builtin:len") => `(tactic| (k_here; (with_reducible show wpAny _ _ (call (Value.builtin "len") [Value.ref _]) _ _ _); k_dflt (refine' Mine.len_l ?k1 ?k2 ?k3 ?_; (case k1 => k_asm); (case k2 => k_mem); (case k3 => (rw [PySem.sizeLine_eq]; (try simp only [List.length_append, List.length_cons, List.length_nil]); omega)); k_whole)))
local macro_rules | `(tactic| walk_at "binaryOp Add ref ref") => `(tactic| (k_here; k_dflt (refine' Mine.add_l ?k1 ?k2 ?k3 ?k4 ?k5 ?_; (case k1 => k_asm); (case k2 => k_asm); (case k3 => k_mem); (case k4 => k_mem); (case k5 => (rw [PySem.sizeLine_eq]; (try simp only [List.length_append, List.length_cons, List.length_nil, List.length_take, List.length_drop]); omega)); k_whole); intro D' h' F' N' l1; (try k_lt l1); (try k_sweep)))
local macro_rules | `(tactic| walk_at "call type:list") => `(tactic| (k_here; (with_reducible show wpAny _ _ (call (Value.type _) [Value.ref _]) _ _ _); k_dflt (refine' Mine.copy_l ?k1 ?k2 ?k3 ?k4 ?_; (case k1 => k_asm); (case k2 => k_asm); (case k3 => k_mem); (case k4 => (rw [PySem.sizeLine_eq]; (try simp only [List.length_append, List.length_cons, List.length_nil, List.length_take, List.length_drop]); omega)); k_whole); intro D' c' h' F' N' l1; (try k_lt l1); (try k_sweep)))
local macro_rules | `(tactic| walk_at "subscriptTail Name Slice ref ref") => `(tactic| (k_here; (with_reducible show wpAny _ _ (subscriptTail _ (PySem.Expr.Slice _ _ none _) (Value.ref _) (Value.ref _)) _ _ _); k_dflt ((first | refine' Mine.slice_to ?F ?N ?l ?p ?_ ?s ?t ?z | refine' Mine.slice_from ?F ?N ?l ?p ?_ ?s ?t ?z); (case F => k_asm); (case N => k_asm); (case l => k_mem); (case p => omega); (case s => with_unfolding_all rfl); (case t => kmk_pure); (case z => (rw [PySem.sizeLine_eq]; omega))); intro D' h' F' N' l1; (try k_lt l1); (try k_sweep)))
local macro_rules | `(tactic| walk_at "eval ListComp") => `(tactic| (k_here; first
  | (lcg_look; k_dflt (refine LCg.ListComp_U (F₀ := by k_asm) (by with_unfolding_all rfl) (by decide) (by rfl) (by decide) (by rfl) ?_); k_dflt lcg_toSrc)
  | (lcf_look; k_dflt (refine LCg.ListComp_U (F₀ := by k_asm) (by with_unfolding_all rfl) (by decide) (by rfl) (by decide) (by rfl) ?_); k_dflt lcg_toSrc)
  | (lct_look; k_dflt (refine LCt.ListComp_T (F₀ := by k_asm) (by with_unfolding_all rfl) (by decide) (by rfl) (by decide) (by rfl) ?_); k_dflt lct_toSrc)))
local macro_rules | `(tactic| walk_at "exec Assign cons ListComp") => `(tactic| (k_here; first
  | (lcg_look; k_dflt (refine LCg.Assign_ListComp_U (F₀ := by k_asm) (by rfl) (by with_unfolding_all rfl) (by with_unfolding_all rfl) (by decide) (by rfl) (by decide) (by rfl) (by rfl) (by rfl) ?_); k_dflt lcg_toSrc)
  | (lcf_look; k_dflt (refine LCg.Assign_ListComp_U (F₀ := by k_asm) (by rfl) (by with_unfolding_all rfl) (by with_unfolding_all rfl) (by decide) (by rfl) (by decide) (by rfl) (by rfl) (by rfl) ?_); k_dflt lcg_toSrc)
  | (lct_look; k_dflt (refine LCt.Assign_ListComp_T (F₀ := by k_asm) (by rfl) (by with_unfolding_all rfl) (by with_unfolding_all rfl) (by decide) (by rfl) (by decide) (by rfl) (by rfl) (by rfl) ?_); k_dflt lct_toSrc)))
local macro_rules | `(tactic| walk_at "CompSrc") => `(tactic| (k_here; k_dflt (first
  | (refine LCg.CompSrc.ledger (by rfl) (by k_asm) (by k_asm) (by k_mem) (by first | (simp only [List.size_toArray, List.length_append, List.length_cons, List.length_nil, List.length_take, List.length_drop, PySem.sizeLine_eq]; omega) | size_fits) ?_; intro g'; refine Mine.stop ?_)
  | (refine LCg.CompSrc.base (by rfl) (by k_asm) (by k_asm) (by assumption) (by first | (simp only [List.size_toArray, List.length_append, List.length_cons, List.length_nil, List.length_take, List.length_drop, PySem.sizeLine_eq]; omega) | size_fits) ?_; intro g'; refine Mine.stop ?_))))
local macro_rules | `(tactic| walk_at "CompSrcT") => `(tactic| (k_here; k_dflt (first
  | (refine LCt.CompSrcT.ledger (by rfl) (by k_asm) (by k_asm) (by k_mem) (by first | (simp only [List.size_toArray, List.length_append, List.length_cons, List.length_nil, List.length_take, List.length_drop, PySem.sizeLine_eq]; omega) | size_fits) ?_; intro g'; refine Mine.stop ?_)
  | (refine LCt.CompSrcT.base (by rfl) (by k_asm) (by k_asm) (by assumption) (by first | (simp only [List.size_toArray, List.length_append, List.length_cons, List.length_nil, List.length_take, List.length_drop, PySem.sizeLine_eq]; omega) | size_fits) ?_; intro g'; refine Mine.stop ?_))))
local macro_rules | `(tactic| walk_at "exec Assign") => `(tactic| (k_here; with_reducible refine plainObj_wpAny_Assign_Attribute ?_ ?_; rotate_left; with_unfolding_all rfl))
local macro_rules | `(tactic| walk_at "exec For Name Call cons nil") => `(tactic| (k_here; k_dflt (refine Mine.For_T (by k_asm) (by intro _ _; rfl) ?_)))
local macro_rules | `(tactic| walk_at "exec For Name Name cons nil") => `(tactic| (k_here; k_dflt (refine Mine.For_T (by k_asm) (by intro _ _; rfl) ?_)))
local macro_rules | `(tactic| walk_at "exec For Name Attribute cons nil") => `(tactic| (k_here; k_dflt (refine Mine.For_T (by k_asm) (by intro _ _; rfl) ?_)))
local macro_rules | `(tactic| walk_at "CompEnd") => `(tactic| (k_here; refine Mine.stop ?_))
local macro_rules | `(tactic| ktr_rel) => `(tactic| first
  | ((with_reducible show wpAny _ _ (subscriptTail _ _ (Value.ref _) (Value.int _ _)) _ _ _); (first | ((with_reducible show wpAny _ _ (subscriptTail _ _ (Value.ref _) (Value.int (-1) _)) _ _ _); k_dflt (refine Mine.tail_last (by k_asm) (by k_mem) ?_)) | refine Mine.stop ?_))
  | ((with_reducible show wpAny _ _ (call (Value.ref 70) _ _) _ _ _); refine Mine.stop ?_)
  | ((with_reducible show wpAny _ _ (eval (PySem.Expr.ListComp _ _ _ _) _) _ _ _); refine Mine.stop ?_)
  | ((with_reducible show wpAny _ _ (compareOp CmpOp.NotEq (Value.ref _) (Value.ref _)) _ _ _); refine Mine.stop ?_)
  | ((with_reducible show wpAny _ _ (compareOp CmpOp.In (Value.str _ _) (Value.ref _)) _ _ _); refine Mine.stop ?_)
  | ((with_reducible show wpAny _ _ (call (Value.ref 49) _ _) _ _ _); refine Mine.stop ?_))
local macro_rules | `(tactic| walk_at "compareOp In str ref") => `(tactic| (k_here; refine Mine.stop ?_))
local macro_rules | `(tactic| ktr_unf) => `(tactic| repeat' (first | (k_unfold; (try dsimp only)) | ktr_rel | walk1 | (dsimp only; walk1) | fail "no step"))
namespace Mine
theorem news_pick2 {g h : Heap} {L : Addr} {a b : Addr × Obj} {l : List (Addr × Obj)} (N : News g L h (a :: b :: l)) : News g L h (b :: a :: l) := fun p hp => N p (by
  simp only [List.mem_cons] at hp ⊢
  rcases hp with q | q | q
  · exact .inr (.inl q)
  · exact .inl q
  · exact .inr (.inr q))
theorem news_pick3 {g h : Heap} {L : Addr} {a b c : Addr × Obj} {l : List (Addr × Obj)} (N : News g L h (a :: b :: c :: l)) : News g L h (b :: a :: l) := fun p hp => N p (by
  simp only [List.mem_cons] at hp ⊢
  rcases hp with q | q | q
  · exact .inr (.inl q)
  · exact .inl q
  · exact .inr (.inr (.inr q)))
section
variable {prog : Program} {w : World} {A : Around} {E : Value → Shared → Prop} {s : Shared} {g : Heap} {L D : Addr} {vs : List Value} {n : Nat} {news : List (Addr × Obj)} {xs : List Str} {k : Str} {t : Tok} {Q : Value → Shared → Prop}
theorem in_l (N : News g L s.heap news) (hm : (D, W.listOf vs.toArray n) ∈ news) (hi : Pd StrV xs vs) (h : Q (.bool (xs.any (· == k))) s) : wpAny (model prog w) A (compareOp .In (.str k t) (.ref D)) Q E s :=
  in_list_strs (is_l N hm) (strs_pd hi) h
end
def BoolV (b : Bool) (v : Value) : Prop := v = .bool b
def Told (lt : Addr) (rest : List (Addr × Obj)) (D : Nat → Nat → Bool) (n k : Nat) (nw : List (Addr × Obj)) : Prop :=
  (k = 0 ∧ nw = (lt, W.listOf #[] 0) :: rest) ∨ ∃ k' R bs fr c1 c2, k = k' + 1 ∧ fr.length = k' ∧ (@Ne Nat R lt) ∧ Pd BoolV ((List.range (n + 1 - k')).map (D k')) bs ∧ nw = (R, W.listOf bs.toArray c1) :: (lt, W.listOf (fr ++ [Value.ref R]).toArray c2) :: rest
def Row (lt : Addr) (rest : List (Addr × Obj)) (D : Nat → Bool) (j : Nat) (nw : List (Addr × Obj)) : Prop := ∃ zs c, nw = (lt, W.listOf zs.toArray c) :: rest ∧ Pd BoolV ((List.range j).map D) zs
theorem Row.zero (lt : Addr) (rest : List (Addr × Obj)) (D : Nat → Bool) : Row lt rest D 0 ((lt, W.listOf #[] 0) :: rest) := ⟨[], 0, rfl, .nil⟩
theorem Told.zero (lt : Addr) (rest : List (Addr × Obj)) (D : Nat → Nat → Bool) (n : Nat) : Told lt rest D n 0 ((lt, W.listOf #[] 0) :: rest) := .inl ⟨rfl, rfl⟩
theorem empty9 : Str.ofString "" = ⟨#[]⟩ := by decide +kernel
theorem item4 (x : Int) : ∃ c ∈ abAB, Txt.item (Str.ofString "baBA") (Int.fmod x 4) = ⟨#[c]⟩ := by
  have h0 : 0 ≤ Int.fmod x 4 := Int.fmod_nonneg_of_pos x (by decide)
  have h1 : Int.fmod x 4 < 4 := Int.fmod_lt_of_pos x (by decide)
  generalize Int.fmod x 4 = r at h0 h1
  have : r = 0 ∨ r = 1 ∨ r = 2 ∨ r = 3 := by omega
  rcases this with rfl | rfl | rfl | rfl
  · exact ⟨98, by decide, by decide +kernel⟩
  · exact ⟨97, by decide, by decide +kernel⟩
  · exact ⟨66, by decide, by decide +kernel⟩
  · exact ⟨65, by decide, by decide +kernel⟩
theorem word_add {z : Str} {x : Int} (hz : Word9 z) (h : z.length < 9) : Word9 (z ++ Txt.item (Str.ofString "baBA") (Int.fmod x 4)) := by
  obtain ⟨c, hc, e⟩ := item4 x
  rw [e]
  refine ⟨by rw [Str.length_append]; show z.length + 1 ≤ 9; omega, fun d hd => ?_⟩
  rw [Str.cps_append, Array.toList_append] at hd
  rcases List.mem_append.mp hd with hd | hd
  · exact hz.2 d hd
  · simp at hd; rw [hd]; exact hc
theorem itemA (x : Int) : ∃ c ∈ abAB, Txt.item (Str.ofString "abAB") (Int.fmod x 4) = ⟨#[c]⟩ := by
  have h0 : 0 ≤ Int.fmod x 4 := Int.fmod_nonneg_of_pos x (by decide)
  have h1 : Int.fmod x 4 < 4 := Int.fmod_lt_of_pos x (by decide)
  generalize Int.fmod x 4 = r at h0 h1
  have : r = 0 ∨ r = 1 ∨ r = 2 ∨ r = 3 := by omega
  rcases this with rfl | rfl | rfl | rfl
  · exact ⟨97, by decide, by decide +kernel⟩
  · exact ⟨98, by decide, by decide +kernel⟩
  · exact ⟨65, by decide, by decide +kernel⟩
  · exact ⟨66, by decide, by decide +kernel⟩
theorem agent_add {a : Str} {x : Int} (h : ∀ c ∈ a.cps.toList, c ∈ abAB) : ∀ c ∈ (a ++ Txt.item (Str.ofString "abAB") (Int.fmod x 4)).cps.toList, c ∈ abAB := fun d hd => by
  obtain ⟨c, hc, e⟩ := itemA x
  rw [e, Str.cps_append, Array.toList_append] at hd
  rcases List.mem_append.mp hd with hd | hd
  · exact h d hd
  · simp at hd; rw [hd]; exact hc
theorem word_new {ts : List Str} {x : Int} (h : ∀ t ∈ ts, Word9 t) : ∀ t ∈ ts ++ [Str.ofString "" ++ Txt.item (Str.ofString "baBA") (Int.fmod x 4)], Word9 t := fun t ht => by
  rcases List.mem_append.mp ht with ht | ht
  · exact h t ht
  · rw [List.mem_singleton.mp ht]
    exact word_add ⟨by rw [empty9]; exact Nat.zero_le _, fun c hc => by rw [empty9] at hc; simp at hc⟩ (by rw [empty9]; exact Nat.zero_lt_succ _)
theorem word_on {ts : List Str} {z : Str} {x : Int} (hz : z.length ≠ 9) (h : ∀ t ∈ ts ++ [z], Word9 t) : ∀ t ∈ ts ++ [z ++ Txt.item (Str.ofString "baBA") (Int.fmod x 4)], Word9 t := fun t ht => by
  rcases List.mem_append.mp ht with ht | ht
  · exact h t (List.mem_append_left _ ht)
  · rw [List.mem_singleton.mp ht]
    have hw := h z (by simp)
    exact word_add hw (Nat.lt_of_le_of_ne hw.1 hz)
theorem base_list {g h : Heap} {L a : Addr} {its : Array Value} {news : List (Addr × Obj)} (_N : News g L h news) (q : g.IsList a its) : g.IsList a its := q
theorem int_at {vs : List Value} {ns : List Int} (h : IntsAre vs ns) {i : Nat} (hi : i < ns.length) : ∃ x t, vs[i]? = some (.int x t) := by
  obtain ⟨v, hv, t, rfl⟩ := pd_get (pd_ints h) i _ (List.getElem?_eq_getElem hi)
  exact ⟨_, t, hv⟩
theorem word_empty : ∀ t ∈ ([] : List Str) ++ [Str.ofString ""], Word9 t := fun t ht => by
  rw [List.mem_singleton.mp ht, empty9]; exact ⟨Nat.zero_le _, fun c hc => by simp at hc⟩
end Mine
set_option maxRecDepth 100000 in
set_option maxHeartbeats 8000000 in
theorem PySem.Challenge.cw_kn0091_05_holds : PySem.Challenge.rw_kn0091_05.Holds := by
  refine Mine.hd05 (by
  k_go0
  (all_goals try k_fold)
  rename ¬ ((_ : Nat) : Int) < _ => hle
  rename IntsAre _ _ => hI
  have hlv := hI.length
  ktr_unf
  rename Fr _ _ _ _ => F9
  rename News _ _ _ _ => N9
  have hl9 := Mine.base_list N9 (by assumption)
  refine Mine.unstop (Mine.forT_count [Str.ofString "k", Str.ofString "x", Str.ofString "agent", Str.ofString "step"] _ (fun i u nw => ∃ (ts : List Str) (z : Str) (zs : List Value) (t9 : Tok) (as : List Str) (us gs : List Value) (k1 k2 k3 : Nat),
      nw = [(_, W.listOf gs.toArray k1), _, (_, W.listOf us.toArray k2), _, _, (_, W.listOf (zs ++ [Value.str z t9]).toArray k3)] ∧
      Mine.Pd Mine.StrV ts zs ∧ Mine.Pd Mine.StrV as us ∧ Mine.Pd Mine.StrV (as.map Mine.low2) gs ∧ ts.length ≤ i ∧ as.length ≤ 4 ∧ (∀ t ∈ ts ++ [z], Mine.Word9 t) ∧ ∀ a ∈ as, Mine.Agent9 a) rfl (by assumption) rfl (by omega) (by omega) F9 N9
      ⟨[], Str.ofString "", [], _, [], [], [], _, _, _, rfl, .nil, .nil, .nil, Nat.zero_le _, Nat.zero_le _, Mine.word_empty, fun a ha => absurd ha List.not_mem_nil⟩ ?_ ?_)
  · intro i t u nw I oI h tk hi hJ hoff0 F N
    obtain ⟨ts, z, zs, t9, as, us, gs, k1, k2, k3, rfl, hw, hu, hg, htl, hal, hgw, hga⟩ := hJ
    have hoff := hoff0
    simp only [Mine.Off, and_true] at hoff
    simp only [Mine.over] at F
    have hzl := Mine.pd_len hw
    have hul := Mine.pd_len hu
    have hgl := Mine.pd_len hg
    rw [List.length_map] at hgl
    clear F9 N9
    rw [Int.zero_add]
    obtain ⟨x, tx, hvx⟩ := Mine.int_at hI (i := i) (by omega)
    have hz9 : z.length ≤ 9 := (hgw z (by simp)).1
    have hyl : (zs ++ [Value.str z t9]).length ≤ 2000 := by simp; omega
    have h4 : ∀ y, y ∉ [Str.ofString "k", Str.ofString "x", Str.ofString "agent", Str.ofString "step"] → y ≠ Str.ofString "k" ∧ y ≠ Str.ofString "x" ∧ y ≠ Str.ofString "agent" ∧ y ≠ Str.ofString "step" := fun y q => by
      simpa only [List.mem_cons, not_or, List.not_mem_nil, not_false_iff, and_true] using q
    ktr_unf
    rename Fr _ _ _ _ => F8
    refine Mine.unstop (Mine.tail_nat (j := i) hl9 F8 (by rw [← Array.getElem?_toList]; exact hvx) rfl (by omega) ?_)
    ktr_unf
    · rename (_ = (9 : Int)) => e9
      dsimp only [Mine.TurnPost]
      refine Mine.TurnEnd.mk' [] (by assumption) (by assumption) (by exact hoff0) ⟨fun z1 h1 => by simp only [if_neg (h4 z1 h1).1, if_neg (h4 z1 h1).2.1, if_neg (h4 z1 h1).2.2.1, if_neg (h4 z1 h1).2.2.2], ts ++ [z], _, zs ++ [Value.str z t9], _, as, us, gs, _, _, _, rfl, PySem.Paired.snoc hw ⟨_, rfl⟩, hu, hg, by simp; omega, hal, Mine.word_new hgw, hga⟩
    · rename (_ ≠ (9 : Int)) => e9
      dsimp only [Mine.TurnPost]
      refine Mine.TurnEnd.mk' [] (by assumption) (by assumption) (by exact hoff0) ⟨fun z1 h1 => by simp only [if_neg (h4 z1 h1).1, if_neg (h4 z1 h1).2.1, if_neg (h4 z1 h1).2.2.1, if_neg (h4 z1 h1).2.2.2], ts, _, zs, _, as, us, gs, _, _, _, rfl, hw, hu, hg, by omega, hal, Mine.word_on (by omega) hgw, hga⟩
    · rename Fr _ _ _ _ => F4
      rename News _ _ _ _ => N4
      have h70 := Int.fmod_nonneg_of_pos x (b := 7) (by decide)
      have h77 := Int.fmod_lt_of_pos x (b := 7) (by decide)
      have hfd : Int.fdiv (Int.fmod x 7 + 1) 2 = (Int.fmod x 7 + 1) / 2 := Int.fdiv_eq_ediv_of_nonneg _ (by decide)
      refine Mine.unstop (Mine.forT_count_s [Str.ofString "agent", Str.ofString "step"] (Int.fdiv (Int.fmod x 7 + 1) 2).toNat (fun j u => ∃ a ta, u (Str.ofString "agent") = some (.str a ta) ∧ a.length ≤ j ∧ ∀ c ∈ a.cps.toList, c ∈ Mine.abAB) rfl (by assumption) (by omega) (by omega) (by omega) F4 N4 ⟨Str.ofString "", _, rfl, by rw [Mine.empty9]; exact Nat.zero_le _, fun c hc => by rw [Mine.empty9] at hc; simp at hc⟩ ?_ ?_)
      · intro j t6 u6 I6 oI6 h6 tk6 hj6 hJ6 hoff60 F6 N6
        clear F4 N4
        obtain ⟨a6, ta6, hu6, hl6, hc6⟩ := hJ6
        have hoff6 := hoff60
        simp only [Mine.Off, and_true] at hoff6
        simp only [Mine.over, hu6] at F6
        rw [Int.zero_add]
        ktr_unf
        · rename (_ = (0 : Int)) => e0
          exact absurd e0 (Int.ne_of_gt (Int.pow_pos (by decide)))
        · have h2 : ∀ y, y ∉ [Str.ofString "agent", Str.ofString "step"] → y ≠ Str.ofString "agent" ∧ y ≠ Str.ofString "step" := fun y q => by
            simpa only [List.mem_cons, not_or, List.not_mem_nil, not_false_iff, and_true] using q
          dsimp only [Mine.TurnPost]
          refine Mine.TurnEnd.mk' [] (by assumption) (by assumption) (by exact hoff60) ⟨rfl, fun z1 h1 => by simp only [if_neg (h2 z1 h1).1, if_neg (h2 z1 h1).2], _, _, rfl, ?_, ?_⟩
          · rw [Str.length_append]; omega
          · exact Mine.agent_add hc6
      · intro u6 h6 tk6 hJ6 F6 N6
        clear F4 N4
        obtain ⟨a6, ta6, hu6, hl6, hc6⟩ := hJ6
        simp only [Mine.over, hu6] at F6
        dsimp only
        have hul2 : (us ++ [Value.str a6 ta6]).length ≤ 2000 := by simp; omega
        have hgl2 : gs.length ≤ 2000 := by omega
        ktr_unf
        rename Fr _ _ _ _ => F2
        rename News _ _ _ _ => N2
        refine Mine.unstop (Mine.small05 rfl rfl (by assumption) F2 (by assumption) (by assumption) (by omega) ?_)
        intro h2 tk2 t2 keep2
        obtain ⟨F1, N1⟩ := Mine.after_keep F2 N2 keep2
        clear F2 N2 keep2
        ktr_unf
        dsimp only [Mine.TurnPost]
        refine Mine.TurnEnd.mk' [] (by assumption) (by assumption) (by exact hoff0) ⟨fun z1 h1 => by simp only [if_neg (h4 z1 h1).1, if_neg (h4 z1 h1).2.1, if_neg (h4 z1 h1).2.2.1, if_neg (h4 z1 h1).2.2.2], ts, z, zs, t9, as ++ [a6], _, _, _, _, _, rfl, hw, PySem.Paired.snoc hu ⟨_, rfl⟩, by rw [List.map_append]; exact PySem.Paired.snoc hg ⟨_, rfl⟩, by omega, by simp; omega, hgw, fun a ha => (List.mem_append.mp ha).elim (hga a) fun q => .inr (by rw [List.mem_singleton.mp q]; exact ⟨by omega, hc6⟩)⟩
    · rename Fr _ _ _ _ => F2
      rename News _ _ _ _ => N2
      have hul2 : (us ++ [Value.str (Str.ofString "*") 0]).length ≤ 2000 := by simp; omega
      have hgl2 : gs.length ≤ 2000 := by omega
      refine Mine.unstop (Mine.small05 rfl rfl (by assumption) F2 (by assumption) (by assumption) (by decide) ?_)
      intro h2 tk2 t2 keep2
      obtain ⟨F1, N1⟩ := Mine.after_keep F2 N2 keep2
      clear F2 N2 keep2
      ktr_unf
      dsimp only [Mine.TurnPost]
      refine Mine.TurnEnd.mk' [] (by assumption) (by assumption) (by exact hoff0) ⟨fun z1 h1 => by simp only [if_neg (h4 z1 h1).1, if_neg (h4 z1 h1).2.1, if_neg (h4 z1 h1).2.2.1, if_neg (h4 z1 h1).2.2.2], ts, z, zs, t9, as ++ [Str.ofString "*"], _, _, _, _, _, rfl, hw, PySem.Paired.snoc hu ⟨_, rfl⟩, by rw [List.map_append]; exact PySem.Paired.snoc hg ⟨_, rfl⟩, by omega, by simp; omega, hgw, fun a ha => (List.mem_append.mp ha).elim (hga a) fun q => .inl (List.mem_singleton.mp q)⟩
    · dsimp only [Mine.TurnPost]
      refine Mine.TurnEnd.mk' [] (by assumption) (by assumption) (by exact hoff0) ⟨fun z1 h1 => by simp only [if_neg (h4 z1 h1).1, if_neg (h4 z1 h1).2.1, if_neg (h4 z1 h1).2.2.1, if_neg (h4 z1 h1).2.2.2], ts, z, zs, t9, as, us, gs, _, _, _, rfl, hw, hu, hg, by omega, hal, hgw, hga⟩
  · intro u nw h tk hJ F N
    obtain ⟨ts, z, zs, t9, as, us, gs, k1, k2, k3, rfl, hw, hu, hg, htl, hal, hgw, hga⟩ := hJ
    clear F9 N9
    simp only [Mine.over] at F
    have hpw : Mine.Pd Mine.StrV (ts ++ [z]) (zs ++ [Value.str z t9]) := PySem.Paired.snoc hw ⟨_, rfl⟩
    have hwl : (ts ++ [z]).length ≤ 64 := by simp; omega
    generalize ts ++ [z] = ws at hpw hwl hgw
    generalize zs ++ [Value.str z t9] = wv at hpw N
    clear hw htl
    dsimp only
    ktr_unf
    rename Fr _ _ _ _ => F4
    rename News _ _ _ _ => N4
    refine Mine.unstop (Mine.forT_pd_s hpw [Str.ofString "word", Str.ofString "told", Str.ofString "size", Str.ofString "row", Str.ofString "start", Str.ofString "piece", Str.ofString "due", Str.ofString "asked"] (fun pre u => True) rfl (.inr ⟨W.listOf _ _, _, rfl, rfl, by k_mem⟩) F4 N4 True.intro ?_ ?_)
    · intro pre3 word post3 v3 u3 I3 oI3 h3 tk3 hsp3 hv3 hJ3 hoff30 F3 N3
      clear F4 N4
      have hoff3 := hoff30
      simp only [Mine.Off, and_true] at hoff3
      simp only [Mine.over] at F3
      obtain ⟨t3, rfl⟩ := hv3
      have hgw3 := hgw word (by rw [hsp3]; simp)
      have hwl3 := hgw3.1
      ktr_unf
      rename Fr _ _ _ _ => F4
      rename News _ _ _ _ => N4
      refine Mine.unstop (Mine.forT_count [Str.ofString "size", Str.ofString "row", Str.ofString "start", Str.ofString "piece", Str.ofString "due", Str.ofString "asked"] (word.length + 1) (fun k u nw => Mine.Told _ _ (Mine.due as word) word.length k nw) rfl (by assumption) (by omega) (by omega) (by omega) F4 N4 (Mine.Told.zero ..) ?_ ?_)
      · intro k t6 u6 nw6 I6 oI6 h6 tk6 hk6 hJ6 hoff60 F6 N6
        clear F4 N4
        simp only [Mine.over] at F6
        rw [Int.zero_add]
        rcases hJ6 with ⟨rfl, rfl⟩ | ⟨k', R, bs, fr, c1, c2, rfl, hfr, hRl, hbs, rfl⟩
        · have hoff6 := hoff60
          simp only [Mine.Off, and_true] at hoff6
          ktr_unf
          rename Fr _ _ _ _ => F2
          rename News _ _ _ _ => N2
          refine Mine.unstop (Mine.forT_count [Str.ofString "start", Str.ofString "piece", Str.ofString "due", Str.ofString "asked"] (word.length + 1 - 0) (fun j u nw => Mine.Row _ _ (Mine.due as word (0)) j nw) rfl (by assumption) (by omega) (by omega) (by omega) F2 N2 (Mine.Row.zero ..) ?_ ?_)
          · intro j t8 u8 nw8 I8 oI8 h8 tk8 hk8 hJ8 hoff80 F8 N8
            clear F2 N2
            obtain ⟨zs8, c8, rfl, hp8⟩ := hJ8
            simp only [Mine.over] at F8
            rw [Int.zero_add]
            have hoff8 := hoff80
            simp only [Mine.Off, and_true] at hoff8
            have hzl8 := Mine.pd_len hp8
            rw [List.length_map, List.length_range] at hzl8
            have hzm8 : ∀ v : Value, (zs8 ++ [v]).length ≤ 2000 := fun v => by simp; omega
            have hzs8 : zs8.length ≤ 2000 := by omega
            have h4 : ∀ y, y ∉ [Str.ofString "start", Str.ofString "piece", Str.ofString "due", Str.ofString "asked"] → y ≠ Str.ofString "start" ∧ y ≠ Str.ofString "piece" ∧ y ≠ Str.ofString "due" ∧ y ≠ Str.ofString "asked" := fun y q => by
              simpa only [List.mem_cons, not_or, List.not_mem_nil, not_false_iff, and_true] using q
            ktr_unf
            rename Fr _ _ _ _ => F2
            rename News _ _ _ _ => N2
            have hjk : j + 0 ≤ word.length := by omega
            have hpc := Mine.slice_pc (word := word) (i := (j : Int)) (j := (j : Int) + ((0 : Nat) : Int)) (k := 0) (s := j) rfl (by omega) hjk
            rename (Txt.slice _ _ _).length ≤ _ => hsl
            rw [hpc] at F2 hsl ⊢
            have hn1 : (Mine.mk (Mine.pc word 0 j)).length ≤ 1000 := by omega
            have hn2 : (Mine.mk (Mine.pc word 0 j) ++ Str.ofString "/" ++ word).length ≤ 1000 := by
              rw [Str.length_append, Str.length_append, Mine.slash_is]; show _ + 1 + _ ≤ _; omega
            have hal9 : ∀ a ∈ as, a.length ≤ 1000 := fun a ha => by
              rcases hga a ha with rfl | q
              · decide
              · have := q.1; omega
            refine Mine.unstop (Mine.small05 rfl rfl (by assumption) F2 (by assumption) (by assumption) hn1 ?_)
            intro h2 tk2 t2 keep2
            obtain ⟨F1, N1⟩ := Mine.after_keep F2 N2 keep2
            clear F2 N2 keep2 hpc
            ktr_unf
            refine Mine.unstop (Mine.in_l N1 (by k_mem) hg ?_)
            rw [← Mine.due_zero hga hgw3 j]
            ktr_unf
            all_goals (
              rename Fr _ _ _ _ => F4
              rename News _ _ _ _ => N4
              refine Mine.unstop (Mine.applies (its := us.toArray) rfl rfl (by assumption) F4 (by assumption) (by assumption) (InstAt.of_news N4 (by k_mem) (by k_mem)) (Mine.is_l N4 (by k_mem)) hu hal9 (by first | exact hn1 | exact hn2) ?_)
              intro h3 tk3 keep3
              obtain ⟨F1, N1⟩ := Mine.after_keep F4 N4 keep3
              clear F4 N4 keep3
              (try rw [Mine.due_asked hgw3])
              (try rw [show as.any (Mine.fitsOne (Mine.mk (Mine.pc word 0 j))) = Mine.due as word 0 j from rfl])
              ktr_unf
              all_goals (first | (rename ((_ != _) = true) => e6; rw [bne_self_eq_false] at e6; cases e6) | skip)
              · dsimp only [Mine.TurnPost]
                refine Mine.TurnEnd.mk' [] (by assumption) (by assumption) (by exact hoff80) ⟨fun z1 h1 => by simp only [if_neg (h4 z1 h1).1, if_neg (h4 z1 h1).2.1, if_neg (h4 z1 h1).2.2.1, if_neg (h4 z1 h1).2.2.2], zs8 ++ [_], _, rfl, ?_⟩
                rw [List.range_succ, List.map_append]
                exact PySem.Paired.snoc hp8 rfl
              )
          · intro u8 nw8 h8 tk8 hJ8 F8 N8
            obtain ⟨zs8, c8, rfl, hp8⟩ := hJ8
            clear F2 N2
            simp only [Mine.over] at F8
            dsimp only
            ktr_unf
            rename Fr _ _ _ _ => F2
            rename News _ _ _ _ => N2
            dsimp only [Mine.TurnPost]
            rename (I6 < _ ∧ _ < _ ∧ _) => l1
            refine Mine.TurnEnd.mk' [] F2 (Mine.news_pick2 N2) (by exact ⟨Nat.ne_of_gt l1.1, hoff60⟩) ⟨fun z1 h1 => ?_, .inr ⟨0, _, zs8, [], _, _, rfl, rfl, Nat.ne_of_gt l1.2.1, hp8, rfl⟩⟩
            simp only [List.mem_cons, not_or, List.not_mem_nil, not_false_iff, and_true] at h1
            obtain ⟨n1, n2, n3, n4, n5, n6⟩ := h1
            simp only [if_neg n1, if_neg n2, if_neg n3, if_neg n4, if_neg n5, if_neg n6]
        · have hoff6 := hoff60
          simp only [Mine.Off, and_true] at hoff6
          ktr_unf
          rename Fr _ _ _ _ => F2
          rename News _ _ _ _ => N2
          refine Mine.unstop (Mine.forT_count [Str.ofString "start", Str.ofString "piece", Str.ofString "due", Str.ofString "asked"] (word.length + 1 - (k' + 1)) (fun j u nw => Mine.Row _ _ (Mine.due as word (k' + 1)) j nw) rfl (by assumption) (by omega) (by omega) (by omega) F2 N2 (Mine.Row.zero ..) ?_ ?_)
          · intro j t8 u8 nw8 I8 oI8 h8 tk8 hk8 hJ8 hoff80 F8 N8
            clear F2 N2
            obtain ⟨zs8, c8, rfl, hp8⟩ := hJ8
            simp only [Mine.over] at F8
            rw [Int.zero_add]
            have hoff8 := hoff80
            simp only [Mine.Off, and_true] at hoff8
            have hzl8 := Mine.pd_len hp8
            rw [List.length_map, List.length_range] at hzl8
            have hzm8 : ∀ v : Value, (zs8 ++ [v]).length ≤ 2000 := fun v => by simp; omega
            have hzs8 : zs8.length ≤ 2000 := by omega
            have h4 : ∀ y, y ∉ [Str.ofString "start", Str.ofString "piece", Str.ofString "due", Str.ofString "asked"] → y ≠ Str.ofString "start" ∧ y ≠ Str.ofString "piece" ∧ y ≠ Str.ofString "due" ∧ y ≠ Str.ofString "asked" := fun y q => by
              simpa only [List.mem_cons, not_or, List.not_mem_nil, not_false_iff, and_true] using q
            ktr_unf
            rename Fr _ _ _ _ => F2
            rename News _ _ _ _ => N2
            have hjk : j + (k' + 1) ≤ word.length := by omega
            have hpc := Mine.slice_pc (word := word) (i := (j : Int)) (j := (j : Int) + (((k' + 1) : Nat) : Int)) (k := (k' + 1)) (s := j) rfl (by omega) hjk
            rename (Txt.slice _ _ _).length ≤ _ => hsl
            rw [hpc] at F2 hsl ⊢
            have hn1 : (Mine.mk (Mine.pc word (k' + 1) j)).length ≤ 1000 := by omega
            have hn2 : (Mine.mk (Mine.pc word (k' + 1) j) ++ Str.ofString "/" ++ word).length ≤ 1000 := by
              rw [Str.length_append, Str.length_append, Mine.slash_is]; show _ + 1 + _ ≤ _; omega
            have hal9 : ∀ a ∈ as, a.length ≤ 1000 := fun a ha => by
              rcases hga a ha with rfl | q
              · decide
              · have := q.1; omega
            refine Mine.unstop (Mine.small05 rfl rfl (by assumption) F2 (by assumption) (by assumption) hn1 ?_)
            intro h2 tk2 t2 keep2
            obtain ⟨F1, N1⟩ := Mine.after_keep F2 N2 keep2
            clear F2 N2 keep2 hpc
            ktr_unf
            refine Mine.unstop (Mine.in_l N1 (by k_mem) hg ?_)
            have hds := Mine.due_succ hga hgw3 hjk
            have hget : ∀ i, i < word.length + 1 - k' → ((List.range (word.length + 1 - k')).map (Mine.due as word k'))[i]? = some (Mine.due as word k' i) := fun i hi => by
              rw [List.getElem?_map, List.getElem?_range hi]; rfl
            ktr_unf
            rotate_left 2
            · rename (_ = false) => e1
              rename Fr _ _ _ _ => F3
              rename News _ _ _ _ => N3
              refine Mine.unstop (Mine.tail_l (j := k') (v := Value.ref R) N3 (by k_mem) (by rw [← hfr]; simp) (by omega) (by omega) ?_)
              ktr_unf
              refine Mine.unstop (Mine.tail_pd (j := j) N3 (by k_mem) hbs (hget j (by omega)) rfl (by omega) ?_)
              rintro v rfl
              ktr_unf
              rotate_left 2
              · rename (Mine.due as word k' j = false) => e2
                rename Fr _ _ _ _ => F3
                rename News _ _ _ _ => N3
                refine Mine.unstop (Mine.tail_l (j := k') (v := Value.ref R) N3 (by k_mem) (by rw [← hfr]; simp) (by omega) (by omega) ?_)
                ktr_unf
                refine Mine.unstop (Mine.tail_pd (j := j + 1) N3 (by k_mem) hbs (hget (j + 1) (by omega)) (by omega) (by omega) ?_)
                rintro v rfl
                ktr_unf
                all_goals (
                  rw [e1, e2, Bool.false_or, Bool.false_or] at hds
                  rename Fr _ _ _ _ => F4
                  rename News _ _ _ _ => N4
                  refine Mine.unstop (Mine.applies (its := us.toArray) rfl rfl (by assumption) F4 (by assumption) (by assumption) (InstAt.of_news N4 (by k_mem) (by k_mem)) (Mine.is_l N4 (by k_mem)) hu hal9 (by first | exact hn1 | exact hn2) ?_)
                  intro h3 tk3 keep3
                  obtain ⟨F1, N1⟩ := Mine.after_keep F4 N4 keep3
                  clear F4 N4 keep3
                  (try rw [Mine.due_asked hgw3])
                  (try rw [show as.any (Mine.fitsOne (Mine.mk (Mine.pc word (k' + 1) j))) = Mine.due as word (k' + 1) j from rfl])
                  rw [← hds] at F1
                  ktr_unf
                  all_goals (first | (rename ((_ != _) = true) => e6; rw [bne_self_eq_false] at e6; cases e6) | skip)
                  · dsimp only [Mine.TurnPost]
                    refine Mine.TurnEnd.mk' [] (by assumption) (by assumption) (by exact hoff80) ⟨fun z1 h1 => by simp only [if_neg (h4 z1 h1).1, if_neg (h4 z1 h1).2.1, if_neg (h4 z1 h1).2.2.1, if_neg (h4 z1 h1).2.2.2], zs8 ++ [_], _, rfl, ?_⟩
                    rw [List.range_succ, List.map_append]
                    exact PySem.Paired.snoc hp8 rfl
                  )
              all_goals (
                rename (Mine.due as word k' j = true) => e2
                rw [e1, e2, Bool.false_or, Bool.true_or, ← e2] at hds
                rename Fr _ _ _ _ => F4
                rename News _ _ _ _ => N4
                refine Mine.unstop (Mine.applies (its := us.toArray) rfl rfl (by assumption) F4 (by assumption) (by assumption) (InstAt.of_news N4 (by k_mem) (by k_mem)) (Mine.is_l N4 (by k_mem)) hu hal9 (by first | exact hn1 | exact hn2) ?_)
                intro h3 tk3 keep3
                obtain ⟨F1, N1⟩ := Mine.after_keep F4 N4 keep3
                clear F4 N4 keep3
                (try rw [Mine.due_asked hgw3])
                (try rw [show as.any (Mine.fitsOne (Mine.mk (Mine.pc word (k' + 1) j))) = Mine.due as word (k' + 1) j from rfl])
                rw [← hds] at F1
                ktr_unf
                all_goals (first | (rename ((_ != _) = true) => e6; rw [bne_self_eq_false] at e6; cases e6) | skip)
                · dsimp only [Mine.TurnPost]
                  refine Mine.TurnEnd.mk' [] (by assumption) (by assumption) (by exact hoff80) ⟨fun z1 h1 => by simp only [if_neg (h4 z1 h1).1, if_neg (h4 z1 h1).2.1, if_neg (h4 z1 h1).2.2.1, if_neg (h4 z1 h1).2.2.2], zs8 ++ [_], _, rfl, ?_⟩
                  rw [List.range_succ, List.map_append]
                  exact PySem.Paired.snoc hp8 rfl
                )
            all_goals (
              rename (_ = true) => e1
              rw [e1, Bool.true_or, Bool.true_or, ← e1] at hds
              rename Fr _ _ _ _ => F4
              rename News _ _ _ _ => N4
              refine Mine.unstop (Mine.applies (its := us.toArray) rfl rfl (by assumption) F4 (by assumption) (by assumption) (InstAt.of_news N4 (by k_mem) (by k_mem)) (Mine.is_l N4 (by k_mem)) hu hal9 (by first | exact hn1 | exact hn2) ?_)
              intro h3 tk3 keep3
              obtain ⟨F1, N1⟩ := Mine.after_keep F4 N4 keep3
              clear F4 N4 keep3
              (try rw [Mine.due_asked hgw3])
              (try rw [show as.any (Mine.fitsOne (Mine.mk (Mine.pc word (k' + 1) j))) = Mine.due as word (k' + 1) j from rfl])
              rw [← hds] at F1
              ktr_unf
              all_goals (first | (rename ((_ != _) = true) => e6; rw [bne_self_eq_false] at e6; cases e6) | skip)
              · dsimp only [Mine.TurnPost]
                refine Mine.TurnEnd.mk' [] (by assumption) (by assumption) (by exact hoff80) ⟨fun z1 h1 => by simp only [if_neg (h4 z1 h1).1, if_neg (h4 z1 h1).2.1, if_neg (h4 z1 h1).2.2.1, if_neg (h4 z1 h1).2.2.2], zs8 ++ [_], _, rfl, ?_⟩
                rw [List.range_succ, List.map_append]
                exact PySem.Paired.snoc hp8 rfl
              )
          · intro u8 nw8 h8 tk8 hJ8 F8 N8
            obtain ⟨zs8, c8, rfl, hp8⟩ := hJ8
            clear F2 N2
            simp only [Mine.over] at F8
            dsimp only
            have hfm : (fr ++ [Value.ref R]).length ≤ 2000 := by simp; omega
            ktr_unf
            rename Fr _ _ _ _ => F2
            rename News _ _ _ _ => N2
            dsimp only [Mine.TurnPost]
            rename (I6 < _ ∧ _ < _ ∧ _) => l1
            refine Mine.TurnEnd.mk' [] F2 (Mine.news_pick3 N2) (by exact ⟨Nat.ne_of_gt l1.1, hoff60.2⟩) ⟨fun z1 h1 => ?_, .inr ⟨k' + 1, _, zs8, fr ++ [Value.ref R], _, _, rfl, by simp [hfr], Nat.ne_of_gt l1.2.2.1, hp8, rfl⟩⟩
            simp only [List.mem_cons, not_or, List.not_mem_nil, not_false_iff, and_true] at h1
            obtain ⟨n1, n2, n3, n4, n5, n6⟩ := h1
            simp only [if_neg n1, if_neg n2, if_neg n3, if_neg n4, if_neg n5, if_neg n6]
      · intro u6 nw6 h6 tk6 hJ6 F6 N6
        clear F4 N4
        simp only [Mine.over] at F6
        rcases hJ6 with ⟨e6, rfl⟩ | ⟨k', R, bs, fr, c1, c2, _, hfr, hRl, hbs, rfl⟩
        · exact absurd e6 (Nat.succ_ne_zero _)
        · dsimp only
          ktr_unf
          rename Fr _ _ _ _ => F2
          rename News _ _ _ _ => N2
          dsimp only [Mine.TurnPost]
          refine Mine.TurnEnd.mk' [_, _] F2 N2 (by exact hoff30) ⟨rfl, fun z1 h1 => ?_, True.intro⟩
          simp only [List.mem_cons, not_or, List.not_mem_nil, not_false_iff, and_true] at h1
          obtain ⟨n1, n2, n3, n4, n5, n6, n7, n8⟩ := h1
          simp only [if_neg n1, if_neg n2, if_neg n3, if_neg n4, if_neg n5, if_neg n6, if_neg n7, if_neg n8]
    · intro u3 h3 tk3 hJ3 F3 N3
      clear F4 N4
      simp only [Mine.over] at F3
      dsimp only
      ktr_unf
      all_goals (k_end; wrow_close))
end
