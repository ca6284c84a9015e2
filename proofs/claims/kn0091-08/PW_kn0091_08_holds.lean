import PyProof.Rows.All
import Wide.All
import OpenK.AllK
import Wide.FinOn
import PySem.Challenge.RW_kn0091_08
open PySem PySem.W PyProof.Rows
set_option Elab.async false
section
set_option maxRecDepth 100000 in
set_option maxHeartbeats 8000000 in
open_top Mine.hd08 for PySem.Challenge.rw_kn0091_08
end
section
namespace Mine
open PySem.Calls PySem.Spec

def Stop (P : Prop) : Prop := P
theorem stop {P : Prop} (h : Stop P) : P := h
theorem unstop {P : Prop} (h : P) : Stop P := h

/-- no entry of the ledger stands at I -/
def Off (I : Addr) : List (Addr × Obj) → Prop
  | [] => True
  | p :: r => (@Ne Nat p.1 I) ∧ Off I r
theorem Off.mem {I : Addr} : ∀ {l : List (Addr × Obj)}, Off I l → ∀ p ∈ l, p.1 ≠ I
  | [], _, _, h => nomatch h
  | _ :: _, x, p, h => by
    rcases List.mem_cons.mp h with rfl | h
    · exact x.1
    · exact Off.mem x.2 p h
theorem Off.of {I : Addr} : ∀ {l : List (Addr × Obj)}, (∀ p ∈ l, p.1 ≠ I) → Off I l
  | [], _ => trivial
  | _ :: _, h => ⟨h _ List.mem_cons_self, Off.of fun p hp => h p (List.mem_cons_of_mem _ hp)⟩

section
variable {prog : Program} {w : World} {A : Around} {E : Value → Shared → Prop} {s : Shared} {env : Env} {h₀ : Heap} {x : Str} {body : List Stmt} {Q : Flow → Shared → Prop}

def TurnEnd (h₀ : Heap) (L I : Addr) (oI : Obj) (J : (Str → Option Value) → List (Addr × Obj) → Prop) (s₁ s₂ : Shared) : Prop :=
  ∃ h' tk m' nx, s₂ = { s₁ with heap := h', toks := tk } ∧ Fr h₀ L h' m' ∧ News h₀ L h' ((I, oI) :: nx) ∧ Off I nx ∧ J m' nx
def TurnPost (h₀ : Heap) (L I : Addr) (oI : Obj) (J : (Str → Option Value) → List (Addr × Obj) → Prop) (s₁ : Shared) (Q : Flow → Shared → Prop) (f : Flow) (s₂ : Shared) : Prop :=
  match f with
  | .ret v => Q (.ret v) s₂
  | .brk => Q .next s₂
  | .next => TurnEnd h₀ L I oI J s₁ s₂
  | .cont => TurnEnd h₀ L I oI J s₁ s₂

theorem TurnEnd.intro {L I : Addr} {oI : Obj} {J : (Str → Option Value) → List (Addr × Obj) → Prop} {s₁ : Shared} {h' : Heap} {tk : Nat} {m' : Str → Option Value} {all : List (Addr × Obj)}
    (F : Fr h₀ L h' m') (N : News h₀ L h' all) (nx : List (Addr × Obj)) (sub : ∀ p ∈ (I, oI) :: nx, p ∈ all) (off : Off I nx) (hj : J m' nx) :
    TurnEnd h₀ L I oI J s₁ { s₁ with heap := h', toks := tk } := ⟨h', tk, m', nx, rfl, F, fun p hp => N p (sub p hp), off, hj⟩

/-- a for over a list, by any invariant of the frame's names and of the ledger -/
theorem iter_list {l : Addr} {its : Array Value} {m₀ : Str → Option Value} {news : List (Addr × Obj)} (J : Nat → (Str → Option Value) → List (Addr × Obj) → Prop)
    (hh : A.handled = none) (src : h₀.IsList l its ∨ ∃ ol k, ol.cls = .type "list" ∧ ol.data = .seq its k ∧ ∀ i m nx, J i m nx → (l, ol) ∈ nx)
    (F : Fr h₀ env.locals s.heap m₀) (N : News h₀ env.locals s.heap news) (hj : J 0 m₀ news)
    (turn : ∀ i v m₁ nw I oI h tk, its[i]? = some v → J i m₁ nw → Off I nw → Fr h₀ env.locals h (fun y => if y = x then some v else m₁ y) → News h₀ env.locals h ((I, oI) :: nw) →
      wpAny (model prog w) A (execs body env) (TurnPost h₀ env.locals I oI (J (i + 1)) { s with heap := h, toks := tk } Q) E { s with heap := h, toks := tk })
    (done : ∀ m₁ nw h tk, J its.size m₁ nw → Fr h₀ env.locals h m₁ → News h₀ env.locals h nw → Q .next { s with heap := h, toks := tk }) :
    wpAny (model prog w) A (pyIter (.ref l)) (fun it s₂ => LoopAtV prog w A h₀ env x body Q E it s₂) E s := by
  have hls : s.heap.IsList l its := by
    rcases src with hl | ⟨ol, k, hc, hd, hm⟩
    · exact hl.at fun o e => F.keep l o e
    · exact ⟨ol, (N _ (hm _ _ _ hj)).1, hc, k, hd⟩
  obtain ⟨ol', hol, _⟩ := id hls
  have hlt : l < s.heap.objs.size := Heap.lt_size hol
  have hne : l ≠ s.heap.objs.size := Nat.ne_of_lt hlt
  have hLl : env.locals ≠ l := by
    rcases src with hl | ⟨ol, k, hc, hd, hm⟩
    · obtain ⟨o, e, _⟩ := hl
      exact fun q => absurd (Nat.lt_of_lt_of_le (Heap.lt_size e) F.above) (q ▸ Nat.lt_irrefl _)
    · exact fun q => (N _ (hm _ _ _ hj)).2.1 q.symm
  refine wpAny_pyIter_list hls ?_
  have W := Walks.list (prog := prog) (w := w) hh s.heap.objs.size l hne its
  refine ⟨_, _, _, its.size, _, _, m₀, news, J, rfl, W, ?_, ?_, ?_, ⟨⟨_, Heap.get?_push_size _ rfl, rfl, rfl⟩, hls.at fun o e => Heap.get?_push_of_some _ e⟩, F.push _, (fun p hp => ⟨Heap.get?_push_of_some _ (N p hp).1, (N p hp).2⟩), hj, ?_, ?_⟩
  · intro hm
    rcases List.mem_cons.mp hm with e | hm
    · exact absurd F.ns.lt (e ▸ Nat.lt_irrefl _)
    · exact hLl (List.mem_singleton.mp hm)
  · intro b hb
    rw [List.mem_singleton.mp hb]
    exact next_is_new F
  · intro p hp hI
    exact absurd (Heap.lt_size (N p hp).1) ((List.mem_singleton.mp hI) ▸ Nat.lt_irrefl _)
  · rintro i v m₁ news₁ s₁ own ⟨hh', tk', rfl⟩ hin hP hJ hoff hown hget hin' hst F₁ N₁
    obtain ⟨oI, heI, _⟩ := hst.1
    have hIown : (s.heap.objs.size, oI) ∈ own := hin' _ (by simp) (next_is_new F) oI heI
    have hoffI : Off s.heap.objs.size news₁ := Off.of fun p hp q => hoff p hp (List.mem_singleton.mpr q)
    have N₂ : News h₀ env.locals hh' ((s.heap.objs.size, oI) :: news₁) := fun p hp => by
      rcases List.mem_cons.mp hp with rfl | hp
      · exact N₁ _ (List.mem_append_left _ hIown)
      · exact N₁ _ (List.mem_append_right _ hp)
    refine wpAny_mono (turn i v m₁ news₁ _ oI hh' tk' hP hJ hoffI F₁ N₂) (fun f s₂ p => ?_) fun _ _ e => e
    have fin : TurnEnd h₀ env.locals s.heap.objs.size oI (J (i + 1)) { s with heap := hh', toks := tk' } s₂ → LoopStepU h₀ env.locals [s.heap.objs.size] own (J (i + 1)) { s with heap := hh', toks := tk' } .next s₂ := by
      rintro ⟨h', tk, m', nx, e, F', N', hoff', hj'⟩
      refine ⟨rfl, h', tk, m', nx, e, F', fun p hp => ?_, fun p hp q => hoff'.mem p hp (List.mem_singleton.mp q), hj'⟩
      rcases List.mem_append.mp hp with hp | hp
      · have hg := hget p hp
        have h0 := (N₁ p (List.mem_append_left _ hp)).2.2
        rcases List.mem_cons.mp (hown p hp) with h1 | h1
        · have e1 : p = (s.heap.objs.size, oI) := by
            obtain ⟨a, o⟩ := p
            dsimp only at h1 hg
            subst h1
            rw [heI] at hg; cases hg; rfl
          rw [e1]; exact N' _ List.mem_cons_self
        · have h2 : p.1 = l := List.mem_singleton.mp h1
          rcases src with hl | ⟨ol, k, hc, hd, hm⟩
          · obtain ⟨o, e, _⟩ := hl
            rw [h2, e] at h0; cases h0
          · have e1 : p = (l, ol) := by
              obtain ⟨a, o⟩ := p
              dsimp only at h2 hg
              subst h2
              have := (N₁ _ (List.mem_append_right _ (hm _ _ _ hJ))).1
              rw [hg] at this
              cases this; rfl
            rw [e1]; exact N' _ (List.mem_cons_of_mem _ (hm _ _ _ hj'))
      · exact N' p (List.mem_cons_of_mem _ hp)
    cases f with
    | ret v => exact .ret p
    | brk => exact .brk p
    | next => exact .next (fin p)
    | cont => exact .cont (fin p)
  · rintro h' tk m' news' F' N' _ hJ
    exact done m' news' h' tk hJ F' N'

/-- a for over a range by a written step -/
theorem iter_range {r : Addr} {a b c : Int} {t u v : Tok} {n : Nat} {m₀ : Str → Option Value} {news : List (Addr × Obj)} (J : Nat → (Str → Option Value) → List (Addr × Obj) → Prop)
    (hh : A.handled = none) (hr : IsRange s.heap r a b c t u v) (hsm : Builtin.Range.small a b c = true) (hn : Builtin.Range.rangeSize a b c = ((n : Nat) : Int))
    (F : Fr h₀ env.locals s.heap m₀) (N : News h₀ env.locals s.heap news) (hj : J 0 m₀ news)
    (turn : ∀ i t m₁ nw I oI h tk, i < n → J i m₁ nw → Off I nw → Fr h₀ env.locals h (fun y => if y = x then some (.int (a + i * c) t) else m₁ y) → News h₀ env.locals h ((I, oI) :: nw) →
      wpAny (model prog w) A (execs body env) (TurnPost h₀ env.locals I oI (J (i + 1)) { s with heap := h, toks := tk } Q) E { s with heap := h, toks := tk })
    (done : ∀ m₁ nw h tk, J n m₁ nw → Fr h₀ env.locals h m₁ → News h₀ env.locals h nw → Q .next { s with heap := h, toks := tk }) :
    wpAny (model prog w) A (pyIter (.ref r)) (fun it s₂ => LoopAtV prog w A h₀ env x body Q E it s₂) E s := by
  refine wpAny_pyIter_range hr hsm ?_
  have W := Walks.range (prog := prog) (w := w) hh s.heap.objs.size a c n
  refine ⟨_, _, _, n, _, _, m₀, news, J, rfl, W, ?_, ?_, ?_, (by show IsRangeIter _ _ _ _ _; rw [hn]; simpa using Heap.get?_push_size _ rfl), F.push _, (fun p hp => ⟨Heap.get?_push_of_some _ (N p hp).1, (N p hp).2⟩), hj, ?_, ?_⟩
  · intro hm
    exact absurd F.ns.lt ((List.mem_singleton.mp hm) ▸ Nat.lt_irrefl _)
  · intro b hb
    rw [List.mem_singleton.mp hb]
    exact next_is_new F
  · intro p hp hI
    exact absurd (Heap.lt_size (N p hp).1) ((List.mem_singleton.mp hI) ▸ Nat.lt_irrefl _)
  · rintro i v m₁ news₁ s₁ own ⟨hh', tk', rfl⟩ hin hP hJ hoff hown hget hin' hst F₁ N₁
    obtain ⟨t, rfl⟩ := hP
    have heI : hh'.get? s.heap.objs.size = some _ := hst
    have hIown := hin' _ (by simp) (next_is_new F) _ heI
    have hoffI : Off s.heap.objs.size news₁ := Off.of fun p hp q => hoff p hp (List.mem_singleton.mpr q)
    generalize hoI : ({ cls := .type "range_iterator", data := .fields #[rawInt (a + ((i + 1 : Nat) : Int) * c), rawInt ((n : Int) - ((i + 1 : Nat) : Int)), rawInt c] } : Obj) = oI at heI hIown
    refine wpAny_mono (turn i t m₁ news₁ s.heap.objs.size oI hh' tk' hin hJ hoffI F₁ (fun p hp => by
      rcases List.mem_cons.mp hp with rfl | hp
      · exact N₁ _ (List.mem_append_left _ hIown)
      · exact N₁ _ (List.mem_append_right _ hp))) (fun f s₂ p => ?_) fun _ _ e => e
    have fin : TurnEnd h₀ env.locals s.heap.objs.size oI (J (i + 1)) { s with heap := hh', toks := tk' } s₂ → LoopStepU h₀ env.locals [s.heap.objs.size] own (J (i + 1)) { s with heap := hh', toks := tk' } .next s₂ := by
      rintro ⟨h', tk, m', nx, e, F', N', hoff', hj'⟩
      refine ⟨rfl, h', tk, m', nx, e, F', fun p hp => ?_, fun p hp q => hoff'.mem p hp (List.mem_singleton.mp q), hj'⟩
      rcases List.mem_append.mp hp with hp | hp
      · have hg := hget p hp
        have h1 := List.mem_singleton.mp (hown p hp)
        obtain ⟨a, o⟩ := p
        dsimp only at h1 hg
        subst h1
        have e9 : o = oI := by
          have := heI.symm.trans hg
          exact (Option.some.inj this).symm
        rw [e9]
        exact N' _ List.mem_cons_self
      · exact N' p (List.mem_cons_of_mem _ hp)
    cases f with
    | ret v => exact .ret p
    | brk => exact .brk p
    | next => exact .next (fin p)
    | cont => exact .cont (fin p)
  · rintro h' tk m' news' F' N' _ hJ
    exact done m' news' h' tk hJ F' N'
end

section
open LCg
variable {prog : Program} {w : World} {A : Around} {h₀ : Heap} {L : Addr} {m : Str → Option Value} {env : Env} {ct elt : Expr} {x : Str} {scope : Scope} {cl : List (Str × Addr)} {s : Shared} {S : List (Addr × Obj) → Prop} {P : Nat → Value → Prop} {Fin : List Value → List (Addr × Obj) → Prop} {news : List (Addr × Obj)}

/-- a comprehension without a test, by an invariant -/
theorem comp_inv {n : Nat} (J : Nat → List Value → List (Addr × Obj) → Prop) (h0 : J 0 [] news)
    (turn : ∀ i v ys nw I oI C oC D m₂ h tk (E' : Value → Shared → Prop), i < n → P i v → J i ys nw → NsObj oC m₂ → m₂ x = some v → Fr h₀ L h m → News h₀ L h ((I, oI) :: (C, oC) :: (D, lst ys) :: nw) → Off3 I C D nw → ((@Ne Nat I C) ∧ (@Ne Nat I D) ∧ (@Ne Nat C D)) →
      wpAny (model prog w) A (eval elt (compEnvC scope cl C env)) (CompEnd h₀ L m { s with heap := h, toks := tk } I oI C oC D (lst ys) S (fun y nw' => J (i + 1) (ys ++ [y]) nw')) E' { s with heap := h, toks := tk })
    (fin : ∀ ys nw, J n ys nw → Fin ys nw) : CompRest prog w A h₀ L m env elt x scope cl s S P Fin n 0 [] news := by
  have key : ∀ (j i : Nat) (ys : List Value) (nw : List (Addr × Obj)), i + j = n → J i ys nw → CompRest prog w A h₀ L m env elt x scope cl s S P Fin j i ys nw := by
    intro j
    induction j with
    | zero => intro i ys nw e hj; obtain rfl : i = n := by omega
              exact fin ys nw hj
    | succ j ih =>
      intro i ys nw e hj v I oI C oC D m₂ h tk E' hP hC hx F N off ne
      refine wpAny_mono (turn i v ys nw I oI C oC D m₂ h tk E' (by omega) hP hj hC hx F N off ne) (fun y s₂ hq => ?_) fun _ _ e => e
      obtain ⟨h', tk', nw', e', F', N', off', hS, hj'⟩ := hq
      exact ⟨h', tk', nw', e', F', N', off', hS, ih (i + 1) _ _ (by omega) hj'⟩
  exact key n 0 [] news (by omega) h0

/-- a comprehension with a test, by an invariant -/
theorem compT_inv {n : Nat} (J : Nat → List Value → List (Addr × Obj) → Prop) (h0 : J 0 [] news)
    (turn : ∀ i v ys nw I oI C oC D m₂ h tk (E' : Value → Shared → Prop), i < n → P i v → J i ys nw → NsObj oC m₂ → m₂ x = some v → Fr h₀ L h m → News h₀ L h ((I, oI) :: (C, oC) :: (D, lst ys) :: nw) → Off3 I C D nw → ((@Ne Nat I C) ∧ (@Ne Nat I D) ∧ (@Ne Nat C D)) →
      wpAny (model prog w) A (isTrue ct (compEnvC scope cl C env) (eval ct (compEnvC scope cl C env))) (fun ok s' => if ok = true then
        wpAny (model prog w) A (eval elt (compEnvC scope cl C env)) (CompEnd h₀ L m { s with heap := h, toks := tk } I oI C oC D (lst ys) S (fun y nw' => J (i + 1) (ys ++ [y]) nw')) E' s'
        else CompEnd h₀ L m { s with heap := h, toks := tk } I oI C oC D (lst ys) S (fun _ nw' => J (i + 1) ys nw') Value.none s') E' { s with heap := h, toks := tk })
    (fin : ∀ ys nw, J n ys nw → Fin ys nw) : LCt.CompRestT prog w A h₀ L m env ct elt x scope cl s S P Fin n 0 [] news := by
  have key : ∀ (j i : Nat) (ys : List Value) (nw : List (Addr × Obj)), i + j = n → J i ys nw → LCt.CompRestT prog w A h₀ L m env ct elt x scope cl s S P Fin j i ys nw := by
    intro j
    induction j with
    | zero => intro i ys nw e hj; obtain rfl : i = n := by omega
              exact fin ys nw hj
    | succ j ih =>
      intro i ys nw e hj v I oI C oC D m₂ h tk E' hP hC hx F N off ne
      refine wpAny_mono (turn i v ys nw I oI C oC D m₂ h tk E' (by omega) hP hj hC hx F N off ne) (fun ok s₂ hq => ?_) fun _ _ e => e
      cases ok with
      | true =>
        simp only [if_true] at hq ⊢
        refine wpAny_mono hq (fun y s₃ hr => ?_) fun _ _ e => e
        obtain ⟨h', tk', nw', e', F', N', off', hS, hj'⟩ := hr
        exact ⟨h', tk', nw', e', F', N', off', hS, ih (i + 1) _ _ (by omega) hj'⟩
      | false =>
        simp only [Bool.false_eq_true, if_false] at hq ⊢
        obtain ⟨h', tk', nw', e', F', N', off', hS, hj'⟩ := hq
        exact ⟨h', tk', nw', e', F', N', off', hS, ih (i + 1) _ _ (by omega) hj'⟩
  exact key n 0 [] news (by omega) h0
end

/-! lists of values by what they stand for -/
abbrev Pd {α : Type} (F : α → Value → Prop) (as : List α) (vs : List Value) : Prop := PySem.Paired F as vs
theorem pd_len {α : Type} {F : α → Value → Prop} {as : List α} {vs : List Value} (h : Pd F as vs) : as.length = vs.length := PySem.Paired.length h
theorem pd_at {α : Type} {F : α → Value → Prop} : ∀ {as : List α} {vs : List Value}, Pd F as vs → ∀ (i : Nat) (v : Value), vs[i]? = some v → ∃ a, as[i]? = some a ∧ F a v
  | _, _, .nil, i, v, h => by simp at h
  | _, _, .cons h₁ t, 0, v, h => by simp at h; subst h; exact ⟨_, by simp, h₁⟩
  | _, _, .cons h₁ t, i + 1, v, h => by simp at h; obtain ⟨a, e, f⟩ := pd_at t i v h; exact ⟨a, by simpa using e, f⟩
theorem pd_get {α : Type} {F : α → Value → Prop} : ∀ {as : List α} {vs : List Value}, Pd F as vs → ∀ (i : Nat) (a : α), as[i]? = some a → ∃ v, vs[i]? = some v ∧ F a v
  | _, _, .nil, i, v, h => by simp at h
  | _, _, .cons h₁ t, 0, v, h => by simp at h; subst h; exact ⟨_, by simp, h₁⟩
  | _, _, .cons h₁ t, i + 1, v, h => by simp at h; obtain ⟨a, e, f⟩ := pd_get t i v h; exact ⟨a, by simpa using e, f⟩
theorem pd_mono {α : Type} {F G : α → Value → Prop} : ∀ {as : List α} {vs : List Value}, Pd F as vs → (∀ a v, a ∈ as → F a v → G a v) → Pd G as vs
  | _, _, .nil, _ => .nil
  | _, _, .cons h₁ t, k => .cons (k _ _ List.mem_cons_self h₁) (pd_mono t fun a v ha => k a v (List.mem_cons_of_mem _ ha))
theorem pd_map {α β : Type} {F : β → Value → Prop} (f : α → β) : ∀ {as : List α} {vs : List Value}, Pd (fun a v => F (f a) v) as vs → Pd F (as.map f) vs
  | _, _, .nil => .nil
  | _, _, .cons h₁ t => .cons h₁ (pd_map f t)
theorem pd_of_map {α β : Type} {F : β → Value → Prop} (f : α → β) : ∀ {as : List α} {vs : List Value}, Pd F (as.map f) vs → Pd (fun a v => F (f a) v) as vs
  | [], _, .nil => .nil
  | _ :: _, _, .cons h₁ t => .cons h₁ (pd_of_map f t)
def IntV (n : Int) (v : Value) : Prop := ∃ t, v = .int n t
def StrV (x : Str) (v : Value) : Prop := ∃ t, v = .str x t
theorem pd_ints : ∀ {vs : List Value} {ns : List Int}, IntsAre vs ns → Pd IntV ns vs
  | _, _, .nil => .nil
  | _, _, .cons n t h => .cons ⟨t, rfl⟩ (pd_ints h)
theorem ints_pd : ∀ {vs : List Value} {ns : List Int}, Pd IntV ns vs → IntsAre vs ns
  | _, _, .nil => .nil
  | _, _, .cons ⟨_, e⟩ h => by rw [e]; exact .cons _ _ (ints_pd h)

section
open LCg
variable {prog : Program} {w : World} {A : Around} {h₀ : Heap} {L : Addr} {m : Str → Option Value} {env : Env} {ct elt : Expr} {x : Str} {scope : Scope} {cl : List (Str × Addr)} {s : Shared} {S : List (Addr × Obj) → Prop} {Fin : List Value → List (Addr × Obj) → Prop} {news : List (Addr × Obj)}

/-- a comprehension over a list that leaves the ledger as it was, item by item -/
theorem comp_pd {α β : Type} {F : α → Value → Prop} (G : β → Value → Prop) (f : α → β) {as : List α} {its : Array Value} (hi : Pd F as its.toList)
    (turn : ∀ a v I oI C oC D ys m₂ h tk (E' : Value → Shared → Prop), a ∈ as → F a v → ys.length ≤ as.length → NsObj oC m₂ → m₂ x = some v → Fr h₀ L h m → News h₀ L h ((I, oI) :: (C, oC) :: (D, lst ys) :: news) → Off3 I C D news → ((@Ne Nat I C) ∧ (@Ne Nat I D) ∧ (@Ne Nat C D)) →
      wpAny (model prog w) A (eval elt (compEnvC scope cl C env)) (CompEnd h₀ L m { s with heap := h, toks := tk } I oI C oC D (lst ys) S (fun y nw' => nw' = news ∧ G (f a) y)) E' { s with heap := h, toks := tk })
    (fin : ∀ ys, Pd G (as.map f) ys → Fin ys news) : CompRest prog w A h₀ L m env elt x scope cl s S (fun i v => its[i]? = some v) Fin its.size 0 [] news := by
  have hl := pd_len hi
  refine comp_inv (fun i ys nw => nw = news ∧ Pd G ((as.take i).map f) ys) ⟨rfl, by simp; exact .nil⟩ ?_ ?_
  · intro i v ys nw I oI C oC D m₂ h tk E' hin hP hJ hC hx F' N off ne
    obtain ⟨rfl, hy⟩ := hJ
    obtain ⟨a, ha, hF⟩ := pd_at hi i v (by simpa using hP)
    have hyl := pd_len hy
    refine wpAny_mono (turn a v I oI C oC D ys m₂ h tk E' (List.mem_of_getElem? ha) hF (by rw [← hyl]; simp; omega) hC hx F' N off ne) (fun y s₂ hq => ?_) fun _ _ e => e
    obtain ⟨h', tk', nw', e', F₂, N₂, off', hS, hn, hg⟩ := hq
    refine ⟨h', tk', nw', e', F₂, N₂, off', hS, hn, ?_⟩
    rw [List.take_add_one, ha, List.map_append]
    exact PySem.Paired.snoc hy hg
  · rintro ys nw ⟨rfl, hy⟩
    refine fin ys ?_
    have : as.take its.size = as := by rw [List.take_of_length_le]; simp at hl; omega
    rwa [this] at hy

/-- the same with a test -/
theorem compT_pd {α β : Type} {F : α → Value → Prop} (G : β → Value → Prop) (p : α → Bool) (f : α → β) {as : List α} {its : Array Value} (hi : Pd F as its.toList)
    (turn : ∀ a v I oI C oC D ys m₂ h tk (E' : Value → Shared → Prop), a ∈ as → F a v → ys.length ≤ as.length → NsObj oC m₂ → m₂ x = some v → Fr h₀ L h m → News h₀ L h ((I, oI) :: (C, oC) :: (D, lst ys) :: news) → Off3 I C D news → ((@Ne Nat I C) ∧ (@Ne Nat I D) ∧ (@Ne Nat C D)) →
      wpAny (model prog w) A (isTrue ct (compEnvC scope cl C env) (eval ct (compEnvC scope cl C env))) (fun ok s' => if ok = true then
        wpAny (model prog w) A (eval elt (compEnvC scope cl C env)) (CompEnd h₀ L m { s with heap := h, toks := tk } I oI C oC D (lst ys) S (fun y nw' => nw' = news ∧ p a = true ∧ G (f a) y)) E' s'
        else CompEnd h₀ L m { s with heap := h, toks := tk } I oI C oC D (lst ys) S (fun _ nw' => nw' = news ∧ p a = false) Value.none s') E' { s with heap := h, toks := tk })
    (fin : ∀ ys, Pd G ((as.filter p).map f) ys → Fin ys news) : LCt.CompRestT prog w A h₀ L m env ct elt x scope cl s S (fun i v => its[i]? = some v) Fin its.size 0 [] news := by
  have hl := pd_len hi
  refine compT_inv (fun i ys nw => nw = news ∧ Pd G (((as.take i).filter p).map f) ys) ⟨rfl, by simp; exact .nil⟩ ?_ ?_
  · intro i v ys nw I oI C oC D m₂ h tk E' hin hP hJ hC hx F' N off ne
    obtain ⟨rfl, hy⟩ := hJ
    obtain ⟨a, ha, hF⟩ := pd_at hi i v (by simpa using hP)
    have hyl := pd_len hy
    have hle : ys.length ≤ as.length := by
      rw [← hyl, List.length_map]
      exact Nat.le_trans (List.length_filter_le _ _) (by simp; omega)
    refine wpAny_mono (turn a v I oI C oC D ys m₂ h tk E' (List.mem_of_getElem? ha) hF hle hC hx F' N off ne) (fun ok s₂ hq => ?_) fun _ _ e => e
    cases ok with
    | true =>
      simp only [if_true] at hq ⊢
      refine wpAny_mono hq (fun y s₃ hr => ?_) fun _ _ e => e
      obtain ⟨h', tk', nw', e', F₂, N₂, off', hS, hn, hp, hg⟩ := hr
      refine ⟨h', tk', nw', e', F₂, N₂, off', hS, hn, ?_⟩
      rw [PySem.take_succ_filter p as i a ha, List.map_append, hp]
      exact PySem.Paired.snoc hy hg
    | false =>
      simp only [Bool.false_eq_true, if_false] at hq ⊢
      obtain ⟨h', tk', nw', e', F₂, N₂, off', hS, hn, hp⟩ := hq
      refine ⟨h', tk', nw', e', F₂, N₂, off', hS, hn, ?_⟩
      rw [PySem.take_succ_filter p as i a ha, List.map_append, hp]
      simpa using hy
  · rintro ys nw ⟨rfl, hy⟩
    refine fin ys ?_
    have : as.take its.size = as := by rw [List.take_of_length_le]; simp at hl; omega
    rwa [this] at hy
end

/-! a call whose body leaves all that stood as it stood: the whole heap is its ground -/
def LeaveB (g : Heap) (R : Result → Shared → Prop) (v : Value) (s' : Shared) : Prop := ∃ L' m', Fr g L' s'.heap m' ∧ R (.ok (.ret v)) s'
theorem LeaveB.intro {g : Heap} {R : Result → Shared → Prop} {v : Value} {s' : Shared} {L' : Addr} {m' : Str → Option Value} (F : Fr g L' s'.heap m') (h : R (.ok (.ret v)) s') : LeaveB g R v s' := ⟨L', m', F, h⟩
section
variable {prog : Program} {w : World} {A A₀ : Around} {s : Shared} {K : Frag} {L : Addr} {h₀ base : Heap} {m mg mb : Str → Option Value} {p : Program} {loose : List Str} {mean : ExcName → Option Value}

theorem code_base {env : Env} {outer : List Env} {R : Result → Shared → Prop} {name qual : Str} {params : Arguments} {body : List Stmt} {scope : Scope} {dV kV doc pm cdv ct oc : Value} {an od : Option Addr} {osl : Array (Option Value)} {f : Addr} {args : Args} {binds : List (Str × Value)}
    (B : Below A₀ base outer h₀) (F : Fr h₀ L s.heap m) (X₀ : K.In h₀) (T : Top p loose mean mg mb h₀) (hA : A.frames = some (env :: outer)) (hf : env.frame = some L) (hke : env.scope.kind = .function)
    (ho : K.lookup f = some ⟨oc, od, .func (fnOf name qual params body scope dV kV doc pm an cdv ct), osl⟩) (hcd : codeIn K cdv qual = true) (hroom : A.depth < recursionLimit)
    (hbind : BindsTo s (fnOf name qual params body scope dV kV doc pm an cdv ct) args binds) (hloc : ∀ y ∈ binds, scope.names.lookup y.1 = some .local)
    (h : ∀ L' h₁, Fr s.heap L' h₁ (fun y => binds.reverse.lookup y) → News s.heap L' h₁ [] → Below A base (env :: outer) s.heap → K.In s.heap → Top p loose mean mg mb s.heap →
      wpAny (model prog w) (A.deeper (envOf qual scope L' f cdv)) (execs body (envOf qual scope L' f cdv))
        (fun fl s' => LeaveB s.heap R (match fl with | .ret v => v | _ => .none) s')
        (fun e s' => wpAny (model prog w) (A.deeper (envOf qual scope L' f cdv)) (leaving (envOf qual scope L' f cdv) e) (fun _ s'' => R (.error e) s'') (fun e' s'' => R (.error e') s'') s')
        { s with heap := h₁, toks := s.toks + binds.length })
    (hco : scope.isCoroutine = false := by rfl) (hgen : scope.isGenerator = false := by rfl) (hk : scope.kind = .function := by rfl)
    (hcell : ∀ x ∈ scope.names, x.2 ≠ .cell := by decide) : codeAny (model prog w) A (.call (.ref f) args) R s := by
  obtain ⟨FG, BG, st, lv⟩ := groundX (R := R) B F (News.nil (h₀ := h₀) (L := L) (h := s.heap)) hA hf hke
  refine codeAny_call_def (fd := fnOf name qual params body scope dV kV doc pm an cdv ct) (body := body) (binds := binds) hroom ((X₀.keeps F.keep) _ _ ho) rfl (T.nolimit.keeps F.keep) (codeRec_of (X₀.keeps F.keep) hcd) rfl hbind hcell hloc (fun h₁ hns hk₁ => ?_) hco hgen hk
  exact wpAny_mono (h s.heap.objs.size h₁ ⟨hns, hk₁, Nat.le_refl _⟩ News.nil BG (X₀.keeps F.keep) (T.keeps F.keep)) (fun fl s' ⟨_, _, _, hr⟩ => hr) fun _ _ y => y
end

/-! the frame's map between turns: the stored names by u, all else by m₀ -/
def over (u m₀ : Str → Option Value) : List Str → Str → Option Value
  | [], y => m₀ y
  | a :: r, y => if y = a then u a else over u m₀ r y
theorem over_in {u m₀ : Str → Option Value} : ∀ {l : List Str} {y : Str}, (y ∉ l → u y = m₀ y) → over u m₀ l y = u y
  | [], y, h => (h List.not_mem_nil).symm
  | a :: r, y, h => by
    unfold over
    by_cases e : y = a
    · rw [if_pos e, e]
    · rw [if_neg e]
      exact over_in fun hn => h fun hm => (List.mem_cons.mp hm).elim e hn
theorem over_set {u m₀ : Str → Option Value} {l : List Str} {x : Str} {v : Option Value} (h : ∀ z, z ≠ x → z ∉ l → u z = m₀ z) : (fun y => if y = x then v else u y) = fun y => if y = x then v else over u m₀ l y := by
  funext y
  by_cases e : y = x
  · rw [if_pos e, if_pos e]
  · rw [if_neg e, if_neg e, over_in fun hn => h y e hn]
theorem over_self {u m₀ : Str → Option Value} {l : List Str} {x : Str} (h : ∀ z, z ≠ x → z ∉ l → u z = m₀ z) : u = fun y => if y = x then u x else over u m₀ l y := by
  funext y
  by_cases e : y = x
  · rw [if_pos e, e]
  · rw [if_neg e, over_in fun hn => h y e hn]
def Same (x : Str) (stored : List Str) (m₀ m' : Str → Option Value) : Prop := ∀ z, z ≠ x → z ∉ stored → m' z = m₀ z
section
variable {prog : Program} {w : World} {A : Around} {E : Value → Shared → Prop} {s : Shared} {env : Env} {h₀ : Heap} {x : Str} {body : List Stmt} {Q : Flow → Shared → Prop}
theorem iter_list_o (stored : List Str) {l : Addr} {its : Array Value} {m₀ : Str → Option Value} {news : List (Addr × Obj)} (J : Nat → (Str → Option Value) → List (Addr × Obj) → Prop)
    (hh : A.handled = none) (src : h₀.IsList l its ∨ ∃ ol k, ol.cls = .type "list" ∧ ol.data = .seq its k ∧ ∀ i m nx, J i m nx → (l, ol) ∈ nx)
    (F : Fr h₀ env.locals s.heap m₀) (N : News h₀ env.locals s.heap news) (hj : J 0 m₀ news)
    (turn : ∀ i v u nw I oI h tk, its[i]? = some v → J i u nw → Off I nw → Fr h₀ env.locals h (fun y => if y = x then some v else over u m₀ stored y) → News h₀ env.locals h ((I, oI) :: nw) →
      wpAny (model prog w) A (execs body env) (TurnPost h₀ env.locals I oI (fun m' nx => Same x stored m₀ m' ∧ J (i + 1) m' nx) { s with heap := h, toks := tk } Q) E { s with heap := h, toks := tk })
    (done : ∀ u nw h tk, J its.size u nw → Fr h₀ env.locals h (fun y => if y = x then u x else over u m₀ stored y) → News h₀ env.locals h nw → Q .next { s with heap := h, toks := tk }) :
    wpAny (model prog w) A (pyIter (.ref l)) (fun it s₂ => LoopAtV prog w A h₀ env x body Q E it s₂) E s := by
  refine iter_list (fun i m nx => Same x stored m₀ m ∧ J i m nx) hh (src.imp id fun ⟨ol, k, a, b, c⟩ => ⟨ol, k, a, b, fun i m nx h => c i m nx h.2⟩) F N ⟨fun _ _ _ => rfl, hj⟩ ?_ ?_
  · rintro i v m₁ nw I oI h tk hv ⟨hs, hJ⟩ hoff F₁ N₁
    rw [over_set hs] at F₁
    exact turn i v m₁ nw I oI h tk hv hJ hoff F₁ N₁
  · rintro m₁ nw h tk ⟨hs, hJ⟩ F₁ N₁
    refine done m₁ nw h tk hJ ?_ N₁
    rw [← over_self hs]; exact F₁
theorem iter_range_o (stored : List Str) {r : Addr} {a b c : Int} {t u v : Tok} {n : Nat} {m₀ : Str → Option Value} {news : List (Addr × Obj)} (J : Nat → (Str → Option Value) → List (Addr × Obj) → Prop)
    (hh : A.handled = none) (hr : IsRange s.heap r a b c t u v) (hsm : Builtin.Range.small a b c = true) (hn : Builtin.Range.rangeSize a b c = ((n : Nat) : Int))
    (F : Fr h₀ env.locals s.heap m₀) (N : News h₀ env.locals s.heap news) (hj : J 0 m₀ news)
    (turn : ∀ i t u nw I oI h tk, i < n → J i u nw → Off I nw → Fr h₀ env.locals h (fun y => if y = x then some (.int (a + i * c) t) else over u m₀ stored y) → News h₀ env.locals h ((I, oI) :: nw) →
      wpAny (model prog w) A (execs body env) (TurnPost h₀ env.locals I oI (fun m' nx => Same x stored m₀ m' ∧ J (i + 1) m' nx) { s with heap := h, toks := tk } Q) E { s with heap := h, toks := tk })
    (done : ∀ u nw h tk, J n u nw → Fr h₀ env.locals h (fun y => if y = x then u x else over u m₀ stored y) → News h₀ env.locals h nw → Q .next { s with heap := h, toks := tk }) :
    wpAny (model prog w) A (pyIter (.ref r)) (fun it s₂ => LoopAtV prog w A h₀ env x body Q E it s₂) E s := by
  refine iter_range (fun i m nx => Same x stored m₀ m ∧ J i m nx) hh hr hsm hn F N ⟨fun _ _ _ => rfl, hj⟩ ?_ ?_
  · rintro i t m₁ nw I oI h tk hi ⟨hs, hJ⟩ hoff F₁ N₁
    rw [over_set hs] at F₁
    exact turn i t m₁ nw I oI h tk hi hJ hoff F₁ N₁
  · rintro m₁ nw h tk ⟨hs, hJ⟩ F₁ N₁
    refine done m₁ nw h tk hJ ?_ N₁
    rw [← over_self hs]; exact F₁

/-- the ledger stays: J is of the names alone -/
theorem iter_list_s (stored : List Str) {l : Addr} {its : Array Value} {m₀ : Str → Option Value} {news : List (Addr × Obj)} (J : Nat → (Str → Option Value) → Prop)
    (hh : A.handled = none) (src : h₀.IsList l its ∨ ∃ ol k, ol.cls = .type "list" ∧ ol.data = .seq its k ∧ (l, ol) ∈ news)
    (F : Fr h₀ env.locals s.heap m₀) (N : News h₀ env.locals s.heap news) (hj : J 0 m₀)
    (turn : ∀ i v u I oI h tk, its[i]? = some v → J i u → Off I news → Fr h₀ env.locals h (fun y => if y = x then some v else over u m₀ stored y) → News h₀ env.locals h ((I, oI) :: news) →
      wpAny (model prog w) A (execs body env) (TurnPost h₀ env.locals I oI (fun m' nx => Same x stored m₀ m' ∧ nx = news ∧ J (i + 1) m') { s with heap := h, toks := tk } Q) E { s with heap := h, toks := tk })
    (done : ∀ u h tk, J its.size u → Fr h₀ env.locals h (fun y => if y = x then u x else over u m₀ stored y) → News h₀ env.locals h news → Q .next { s with heap := h, toks := tk }) :
    wpAny (model prog w) A (pyIter (.ref l)) (fun it s₂ => LoopAtV prog w A h₀ env x body Q E it s₂) E s := by
  refine iter_list_o stored (fun i m nx => nx = news ∧ J i m) hh (src.imp id fun ⟨ol, k, a, b, c⟩ => ⟨ol, k, a, b, fun i m nx h => h.1 ▸ c⟩) F N ⟨rfl, hj⟩ ?_ ?_
  · rintro i v u nw I oI h tk hv ⟨rfl, hJ⟩ hoff F₁ N₁
    exact turn i v u I oI h tk hv hJ hoff F₁ N₁
  · rintro u nw h tk ⟨rfl, hJ⟩ F₁ N₁
    exact done u h tk hJ F₁ N₁
theorem iter_range_s (stored : List Str) {r : Addr} {a b c : Int} {t u v : Tok} {n : Nat} {m₀ : Str → Option Value} {news : List (Addr × Obj)} (J : Nat → (Str → Option Value) → Prop)
    (hh : A.handled = none) (hr : IsRange s.heap r a b c t u v) (hsm : Builtin.Range.small a b c = true) (hn : Builtin.Range.rangeSize a b c = ((n : Nat) : Int))
    (F : Fr h₀ env.locals s.heap m₀) (N : News h₀ env.locals s.heap news) (hj : J 0 m₀)
    (turn : ∀ i t u I oI h tk, i < n → J i u → Off I news → Fr h₀ env.locals h (fun y => if y = x then some (.int (a + i * c) t) else over u m₀ stored y) → News h₀ env.locals h ((I, oI) :: news) →
      wpAny (model prog w) A (execs body env) (TurnPost h₀ env.locals I oI (fun m' nx => Same x stored m₀ m' ∧ nx = news ∧ J (i + 1) m') { s with heap := h, toks := tk } Q) E { s with heap := h, toks := tk })
    (done : ∀ u h tk, J n u → Fr h₀ env.locals h (fun y => if y = x then u x else over u m₀ stored y) → News h₀ env.locals h news → Q .next { s with heap := h, toks := tk }) :
    wpAny (model prog w) A (pyIter (.ref r)) (fun it s₂ => LoopAtV prog w A h₀ env x body Q E it s₂) E s := by
  refine iter_range_o stored (fun i m nx => nx = news ∧ J i m) hh hr hsm hn F N ⟨rfl, hj⟩ ?_ ?_
  · rintro i t u nw I oI h tk hv ⟨rfl, hJ⟩ hoff F₁ N₁
    exact turn i t u I oI h tk hv hJ hoff F₁ N₁
  · rintro u nw h tk ⟨rfl, hJ⟩ F₁ N₁
    exact done u h tk hJ F₁ N₁
end

/-- a turn's end: what the turn has made and dropped stands ahead (ext) -/
theorem TurnEnd.mk' {h₀ : Heap} {L I : Addr} {oI : Obj} {J : (Str → Option Value) → List (Addr × Obj) → Prop} {s₁ : Shared} {h' : Heap} {tk : Nat} {m' : Str → Option Value} (ext : List (Addr × Obj)) {nx : List (Addr × Obj)}
    (F : Fr h₀ L h' m') (N : News h₀ L h' (ext ++ (I, oI) :: nx)) (off : Off I nx) (hj : J m' nx) :
    TurnEnd h₀ L I oI J s₁ { s₁ with heap := h', toks := tk } := ⟨h', tk, m', nx, rfl, F, fun p hp => N p (List.mem_append_right _ hp), off, hj⟩

section
variable {prog : Program} {w : World} {A : Around} {E : Value → Shared → Prop} {s : Shared} {env : Env} {h₀ : Heap} {x : Str} {body : List Stmt} {Q : Flow → Shared → Prop}
theorem take_split {α : Type} {as : List α} {i : Nat} {a : α} (h : as[i]? = some a) : as = as.take i ++ a :: as.drop (i + 1) := by
  have hi : i < as.length := by
    rcases Nat.lt_or_ge i as.length with q | q
    · exact q
    · rw [List.getElem?_eq_none q] at h; cases h
  have : as[i] = a := by rw [List.getElem?_eq_getElem hi] at h; exact Option.some.inj h
  rw [← this, ← List.drop_eq_getElem_cons hi, List.take_append_drop]
theorem take_next {α : Type} {as : List α} {i : Nat} {a : α} (h : as[i]? = some a) : as.take (i + 1) = as.take i ++ [a] := by rw [List.take_add_one, h]; rfl

/-- a for over a list that stands for as: the word speaks of what has been taken -/
theorem iter_pd_o {α : Type} {F : α → Value → Prop} {as : List α} {its : Array Value} (hi : Pd F as its.toList) (stored : List Str) {l : Addr} {m₀ : Str → Option Value} {news : List (Addr × Obj)} (J : List α → (Str → Option Value) → List (Addr × Obj) → Prop)
    (hh : A.handled = none) (src : h₀.IsList l its ∨ ∃ ol k, ol.cls = .type "list" ∧ ol.data = .seq its k ∧ ∀ pre m nx, J pre m nx → (l, ol) ∈ nx)
    (Fr₀ : Fr h₀ env.locals s.heap m₀) (N : News h₀ env.locals s.heap news) (hj : J [] m₀ news)
    (turn : ∀ pre a post v u nw I oI h tk, as = pre ++ a :: post → F a v → J pre u nw → Off I nw → Fr h₀ env.locals h (fun y => if y = x then some v else over u m₀ stored y) → News h₀ env.locals h ((I, oI) :: nw) →
      wpAny (model prog w) A (execs body env) (TurnPost h₀ env.locals I oI (fun m' nx => Same x stored m₀ m' ∧ J (pre ++ [a]) m' nx) { s with heap := h, toks := tk } Q) E { s with heap := h, toks := tk })
    (done : ∀ u nw h tk, J as u nw → Fr h₀ env.locals h (fun y => if y = x then u x else over u m₀ stored y) → News h₀ env.locals h nw → Q .next { s with heap := h, toks := tk }) :
    wpAny (model prog w) A (pyIter (.ref l)) (fun it s₂ => LoopAtV prog w A h₀ env x body Q E it s₂) E s := by
  have hl := pd_len hi
  refine iter_list_o stored (its := its) (fun i m nx => J (as.take i) m nx) hh (src.imp id fun ⟨ol, k, a, b, c⟩ => ⟨ol, k, a, b, fun i m nx h => c _ m nx h⟩) Fr₀ N (by simpa using hj) ?_ ?_
  · intro i v u nw I oI h tk hv hJ hoff F₁ N₁
    obtain ⟨a, ha, hF⟩ := pd_at hi i v (by simpa using hv)
    rw [take_next ha]
    exact turn _ a _ v u nw I oI h tk (take_split ha) hF hJ hoff F₁ N₁
  · intro u nw h tk hJ F₁ N₁
    refine done u nw h tk ?_ F₁ N₁
    have e : as.take its.size = as := List.take_of_length_le (by rw [hl]; simp)
    rwa [e] at hJ
/-- the same, the ledger stays -/
theorem iter_pd_s {α : Type} {F : α → Value → Prop} {as : List α} {its : Array Value} (hi : Pd F as its.toList) (stored : List Str) {l : Addr} {m₀ : Str → Option Value} {news : List (Addr × Obj)} (J : List α → (Str → Option Value) → Prop)
    (hh : A.handled = none) (src : h₀.IsList l its ∨ ∃ ol k, ol.cls = .type "list" ∧ ol.data = .seq its k ∧ (l, ol) ∈ news)
    (Fr₀ : Fr h₀ env.locals s.heap m₀) (N : News h₀ env.locals s.heap news) (hj : J [] m₀)
    (turn : ∀ pre a post v u I oI h tk, as = pre ++ a :: post → F a v → J pre u → Off I news → Fr h₀ env.locals h (fun y => if y = x then some v else over u m₀ stored y) → News h₀ env.locals h ((I, oI) :: news) →
      wpAny (model prog w) A (execs body env) (TurnPost h₀ env.locals I oI (fun m' nx => Same x stored m₀ m' ∧ nx = news ∧ J (pre ++ [a]) m') { s with heap := h, toks := tk } Q) E { s with heap := h, toks := tk })
    (done : ∀ u h tk, J as u → Fr h₀ env.locals h (fun y => if y = x then u x else over u m₀ stored y) → News h₀ env.locals h news → Q .next { s with heap := h, toks := tk }) :
    wpAny (model prog w) A (pyIter (.ref l)) (fun it s₂ => LoopAtV prog w A h₀ env x body Q E it s₂) E s := by
  refine iter_pd_o hi stored (fun pre m nx => nx = news ∧ J pre m) hh (src.imp id fun ⟨ol, k, a, b, c⟩ => ⟨ol, k, a, b, fun _ _ nx h => h.1 ▸ c⟩) Fr₀ N ⟨rfl, hj⟩ ?_ ?_
  · rintro pre a post v u nw I oI h tk e hF ⟨rfl, hJ⟩ hoff F₁ N₁
    exact turn pre a post v u I oI h tk e hF hJ hoff F₁ N₁
  · rintro u nw h tk ⟨rfl, hJ⟩ F₁ N₁
    exact done u h tk hJ F₁ N₁
end

section
variable {prog : Program} {w : World} {A : Around} {E : Value → Shared → Prop} {s : Shared} {h₀ : Heap} {L D : Addr} {m : Str → Option Value} {news news' : List (Addr × Obj)} {n : Nat} {k : Int} {t : Tok}
theorem last_at (zs : List Value) (v : Value) : ((zs ++ [v]).toArray)[((-1 : Int) + ((zs ++ [v]).toArray.size : Nat)).toNat]? = some v := by
  have e : ((-1 : Int) + ((zs ++ [v]).toArray.size : Nat)).toNat = zs.length := by
    rw [List.size_toArray, List.length_append, List.length_singleton]; omega
  rw [e]; simp
theorem get_last {zs : List Value} {v : Value} {Q : Value → Shared → Prop} (N : News h₀ L s.heap news) (hm : (D, listOf (zs ++ [v]).toArray n) ∈ news) (h : Q v s) :
    wpAny (model prog w) A (getItem (.ref D) (.int (-1) t)) Q E s :=
  wpAny_getItem_list_neg (PySem.IsL.isList (n := n) (N _ hm).1) (by decide) (by rw [List.size_toArray, List.length_append, List.length_singleton]; omega) (by decide) (last_at zs v) h
theorem tail_last {value slice : PySem.Expr} {zs : List Value} {v : Value} {Q : Value → Shared → Prop} (N : News h₀ L s.heap news) (hm : (D, listOf (zs ++ [v]).toArray n) ∈ news) (h : Q v s)
    (hs : subscripted slice false (.ref D) (.int (-1) t) = operate [.ref D, .int (-1) t] (getItem (.ref D) (.int (-1) t)) := by with_unfolding_all rfl) :
    wpAny (model prog w) A (subscriptTail value slice (.ref D) (.int (-1) t)) Q E s :=
  tail_any (PySem.IsL.isList (n := n) (N _ hm).1).typeIs slot_list_getitem.lookup (get_last N hm h) hs
theorem set_last {zs : List Value} {v v' : Value} {Q : Unit → Shared → Prop} (F : Fr h₀ L s.heap m) (N : News h₀ L s.heap news) (U : Upd D (listOf (zs ++ [v]).toArray n) (listOf (zs ++ [v']).toArray n) news news')
    (h : ∀ h', Fr h₀ L h' m → News h₀ L h' news' → Q () { s with heap := h' }) :
    wpAny (model prog w) A (setItem (.ref D) (.int (-1) t) v') Q E s := by
  obtain ⟨pre, post, rfl, rfl, a, b⟩ := U.split
  have z := N (D, listOf (zs ++ [v]).toArray n) (List.mem_append.mpr (.inr (.head _)))
  refine ki_setBack z.1 (by decide) (by rw [List.size_toArray, List.length_append, List.length_singleton]; omega) (by decide) (h _ (F.change (Heap.SameBut.update ..) z.2.1 z.2.2) (ki_turn _ N a b ?_ ?_))
  · have e : ((-1 : Int) + ((zs ++ [v]).toArray.size : Nat)).toNat = zs.length := by
      rw [List.size_toArray, List.length_append, List.length_singleton]; omega
    show (zs ++ [v]).toArray.setIfInBounds _ v' = (zs ++ [v']).toArray
    rw [e]
    apply Array.toList_inj.mp
    simp
  · simp
theorem get_at {its : Array Value} {v : Value} {Q : Value → Shared → Prop} (hl : s.heap.IsList D its) (h0 : 0 ≤ k) (hfit : k < 2 ^ 63) (hx : its[k.toNat]? = some v) (h : Q v s) :
    wpAny (model prog w) A (getItem (.ref D) (.int k t)) Q E s := wpAny_getItem_list hl h0 hfit hx h
theorem tail_at {value slice : PySem.Expr} {its : Array Value} {v : Value} {Q : Value → Shared → Prop} (hl : s.heap.IsList D its) (h0 : 0 ≤ k) (hfit : k < 2 ^ 63) (hx : its[k.toNat]? = some v) (h : Q v s)
    (hs : subscripted slice false (.ref D) (.int k t) = operate [.ref D, .int k t] (getItem (.ref D) (.int k t)) := by with_unfolding_all rfl) :
    wpAny (model prog w) A (subscriptTail value slice (.ref D) (.int k t)) Q E s :=
  tail_any hl.typeIs slot_list_getitem.lookup (get_at hl h0 hfit hx h) hs
end

section
variable {prog : Program} {w : World} {A : Around} {E : Value → Shared → Prop} {s : Shared} {h₀ : Heap} {L D : Addr} {m : Str → Option Value} {news news' : List (Addr × Obj)} {n : Nat}
theorem append_l {zs : List Value} {x : Value} {Q : Value → Shared → Prop} (F : Fr h₀ L s.heap m) (N : News h₀ L s.heap news) (U : Upd D (listOf zs.toArray n) (listOf (zs ++ [x]).toArray (n + 1)) news news')
    (h : ∀ h', Fr h₀ L h' m → News h₀ L h' news' → Q .none { s with heap := h' }) (hsz : zs.length ≤ sizeLine) : wpAny (model prog w) A (call (.builtin "list.append") [.ref D, x]) Q E s :=
  append_K F N (by rw [List.push_toArray]; exact U) h (by rw [List.size_toArray]; exact hsz)
end

section
variable {prog : Program} {w : World} {A : Around} {E : Value → Shared → Prop} {s : Shared} {h₀ : Heap} {L D a b l : Addr} {m : Str → Option Value} {news news' : List (Addr × Obj)} {n k : Nat} {xs zs : List Value} {Q : Value → Shared → Prop}
theorem is_l (N : News h₀ L s.heap news) (ha : (a, listOf xs.toArray n) ∈ news) : s.heap.IsList a xs.toArray := PySem.IsL.isList (n := n) (N _ ha).1
theorem len_l (N : News h₀ L s.heap news) (ha : (a, listOf xs.toArray n) ∈ news) (hz : xs.length ≤ sizeLine) (h : Q (.int xs.length (s.toks + 1)) { s with toks := s.toks + 1 + 1 }) :
    wpAny (model prog w) A (call (.builtin "len") [.ref a]) Q E s := by
  have e : xs.toArray.size = xs.length := List.size_toArray ..
  refine len_list (is_l N ha) ?_ (by rw [e]; exact h)
  rw [e]; rw [sizeLine_eq] at hz; omega
theorem add_l (F : Fr h₀ L s.heap m) (N : News h₀ L s.heap news) (ha : (a, listOf xs.toArray n) ∈ news) (hb : (b, listOf zs.toArray k) ∈ news) (hz : xs.length + zs.length ≤ sizeLine)
    (h : ∀ D h', Fr h₀ L h' m → News h₀ L h' ((D, listOf (xs ++ zs).toArray 0) :: news) → (∀ p ∈ news, p.1 < D) → Q (.ref D) { s with heap := h' }) : wpAny (model prog w) A (binaryOp .Add (.ref a) (.ref b)) Q E s :=
  kmk_add_lit F N (is_l N ha) (is_l N hb) rfl h hz
theorem copy_l (F : Fr h₀ L s.heap m) (N : News h₀ L s.heap news) (hb : (b, listOf xs.toArray n) ∈ news) (hz : xs.length ≤ sizeLine)
    (h : ∀ D c h', Fr h₀ L h' m → News h₀ L h' ((D, listOf xs.toArray c) :: news) → (∀ q ∈ news, q.1 < D) → Q (.ref D) { s with heap := h' }) : wpAny (model prog w) A (call (.type "list") [.ref b]) Q E s :=
  kup_listOf F N hb rfl h hz
theorem slice_l {value slice : PySem.Expr} {vl vu : Value} {lo hi : Option Int} (F : Fr h₀ L s.heap m) (N : News h₀ L s.heap news) (hl : (l, listOf xs.toArray n) ∈ news) (pl : IsPart vl lo) (pu : IsPart vu hi)
    (h : ∀ D h', Fr h₀ L h' m → News h₀ L h' ((D, listOf (kms_pick xs lo hi).toArray 0) :: news) → (∀ p ∈ news, p.1 < D) → Q (.ref D) { s with heap := h' })
    (hs : subscripted slice false (.ref l) (.ref s.heap.objs.size) = operate [.ref s.heap.objs.size, .ref l] (getItem (.ref l) (.ref s.heap.objs.size))) (ht : ∀ r, letTemporaryGo value (.ref l) r = pure ()) (hz : xs.length ≤ sizeLine) :
    wpAny (model prog w) A (subscriptTail value slice (.ref l) (.ref s.heap.objs.size)) Q E { s with heap := s.heap.push { cls := .type "slice", data := .fields #[vl, vu, .none] } } :=
  kms_slice_lit F N (is_l N hl) pl pu rfl h hs ht (by rw [List.size_toArray]; exact hz)
theorem pick_to (xs : List Value) (j : Nat) : kms_pick xs none (some (j : Int)) = xs.take j := by
  unfold kms_pick kms_lo kms_hi
  have : ¬ ((j : Int) < 0) := by omega
  simp only [this, if_false, List.drop_zero, Int.toNat_natCast, Nat.sub_zero]
  rcases Nat.le_total j xs.length with q | q
  · rw [Nat.min_eq_left q]
  · rw [Nat.min_eq_right q, List.take_of_length_le (Nat.le_refl _), List.take_of_length_le q]
theorem pick_from (xs : List Value) (j : Nat) : kms_pick xs (some (j : Int)) none = xs.drop j := by
  unfold kms_pick kms_lo kms_hi
  have : ¬ ((j : Int) < 0) := by omega
  simp only [this, if_false, Int.toNat_natCast]
  rcases Nat.le_total j xs.length with q | q
  · rw [Nat.min_eq_left q, List.take_of_length_le (by simp)]
  · rw [Nat.min_eq_right q, List.drop_eq_nil_of_le (Nat.le_refl _), List.drop_eq_nil_of_le q]; simp
end

section
variable {prog : Program} {w : World} {A : Around} {E : Value → Shared → Prop} {s : Shared} {env : Env} {h₀ : Heap} {x : Str} {body : List Stmt} {Q : Flow → Shared → Prop}
/-- for i in range(a, b): the turns' numbers -/
theorem iter_count_o (stored : List Str) {r : Addr} {a b : Int} {t u v : Tok} (n : Nat) {m₀ : Str → Option Value} {news : List (Addr × Obj)} (J : Nat → (Str → Option Value) → List (Addr × Obj) → Prop)
    (hh : A.handled = none) (hr : IsRange s.heap r a b 1 t u v) (hn : (b - a).toNat = n) (ha : -1000000 ≤ a ∧ a ≤ 1000000) (hb : -1000000 ≤ b ∧ b ≤ 1000000)
    (F : Fr h₀ env.locals s.heap m₀) (N : News h₀ env.locals s.heap news) (hj : J 0 m₀ news)
    (turn : ∀ (i : Nat) (t : Tok) u nw I oI h tk, i < n → J i u nw → Off I nw → Fr h₀ env.locals h (fun y => if y = x then some (.int (a + (i : Int)) t) else over u m₀ stored y) → News h₀ env.locals h ((I, oI) :: nw) →
      wpAny (model prog w) A (execs body env) (TurnPost h₀ env.locals I oI (fun m' nx => Same x stored m₀ m' ∧ J (i + 1) m' nx) { s with heap := h, toks := tk } Q) E { s with heap := h, toks := tk })
    (done : ∀ u nw h tk, J n u nw → Fr h₀ env.locals h (fun y => if y = x then u x else over u m₀ stored y) → News h₀ env.locals h nw → Q .next { s with heap := h, toks := tk }) :
    wpAny (model prog w) A (pyIter (.ref r)) (fun it s₂ => LoopAtV prog w A h₀ env x body Q E it s₂) E s := by
  refine iter_range_o stored (n := n) J hh hr (small_one (by omega) (by omega) (by omega) (by omega)) (by rw [rangeSize_nat, hn]) F N hj (fun i t u nw I oI h tk hi hJ ho F₁ N₁ => ?_) done
  rw [Int.mul_one] at F₁
  exact turn i t u nw I oI h tk hi hJ ho F₁ N₁
theorem iter_count_s (stored : List Str) {r : Addr} {a b : Int} {t u v : Tok} (n : Nat) {m₀ : Str → Option Value} {news : List (Addr × Obj)} (J : Nat → (Str → Option Value) → Prop)
    (hh : A.handled = none) (hr : IsRange s.heap r a b 1 t u v) (hn : (b - a).toNat = n) (ha : -1000000 ≤ a ∧ a ≤ 1000000) (hb : -1000000 ≤ b ∧ b ≤ 1000000)
    (F : Fr h₀ env.locals s.heap m₀) (N : News h₀ env.locals s.heap news) (hj : J 0 m₀)
    (turn : ∀ (i : Nat) (t : Tok) u I oI h tk, i < n → J i u → Off I news → Fr h₀ env.locals h (fun y => if y = x then some (.int (a + (i : Int)) t) else over u m₀ stored y) → News h₀ env.locals h ((I, oI) :: news) →
      wpAny (model prog w) A (execs body env) (TurnPost h₀ env.locals I oI (fun m' nx => Same x stored m₀ m' ∧ nx = news ∧ J (i + 1) m') { s with heap := h, toks := tk } Q) E { s with heap := h, toks := tk })
    (done : ∀ u h tk, J n u → Fr h₀ env.locals h (fun y => if y = x then u x else over u m₀ stored y) → News h₀ env.locals h news → Q .next { s with heap := h, toks := tk }) :
    wpAny (model prog w) A (pyIter (.ref r)) (fun it s₂ => LoopAtV prog w A h₀ env x body Q E it s₂) E s := by
  refine iter_count_o stored n (fun i m nx => nx = news ∧ J i m) hh hr hn ha hb F N ⟨rfl, hj⟩ ?_ ?_
  · rintro i t u nw I oI h tk hv ⟨rfl, hJ⟩ hoff F₁ N₁
    exact turn i t u I oI h tk hv hJ hoff F₁ N₁
  · rintro u nw h tk ⟨rfl, hJ⟩ F₁ N₁
    exact done u h tk hJ F₁ N₁
end

section
open LCg
variable {prog : Program} {w : World} {A : Around} {E : Value → Shared → Prop} {s : Shared} {h₀ : Heap} {L : Addr} {m : Str → Option Value} {env : Env}
theorem pyIter_str {x : Str} {t : Tok} {Q : Value → Shared → Prop}
    (hQ : ∀ (o : Obj) (St : Nat → Heap → Prop), (∀ A' : Around, A'.handled = none → Walks prog w A' s.heap.objs.size [s.heap.objs.size] [s.heap.objs.size] x.cps.size (SignAt x) St) → St 0 (s.heap.push o) → o.isFreed = false → (∀ i h, St i h → ∃ o, h.get? s.heap.objs.size = some o) →
      Q (.ref s.heap.objs.size) { s with heap := s.heap.push o }) : wpAny (model prog w) A (pyIter (.str x t)) Q E s := by
  cases ha : x.cps.all (· < 128)
  · exact wpAny_pyIter_wide ha (hQ _ _ (fun A' hA => Walks.strWide hA _ x t) ⟨_, Heap.get?_push_size _ rfl, rfl, rfl⟩ rfl fun i h ⟨o, e, _⟩ => ⟨o, e⟩)
  · exact wpAny_pyIter_ascii ha (hQ _ _ (fun A' hA => Walks.strAscii hA _ x t) ⟨_, Heap.get?_push_size _ rfl, rfl, rfl⟩ rfl fun i h ⟨o, e, _⟩ => ⟨o, e⟩)

def SrcS (prog : Program) (w : World) (A : Around) (h₀ : Heap) (L : Addr) (m : Str → Option Value) (env : Env) (elt : Expr) (x : Str) (scope : Scope) (cl : List (Str × Addr)) (Fin : Shared → List Value → List (Addr × Obj) → Prop) (xv : Value) (s₁ : Shared) : Prop :=
  ∃ y t news, xv = .str y t ∧ A.handled = none ∧ Fr h₀ L s₁.heap m ∧ News h₀ L s₁.heap news ∧ y.length ≤ sizeLine ∧
    ∀ s₂ : Shared, (∃ h, s₂ = { s₁ with heap := h }) → CompRest prog w A h₀ L m env elt x scope cl s₂ (fun _ => True) (SignAt y) (Fin s₂) y.cps.size 0 [] news
theorem SrcS.intro {elt : Expr} {x : Str} {scope : Scope} {cl : List (Str × Addr)} {Fin : Shared → List Value → List (Addr × Obj) → Prop} {y : Str} {t : Tok} {news : List (Addr × Obj)} {s₁ : Shared}
    (hh : A.handled = none) (F : Fr h₀ L s₁.heap m) (N : News h₀ L s₁.heap news) (hz : y.length ≤ sizeLine)
    (h : ∀ g, CompRest prog w A h₀ L m env elt x scope cl { s₁ with heap := g } (fun _ => True) (SignAt y) (Fin { s₁ with heap := g }) y.cps.size 0 [] news) : SrcS prog w A h₀ L m env elt x scope cl Fin (.str y t) s₁ :=
  ⟨y, t, news, rfl, hh, F, N, hz, fun _ ⟨g, e⟩ => e ▸ h g⟩

/-- a comprehension without a test over a text's signs -/
theorem ListComp_S {elt iter : Expr} {x : Str} {px : Pos} {scope : Scope} {cl : List (Str × Addr)} {pos : Pos} {Q : Value → Shared → Prop} (_F₀ : Fr h₀ L s.heap m)
    (hclos : closureFor scope env = pure cl) (hcell : ∀ y ∈ scope.names, y.2 ≠ .cell) (hkind : scope.kind = .function)
    (hnames : ∀ y ∈ scope.names, y.2 = .local → scope.names.lookup y.1 = some .local) (hx : scope.names.lookup x = some .local)
    (h : wpAny (model prog w) A (eval iter env) (SrcS prog w A h₀ L m env elt x scope cl (fun s₂ => FinE h₀ L m s₂ Q)) E s)
    (hs : ∀ x, foldedSetIterable iter env x = pure x := by intro _; rfl) :
    wpAny (model prog w) A (eval (.ListComp elt [⟨.Name x px, iter, [], 0⟩] scope pos) env) Q E s := by
  rw [eval_ListComp]
  refine wpAny_comprehension_free (use := none) rfl hs hclos hkind hnames (wpAny_mono h (fun xv s₁ h₁ => ?_) fun _ _ e => e)
  obtain ⟨y, t, news, rfl, hh, F, N, hz, R⟩ := h₁
  refine pyIter_str fun o St hW hst hfr hIo => ?_
  have W := hW A hh
  have up : ∀ b o', s₁.heap.get? b = some o' → (s₁.heap.push o).get? b = some o' := fun b o' e => Heap.get?_push_of_some _ e
  refine block_U (h₀ := h₀) (L := L) (m := m) W (by show y.cps.size ≤ sizeLine; exact hz) hIo (fun i h h' o' nw st e e' _ _ _ => W.frame _ _ _ st fun b hb o₂ q => ?_) hcell hkind hx hst (fun b hb => ?_)
    (F.keeps up) (N.grown up) (Nat.ne_of_lt F.ns.lt) (next_is_new F) (fun p hp => Nat.ne_of_lt (Heap.lt_size (N p hp).1)) trivial (R _ ⟨_, rfl⟩) ?_
  · rw [List.mem_singleton.mp hb] at q ⊢
    rw [e] at q; cases q; exact e'
  · rw [List.mem_singleton.mp hb]
    show s₁.heap.objs.size < (s₁.heap.push _).objs.size
    rw [Heap.size_push]; exact Nat.lt_succ_self _
  · intro D C h tk m' ys news' F' N' o1 hn hC₀ hD₀ hCL hDL hCD offC fin
    refine ⟨m', hn, fun h'' hs'' => fin D h'' tk (F'.change hs'' hCL hC₀) (fun p hp => ?_) o1⟩
    refine ⟨hs''.extBut _ _ ?_ (N' p hp).1, (N' p hp).2⟩
    rcases List.mem_cons.mp hp with rfl | hp
    · exact Ne.symm hCD
    · exact offC p hp
end
def CharV (c : Nat) (v : Value) : Prop := ∃ t, v = .str ⟨#[c]⟩ t
section
open LCg
variable {prog : Program} {w : World} {A : Around} {h₀ : Heap} {L : Addr} {m : Str → Option Value} {env : Env} {elt : Expr} {x : Str} {scope : Scope} {cl : List (Str × Addr)} {s : Shared} {S : List (Addr × Obj) → Prop} {Fin : List Value → List (Addr × Obj) → Prop} {news : List (Addr × Obj)}
/-- over a text's signs, item by item, the ledger as it was -/
theorem comp_signs {β : Type} (G : β → Value → Prop) (f : Nat → β) {y : Str}
    (turn : ∀ c t I oI C oC D ys m₂ h tk (E' : Value → Shared → Prop), c ∈ y.cps.toList → ys.length ≤ y.cps.size → NsObj oC m₂ → m₂ x = some (.str ⟨#[c]⟩ t) → Fr h₀ L h m → News h₀ L h ((I, oI) :: (C, oC) :: (D, lst ys) :: news) → Off3 I C D news → ((@Ne Nat I C) ∧ (@Ne Nat I D) ∧ (@Ne Nat C D)) →
      wpAny (model prog w) A (eval elt (compEnvC scope cl C env)) (CompEnd h₀ L m { s with heap := h, toks := tk } I oI C oC D (lst ys) S (fun v nw' => nw' = news ∧ G (f c) v)) E' { s with heap := h, toks := tk })
    (fin : ∀ ys, Pd G (y.cps.toList.map f) ys → Fin ys news) : CompRest prog w A h₀ L m env elt x scope cl s S (SignAt y) Fin y.cps.size 0 [] news := by
  refine comp_inv (fun i ys nw => nw = news ∧ Pd G ((y.cps.toList.take i).map f) ys) ⟨rfl, by simp; exact .nil⟩ ?_ ?_
  · intro i v ys nw I oI C oC D m₂ h tk E' hin hP hJ hC hx F' N' off ne
    obtain ⟨rfl, hy⟩ := hJ
    obtain ⟨c, u, hc, rfl⟩ := hP
    have hc' : y.cps.toList[i]? = some c := by simpa using hc
    have hyl := pd_len hy
    refine wpAny_mono (turn c u I oI C oC D ys m₂ h tk E' (List.mem_of_getElem? hc') (by rw [← hyl]; simp; omega) hC hx F' N' off ne) (fun v s₂ hq => ?_) fun _ _ e => e
    obtain ⟨h', tk', nw', e', F₂, N₂, off', hS, hn, hg⟩ := hq
    refine ⟨h', tk', nw', e', F₂, N₂, off', hS, hn, ?_⟩
    rw [take_next hc', List.map_append]
    exact PySem.Paired.snoc hy hg
  · rintro ys nw ⟨rfl, hy⟩
    refine fin ys ?_
    have : y.cps.toList.take y.cps.size = y.cps.toList := by rw [List.take_of_length_le]; simp
    rwa [this] at hy
end

theorem cend {h₀ : Heap} {L I C D : Addr} {m : Str → Option Value} {s₁ : Shared} {oI oC oD : Obj} {S : List (Addr × Obj) → Prop} {rest : Value → List (Addr × Obj) → Prop} {y : Value} {h' : Heap} {tk : Nat} (ext : List (Addr × Obj)) {news' : List (Addr × Obj)}
    (F : Fr h₀ L h' m) (N : News h₀ L h' (ext ++ (I, oI) :: (C, oC) :: (D, oD) :: news')) (off : LCg.Off3 I C D news') (hS : S news') (r : rest y news') :
    LCg.CompEnd h₀ L m s₁ I oI C oC D oD S rest y { s₁ with heap := h', toks := tk } := ⟨h', tk, news', rfl, F, fun p hp => N p (List.mem_append_right _ hp), off, hS, r⟩

section
variable {prog : Program} {w : World} {A A₀ : Around} {s : Shared} {K : Frag} {L : Addr} {h₀ base : Heap} {m mg mb : Str → Option Value} {p : Program} {loose : List Str} {mean : ExcName → Option Value}
theorem code_baseC {env : Env} {outer : List Env} {R : Result → Shared → Prop} {name qual : Str} {params : Arguments} {body : List Stmt} {scope : Scope} {dV kV doc pm cdv ct oc : Value} {an od : Option Addr} {osl : Array (Option Value)} {f : Addr} {args : Args} {binds : List (Str × Value)}
    (B : Below A₀ base outer h₀) (F : Fr h₀ L s.heap m) (X₀ : K.In h₀) (T : Top p loose mean mg mb h₀) (hA : A.frames = some (env :: outer)) (hf : env.frame = some L) (hke : env.scope.kind = .function)
    (ho : K.lookup f = some ⟨oc, od, .func (fnOf name qual params body scope dV kV doc pm an cdv ct), osl⟩) (hcd : codeIn K cdv qual = true) (hroom : A.depth < recursionLimit)
    (hbind : BindsTo s (fnOf name qual params body scope dV kV doc pm an cdv ct) args binds) (hkind : (binds.all fun y => scope.names.lookup y.1 == some .local || scope.names.lookup y.1 == some .cell) = true)
    (hnd : ((cellsFrom 0 scope.names []).map (·.1)).Nodup)
    (h : ∀ L' h₁ tk cells, Fr s.heap L' h₁ (bindL (envOfC qual scope L' f cdv).kindOf binds fun _ => none) → News s.heap L' h₁ cells →
      CellsAre (bindC (envOfC qual scope L' f cdv).kindOf binds fun _ => none) (cellsFrom (L' + 1) scope.names []) cells → Below A base (env :: outer) s.heap → K.In s.heap → Top p loose mean mg mb s.heap →
      wpAny (model prog w) (A.deeper (envOfC qual scope L' f cdv)) (execs body (envOfC qual scope L' f cdv))
        (fun fl s' => LeaveB s.heap R (match fl with | .ret v => v | _ => .none) s')
        (fun e s' => wpAny (model prog w) (A.deeper (envOfC qual scope L' f cdv)) (leaving (envOfC qual scope L' f cdv) e) (fun _ s'' => R (.error e) s'') (fun e' s'' => R (.error e') s'') s')
        { s with heap := h₁, toks := tk })
    (hco : scope.isCoroutine = false := by rfl) (hgen : scope.isGenerator = false := by rfl) (hk : scope.kind = .function := by rfl) : codeAny (model prog w) A (.call (.ref f) args) R s := by
  obtain ⟨FG, BG, st, lv⟩ := groundX (R := R) B F (News.nil (h₀ := h₀) (L := L) (h := s.heap)) hA hf hke
  refine codeAny_call_function hroom ((X₀.keeps F.keep) _ _ ho) rfl hco hgen rfl (codeRec_of (X₀.keeps F.keep) hcd) (hbind _ _ _ _ ?_)
  refine wpAny_newFunctionEnv_cells hk (kindsX hkind _) fun env' he s' x => ?_
  subst he
  refine ⟨(T.nolimit.keeps F.keep).keeps x.toInCall.keep, codeAny_func ?_⟩
  obtain ⟨h₁, tk, rfl, _⟩ := x.done
  have hk₁ := x.toInCall.keep
  obtain ⟨cells, NC, Y⟩ := Cl.news (h₀ := s.heap) (Nat.le_refl _) fun n c hm => ⟨x.cell n c (lookup_of_mem_nodup (cellsFrom_names scope.names 0 (s.heap.objs.size + 1) [] [] rfl ▸ hnd) hm), x.above n c hm⟩
  exact wpAny_mono (h s.heap.objs.size h₁ tk cells ⟨x.toInCall.ns, hk₁, Nat.le_refl _⟩ NC Y BG (X₀.keeps F.keep) (T.keeps F.keep)) (fun fl s' ⟨_, _, _, hr⟩ => hr) fun _ _ y => y
end

section
open LCg
variable {prog : Program} {w : World} {A : Around} {h₀ : Heap} {L : Addr} {m : Str → Option Value} {env : Env} {ct elt : Expr} {x : Str} {scope : Scope} {cl : List (Str × Addr)} {s : Shared} {S : List (Addr × Obj) → Prop} {Fin : List Value → List (Addr × Obj) → Prop} {news : List (Addr × Obj)}
theorem range_next (n : Nat) : List.range (n + 1) = List.range n ++ [n] := List.range_succ
/-- over a range, with a test, the ledger as it was -/
theorem compT_count {β : Type} (G : β → Value → Prop) (p : Nat → Bool) (f : Nat → β) {n : Nat} {a : Int}
    (turn : ∀ (i : Nat) (t : Tok) I oI C oC D ys m₂ h tk (E' : Value → Shared → Prop), i < n → ys.length ≤ n → NsObj oC m₂ → m₂ x = some (.int (a + (i : Int)) t) → Fr h₀ L h m → News h₀ L h ((I, oI) :: (C, oC) :: (D, lst ys) :: news) → Off3 I C D news → ((@Ne Nat I C) ∧ (@Ne Nat I D) ∧ (@Ne Nat C D)) →
      wpAny (model prog w) A (isTrue ct (compEnvC scope cl C env) (eval ct (compEnvC scope cl C env))) (fun ok s' => if ok = true then
        wpAny (model prog w) A (eval elt (compEnvC scope cl C env)) (CompEnd h₀ L m { s with heap := h, toks := tk } I oI C oC D (lst ys) S (fun y nw' => nw' = news ∧ p i = true ∧ G (f i) y)) E' s'
        else CompEnd h₀ L m { s with heap := h, toks := tk } I oI C oC D (lst ys) S (fun _ nw' => nw' = news ∧ p i = false) Value.none s') E' { s with heap := h, toks := tk })
    (fin : ∀ ys, Pd G (((List.range n).filter p).map f) ys → Fin ys news) : LCt.CompRestT prog w A h₀ L m env ct elt x scope cl s S (fun i v => ∃ t, v = .int (a + (i : Int)) t) Fin n 0 [] news := by
  refine compT_inv (fun i ys nw => nw = news ∧ Pd G (((List.range i).filter p).map f) ys) ⟨rfl, .nil⟩ ?_ ?_
  · intro i v ys nw I oI C oC D m₂ h tk E' hin hP hJ hC hx F' N' off ne
    obtain ⟨rfl, hy⟩ := hJ
    obtain ⟨t, rfl⟩ := hP
    have hyl := pd_len hy
    have hle : ys.length ≤ n := by
      rw [← hyl, List.length_map]
      exact Nat.le_trans (List.length_filter_le _ _) (by rw [List.length_range]; omega)
    refine wpAny_mono (turn i t I oI C oC D ys m₂ h tk E' hin hle hC hx F' N' off ne) (fun ok s₂ hq => ?_) fun _ _ e => e
    cases ok with
    | true =>
      simp only [if_true] at hq ⊢
      refine wpAny_mono hq (fun y s₃ hr => ?_) fun _ _ e => e
      obtain ⟨h', tk', nw', e', F₂, N₂, off', hS, hn, hp, hg⟩ := hr
      refine ⟨h', tk', nw', e', F₂, N₂, off', hS, hn, ?_⟩
      rw [range_next, List.filter_append, List.map_append, List.filter_cons_of_pos hp, List.filter_nil]
      exact PySem.Paired.snoc hy hg
    | false =>
      simp only [Bool.false_eq_true, if_false] at hq ⊢
      obtain ⟨h', tk', nw', e', F₂, N₂, off', hS, hn, hp⟩ := hq
      refine ⟨h', tk', nw', e', F₂, N₂, off', hS, hn, ?_⟩
      rw [range_next, List.filter_append, List.map_append, List.filter_cons_of_neg (by rw [hp]; decide), List.filter_nil]
      simpa using hy
  · rintro ys nw ⟨rfl, hy⟩
    exact fin ys hy
/-- over a range, no test -/
theorem comp_count {β : Type} (G : β → Value → Prop) (f : Nat → β) {n : Nat} {a : Int}
    (turn : ∀ (i : Nat) (t : Tok) I oI C oC D ys m₂ h tk (E' : Value → Shared → Prop), i < n → ys.length ≤ n → NsObj oC m₂ → m₂ x = some (.int (a + (i : Int)) t) → Fr h₀ L h m → News h₀ L h ((I, oI) :: (C, oC) :: (D, lst ys) :: news) → Off3 I C D news → ((@Ne Nat I C) ∧ (@Ne Nat I D) ∧ (@Ne Nat C D)) →
      wpAny (model prog w) A (eval elt (compEnvC scope cl C env)) (CompEnd h₀ L m { s with heap := h, toks := tk } I oI C oC D (lst ys) S (fun y nw' => nw' = news ∧ G (f i) y)) E' { s with heap := h, toks := tk })
    (fin : ∀ ys, Pd G ((List.range n).map f) ys → Fin ys news) : CompRest prog w A h₀ L m env elt x scope cl s S (fun i v => ∃ t, v = .int (a + (i : Int)) t) Fin n 0 [] news := by
  refine comp_inv (fun i ys nw => nw = news ∧ Pd G ((List.range i).map f) ys) ⟨rfl, .nil⟩ ?_ ?_
  · intro i v ys nw I oI C oC D m₂ h tk E' hin hP hJ hC hx F' N' off ne
    obtain ⟨rfl, hy⟩ := hJ
    obtain ⟨t, rfl⟩ := hP
    have hyl := pd_len hy
    refine wpAny_mono (turn i t I oI C oC D ys m₂ h tk E' hin (by rw [← hyl, List.length_map, List.length_range]; omega) hC hx F' N' off ne) (fun y s₂ hq => ?_) fun _ _ e => e
    obtain ⟨h', tk', nw', e', F₂, N₂, off', hS, hn, hg⟩ := hq
    refine ⟨h', tk', nw', e', F₂, N₂, off', hS, hn, ?_⟩
    rw [range_next, List.map_append]
    exact PySem.Paired.snoc hy hg
  · rintro ys nw ⟨rfl, hy⟩
    exact fin ys hy
end
section
variable {prog : Program} {w : World} {A : Around} {E : Value → Shared → Prop} {s : Shared} {g : Heap} {L D : Addr} {m : Str → Option Value} {its : Array Value} {k : Int} {j : Nat} {t : Tok} {v : Value} {Q : Value → Shared → Prop}
theorem at_up (hl : g.IsList D its) (F : Fr g L s.heap m) : s.heap.IsList D its := hl.at fun o e => F.keep _ _ e
theorem tail_nat {value slice : PySem.Expr} (hl : g.IsList D its) (F : Fr g L s.heap m) (hx : its[j]? = some v) (hk : k = (j : Int)) (hj : (j : Int) < 1000000) (h : Q v s)
    (hs : subscripted slice false (.ref D) (.int k t) = operate [.ref D, .int k t] (getItem (.ref D) (.int k t)) := by with_unfolding_all rfl) :
    wpAny (model prog w) A (subscriptTail value slice (.ref D) (.int k t)) Q E s :=
  tail_at (at_up hl F) (by omega) (by omega) (by rw [hk, Int.toNat_natCast]; exact hx) h hs
theorem len_b (hl : g.IsList D its) (F : Fr g L s.heap m) (hz : its.size ≤ sizeLine) (h : Q (.int its.size (s.toks + 1)) { s with toks := s.toks + 1 + 1 }) :
    wpAny (model prog w) A (call (.builtin "len") [.ref D]) Q E s :=
  len_list (at_up hl F) (by rw [sizeLine_eq] at hz; omega) h
end

/-! a for with any target (a local, a captured name, a tuple) -/
section
variable {prog : Program} {w : World} {A : Around} {s : Shared} {env : Env} {h₀ : Heap} {L : Addr}

theorem codeAny_forT {R : Result → Shared → Prop} {target : Expr} {body : List Stmt} {I : Addr} {fp wr : List Addr} {n : Nat} {P : Nat → Value → Prop} {St : Nat → Heap → Prop} {m : Str → Option Value}
    {news : List (Addr × Obj)} (W : Walks prog w A I fp wr n P St) (hLf : L ∉ fp) (hwr : ∀ b ∈ wr, h₀.get? b = none) (hnw : ∀ p ∈ news, p.1 ∉ wr)
    (hst : St 0 s.heap) (F : Fr h₀ L s.heap m) (N : News h₀ L s.heap news)
    (J : Nat → (Str → Option Value) → List (Addr × Obj) → Prop) (h0 : J 0 m news)
    (step : ∀ i v m₁ news₁ s₁ own, (∃ h tk, s₁ = { s with heap := h, toks := tk }) → i < n → P i v → J i m₁ news₁ → (∀ p ∈ news₁, p.1 ∉ wr) → (∀ p ∈ own, p.1 ∈ fp) → (∀ p ∈ own, s₁.heap.get? p.1 = some p.2) → (∀ b ∈ fp, h₀.get? b = none → ∀ o, s₁.heap.get? b = some o → (b, o) ∈ own) → St (i + 1) s₁.heap →
      Fr h₀ L s₁.heap m₁ → News h₀ L s₁.heap (own ++ news₁) →
      wpAny (model prog w) A (assign target env v) (fun _ s₂ => wpAny (model prog w) A (execs body env) (LoopStepV h₀ L wr own (J (i + 1)) s₁ (fun v s' => R (.ok (.ret v)) s') fun s' => R (.ok .next) s') (notedBy (model prog w) A env fun e s' => R (.error e) s') s₂) (notedBy (model prog w) A env fun e s' => R (.error e) s') s₁)
    (hR : ∀ h' tk m' news', Fr h₀ L h' m' → News h₀ L h' news' → (∀ p ∈ news', p.1 ∉ wr) → J n m' news' → R (.ok .next) { s with heap := h', toks := tk })
    (ht : ∀ v, letOwnedTupleGo target (.ref I) v = pure ()) :
    codeAny (model prog w) A (.forLoop target (.ref I) body [] env) R s := by
  have hLw : L ∉ wr := fun h => hLf (W.sub _ h)
  have old : ∀ b o, h₀.get? b = some o → b ∉ wr := fun b o e hb => by rw [hwr b hb] at e; cases e
  refine codeAny_forLoop
    (fun k s' => ∃ h' tk m' news' i, s' = { s with heap := h', toks := tk } ∧ St i h' ∧ Fr h₀ L h' m' ∧ News h₀ L h' news' ∧ (∀ p ∈ news', p.1 ∉ wr) ∧ J i m' news' ∧ i ≤ n ∧ k = n + 1 - i) ?_ (n + 1)
    ⟨s.heap, s.toks, m, news, 0, rfl, hst, F, N, hnw, h0, Nat.zero_le _, rfl⟩ ht
  rintro k s' ⟨h', tk, m', news', i, rfl, hst', F', N', hnw', hJ, hi, rfl⟩
  have next : ∀ h₁ : Heap, (∀ b o, b ∉ wr → h'.get? b = some o → h₁.get? b = some o) → Fr h₀ L h₁ m' ∧ News h₀ L h₁ news' := fun h₁ hk₁ =>
    ⟨⟨F'.ns.at' fun o e => hk₁ _ o hLw e, fun b o e => hk₁ b o (old b o e) (F'.keep b o e), F'.above⟩, fun p hp => ⟨hk₁ _ _ (hnw' p hp) (N' p hp).1, (N' p hp).2⟩⟩
  by_cases hlt : i < n
  · refine W.item i _ _ _ hlt hst' fun v h₁ tk₁ hP hst₁ hk₁ => ?_
    obtain ⟨F₁, N₁⟩ := next h₁ hk₁
    have Nown : News h₀ L h₁ (ownOf h₀ fp h₁) := news_ownOf hLf
    refine wpAny_mono (step i v m' news' _ (ownOf h₀ fp h₁) ⟨_, _, rfl⟩ hlt hP hJ hnw' ownOf_sub (fun p hp => (Nown p hp).1) (fun b hb hn o e => mem_ownOf hb hn e) hst₁ F₁ (Nown.append N₁)) (fun _ s₂ h₂ => wpAny_mono h₂ (fun f s₃ h₃ => ?_) fun _ _ e => e) fun _ _ e => e
    have fin : LoopStepU h₀ L wr (ownOf h₀ fp h₁) (J (i + 1)) { s with heap := h₁, toks := tk₁ } .next s₃ → ∃ m, m < n + 1 - i ∧ ∃ h' tk m' news' i, s₃ = { s with heap := h', toks := tk } ∧ St i h' ∧ Fr h₀ L h' m' ∧ News h₀ L h' news' ∧ (∀ p ∈ news', p.1 ∉ wr) ∧ J i m' news' ∧ i ≤ n ∧ m = n + 1 - i := by
      rintro ⟨_, h₃', tk₃, m₂, news₂, rfl, F₃, N₃, ha₃, hJ₃⟩
      refine ⟨n + 1 - (i + 1), by omega, h₃', tk₃, m₂, news₂, i + 1, rfl, ?_, F₃, N₃.right, ha₃, hJ₃, hlt, rfl⟩
      refine W.frame _ _ _ hst₁ fun b hb o e => ?_
      cases hn : h₀.get? b with
      | some o₀ =>
        have : o₀ = o := by have := F₁.keep b o₀ hn; rw [e] at this; exact (Option.some.inj this).symm
        exact this ▸ F₃.keep b o₀ hn
      | none => exact (N₃ _ (List.mem_append_left _ (mem_ownOf hb hn e))).1
    cases f with
    | ret v => exact h₃
    | brk => exact h₃
    | cont => exact fin h₃
    | next => exact fin h₃
  · have hin : i = n := by omega
    subst hin
    refine W.done _ _ _ hst' fun h₁ tk₁ hk₁ => wpAny_execs_nil ?_
    obtain ⟨F₁, N₁⟩ := next h₁ hk₁
    exact hR h₁ tk₁ m' news' F₁ N₁ hnw' hJ

def LoopAtT (prog : Program) (w : World) (A : Around) (h₀ : Heap) (L : Addr) (env : Env) (target : Expr) (body : List Stmt) (Q : Flow → Shared → Prop) (E : Value → Shared → Prop) (it : Value) (s₂ : Shared) : Prop :=
  ∃ (I : Addr) (fp wr : List Addr) (n : Nat) (P : Nat → Value → Prop) (St : Nat → Heap → Prop) (m : Str → Option Value) (news : List (Addr × Obj)) (J : Nat → (Str → Option Value) → List (Addr × Obj) → Prop),
    it = .ref I ∧ Walks prog w A I fp wr n P St ∧ L ∉ fp ∧ (∀ b ∈ wr, h₀.get? b = none) ∧ (∀ p ∈ news, p.1 ∉ wr) ∧ St 0 s₂.heap ∧ Fr h₀ L s₂.heap m ∧ News h₀ L s₂.heap news ∧ J 0 m news ∧
    (∀ i v m₁ news₁ s₁ own, (∃ h tk, s₁ = { s₂ with heap := h, toks := tk }) → i < n → P i v → J i m₁ news₁ → (∀ p ∈ news₁, p.1 ∉ wr) → (∀ p ∈ own, p.1 ∈ fp) → (∀ p ∈ own, s₁.heap.get? p.1 = some p.2) → (∀ b ∈ fp, h₀.get? b = none → ∀ o, s₁.heap.get? b = some o → (b, o) ∈ own) → St (i + 1) s₁.heap →
      Fr h₀ L s₁.heap m₁ → News h₀ L s₁.heap (own ++ news₁) →
      wpAny (model prog w) A (assign target env v) (fun _ s₃ => wpAny (model prog w) A (execs body env) (LoopStepV h₀ L wr own (J (i + 1)) s₁ (fun v s' => Q (.ret v) s') fun s' => Q .next s') E s₃) E s₁) ∧
    ∀ h' tk m' news', Fr h₀ L h' m' → News h₀ L h' news' → (∀ p ∈ news', p.1 ∉ wr) → J n m' news' → Q .next { s₂ with heap := h', toks := tk }

theorem For_T {E : Value → Shared → Prop} {Q : Flow → Shared → Prop} {target : Expr} {pos : Pos} {iter : Expr} {body : List Stmt} {m : Str → Option Value} (_F : Fr h₀ L s.heap m)
    (ht : ∀ it v, letOwnedTupleGo target it v = pure ())
    (h : wpAny (model prog w) A (eval iter env) (fun xv s₁ => wpAny (model prog w) A (pyIter xv) (fun it s₂ => LoopAtT prog w A h₀ L env target body Q E it s₂) E s₁) E s)
    (hs : ∀ x, foldedSetIterable iter env x = pure x := by intro _; rfl)
    (hE : PassesOwn (model prog w) A env E := by passes_own) :
    wpAny (model prog w) A (exec (.For target iter body [] pos) env) Q E s := by
  refine wpAny_For (wpAny_mono h (fun xv s₁ h₁ => wpAny_mono h₁ (fun it s₂ h₂ => ?_) fun _ _ e => e) fun _ _ e => e) hs
  obtain ⟨I, fp, wr, n, P, St, m, news, J, rfl, W, hLf, hwr, hnw, hst, F, N, h0, step, hQ⟩ := h₂
  refine codeAny_forT (R := fun r s' => match r with | .ok f => Q f s' | .error e => cameBackBy (model prog w) A env E e s') W hLf hwr hnw hst F N J h0 ?_ hQ (ht _)
  intro i v m₁ news₁ s₁ own a b c d e f g k st F₁ N₁
  exact wpAny_passesOwn hE (wpAny_mono (step i v m₁ news₁ s₁ own a b c d e f g k st F₁ N₁) (fun _ s₃ h₃ => wpAny_passesOwn hE h₃) fun _ _ e => e)
end

section
variable {prog : Program} {w : World} {A : Around} {E : Value → Shared → Prop} {s : Shared} {env : Env} {h₀ : Heap} {L : Addr} {target : Expr} {body : List Stmt} {Q : Flow → Shared → Prop}
def SameT (stored : List Str) (m₀ m' : Str → Option Value) : Prop := ∀ z, z ∉ stored → m' z = m₀ z
theorem over_T {u m₀ : Str → Option Value} {l : List Str} (h : SameT l m₀ u) : u = over u m₀ l := funext fun y => (over_in fun hn => h y hn).symm

/-- over a list's items -/
theorem forT_list (stored : List Str) {l : Addr} {its : Array Value} {m₀ : Str → Option Value} {news : List (Addr × Obj)} (J : Nat → (Str → Option Value) → List (Addr × Obj) → Prop)
    (hh : A.handled = none) (src : h₀.IsList l its ∨ ∃ ol k, ol.cls = .type "list" ∧ ol.data = .seq its k ∧ ∀ i m nx, J i m nx → (l, ol) ∈ nx)
    (F : Fr h₀ L s.heap m₀) (N : News h₀ L s.heap news) (hj : J 0 m₀ news)
    (turn : ∀ i v u nw I oI h tk, its[i]? = some v → J i u nw → Off I nw → Fr h₀ L h (over u m₀ stored) → News h₀ L h ((I, oI) :: nw) →
      wpAny (model prog w) A (assign target env v) (fun _ s₂ => wpAny (model prog w) A (execs body env) (TurnPost h₀ L I oI (fun m' nx => SameT stored m₀ m' ∧ J (i + 1) m' nx) { s with heap := h, toks := tk } Q) E s₂) E { s with heap := h, toks := tk })
    (done : ∀ u nw h tk, J its.size u nw → Fr h₀ L h (over u m₀ stored) → News h₀ L h nw → Q .next { s with heap := h, toks := tk }) :
    wpAny (model prog w) A (pyIter (.ref l)) (fun it s₂ => LoopAtT prog w A h₀ L env target body Q E it s₂) E s := by
  have hls : s.heap.IsList l its := by
    rcases src with hl | ⟨ol, k, hc, hd, hm⟩
    · exact hl.at fun o e => F.keep l o e
    · exact ⟨ol, (N _ (hm _ _ _ hj)).1, hc, k, hd⟩
  obtain ⟨ol', hol, _⟩ := id hls
  have hlt : l < s.heap.objs.size := Heap.lt_size hol
  have hne : l ≠ s.heap.objs.size := Nat.ne_of_lt hlt
  have hLl : L ≠ l := by
    rcases src with hl | ⟨ol, k, hc, hd, hm⟩
    · obtain ⟨o, e, _⟩ := hl
      exact fun q => absurd (Nat.lt_of_lt_of_le (Heap.lt_size e) F.above) (q ▸ Nat.lt_irrefl _)
    · exact fun q => (N _ (hm _ _ _ hj)).2.1 q.symm
  refine wpAny_pyIter_list hls ?_
  have W := Walks.list (prog := prog) (w := w) hh s.heap.objs.size l hne its
  refine ⟨_, _, _, its.size, _, _, m₀, news, (fun i m nx => SameT stored m₀ m ∧ J i m nx), rfl, W, ?_, ?_, ?_, ⟨⟨_, Heap.get?_push_size _ rfl, rfl, rfl⟩, hls.at fun o e => Heap.get?_push_of_some _ e⟩, F.push _, (fun p hp => ⟨Heap.get?_push_of_some _ (N p hp).1, (N p hp).2⟩), ⟨fun _ _ => rfl, hj⟩, ?_, ?_⟩
  · intro hm
    rcases List.mem_cons.mp hm with e | hm
    · exact absurd F.ns.lt (e ▸ Nat.lt_irrefl _)
    · exact hLl (List.mem_singleton.mp hm)
  · intro b hb
    rw [List.mem_singleton.mp hb]
    exact next_is_new F
  · intro p hp hI
    exact absurd (Heap.lt_size (N p hp).1) ((List.mem_singleton.mp hI) ▸ Nat.lt_irrefl _)
  · rintro i v m₁ news₁ s₁ own ⟨hh', tk', rfl⟩ hin hP ⟨hs, hJ⟩ hoff hown hget hin' hst F₁ N₁
    obtain ⟨oI, heI, _⟩ := hst.1
    have hIown : (s.heap.objs.size, oI) ∈ own := hin' _ (by simp) (next_is_new F) oI heI
    have hoffI : Off s.heap.objs.size news₁ := Off.of fun p hp q => hoff p hp (List.mem_singleton.mpr q)
    rw [over_T hs] at F₁
    refine wpAny_mono (turn i v m₁ news₁ _ oI hh' tk' hP hJ hoffI F₁ (fun p hp => by
      rcases List.mem_cons.mp hp with rfl | hp
      · exact N₁ _ (List.mem_append_left _ hIown)
      · exact N₁ _ (List.mem_append_right _ hp))) (fun _ s₂ h₂ => wpAny_mono h₂ (fun f s₃ p => ?_) fun _ _ e => e) fun _ _ e => e
    have fin : TurnEnd h₀ L s.heap.objs.size oI (fun m' nx => SameT stored m₀ m' ∧ J (i + 1) m' nx) { s with heap := hh', toks := tk' } s₃ → LoopStepU h₀ L [s.heap.objs.size] own (fun m nx => SameT stored m₀ m ∧ J (i + 1) m nx) { s with heap := hh', toks := tk' } .next s₃ := by
      rintro ⟨h', tk, m', nx, e, F', N', hoff', hj'⟩
      refine ⟨rfl, h', tk, m', nx, e, F', fun p hp => ?_, fun p hp q => hoff'.mem p hp (List.mem_singleton.mp q), hj'⟩
      rcases List.mem_append.mp hp with hp | hp
      · have hg := hget p hp
        have h0 := (N₁ p (List.mem_append_left _ hp)).2.2
        rcases List.mem_cons.mp (hown p hp) with h1 | h1
        · have e1 : p = (s.heap.objs.size, oI) := by
            obtain ⟨a, o⟩ := p
            dsimp only at h1 hg
            subst h1
            have := heI.symm.trans hg
            rw [Option.some.inj this]
          rw [e1]; exact N' _ List.mem_cons_self
        · have h2 : p.1 = l := List.mem_singleton.mp h1
          rcases src with hl | ⟨ol, k, hc, hd, hm⟩
          · obtain ⟨o, e, _⟩ := hl
            rw [h2, e] at h0; cases h0
          · have e1 : p = (l, ol) := by
              obtain ⟨a, o⟩ := p
              dsimp only at h2 hg
              subst h2
              have := (N₁ _ (List.mem_append_right _ (hm _ _ _ hJ))).1
              have := hg.symm.trans this
              rw [Option.some.inj this]
            rw [e1]; exact N' _ (List.mem_cons_of_mem _ (hm _ _ _ hj'.2))
      · exact N' p (List.mem_cons_of_mem _ hp)
    cases f with
    | ret v => exact .ret p
    | brk => exact .brk p
    | next => exact .next (fin p)
    | cont => exact .cont (fin p)
  · rintro h' tk m' news' F' N' _ ⟨hs, hJ⟩
    rw [over_T hs] at F'
    exact done m' news' h' tk hJ F' N'

/-- over range(a, b) -/
theorem forT_count (stored : List Str) {r : Addr} {a b : Int} {t u v : Tok} (n : Nat) {m₀ : Str → Option Value} {news : List (Addr × Obj)} (J : Nat → (Str → Option Value) → List (Addr × Obj) → Prop)
    (hh : A.handled = none) (hr : IsRange s.heap r a b 1 t u v) (hn : (b - a).toNat = n) (ha : -1000000 ≤ a ∧ a ≤ 1000000) (hb : -1000000 ≤ b ∧ b ≤ 1000000)
    (F : Fr h₀ L s.heap m₀) (N : News h₀ L s.heap news) (hj : J 0 m₀ news)
    (turn : ∀ (i : Nat) (t : Tok) u nw I oI h tk, i < n → J i u nw → Off I nw → Fr h₀ L h (over u m₀ stored) → News h₀ L h ((I, oI) :: nw) →
      wpAny (model prog w) A (assign target env (.int (a + (i : Int)) t)) (fun _ s₂ => wpAny (model prog w) A (execs body env) (TurnPost h₀ L I oI (fun m' nx => SameT stored m₀ m' ∧ J (i + 1) m' nx) { s with heap := h, toks := tk } Q) E s₂) E { s with heap := h, toks := tk })
    (done : ∀ u nw h tk, J n u nw → Fr h₀ L h (over u m₀ stored) → News h₀ L h nw → Q .next { s with heap := h, toks := tk }) :
    wpAny (model prog w) A (pyIter (.ref r)) (fun it s₂ => LoopAtT prog w A h₀ L env target body Q E it s₂) E s := by
  have hsm := small_one (a := a) (b := b) (by omega) (by omega) (by omega) (by omega)
  have hn' : Builtin.Range.rangeSize a b 1 = ((n : Nat) : Int) := by rw [rangeSize_nat, hn]
  refine wpAny_pyIter_range hr hsm ?_
  have W := Walks.range (prog := prog) (w := w) hh s.heap.objs.size a 1 n
  refine ⟨_, _, _, n, _, _, m₀, news, (fun i m nx => SameT stored m₀ m ∧ J i m nx), rfl, W, ?_, ?_, ?_, (by show IsRangeIter _ _ _ _ _; rw [hn']; simpa using Heap.get?_push_size _ rfl), F.push _, (fun p hp => ⟨Heap.get?_push_of_some _ (N p hp).1, (N p hp).2⟩), ⟨fun _ _ => rfl, hj⟩, ?_, ?_⟩
  · intro hm
    exact absurd F.ns.lt ((List.mem_singleton.mp hm) ▸ Nat.lt_irrefl _)
  · intro b hb
    rw [List.mem_singleton.mp hb]
    exact next_is_new F
  · intro p hp hI
    exact absurd (Heap.lt_size (N p hp).1) ((List.mem_singleton.mp hI) ▸ Nat.lt_irrefl _)
  · rintro i v m₁ news₁ s₁ own ⟨hh', tk', rfl⟩ hin hP ⟨hs, hJ⟩ hoff hown hget hin' hst F₁ N₁
    obtain ⟨t, rfl⟩ := hP
    have heI : hh'.get? s.heap.objs.size = some _ := hst
    have hIown := hin' _ (by simp) (next_is_new F) _ heI
    have hoffI : Off s.heap.objs.size news₁ := Off.of fun p hp q => hoff p hp (List.mem_singleton.mpr q)
    generalize hoI : ({ cls := .type "range_iterator", data := .fields #[rawInt (a + ((i + 1 : Nat) : Int) * 1), rawInt ((n : Int) - ((i + 1 : Nat) : Int)), rawInt 1] } : Obj) = oI at heI hIown
    rw [over_T hs] at F₁
    rw [Int.mul_one]
    refine wpAny_mono (turn i t m₁ news₁ s.heap.objs.size oI hh' tk' hin hJ hoffI F₁ (fun p hp => by
      rcases List.mem_cons.mp hp with rfl | hp
      · exact N₁ _ (List.mem_append_left _ hIown)
      · exact N₁ _ (List.mem_append_right _ hp))) (fun _ s₂ h₂ => wpAny_mono h₂ (fun f s₃ p => ?_) fun _ _ e => e) fun _ _ e => e
    have fin : TurnEnd h₀ L s.heap.objs.size oI (fun m' nx => SameT stored m₀ m' ∧ J (i + 1) m' nx) { s with heap := hh', toks := tk' } s₃ → LoopStepU h₀ L [s.heap.objs.size] own (fun m nx => SameT stored m₀ m ∧ J (i + 1) m nx) { s with heap := hh', toks := tk' } .next s₃ := by
      rintro ⟨h', tk, m', nx, e, F', N', hoff', hj'⟩
      refine ⟨rfl, h', tk, m', nx, e, F', fun p hp => ?_, fun p hp q => hoff'.mem p hp (List.mem_singleton.mp q), hj'⟩
      rcases List.mem_append.mp hp with hp | hp
      · have hg := hget p hp
        have h1 := List.mem_singleton.mp (hown p hp)
        obtain ⟨a, o⟩ := p
        dsimp only at h1 hg
        subst h1
        have e9 : o = oI := by
          have := heI.symm.trans hg
          exact (Option.some.inj this).symm
        rw [e9]
        exact N' _ List.mem_cons_self
      · exact N' p (List.mem_cons_of_mem _ hp)
    cases f with
    | ret v => exact .ret p
    | brk => exact .brk p
    | next => exact .next (fin p)
    | cont => exact .cont (fin p)
  · rintro h' tk m' news' F' N' _ ⟨hs, hJ⟩
    rw [over_T hs] at F'
    exact done m' news' h' tk hJ F' N'

theorem forT_pd {α : Type} {G : α → Value → Prop} {as : List α} {its : Array Value} (hi : Pd G as its.toList) (stored : List Str) {l : Addr} {m₀ : Str → Option Value} {news : List (Addr × Obj)} (J : List α → (Str → Option Value) → List (Addr × Obj) → Prop)
    (hh : A.handled = none) (src : h₀.IsList l its ∨ ∃ ol k, ol.cls = .type "list" ∧ ol.data = .seq its k ∧ ∀ pre m nx, J pre m nx → (l, ol) ∈ nx)
    (F : Fr h₀ L s.heap m₀) (N : News h₀ L s.heap news) (hj : J [] m₀ news)
    (turn : ∀ pre a post v u nw I oI h tk, as = pre ++ a :: post → G a v → J pre u nw → Off I nw → Fr h₀ L h (over u m₀ stored) → News h₀ L h ((I, oI) :: nw) →
      wpAny (model prog w) A (assign target env v) (fun _ s₂ => wpAny (model prog w) A (execs body env) (TurnPost h₀ L I oI (fun m' nx => SameT stored m₀ m' ∧ J (pre ++ [a]) m' nx) { s with heap := h, toks := tk } Q) E s₂) E { s with heap := h, toks := tk })
    (done : ∀ u nw h tk, J as u nw → Fr h₀ L h (over u m₀ stored) → News h₀ L h nw → Q .next { s with heap := h, toks := tk }) :
    wpAny (model prog w) A (pyIter (.ref l)) (fun it s₂ => LoopAtT prog w A h₀ L env target body Q E it s₂) E s := by
  have hl := pd_len hi
  refine forT_list stored (its := its) (fun i m nx => J (as.take i) m nx) hh (src.imp id fun ⟨ol, k, a, b, c⟩ => ⟨ol, k, a, b, fun i m nx h => c _ m nx h⟩) F N (by simpa using hj) ?_ ?_
  · intro i v u nw I oI h tk hv hJ hoff F₁ N₁
    obtain ⟨a, ha, hF⟩ := pd_at hi i v (by simpa using hv)
    rw [take_next ha]
    exact turn _ a _ v u nw I oI h tk (take_split ha) hF hJ hoff F₁ N₁
  · intro u nw h tk hJ F₁ N₁
    refine done u nw h tk ?_ F₁ N₁
    have e : as.take its.size = as := List.take_of_length_le (by rw [hl]; simp)
    rwa [e] at hJ
end

theorem strs_pd : ∀ {xs : List Str} {vs : List Value}, Pd StrV xs vs → StrsAre vs xs
  | _, _, .nil => .nil
  | _, _, .cons ⟨_, e⟩ h => by rw [e]; exact .cons _ _ (strs_pd h)
theorem pd_strs : ∀ {vs : List Value} {xs : List Str}, StrsAre vs xs → Pd StrV xs vs
  | _, _, .nil => .nil
  | _, _, .cons _ t h => .cons ⟨t, rfl⟩ (pd_strs h)
section
variable {prog : Program} {w : World} {A : Around} {E : Value → Shared → Prop} {s : Shared} {g : Heap} {L D : Addr} {m : Str → Option Value} {its : Array Value} {xs : List Str} {k : Str} {t : Tok} {Q : Value → Shared → Prop}
theorem in_b (hl : g.IsList D its) (F : Fr g L s.heap m) (hi : Pd StrV xs its.toList) (h : Q (.bool (xs.any (· == k))) s) : wpAny (model prog w) A (compareOp .In (.str k t) (.ref D)) Q E s :=
  in_list_strs (vs := its.toList) (by rw [Array.toArray_toList]; exact at_up hl F) (strs_pd hi) h
end

section
variable {h₀ h h' : Heap} {L D : Addr} {m : Str → Option Value} {news : List (Addr × Obj)} {o : Obj}
theorem after_keep (F : Fr h₀ L h m) (N : News h₀ L h news) (k : ∀ b o, h.get? b = some o → h'.get? b = some o) : Fr h₀ L h' m ∧ News h₀ L h' news := ⟨F.keeps k, N.grown k⟩
theorem after_new (F : Fr h₀ L h m) (N : News h₀ L h news) (k : ∀ b o, h.get? b = some o → h'.get? b = some o) (hD : h.get? D = none) (hg : h'.get? D = some o) : Fr h₀ L h' m ∧ News h₀ L h' ((D, o) :: news) ∧ Off D news := by
  refine ⟨F.keeps k, fun p hp => ?_, Off.of fun p hp q => ?_⟩
  · rcases List.mem_cons.mp hp with rfl | hp
    · refine ⟨hg, fun q => ?_, ?_⟩
      · obtain ⟨oL, _, _, hL, _⟩ := F.ns
        have q' : D = L := q
        rw [q'] at hD; rw [hD] at hL; cases hL
      · cases e : h₀.get? D with
        | none => rfl
        | some o' => have := F.keep _ _ e; rw [hD] at this; cases this
    · exact N.grown k p hp
  · have := (N p hp).1
    rw [q, hD] at this; cases this
end
theorem off1 {a z : Str} (h : z ∉ [a]) : z ≠ a := fun e => h (by rw [e]; exact List.mem_cons_self)

section
variable {prog : Program} {w : World} {A : Around} {E : Value → Shared → Prop} {s : Shared} {env : Env} {h₀ : Heap} {L : Addr} {target : Expr} {body : List Stmt} {Q : Flow → Shared → Prop}
/-- over range(a, b), the ledger stays -/
theorem forT_count_s (stored : List Str) {r : Addr} {a b : Int} {t u v : Tok} (n : Nat) {m₀ : Str → Option Value} {news : List (Addr × Obj)} (J : Nat → (Str → Option Value) → Prop)
    (hh : A.handled = none) (hr : IsRange s.heap r a b 1 t u v) (hn : (b - a).toNat = n) (ha : -1000000 ≤ a ∧ a ≤ 1000000) (hb : -1000000 ≤ b ∧ b ≤ 1000000)
    (F : Fr h₀ L s.heap m₀) (N : News h₀ L s.heap news) (hj : J 0 m₀)
    (turn : ∀ (i : Nat) (t : Tok) u I oI h tk, i < n → J i u → Off I news → Fr h₀ L h (over u m₀ stored) → News h₀ L h ((I, oI) :: news) →
      wpAny (model prog w) A (assign target env (.int (a + (i : Int)) t)) (fun _ s₂ => wpAny (model prog w) A (execs body env) (TurnPost h₀ L I oI (fun m' nx => nx = news ∧ SameT stored m₀ m' ∧ J (i + 1) m') { s with heap := h, toks := tk } Q) E s₂) E { s with heap := h, toks := tk })
    (done : ∀ u h tk, J n u → Fr h₀ L h (over u m₀ stored) → News h₀ L h news → Q .next { s with heap := h, toks := tk }) :
    wpAny (model prog w) A (pyIter (.ref r)) (fun it s₂ => LoopAtT prog w A h₀ L env target body Q E it s₂) E s := by
  refine forT_count stored n (fun i m nx => nx = news ∧ J i m) hh hr hn ha hb F N ⟨rfl, hj⟩ ?_ ?_
  · rintro i t u nw I oI h tk hv ⟨rfl, hJ⟩ hoff F₁ N₁
    refine wpAny_mono (turn i t u I oI h tk hv hJ hoff F₁ N₁) (fun _ s₂ h₂ => wpAny_mono h₂ (fun f s₃ h₃ => ?_) fun _ _ e => e) fun _ _ e => e
    have fin : TurnEnd h₀ L I oI (fun m' nx => nx = nw ∧ SameT stored m₀ m' ∧ J (i + 1) m') { s with heap := h, toks := tk } s₃ → TurnEnd h₀ L I oI (fun m' nx => SameT stored m₀ m' ∧ nx = nw ∧ J (i + 1) m') { s with heap := h, toks := tk } s₃ := fun ⟨h', tk, m', nx, e, a, b, c, d1, d2, d3⟩ => ⟨h', tk, m', nx, e, a, b, c, d2, d1, d3⟩
    cases f with
    | ret v => exact h₃
    | brk => exact h₃
    | next => exact fin h₃
    | cont => exact fin h₃
  · rintro u nw h tk ⟨rfl, hJ⟩ F₁ N₁
    exact done u h tk hJ F₁ N₁
theorem forT_pd_s {α : Type} {G : α → Value → Prop} {as : List α} {its : Array Value} (hi : Pd G as its.toList) (stored : List Str) {l : Addr} {m₀ : Str → Option Value} {news : List (Addr × Obj)} (J : List α → (Str → Option Value) → Prop)
    (hh : A.handled = none) (src : h₀.IsList l its ∨ ∃ ol k, ol.cls = .type "list" ∧ ol.data = .seq its k ∧ (l, ol) ∈ news)
    (F : Fr h₀ L s.heap m₀) (N : News h₀ L s.heap news) (hj : J [] m₀)
    (turn : ∀ pre a post v u I oI h tk, as = pre ++ a :: post → G a v → J pre u → Off I news → Fr h₀ L h (over u m₀ stored) → News h₀ L h ((I, oI) :: news) →
      wpAny (model prog w) A (assign target env v) (fun _ s₂ => wpAny (model prog w) A (execs body env) (TurnPost h₀ L I oI (fun m' nx => nx = news ∧ SameT stored m₀ m' ∧ J (pre ++ [a]) m') { s with heap := h, toks := tk } Q) E s₂) E { s with heap := h, toks := tk })
    (done : ∀ u h tk, J as u → Fr h₀ L h (over u m₀ stored) → News h₀ L h news → Q .next { s with heap := h, toks := tk }) :
    wpAny (model prog w) A (pyIter (.ref l)) (fun it s₂ => LoopAtT prog w A h₀ L env target body Q E it s₂) E s := by
  refine forT_pd hi stored (fun pre m nx => nx = news ∧ J pre m) hh (src.imp id fun ⟨ol, k, a, b, c⟩ => ⟨ol, k, a, b, fun _ _ nx h => h.1 ▸ c⟩) F N ⟨rfl, hj⟩ ?_ ?_
  · rintro pre a post v u nw I oI h tk e hG ⟨rfl, hJ⟩ hoff F₁ N₁
    refine wpAny_mono (turn pre a post v u I oI h tk e hG hJ hoff F₁ N₁) (fun _ s₂ h₂ => wpAny_mono h₂ (fun f s₃ h₃ => ?_) fun _ _ e => e) fun _ _ e => e
    have fin : TurnEnd h₀ L I oI (fun m' nx => nx = nw ∧ SameT stored m₀ m' ∧ J (pre ++ [a]) m') { s with heap := h, toks := tk } s₃ → TurnEnd h₀ L I oI (fun m' nx => SameT stored m₀ m' ∧ nx = nw ∧ J (pre ++ [a]) m') { s with heap := h, toks := tk } s₃ := fun ⟨h', tk, m', nx, e, a, b, c, d1, d2, d3⟩ => ⟨h', tk, m', nx, e, a, b, c, d2, d1, d3⟩
    cases f with
    | ret v => exact h₃
    | brk => exact h₃
    | next => exact fin h₃
    | cont => exact fin h₃
  · rintro u nw h tk ⟨rfl, hJ⟩ F₁ N₁
    exact done u h tk hJ F₁ N₁
end
theorem news_tail {h₀ h : Heap} {L : Addr} {p : Addr × Obj} {news : List (Addr × Obj)} (N : News h₀ L h (p :: news)) : News h₀ L h news := fun q hq => N q (List.mem_cons_of_mem _ hq)
theorem news_head {h₀ h : Heap} {L : Addr} {p : Addr × Obj} {news : List (Addr × Obj)} (N : News h₀ L h (p :: news)) : News h₀ L h [p] := fun q hq => N q (by rw [List.mem_singleton.mp hq]; exact List.mem_cons_self)

section
variable {prog : Program} {w : World} {A : Around} {E : Value → Shared → Prop} {s : Shared} {h₀ : Heap} {L D : Addr} {m : Str → Option Value} {news : List (Addr × Obj)} {vs : List Value} {n : Nat} {k : Int} {j : Nat} {t : Tok} {v : Value} {Q : Value → Shared → Prop}
theorem tail_l {value slice : PySem.Expr} (N : News h₀ L s.heap news) (hm : (D, listOf vs.toArray n) ∈ news) (hx : vs[j]? = some v) (hk : k = (j : Int)) (hj : (j : Int) < 1000000) (h : Q v s)
    (hs : subscripted slice false (.ref D) (.int k t) = operate [.ref D, .int k t] (getItem (.ref D) (.int k t)) := by with_unfolding_all rfl) :
    wpAny (model prog w) A (subscriptTail value slice (.ref D) (.int k t)) Q E s :=
  tail_at (is_l N hm) (by omega) (by omega) (by rw [hk, Int.toNat_natCast]; simpa using hx) h hs
theorem tail_pd {value slice : PySem.Expr} {α : Type} {F : α → Value → Prop} {as : List α} {a : α} (N : News h₀ L s.heap news) (hm : (D, listOf vs.toArray n) ∈ news) (hp : Pd F as vs) (ha : as[j]? = some a) (hk : k = (j : Int)) (hj : (j : Int) < 1000000) (h : ∀ v, F a v → Q v s)
    (hs : subscripted slice false (.ref D) (.int k t) = operate [.ref D, .int k t] (getItem (.ref D) (.int k t)) := by with_unfolding_all rfl) :
    wpAny (model prog w) A (subscriptTail value slice (.ref D) (.int k t)) Q E s := by
  obtain ⟨v, hv, hF⟩ := pd_get hp j a ha
  exact tail_l N hm hv hk hj (h v hF) hs
end

section
variable {prog : Program} {w : World} {A : Around} {E : Value → Shared → Prop} {s : Shared} {h₀ : Heap} {L l : Addr} {m : Str → Option Value} {news : List (Addr × Obj)} {n : Nat} {xs : List Value} {Q : Value → Shared → Prop} {value slice : PySem.Expr} {k : Int} {t : Tok}
theorem pick_to' (xs : List Value) (h : 0 ≤ k) : kms_pick xs none (some k) = xs.take k.toNat := by
  have := pick_to xs k.toNat
  rwa [Int.toNat_of_nonneg h] at this
theorem pick_from' (xs : List Value) (h : 0 ≤ k) : kms_pick xs (some k) none = xs.drop k.toNat := by
  have := pick_from xs k.toNat
  rwa [Int.toNat_of_nonneg h] at this
/-- l[:k] -/
theorem slice_to (F : Fr h₀ L s.heap m) (N : News h₀ L s.heap news) (hl : (l, listOf xs.toArray n) ∈ news) (h0 : 0 ≤ k)
    (h : ∀ D h', Fr h₀ L h' m → News h₀ L h' ((D, listOf (xs.take k.toNat).toArray 0) :: news) → (∀ p ∈ news, p.1 < D) → Q (.ref D) { s with heap := h' })
    (hs : subscripted slice false (.ref l) (.ref s.heap.objs.size) = operate [.ref s.heap.objs.size, .ref l] (getItem (.ref l) (.ref s.heap.objs.size))) (ht : ∀ r, letTemporaryGo value (.ref l) r = pure ()) (hz : xs.length ≤ sizeLine) :
    wpAny (model prog w) A (subscriptTail value slice (.ref l) (.ref s.heap.objs.size)) Q E { s with heap := s.heap.push { cls := .type "slice", data := .fields #[.none, .int k t, .none] } } :=
  slice_l F N hl .none (.int _ _) (fun D h' F' N' l1 => h D h' F' (by rw [← pick_to' xs h0]; exact N') l1) hs ht hz
/-- l[k:] -/
theorem slice_from (F : Fr h₀ L s.heap m) (N : News h₀ L s.heap news) (hl : (l, listOf xs.toArray n) ∈ news) (h0 : 0 ≤ k)
    (h : ∀ D h', Fr h₀ L h' m → News h₀ L h' ((D, listOf (xs.drop k.toNat).toArray 0) :: news) → (∀ p ∈ news, p.1 < D) → Q (.ref D) { s with heap := h' })
    (hs : subscripted slice false (.ref l) (.ref s.heap.objs.size) = operate [.ref s.heap.objs.size, .ref l] (getItem (.ref l) (.ref s.heap.objs.size))) (ht : ∀ r, letTemporaryGo value (.ref l) r = pure ()) (hz : xs.length ≤ sizeLine) :
    wpAny (model prog w) A (subscriptTail value slice (.ref l) (.ref s.heap.objs.size)) Q E { s with heap := s.heap.push { cls := .type "slice", data := .fields #[.int k t, .none, .none] } } :=
  slice_l F N hl (.int _ _) .none (fun D h' F' N' l1 => h D h' F' (by rw [← pick_from' xs h0]; exact N') l1) hs ht hz
end

theorem pd_take {α : Type} {F : α → Value → Prop} : ∀ {as : List α} {vs : List Value}, Pd F as vs → ∀ n, Pd F (as.take n) (vs.take n)
  | _, _, .nil, n => by simp; exact .nil
  | _, _, .cons h t, 0 => by simp; exact .nil
  | _, _, .cons h t, n + 1 => .cons h (pd_take t n)
theorem pd_drop {α : Type} {F : α → Value → Prop} : ∀ {as : List α} {vs : List Value}, Pd F as vs → ∀ n, Pd F (as.drop n) (vs.drop n)
  | _, _, .nil, n => by simp; exact .nil
  | _, _, .cons h t, 0 => .cons h t
  | _, _, .cons h t, n + 1 => pd_drop t n
theorem pd_app {α : Type} {F : α → Value → Prop} : ∀ {as bs : List α} {vs ws : List Value}, Pd F as vs → Pd F bs ws → Pd F (as ++ bs) (vs ++ ws)
  | _, _, _, _, .nil, h => h
  | _, _, _, _, .cons h t, k => .cons h (pd_app t k)
theorem toNat_succ (i : Nat) : ((i : Int) + 1).toNat = i + 1 := by omega
section
variable {prog : Program} {w : World} {A : Around} {E : Value → Shared → Prop} {s : Shared} {env : Env} {h₀ : Heap} {L : Addr} {target : Expr} {body : List Stmt} {Q Q' : Flow → Shared → Prop}
/-- one word behind a loop, however it ends -/
theorem join_loop {v : Value} (Q' : Flow → Shared → Prop) (h : wpAny (model prog w) A (pyIter v) (fun it s₂ => LoopAtT prog w A h₀ L env target body Q' E it s₂) E s) (hq : ∀ f s', Q' f s' → Q f s') :
    wpAny (model prog w) A (pyIter v) (fun it s₂ => LoopAtT prog w A h₀ L env target body Q E it s₂) E s := by
  refine wpAny_mono h (fun it s₂ h₂ => ?_) fun _ _ e => e
  obtain ⟨I, fp, wr, n, P, St, m, news, J, e, W, hLf, hwr, hnw, hst, F, N, h0, step, hQ⟩ := h₂
  refine ⟨I, fp, wr, n, P, St, m, news, J, e, W, hLf, hwr, hnw, hst, F, N, h0, ?_, fun h' tk m' news' a b c d => hq _ _ (hQ h' tk m' news' a b c d)⟩
  intro i v m₁ news₁ s₁ own a b c d e f g k st F₁ N₁
  refine wpAny_mono (step i v m₁ news₁ s₁ own a b c d e f g k st F₁ N₁) (fun _ s₃ h₃ => wpAny_mono h₃ (fun fl s₄ h₄ => ?_) fun _ _ e => e) fun _ _ e => e
  cases fl with
  | ret v => exact hq _ _ h₄
  | brk => exact hq _ _ h₄
  | next => exact h₄
  | cont => exact h₄
end

section
variable {prog : Program} {w : World} {A : Around} {E : Value → Shared → Prop} {s : Shared} {env : Env} {h₀ : Heap} {L : Addr} {target : Expr} {body : List Stmt} {Q : Flow → Shared → Prop}
/-- a for over a list that turns one other list of the ledger -/
theorem forT_pd_l {α : Type} {G : α → Value → Prop} {as : List α} {its : Array Value} (hi : Pd G as its.toList) (stored : List Str) (lead : List (Addr × Obj)) {rest : List (Addr × Obj)} {lt : Addr} {zs₀ : List Value} {c₀ : Nat} {l : Addr} {m₀ : Str → Option Value} (J : List α → (Str → Option Value) → List Value → Prop)
    (hh : A.handled = none) (src : h₀.IsList l its ∨ ∃ ol k, ol.cls = .type "list" ∧ ol.data = .seq its k ∧ ((l, ol) ∈ lead ∨ (l, ol) ∈ rest))
    (F : Fr h₀ L s.heap m₀) (N : News h₀ L s.heap (lead ++ (lt, W.listOf zs₀.toArray c₀) :: rest)) (hj : J [] m₀ zs₀)
    (turn : ∀ pre a post v u zs c I oI h tk, as = pre ++ a :: post → G a v → J pre u zs → Off I (lead ++ (lt, W.listOf zs.toArray c) :: rest) → Fr h₀ L h (over u m₀ stored) → News h₀ L h ((I, oI) :: (lead ++ (lt, W.listOf zs.toArray c) :: rest)) →
      wpAny (model prog w) A (assign target env v) (fun _ s₂ => wpAny (model prog w) A (execs body env) (TurnPost h₀ L I oI (fun m' nx => SameT stored m₀ m' ∧ ∃ zs' c', nx = lead ++ (lt, W.listOf zs'.toArray c') :: rest ∧ J (pre ++ [a]) m' zs') { s with heap := h, toks := tk } Q) E s₂) E { s with heap := h, toks := tk })
    (done : ∀ u zs c h tk, J as u zs → Fr h₀ L h (over u m₀ stored) → News h₀ L h (lead ++ (lt, W.listOf zs.toArray c) :: rest) → Q .next { s with heap := h, toks := tk }) :
    wpAny (model prog w) A (pyIter (.ref l)) (fun it s₂ => LoopAtT prog w A h₀ L env target body Q E it s₂) E s := by
  refine forT_pd hi stored (fun pre m nx => ∃ zs c, nx = lead ++ (lt, W.listOf zs.toArray c) :: rest ∧ J pre m zs) hh (src.imp id fun ⟨ol, k, a, b, c⟩ => ⟨ol, k, a, b, fun _ _ nx ⟨zs, c1, e, _⟩ => by
    rw [e]
    exact c.elim (fun q => List.mem_append_left _ q) fun q => List.mem_append_right _ (List.mem_cons_of_mem _ q)⟩) F N ⟨_, _, rfl, hj⟩ ?_ ?_
  · rintro pre a post v u nw I oI h tk e hG ⟨zs, c, rfl, hJ⟩ hoff F₁ N₁
    exact turn pre a post v u zs c I oI h tk e hG hJ hoff F₁ N₁
  · rintro u nw h tk ⟨zs, c, rfl, hJ⟩ F₁ N₁
    exact done u zs c h tk hJ F₁ N₁
end
theorem tw_all {l : List Nat} {c : Nat} (h : c ∉ l) : l.takeWhile (· != c) = l := by
  induction l with
  | nil => rfl
  | cons a r ih =>
    simp only [List.mem_cons, not_or] at h
    rw [List.takeWhile_cons_of_pos (by simpa using Ne.symm h.1), ih h.2]
theorem tw_stop {l r : List Nat} {c : Nat} (h : c ∉ l) : (l ++ c :: r).takeWhile (· != c) = l := by
  induction l with
  | nil => simp
  | cons a t ih =>
    simp only [List.mem_cons, not_or] at h
    rw [List.cons_append, List.takeWhile_cons_of_pos (by simpa using Ne.symm h.1), ih h.2]
theorem inr_mem {p : Addr × Obj} {l : List (Addr × Obj)} (h : p ∈ l) : p ∈ l := h

section
variable {prog : Program} {w : World} {A : Around} {E : Value → Shared → Prop} {s : Shared} {env : Env} {h₀ : Heap} {L : Addr} {target : Expr} {body : List Stmt} {Q : Flow → Shared → Prop}
/-- how a loop that breaks may end: one word for both ends -/
def QJ (h₀ : Heap) (L : Addr) (stored : List Str) (m₀ : Str → Option Value) (s : Shared) (P : (Str → Option Value) → List (Addr × Obj) → Prop) (Q : Flow → Shared → Prop) (f : Flow) (s' : Shared) : Prop := match f with
  | .next => ∃ h tk m' nx, s' = { s with heap := h, toks := tk } ∧ Fr h₀ L h m' ∧ News h₀ L h nx ∧ SameT stored m₀ m' ∧ P m' nx
  | f => Q f s'
/-- a for over a list that turns one other list of the ledger, and may break -/
theorem forT_pd_lj {α : Type} {G : α → Value → Prop} {as : List α} {its : Array Value} (hi : Pd G as its.toList) (stored : List Str) (lead : List (Addr × Obj)) {rest : List (Addr × Obj)} {lt : Addr} {zs₀ : List Value} {c₀ : Nat} {l : Addr} {m₀ : Str → Option Value} (J : List α → (Str → Option Value) → List Value → Prop) (P : (Str → Option Value) → List Value → Prop)
    (hh : A.handled = none) (src : h₀.IsList l its ∨ ∃ ol k, ol.cls = .type "list" ∧ ol.data = .seq its k ∧ ((l, ol) ∈ lead ∨ (l, ol) ∈ rest))
    (F : Fr h₀ L s.heap m₀) (N : News h₀ L s.heap (lead ++ (lt, W.listOf zs₀.toArray c₀) :: rest)) (hj : J [] m₀ zs₀)
    (turn : ∀ pre a post v u zs c I oI h tk, as = pre ++ a :: post → G a v → J pre u zs → Off I (lead ++ (lt, W.listOf zs.toArray c) :: rest) → Fr h₀ L h (over u m₀ stored) → News h₀ L h ((I, oI) :: (lead ++ (lt, W.listOf zs.toArray c) :: rest)) →
      wpAny (model prog w) A (assign target env v) (fun _ s₂ => wpAny (model prog w) A (execs body env) (TurnPost h₀ L I oI (fun m' nx => SameT stored m₀ m' ∧ ∃ zs' c', nx = lead ++ (lt, W.listOf zs'.toArray c') :: rest ∧ J (pre ++ [a]) m' zs') { s with heap := h, toks := tk }
        (QJ h₀ L stored m₀ s (fun m' nx => ∃ zs' c', nx = lead ++ (lt, W.listOf zs'.toArray c') :: rest ∧ P m' zs') Q)) E s₂) E { s with heap := h, toks := tk })
    (done : ∀ u zs, J as u zs → SameT stored m₀ u → P u zs)
    (cont : ∀ u zs c h tk, P u zs → Fr h₀ L h (over u m₀ stored) → News h₀ L h (lead ++ (lt, W.listOf zs.toArray c) :: rest) → Q .next { s with heap := h, toks := tk }) :
    wpAny (model prog w) A (pyIter (.ref l)) (fun it s₂ => LoopAtT prog w A h₀ L env target body Q E it s₂) E s := by
  refine join_loop (QJ h₀ L stored m₀ s (fun m' nx => ∃ zs' c', nx = lead ++ (lt, W.listOf zs'.toArray c') :: rest ∧ P m' zs') Q) ?_ ?_
  · refine forT_pd hi stored (fun pre m nx => SameT stored m₀ m ∧ ∃ zs c, nx = lead ++ (lt, W.listOf zs.toArray c) :: rest ∧ J pre m zs) hh (src.imp id fun ⟨ol, k, a, b, c⟩ => ⟨ol, k, a, b, fun _ _ nx ⟨_, zs, c1, e, _⟩ => by
      rw [e]
      exact c.elim (fun q => List.mem_append_left _ q) fun q => List.mem_append_right _ (List.mem_cons_of_mem _ q)⟩) F N ⟨fun _ _ => rfl, _, _, rfl, hj⟩ ?_ ?_
    · rintro pre a post v u nw I oI h tk e hG ⟨hs, zs, c, rfl, hJ⟩ hoff F₁ N₁
      refine wpAny_mono (turn pre a post v u zs c I oI h tk e hG hJ hoff F₁ N₁) (fun _ s₂ h₂ => wpAny_mono h₂ (fun f s₃ h₃ => ?_) fun _ _ e => e) fun _ _ e => e
      have fin : TurnEnd h₀ L I oI (fun m' nx => SameT stored m₀ m' ∧ ∃ zs' c', nx = lead ++ (lt, W.listOf zs'.toArray c') :: rest ∧ J (pre ++ [a]) m' zs') { s with heap := h, toks := tk } s₃ → TurnEnd h₀ L I oI (fun m' nx => SameT stored m₀ m' ∧ SameT stored m₀ m' ∧ ∃ zs' c', nx = lead ++ (lt, W.listOf zs'.toArray c') :: rest ∧ J (pre ++ [a]) m' zs') { s with heap := h, toks := tk } s₃ :=
        fun ⟨h', tk, m', nx, e, a, b, c, d1, d2⟩ => ⟨h', tk, m', nx, e, a, b, c, d1, d1, d2⟩
      cases f with
      | ret v => exact h₃
      | brk => exact h₃
      | next => exact fin h₃
      | cont => exact fin h₃
    · rintro u nw h tk ⟨hs, zs, c, rfl, hJ⟩ F₁ N₁
      exact ⟨h, tk, u, _, rfl, by rw [over_T hs]; exact F₁, N₁, hs, zs, c, rfl, done u zs hJ hs⟩
  · intro f s' hq
    cases f with
    | next =>
      obtain ⟨h, tk, m', nx, rfl, F₁, N₁, hs, zs, c, rfl, hP⟩ := hq
      rw [over_T hs] at F₁
      exact cont m' zs c h tk hP F₁ N₁
    | ret v => exact hq
    | brk => exact hq
    | cont => exact hq
end
end Mine
end
section
namespace Mine
open PySem.Calls PySem.Spec
section
variable {prog : Program} {w : World} {A : Around} {E : Value → Shared → Prop} {s : Shared} {env : Env} {h₀ : Heap} {L : Addr} {target : Expr} {body : List Stmt} {Q : Flow → Shared → Prop}
/-- a for over a list that turns the ledger, and may break: one word of the ledger between the turns and behind the loop -/
theorem forT_pd_b {α : Type} {G : α → Value → Prop} {as : List α} {its : Array Value} (hi : Pd G as its.toList) (stored : List Str) {l : Addr} {m₀ : Str → Option Value} {news : List (Addr × Obj)} (B : List (Addr × Obj) → Prop)
    (hh : A.handled = none) (src : h₀.IsList l its ∨ ∃ ol k, ol.cls = .type "list" ∧ ol.data = .seq its k ∧ ∀ nx, B nx → (l, ol) ∈ nx)
    (F : Fr h₀ L s.heap m₀) (N : News h₀ L s.heap news) (hj : B news)
    (turn : ∀ pre a post v u nw I oI h tk, as = pre ++ a :: post → G a v → B nw → Off I nw → Fr h₀ L h (over u m₀ stored) → News h₀ L h ((I, oI) :: nw) →
      wpAny (model prog w) A (assign target env v) (fun _ s₂ => wpAny (model prog w) A (execs body env) (TurnPost h₀ L I oI (fun m' nx => SameT stored m₀ m' ∧ B nx) { s with heap := h, toks := tk }
        (QJ h₀ L stored m₀ s (fun _ nx => B nx) Q)) E s₂) E { s with heap := h, toks := tk })
    (cont : ∀ u nw h tk, B nw → Fr h₀ L h (over u m₀ stored) → News h₀ L h nw → Q .next { s with heap := h, toks := tk }) :
    wpAny (model prog w) A (pyIter (.ref l)) (fun it s₂ => LoopAtT prog w A h₀ L env target body Q E it s₂) E s := by
  refine join_loop (QJ h₀ L stored m₀ s (fun _ nx => B nx) Q) ?_ ?_
  · refine forT_pd hi stored (fun pre m nx => SameT stored m₀ m ∧ B nx) hh (src.imp id fun ⟨ol, k, a, b, c⟩ => ⟨ol, k, a, b, fun _ _ nx h => c nx h.2⟩) F N ⟨fun _ _ => rfl, hj⟩ ?_ ?_
    · rintro pre a post v u nw I oI h tk e hG ⟨hs, hJ⟩ hoff F₁ N₁
      refine wpAny_mono (turn pre a post v u nw I oI h tk e hG hJ hoff F₁ N₁) (fun _ s₂ h₂ => wpAny_mono h₂ (fun f s₃ h₃ => ?_) fun _ _ e => e) fun _ _ e => e
      have fin : TurnEnd h₀ L I oI (fun m' nx => SameT stored m₀ m' ∧ B nx) { s with heap := h, toks := tk } s₃ → TurnEnd h₀ L I oI (fun m' nx => SameT stored m₀ m' ∧ SameT stored m₀ m' ∧ B nx) { s with heap := h, toks := tk } s₃ :=
        fun ⟨h', tk, m', nx, e, a, b, c, d1, d2⟩ => ⟨h', tk, m', nx, e, a, b, c, d1, d1, d2⟩
      cases f with
      | ret v => exact h₃
      | brk => exact h₃
      | next => exact fin h₃
      | cont => exact fin h₃
    · rintro u nw h tk ⟨hs, hJ⟩ F₁ N₁
      exact ⟨h, tk, u, _, rfl, by rw [over_T hs]; exact F₁, N₁, hs, hJ⟩
  · intro f s' hq
    cases f with
    | next =>
      obtain ⟨h, tk, m', nx, rfl, F₁, N₁, hs, hP⟩ := hq
      rw [over_T hs] at F₁
      exact cont m' nx h tk hP F₁ N₁
    | ret v => exact hq
    | brk => exact hq
    | cont => exact hq
end
end Mine
end
section
namespace Mine
/-- the name's part ahead of its first slash, in small letters -/
def token (name : Str) : Str := Txt.lower (((Txt.split name (Str.ofString "/"))[0]?).getD Str.empty)
theorem token_of {name y : Str} (e : (Txt.split name (Str.ofString "/"))[0]? = some y) : token name = Txt.lower y := by unfold token; rw [e]; rfl
def fitsOne (name a : Str) : Bool := a != Str.ofString "*" && !(Builtin.Str.occurrences (token name) (Txt.lower a) 0 (token name).length 1).isEmpty

/-- p lies in r -/
def Lies (p r : List Nat) : Prop := ∃ i, i + p.length ≤ r.length ∧ (r.drop i).take p.length = p
theorem occ_lies (x y : Str) : (!(Builtin.Str.occurrences x y 0 x.length 1).isEmpty) = true ↔ Lies y.cps.toList x.cps.toList := by
  rw [StrLaws.found_iff]
  unfold Lies
  constructor
  · rintro ⟨i, h1, h2⟩
    rw [StrLaws.subAt_eq, beq_iff_eq] at h2
    exact ⟨i, h1, h2⟩
  · rintro ⟨i, h1, h2⟩
    exact ⟨i, h1, by rw [StrLaws.subAt_eq, beq_iff_eq]; exact h2⟩
theorem slash_is : Str.ofString "/" = ⟨#[47]⟩ := by decide +kernel
theorem star_is : Str.ofString "*" = ⟨#[42]⟩ := by decide +kernel

theorem takeWhile_at {l : List Nat} {c i : Nat} (h : l[i]? = some c) (hn : ∀ k, k < i → l[k]? ≠ some c) : l.takeWhile (· != c) = l.take i := by
  induction l generalizing i with
  | nil => simp at h
  | cons a r ih =>
    cases i with
    | zero =>
      simp at h; subst h
      simp
    | succ i =>
      have ha : a ≠ c := fun e => hn 0 (by omega) (by simp [e])
      rw [List.takeWhile_cons_of_pos (by simpa using ha), List.take_succ_cons]
      rw [ih (by simpa using h) fun k hk => by have := hn (k + 1) (by omega); simpa using this]
theorem takeWhile_none {l : List Nat} {c : Nat} (hn : c ∉ l) : l.takeWhile (· != c) = l := by
  induction l with
  | nil => rfl
  | cons a r ih =>
    simp only [List.mem_cons, not_or] at hn
    rw [List.takeWhile_cons_of_pos (by simpa using Ne.symm hn.1), ih hn.2]

theorem split_head (x : Str) : (Txt.split x (Str.ofString "/"))[0]? = some ⟨(x.cps.toList.takeWhile (· != 47)).toArray⟩ := by
  rw [slash_is]
  have whole : 47 ∉ x.cps.toList → some x = some (⟨(x.cps.toList.takeWhile (· != 47)).toArray⟩ : Str) := fun h => by
    rw [takeWhile_none h]
  have hk : ¬ (Builtin.Str.strKind x < Builtin.Str.strKind ⟨#[47]⟩) := by
    have h1 : Builtin.Str.strKind ⟨#[47]⟩ = 1 := by decide +kernel
    rw [h1]
    unfold Builtin.Str.strKind
    split
    · omega
    · split <;> omega
  unfold Txt.split
  by_cases hl : x.length < 1
  · have : x.cps.toList = [] := by
      have h : x.cps.size = 0 := by unfold Str.length at hl; omega
      apply List.eq_nil_of_length_eq_zero; simpa using h
    rw [if_pos (by simp only [Bool.or_eq_true, decide_eq_true_eq]; left; exact hl)]
    simpa using whole (by rw [this]; simp)
  · rw [if_neg (by
      simp only [Bool.or_eq_true, decide_eq_true_eq]
      rintro (h | h)
      · exact hl h
      · exact hk h)]
    have hat : ∀ i, StrLaws.At x ⟨#[47]⟩ x.length i ↔ x.cps.toList[i]? = some 47 := fun i => StrLaws.subAt_one x 47 i
    rcases StrLaws.occ_head x ⟨#[47]⟩ (x.length + 1) (by omega) with ⟨h0, hn⟩ | ⟨i, r, h0, ha, hn⟩
    · rw [if_pos (by rw [h0]; rfl)]
      refine whole fun hm => ?_
      obtain ⟨i, hi⟩ := List.mem_iff_getElem?.mp hm
      exact hn i ((hat i).mpr hi)
    · rw [if_neg (by rw [h0]; simp), h0, StrLaws.partsBetween_eq]
      show some (Builtin.Str.strSub x 0 i) = _
      refine congrArg some (Str.ext' ?_)
      have h1 := StrLaws.strSub_toList x 0 i
      rw [takeWhile_at ((hat i).mp ha) fun k hk q => hn k hk ((hat k).mpr q)]
      have h2 : (Builtin.Str.strSub x 0 i).cps.toList = x.cps.toList.take i := by rw [h1]; simp
      rw [← h2]

theorem placed_map (x : Str) (f : Nat → Nat → List Nat) (g : Nat → Nat) (h : ∀ i c, x.cps.toList[i]? = some c → f i c = [g c]) : (placed x f).toList = x.cps.toList.map g := by
  unfold placed
  have e : x.cps.mapIdx (fun i c => (f i c).toArray) = x.cps.map fun c => #[g c] := by
    apply Array.ext
    · simp
    · intro i h1 h2
      simp only [Array.getElem_mapIdx, Array.getElem_map]
      have hi : i < x.cps.size := by simpa using h1
      rw [h i x.cps[i] (by simp [hi])]
  rw [e]
  have : ∀ l : List Nat, ((l.map fun c => #[g c]).toArray.flatten).toList = l.map g := by
    intro l
    induction l with
    | nil => rfl
    | cons a r ih => simp at ih ⊢; exact ih
  have h3 := this x.cps.toList
  rw [← h3]
  simp

/-- a letter whose small form is one sign -/
theorem lower_map (x : Str) (g : Nat → Nat) (h : ∀ c ∈ x.cps.toList, c ≠ 0x3A3 ∧ Unicode.lowerOf c = [g c]) : (Txt.lower x).cps.toList = x.cps.toList.map g := by
  refine placed_map x _ g fun i c hc => ?_
  unfold Unicode.lowerAt
  have h1 : x.cps[i]? = some c := by simpa using hc
  rw [h1]
  obtain ⟨h2, h3⟩ := h c (List.mem_of_getElem? hc)
  have : (c == 0x3A3) = false := by simpa using h2
  simp [this, h3]

theorem token_cps (name : Str) (g : Nat → Nat) (h : ∀ c ∈ name.cps.toList, c ≠ 0x3A3 ∧ Unicode.lowerOf c = [g c]) : (token name).cps.toList = (name.cps.toList.takeWhile (· != 47)).map g := by
  rw [token_of (split_head name)]
  exact lower_map ⟨_⟩ g fun c hc => h c ((List.takeWhile_sublist _).subset (by simpa using hc))

theorem fits_iff (name a : Str) (g : Nat → Nat) (hn : ∀ c ∈ name.cps.toList, c ≠ 0x3A3 ∧ Unicode.lowerOf c = [g c]) (ha : ∀ c ∈ a.cps.toList, c ≠ 0x3A3 ∧ Unicode.lowerOf c = [g c]) :
    fitsOne name a = true ↔ a.cps.toList ≠ [42] ∧ Lies (a.cps.toList.map g) ((name.cps.toList.takeWhile (· != 47)).map g) := by
  unfold fitsOne
  rw [Bool.and_eq_true, occ_lies, token_cps name g hn, lower_map a g ha]
  refine and_congr_left fun _ => ?_
  rw [star_is, bne_iff_ne]
  refine not_congr ⟨fun e => by rw [e], fun e => Str.ext' (by show a.cps = #[42]; rw [← Array.toArray_toList (xs := a.cps), e])⟩
theorem sign_eq (a b : Nat) : (({ cps := #[a] } : Str) == { cps := #[b] }) = (a == b) := by
  by_cases h : a = b
  · simp [h]
  · have h1 : ({ cps := #[a] } : Str) ≠ { cps := #[b] } := fun e => h (by injection e with e; simpa using e)
    rw [beq_eq_false_iff_ne.mpr h1, beq_eq_false_iff_ne.mpr h]
theorem sign_slash (a : Nat) : (({ cps := #[a] } : Str) == Str.ofString "/") = (a == 47) := by rw [slash_is]; exact sign_eq a 47
end Mine
end
section
namespace Mine
theorem inst_up {g h : Heap} {L : Addr} {m : Str → Option Value} {x C : Addr} {ox : Obj} {od : Option Obj} (I : InstAt g x ox C od) (F : Fr g L h m) : InstAt h x ox C od :=
  ⟨F.keep _ _ I.at_, I.cls, I.no, by
    have := I.dict
    revert this
    cases ox.dict with
    | none => cases od with
      | none => exact id
      | some o => exact id
    | some a => cases od with
      | none => exact id
      | some o => exact fun e => F.keep _ _ e⟩
/-- an Entry's own dict, as __init__ leaves it -/
abbrev entryDict (h1 h2 h3 h4 : Int) (t1 t2 t3 t4 : Tok) (ua rl dl rr : Value) (n : Nat) : Obj :=
  dictOf [⟨h1, .str (Str.ofString "useragents") t1, ua⟩, ⟨h2, .str (Str.ofString "rulelines") t2, rl⟩, ⟨h3, .str (Str.ofString "delay") t3, dl⟩, ⟨h4, .str (Str.ofString "req_rate") t4, rr⟩] n
end Mine
local macro_rules | `(tactic| k_inst) => `(tactic| first | exact Mine.inst_up (by assumption) (by assumption) | exact Mine.inst_up (Mine.inst_up (by assumption) (by assumption)) (by assumption))
local macro_rules | `(tactic| walk_at "pyIter ref") => `(tactic| (k_here; refine Mine.stop ?_))
local macro_rules | `(tactic| walk_at "call builtin:str.lower") => `(tactic| first
  | ((rename (∀ a, a ∈ _ → Str.length a ≤ _) => hs'); (rename (_[_]? = some _) => hy'); (have hk' := hs' _ (List.mem_of_getElem? hy')); refine SCL.lower (by omega) ?_; intro _)
  | (refine SCL.lower (by omega) ?_; intro _))
set_option maxRecDepth 100000 in
set_option maxHeartbeats 8000000 in
theorem Mine.applies {w : World} {p : Program} {loose : List Str} {mean : ExcName → Option Value} {mg mb : Str → Option Value} {base h₀ : Heap} {L : Addr} {m : Str → Option Value} {env : Env} {s : Shared} {Q : Value → Shared → Prop} {E : Value → Shared → Prop}
  (hf : env.frame = some L) (hke : env.scope.kind = .function) (B : Below callerA base [] h₀) (F : Fr h₀ L s.heap m) (X : (Mine.hd08.heap_39 w.params).In h₀) (T : Top p loose mean mg mb h₀)
  {x d l : Addr} {h1 h2 h3 h4 : Int} {t1 t2 t3 t4 : Tok} {rl dl rr : Value} {n : Nat} {its : Array Value} {xs : List Str} {name : Str} {tn : Tok}
  (I : InstAt s.heap x (instObj 59 d) 59 (some (Mine.entryDict h1 h2 h3 h4 t1 t2 t3 t4 (.ref l) rl dl rr n))) (hl : s.heap.IsList l its) (hv : Mine.Pd Mine.StrV xs its.toList)
  (hlen : ∀ x ∈ xs, x.length ≤ 1000) (hnm : name.length ≤ 1000)
  (hpost : ∀ h' tk, (∀ b o, s.heap.get? b = some o → h'.get? b = some o) → Q (.bool (xs.any (Mine.fitsOne name))) { s with heap := h', toks := tk }) :
  wpAny (model PySem.Challenge.rw_kn0091_08.row.prog w) (callerA.deeper env) (call (.ref 49) [.ref x, .str name tn] []) Q E s := by
  revert X; k_fill; intro X
  refine wpAny_call (Mine.code_base (K := Mine.hd08.heap_39 w.params) B F X T rfl hf hke (by k_is) (by k_is) (by k_room) (BindsTo.of_eq rfl) (locs rfl) ?_ rfl rfl rfl (by decide))
  intro L' h₁ F' N' B' X' T'
  dsimp only
  clear F B X T
  repeat' (first | (k_unfold; (try dsimp only)) | walk1 | (dsimp only; walk1) | fail "no step")
  rename Fr _ _ _ _ => F9
  rename News _ _ _ _ => N9
  rename (List.map _ _ = Txt.split _ _) => hlk
  rename (_[_]? = some _) => hy9
  have htok := Mine.token_of (by rw [← hlk]; exact hy9)
  refine Mine.unstop (Mine.iter_list_s [] (its := its) (fun i u => ∀ j b, j < i → xs[j]? = some b → Mine.fitsOne name b = false) rfl (.inl hl) F9 N9 (fun j b hj => absurd hj (Nat.not_lt_zero j)) ?_ ?_)
  · intro i v u I' oI' h tk hv' hJ hoff0 F N
    have hoff := hoff0
    simp only [Mine.Off, and_true] at hoff
    simp only [Mine.over] at F
    obtain ⟨a, ha, t, rfl⟩ := Mine.pd_at hv i v (by simpa using hv')
    have hal := hlen a (List.mem_of_getElem? ha)
    have hnext : Mine.fitsOne name a = false → ∀ j b, j < i + 1 → xs[j]? = some b → Mine.fitsOne name b = false := fun e j b hj hb => by
      rcases Nat.lt_or_ge j i with q | q
      · exact hJ j b q hb
      · obtain rfl : j = i := by omega
        rw [ha] at hb; cases hb; exact e
    (repeat' (first | (k_unfold; (try dsimp only)) | walk1 | (dsimp only; walk1) | fail "no step"))
    · rename ((a != Str.ofString "*") = true) => e1
      rename (List.isEmpty _ = true) => e2
      dsimp only [Mine.TurnPost]
      refine Mine.TurnEnd.mk' [] (by assumption) (by assumption) hoff0 ⟨fun z z1 _ => (if_neg z1).trans (if_neg z1), rfl, hnext ?_⟩
      unfold Mine.fitsOne
      rw [htok, e2]; simp
    · rename ((a != Str.ofString "*") = true) => e1
      rename (List.isEmpty _ = false) => e2
      rename Fr s.heap _ _ _ => F8
      dsimp only [Mine.TurnPost]
      refine Mine.LeaveB.intro F8 ?_
      have e3 : xs.any (Mine.fitsOne name) = true := List.any_eq_true.mpr ⟨a, List.mem_of_getElem? ha, by unfold Mine.fitsOne; rw [htok, e2, e1]; rfl⟩
      rw [e3] at hpost
      exact hpost _ _ F8.keep
    · rename ((a != Str.ofString "*") = false) => e1
      dsimp only [Mine.TurnPost]
      refine Mine.TurnEnd.mk' [] (by assumption) (by assumption) hoff0 ⟨fun z z1 _ => if_neg z1, rfl, hnext ?_⟩
      unfold Mine.fitsOne
      rw [e1]; rfl
  · intro u h tk hJ F N
    simp only [Mine.over] at F
    dsimp only
    repeat' (first | (k_unfold; (try dsimp only)) | walk1 | (dsimp only; walk1) | fail "no step")
    refine Mine.LeaveB.intro F ?_
    have e3 : xs.any (Mine.fitsOne name) = false := List.any_eq_false.mpr fun a ha q => by
      obtain ⟨j, hj⟩ := List.mem_iff_getElem?.mp ha
      have hjl : j < xs.length := by
        rcases Nat.lt_or_ge j xs.length with q | q
        · exact q
        · rw [List.getElem?_eq_none q] at hj; cases hj
      have := hJ j a (by have := Mine.pd_len hv; simp at this; omega) hj
      rw [this] at q; cases q
    rw [e3] at hpost
    exact hpost _ _ F.keep
local macro_rules | `(tactic| walk_at "compareOp In str ref") => `(tactic| (k_here; k_dflt (refine Mine.in_b (by assumption) (by k_asm) (by assumption) ?_)))
set_option maxRecDepth 100000 in
set_option maxHeartbeats 8000000 in
theorem Mine.appliesNone {w : World} {p : Program} {loose : List Str} {mean : ExcName → Option Value} {mg mb : Str → Option Value} {base h₀ : Heap} {L : Addr} {m : Str → Option Value} {env : Env} {s : Shared} {Q : Value → Shared → Prop} {E : Value → Shared → Prop}
  (hf : env.frame = some L) (hke : env.scope.kind = .function) (B : Below callerA base [] h₀) (F : Fr h₀ L s.heap m) (X : (Mine.hd08.heap_39 w.params).In h₀) (T : Top p loose mean mg mb h₀)
  {x d l : Addr} {h1 h2 h3 h4 : Int} {t1 t2 t3 t4 : Tok} {rl dl rr : Value} {n : Nat} {its : Array Value} {xs : List Str}
  (I : InstAt s.heap x (instObj 59 d) 59 (some (Mine.entryDict h1 h2 h3 h4 t1 t2 t3 t4 (.ref l) rl dl rr n))) (hl : s.heap.IsList l its) (hv : Mine.Pd Mine.StrV xs its.toList)
  (hpost : ∀ h' tk, (∀ b o, s.heap.get? b = some o → h'.get? b = some o) → Q (.bool (xs.any (· == Str.ofString "*"))) { s with heap := h', toks := tk }) :
  wpAny (model PySem.Challenge.rw_kn0091_08.row.prog w) (callerA.deeper env) (call (.ref 49) [.ref x, .none] []) Q E s := by
  revert X; k_fill; intro X
  refine wpAny_call (Mine.code_base (K := Mine.hd08.heap_39 w.params) B F X T rfl hf hke (by k_is) (by k_is) (by k_room) (BindsTo.of_eq rfl) (locs rfl) ?_ rfl rfl rfl (by decide))
  intro L' h₁ F' N' B' X' T'
  dsimp only
  clear F B X T
  repeat' (first | (k_unfold; (try dsimp only)) | walk1 | (dsimp only; walk1) | fail "no step")
  rename Fr _ _ _ _ => F9
  exact Mine.LeaveB.intro F9 (hpost _ _ F9.keep)
end
section
namespace Mine
def GoodRow (l : List Int) : Prop := l.length ≤ 8 ∧ ∀ n ∈ l, 0 ≤ n ∧ n ≤ 10
/-- a row of the ledger's tail -/
def RowV (es : List (Addr × Obj)) (ns : List Int) (v : Value) : Prop := ∃ a vs c, v = .ref a ∧ (a, W.listOf vs.toArray c) ∈ es ∧ Pd IntV ns vs
def third : List (Addr × Obj) → Addr
  | _ :: _ :: p :: _ => p.1
  | _ => 0
def Build (lt : Addr) (rest : List (Addr × Obj)) (nw : List (Addr × Obj)) : Prop :=
  ∃ la ls refs cur vs es c1 c2, nw = (lt, W.listOf (refs ++ [Value.ref la]).toArray c1) :: (la, W.listOf vs.toArray c2) :: (rest ++ es) ∧
    Pd (RowV es) ls refs ∧ Pd IntV cur vs ∧ GoodRow cur ∧ (∀ l ∈ ls, GoodRow l) ∧ ls.length ≤ 11 ∧ (@Ne Nat la lt) ∧ Off la rest ∧ Off la es ∧ Off lt es ∧ Off (third rest) es
theorem row_up {es es' : List (Addr × Obj)} (h : ∀ p ∈ es, p ∈ es') {ls : List (List Int)} {refs : List Value} (p : Pd (RowV es) ls refs) : Pd (RowV es') ls refs :=
  pd_mono p fun _ _ _ ⟨a, vs, c, e, hm, hp⟩ => ⟨a, vs, c, e, h _ hm, hp⟩
theorem good_nil : GoodRow [] := ⟨Nat.zero_le _, fun _ h => absurd h List.not_mem_nil⟩
theorem good_snoc {l : List Int} {x : Int} (h : GoodRow l) (hl : l.length ≠ 8) (h0 : 0 ≤ x) (h1 : x ≤ 10) : GoodRow (l ++ [x]) := by
  refine ⟨by have := h.1; rw [List.length_append]; show l.length + 1 ≤ 8; omega, fun n hn => ?_⟩
  rcases List.mem_append.mp hn with hn | hn
  · exact h.2 n hn
  · rw [List.mem_singleton.mp hn]; exact ⟨h0, h1⟩
theorem int_snoc {l : List Int} {vs : List Value} {x : Int} {t : Tok} (h : Pd IntV l vs) : Pd IntV (l ++ [x]) (vs ++ [.int x t]) := PySem.Paired.snoc h ⟨t, rfl⟩
end Mine
namespace Mine
theorem good_last {ls : List (List Int)} {cur : List Int} (h : ∀ l ∈ ls, GoodRow l) (hc : GoodRow cur) : ∀ l ∈ ls ++ [cur], GoodRow l := fun l hl => by
  rcases List.mem_append.mp hl with hl | hl
  · exact h l hl
  · rw [List.mem_singleton.mp hl]; exact hc
theorem off_lt {D : Addr} : ∀ {l : List (Addr × Obj)}, AllLt D l → Off D l
  | [], _ => trivial
  | _ :: _, h => ⟨Nat.ne_of_lt h.1, off_lt h.2⟩
theorem build_news {g h : Heap} {L : Addr} {a i r l s1 s2 x4 x3 x2 x1 : Addr × Obj} {es : List (Addr × Obj)} (N : News g L h (a :: i :: r :: l :: s1 :: s2 :: x4 :: x3 :: x2 :: x1 :: es)) :
    News g L h (i :: r :: a :: ([s1, s2, x4, x3, x2, x1] ++ l :: es)) := fun p hp => N p (by
  simp only [List.cons_append, List.nil_append, List.mem_cons] at hp ⊢
  rcases hp with q | q | q | q | q | q | q | q | q | q | q <;> simp [q])
end Mine
namespace Mine
def Mark : Prop := True
def Cut08 (h₀ : Heap) (L : Addr) (m : Str → Option Value) (s : Shared) (lt : Addr) (rest : List (Addr × Obj)) (f : Flow) (s' : Shared) : Prop :=
  f = .next ∧ ∃ h tk ls refs es c, s' = { s with heap := h, toks := tk } ∧ Fr h₀ L h m ∧ News h₀ L h ((lt, W.listOf refs.toArray c) :: (rest ++ es)) ∧ Pd (RowV es) ls refs ∧ (∀ l ∈ ls, GoodRow l) ∧ ls.length ≤ 12 ∧ Off (third rest) es
theorem last_is (p : List Value) (y : Value) : kl_last (p ++ [y]).toArray.toList = some (p, y) := by
  show kl_last (p ++ [y]) = some (p, y)
  induction p with
  | nil => rfl
  | cons a r ih =>
    cases r with
    | nil => rfl
    | cons b t =>
      show kl_last (a :: b :: (t ++ [y])) = _
      have ih' : kl_last (b :: (t ++ [y])) = some (b :: t, y) := ih
      unfold kl_last
      rw [ih']
end Mine
namespace Mine
theorem cut08 {prog : Program} {w : World} {A : Around} {E : Value → Shared → Prop} {s : Shared} {h₀ : Heap} {L : Addr} {m : Str → Option Value} {tree : Sem Flow} {Q : Flow → Shared → Prop} {lt : Addr} {ol : Obj} {la s1 s2 x4 x3 x2 x1 : Addr × Obj} {es : List (Addr × Obj)}
    (_F : Fr h₀ L s.heap m) (_N : News h₀ L s.heap ((lt, ol) :: la :: s1 :: s2 :: x4 :: x3 :: x2 :: x1 :: es))
    (h1 : wpAny (model prog w) A tree (Cut08 h₀ L m s lt [s1, s2, x4, x3, x2, x1]) E s) (h2 : ∀ f s', Cut08 h₀ L m s lt [s1, s2, x4, x3, x2, x1] f s' → Q f s') : wpAny (model prog w) A tree Q E s :=
  wpAny_mono h1 h2 fun _ _ e => e
end Mine
namespace Mine
theorem cut_news1 {g h : Heap} {L : Addr} {a r l s1 s2 x4 x3 x2 x1 : Addr × Obj} {es : List (Addr × Obj)} (N : News g L h (a :: r :: l :: s1 :: s2 :: x4 :: x3 :: x2 :: x1 :: es)) :
    News g L h (r :: ([s1, s2, x4, x3, x2, x1] ++ es)) := fun p hp => N p (by
  simp only [List.cons_append, List.nil_append, List.mem_cons] at hp ⊢
  rcases hp with q | q | q | q | q | q | q | q <;> simp [q])
theorem cut_news2 {g h : Heap} {L : Addr} {a r l s1 s2 x4 x3 x2 x1 : Addr × Obj} {es : List (Addr × Obj)} (N : News g L h (a :: r :: l :: s1 :: s2 :: x4 :: x3 :: x2 :: x1 :: es)) :
    News g L h (r :: ([s1, s2, x4, x3, x2, x1] ++ l :: es)) := fun p hp => N p (by
  simp only [List.cons_append, List.nil_append, List.mem_cons] at hp ⊢
  rcases hp with q | q | q | q | q | q | q | q | q <;> simp [q])
/-- a cell of the ledger that changes -/
def Cell (pre : List (Addr × Obj)) (c : Addr) (post nw : List (Addr × Obj)) : Prop := ∃ o v, nw = pre ++ (c, o) :: post ∧ o.data = .cell v
end Mine
namespace Mine
def mk (l : List Nat) : Str := ⟨l.toArray⟩
theorem mk_cps (l : List Nat) : (mk l).cps.toList = l := rfl
def codes8 : List Nat := [0xC9, 0xE9, 0x416, 0x436, 0x1E9E, 0xDF, 0x212A, 0x6B, 0x53, 0x73, 0x2F]
def c8 (n : Int) : Nat := codes8.getD n.toNat 0x2F
def s8 (n : Int) : Nat := [0xE9, 0xE9, 0x436, 0x436, 0xDF, 0xDF, 0x6B, 0x6B, 0x73, 0x73, 0x2F].getD n.toNat 0x2F
def signsL : List Str := [Str.ofString "É", Str.ofString "é", Str.ofString "Ж", Str.ofString "ж", Str.ofString "ẞ", Str.ofString "ß", Str.ofString "\u212A", Str.ofString "k", Str.ofString "S", Str.ofString "s", Str.ofString "/"]
def smallsL : List Str := [Str.ofString "é", Str.ofString "é", Str.ofString "ж", Str.ofString "ж", Str.ofString "ß", Str.ofString "ß", Str.ofString "k", Str.ofString "k", Str.ofString "s", Str.ofString "s", Str.ofString "/"]
theorem ten {n : Int} (h0 : 0 ≤ n) (h1 : n ≤ 10) : n = 0 ∨ n = 1 ∨ n = 2 ∨ n = 3 ∨ n = 4 ∨ n = 5 ∨ n = 6 ∨ n = 7 ∨ n = 8 ∨ n = 9 ∨ n = 10 := by omega
theorem signs_at {n : Int} (h : 0 ≤ n ∧ n ≤ 10) : signsL[n.toNat]? = some (mk [c8 n]) := by
  rcases ten h.1 h.2 with rfl | rfl | rfl | rfl | rfl | rfl | rfl | rfl | rfl | rfl | rfl <;> decide +kernel
theorem smalls_at {n : Int} (h : 0 ≤ n ∧ n ≤ 10) : smallsL[n.toNat]? = some (mk [s8 n]) := by
  rcases ten h.1 h.2 with rfl | rfl | rfl | rfl | rfl | rfl | rfl | rfl | rfl | rfl | rfl <;> decide +kernel
theorem empty8 : Str.ofString "" = mk [] := by decide +kernel
def text8 (f : Int → Nat) (l : List Int) : Str := mk (l.map f)
theorem join8 (f : Int → Nat) (l : List Int) : Txt.join (Str.ofString "") (l.map fun n => mk [f n]) = text8 f l := by
  rw [eq_of_beq (join_plain_closes (Str.ofString "") _), empty8]
  have := join_ones (l.map f)
  rw [List.map_map] at this
  exact this
theorem text8_len (f : Int → Nat) (l : List Int) : (text8 f l).length = l.length := by
  show (l.map f).toArray.size = _
  simp
theorem joinw8 (f : Int → Nat) (l : List Int) : ((l.map fun n => mk [f n]).map (·.length)).sum + (l.map fun n => mk [f n]).length = 2 * l.length := by
  induction l with
  | nil => rfl
  | cons a r ih =>
    simp only [List.map_cons, List.sum_cons, List.length_cons] at ih ⊢
    have : (mk [f a]).length = 1 := rfl
    omega
/-- how far the pieces have come -/
def piecesTo (tk : List Nat) (i : Nat) : List Str := mk [] :: (List.range i).flatMap fun s => (List.range (tk.length - s)).map fun e => mk ((tk.drop s).take (e + 1))
def piecesRow (tk : List Nat) (i j : Nat) : List Str := piecesTo tk i ++ (List.range j).map fun e => mk ((tk.drop i).take (e + 1))
theorem pieces_next (tk : List Nat) (i : Nat) : piecesRow tk i (tk.length - i) = piecesTo tk (i + 1) := by
  unfold piecesRow piecesTo
  rw [List.range_succ, List.flatMap_append]
  simp
theorem pieces_snoc (tk : List Nat) (i j : Nat) : piecesRow tk i (j + 1) = piecesRow tk i j ++ [mk ((tk.drop i).take (j + 1))] := by
  unfold piecesRow
  rw [List.range_succ, List.map_append, List.append_assoc]; rfl
theorem pieces_len (tk : List Nat) (h : tk.length ≤ 8) (i : Nat) (hi : i ≤ tk.length) : (piecesTo tk i).length ≤ 1 + 8 * i := by
  induction i with
  | zero => simp [piecesTo]
  | succ i ih =>
    rw [← pieces_next]
    unfold piecesRow
    have := ih (by omega)
    simp; omega
theorem mk_inj {a b : List Nat} (h : mk a = mk b) : a = b := by
  have := congrArg (fun x : Str => x.cps.toList) h
  exact this
theorem pieces_iff (tk p : List Nat) : (piecesTo tk tk.length).any (· == mk p) = true ↔ Lies p tk := by
  unfold Lies
  rw [List.any_eq_true]
  constructor
  · rintro ⟨x, hx, ex⟩
    obtain rfl := eq_of_beq ex
    rcases List.mem_cons.mp hx with q | q
    · have := mk_inj q
      subst this
      exact ⟨0, by simp, by simp⟩
    · obtain ⟨s, hs, q⟩ := List.mem_flatMap.mp q
      obtain ⟨e, he, q⟩ := List.mem_map.mp q
      have hs' := List.mem_range.mp hs
      have he' := List.mem_range.mp he
      have := mk_inj q
      subst this
      have hl : ((tk.drop s).take (e + 1)).length = e + 1 := by simp; omega
      exact ⟨s, by rw [hl]; omega, by rw [hl]⟩
  · rintro ⟨i, h1, h2⟩
    refine ⟨mk p, ?_, beq_self_eq_true _⟩
    cases p with
    | nil => exact List.mem_cons_self
    | cons a r =>
      simp only [List.length_cons] at h1 h2
      refine List.mem_cons_of_mem _ (List.mem_flatMap.mpr ⟨i, List.mem_range.mpr (by omega), List.mem_map.mpr ⟨r.length, List.mem_range.mpr (by omega), ?_⟩⟩)
      rw [h2]
def g8 (c : Nat) : Nat := if c = 0xC9 then 0xE9 else if c = 0x416 then 0x436 else if c = 0x1E9E then 0xDF else if c = 0x212A then 0x6B else if c = 0x53 then 0x73 else c
theorem codes_low : ∀ c ∈ codes8, c ≠ 0x3A3 ∧ Unicode.lowerOf c = [g8 c] := by decide +kernel
theorem c8_mem {n : Int} (h : 0 ≤ n ∧ n ≤ 10) : c8 n ∈ codes8 := by
  rcases ten h.1 h.2 with rfl | rfl | rfl | rfl | rfl | rfl | rfl | rfl | rfl | rfl | rfl <;> decide +kernel
theorem g8_c8 {n : Int} (h : 0 ≤ n ∧ n ≤ 10) : g8 (c8 n) = s8 n := by
  rcases ten h.1 h.2 with rfl | rfl | rfl | rfl | rfl | rfl | rfl | rfl | rfl | rfl | rfl <;> decide +kernel
theorem c8_47 {n : Int} (h : 0 ≤ n ∧ n ≤ 10) : (c8 n != 47) = (n != 10) := by
  rcases ten h.1 h.2 with rfl | rfl | rfl | rfl | rfl | rfl | rfl | rfl | rfl | rfl | rfl <;> decide +kernel
theorem tw8 : ∀ {l : List Int}, (∀ n ∈ l, 0 ≤ n ∧ n ≤ 10) → ((l.map c8).takeWhile (· != 47)).map g8 = (l.takeWhile (· != 10)).map s8
  | [], _ => rfl
  | n :: r, h => by
    have hn := h n List.mem_cons_self
    have ih := tw8 fun k hk => h k (List.mem_cons_of_mem _ hk)
    rw [List.map_cons, List.takeWhile_cons, List.takeWhile_cons, c8_47 hn]
    cases (n != 10) with
    | false => rfl
    | true => simp only [if_true, List.map_cons]; rw [ih, g8_c8 hn]
theorem map_g8 {l : List Int} (h : ∀ n ∈ l, 0 ≤ n ∧ n ≤ 10) : (l.map c8).map g8 = l.map s8 := by
  rw [List.map_map]
  exact List.map_congr_left fun n hn => g8_c8 (h n hn)
theorem fits8 {k j : List Int} (hk : ∀ n ∈ k, 0 ≤ n ∧ n ≤ 10) (hj : ∀ n ∈ j, 0 ≤ n ∧ n ≤ 10) :
    fitsOne (text8 c8 k) (text8 c8 j) = (piecesTo ((k.takeWhile (· != 10)).map s8) ((k.takeWhile (· != 10)).map s8).length).any (· == text8 s8 j) := by
  have low : ∀ l : List Int, (∀ n ∈ l, 0 ≤ n ∧ n ≤ 10) → ∀ c ∈ (text8 c8 l).cps.toList, c ≠ 0x3A3 ∧ Unicode.lowerOf c = [g8 c] := fun l hl c hc => by
    obtain ⟨n, hn, rfl⟩ := List.mem_map.mp (show c ∈ l.map c8 from hc)
    exact codes_low _ (c8_mem (hl n hn))
  rw [Bool.eq_iff_iff, fits_iff _ _ g8 (low k hk) (low j hj)]
  unfold text8
  rw [pieces_iff, mk_cps, mk_cps, tw8 hk, map_g8 hj]
  refine and_iff_right ?_
  intro e
  have h42 : 42 ∈ j.map c8 := by rw [e]; exact List.mem_cons_self
  obtain ⟨n, hn, e⟩ := List.mem_map.mp h42
  have h1 := c8_mem (hj n hn)
  rw [e] at h1
  exact absurd h1 (by decide)
/-- the others' texts -/
def others (f : Int → Nat) (n : Nat) (ls : List (List Int)) (k : Nat) : List Str := ((List.range n).filter fun j => decide (j ≠ k)).map fun j => text8 f (ls.getD j [])
theorem getD_of {ls : List (List Int)} {j : Nat} {l : List Int} (h : ls[j]? = some l) : ls.getD j [] = l := by rw [List.getD_eq_getElem?_getD, h]; rfl
end Mine
namespace Mine
theorem tw_allI {l : List Int} {c : Int} (h : c ∉ l) : l.takeWhile (· != c) = l := by
  induction l with
  | nil => rfl
  | cons a r ih =>
    simp only [List.mem_cons, not_or] at h
    rw [List.takeWhile_cons_of_pos (by simpa using Ne.symm h.1), ih h.2]
theorem tw_stopI {l r : List Int} {c : Int} (h : c ∉ l) : (l ++ c :: r).takeWhile (· != c) = l := by
  induction l with
  | nil => simp
  | cons a t ih =>
    simp only [List.mem_cons, not_or] at h
    rw [List.cons_append, List.takeWhile_cons_of_pos (by simpa using Ne.symm h.1), ih h.2]
theorem any_next (f : Nat → Bool) (m : Nat) : (List.range (m + 1)).any f = ((List.range m).any f || f m) := by rw [List.range_succ]; simp
theorem any_filter_map {α β : Type} (l : List α) (p : α → Bool) (f : α → β) (q : β → Bool) : ((l.filter p).map f).any q = l.any fun a => p a && q (f a) := by
  induction l with
  | nil => rfl
  | cons a r ih =>
    by_cases h : p a = true
    · rw [List.filter_cons_of_pos h, List.map_cons, List.any_cons, List.any_cons, ih, h, Bool.true_and]
    · have h' : p a = false := by simpa using h
      rw [List.filter_cons_of_neg h, List.any_cons, ih, h', Bool.false_and, Bool.false_or]
def tok8 (row : List Int) : List Nat := (row.takeWhile (· != 10)).map s8
theorem due8 {ls : List (List Int)} (hg : ∀ l ∈ ls, GoodRow l) {i n : Nat} {rowk : List Int} (hk : ls[i]? = some rowk) (hn : n = ls.length) :
    (others c8 n ls i).any (fitsOne (text8 c8 rowk)) = (List.range n).any fun j => decide (j ≠ i) && (piecesTo (tok8 rowk) (tok8 rowk).length).any (· == text8 s8 (ls.getD j [])) := by
  unfold others
  rw [any_filter_map, Bool.eq_iff_iff, List.any_eq_true, List.any_eq_true]
  have key : ∀ j ∈ List.range n, (fitsOne (text8 c8 rowk) (text8 c8 (ls.getD j []))) = (piecesTo (tok8 rowk) (tok8 rowk).length).any (· == text8 s8 (ls.getD j [])) := fun j hj => by
    have hj' : j < ls.length := by rw [← hn]; exact List.mem_range.mp hj
    have e := List.getElem?_eq_getElem hj'
    rw [getD_of e]
    exact fits8 (hg rowk (List.mem_of_getElem? hk)).2 (hg _ (List.getElem_mem hj')).2
  constructor
  · rintro ⟨j, hj, e⟩
    exact ⟨j, hj, by rw [← key j hj]; exact e⟩
  · rintro ⟨j, hj, e⟩
    exact ⟨j, hj, by rw [key j hj]; exact e⟩
def LstP (lt : Addr) (rest : List (Addr × Obj)) (l : List Str) (nw : List (Addr × Obj)) : Prop := ∃ zs c, nw = (lt, W.listOf zs.toArray c) :: rest ∧ Pd StrV l zs
theorem LstP.start (lt : Addr) (rest : List (Addr × Obj)) (tk : List Nat) (t : Tok) (c : Nat) : LstP lt rest (piecesTo tk 0) ((lt, W.listOf #[Value.str (Str.ofString "") t] c) :: rest) :=
  ⟨[_], c, rfl, .cons ⟨t, by rw [empty8]⟩ .nil⟩
theorem LstP.row {lt : Addr} {rest : List (Addr × Obj)} {tk : List Nat} {i : Nat} {zs : List Value} {c : Nat} (h : Pd StrV (piecesTo tk i) zs) : LstP lt rest (piecesRow tk i 0) ((lt, W.listOf zs.toArray c) :: rest) :=
  ⟨zs, c, rfl, by unfold piecesRow; simpa using h⟩
theorem join1 (l : List Nat) : Txt.join (Str.ofString "") (l.map fun c => mk [c]) = mk l := by
  rw [eq_of_beq (join_plain_closes (Str.ofString "") _), empty8]
  exact join_ones l
theorem joinw1 (l : List Nat) : ((l.map fun c => mk [c]).map (·.length)).sum + (l.map fun c => mk [c]).length = 2 * l.length := by
  induction l with
  | nil => rfl
  | cons a r ih =>
    simp only [List.map_cons, List.sum_cons, List.length_cons] at ih ⊢
    have : (mk [a]).length = 1 := rfl
    omega
theorem tok_map (row : List Int) : ((row.takeWhile (· != 10)).map fun n => mk [s8 n]) = (tok8 row).map fun c => mk [c] := by unfold tok8; rw [List.map_map]; rfl
theorem pieces_len2 {tk : List Nat} (h : tk.length ≤ 8) {i j : Nat} (hi : i < tk.length) (hj : j ≤ tk.length - i) : (piecesRow tk i j).length ≤ 100 := by
  unfold piecesRow
  have := pieces_len tk h i (by omega)
  simp; omega
section
variable {prog : Program} {w : World} {A : Around} {E : Value → Shared → Prop} {s : Shared} {h₀ : Heap} {L l : Addr} {m : Str → Option Value} {news : List (Addr × Obj)} {n : Nat} {xs : List Value} {Q : Value → Shared → Prop} {value slice : PySem.Expr} {k k2 : Int} {t t2 : Tok}
theorem pick_mid (xs : List Value) {a b : Int} (h0 : 0 ≤ a) (h1 : a ≤ b) (h2 : b ≤ xs.length) : kms_pick xs (some a) (some b) = (xs.drop a.toNat).take (b - a).toNat := by
  unfold kms_pick kms_lo kms_hi
  have q1 : ¬ (a < 0) := by omega
  have q2 : ¬ (b < 0) := by omega
  simp only [q1, q2, if_false]
  congr 1
  · omega
  · congr 1; omega
/-- l[j:k] -/
theorem slice_mid (F : Fr h₀ L s.heap m) (N : News h₀ L s.heap news) (hl : (l, W.listOf xs.toArray n) ∈ news) (h0 : 0 ≤ k) (h1 : k ≤ k2) (h2 : k2 ≤ xs.length)
    (h : ∀ D h', Fr h₀ L h' m → News h₀ L h' ((D, W.listOf ((xs.drop k.toNat).take (k2 - k).toNat).toArray 0) :: news) → (∀ p ∈ news, p.1 < D) → Q (.ref D) { s with heap := h' })
    (hs : subscripted slice false (.ref l) (.ref s.heap.objs.size) = operate [.ref s.heap.objs.size, .ref l] (getItem (.ref l) (.ref s.heap.objs.size))) (ht : ∀ r, letTemporaryGo value (.ref l) r = pure ()) (hz : xs.length ≤ sizeLine) :
    wpAny (model prog w) A (subscriptTail value slice (.ref l) (.ref s.heap.objs.size)) Q E { s with heap := s.heap.push { cls := .type "slice", data := .fields #[.int k t, .int k2 t2, .none] } } :=
  slice_l F N hl (.int _ _) (.int _ _) (fun D h' F' N' l1 => h D h' F' (by rw [← pick_mid xs h0 h1 h2]; exact N') l1) hs ht hz
end
end Mine
namespace Mine
theorem news_pick2 {g h : Heap} {L : Addr} {a b : Addr × Obj} {l : List (Addr × Obj)} (N : News g L h (a :: b :: l)) : News g L h (b :: a :: l) := fun p hp => N p (by
  simp only [List.mem_cons] at hp ⊢
  rcases hp with q | q | q
  · exact .inr (.inl q)
  · exact .inl q
  · exact .inr (.inr q))
section
variable {prog : Program} {w : World} {A : Around} {E : Value → Shared → Prop} {s : Shared} {g : Heap} {L D : Addr} {vs : List Value} {n : Nat} {news : List (Addr × Obj)} {xs : List Str} {k : Str} {t : Tok} {Q : Value → Shared → Prop}
theorem in_l (N : News g L s.heap news) (hm : (D, W.listOf vs.toArray n) ∈ news) (hi : Pd StrV xs vs) (h : Q (.bool (xs.any (· == k))) s) : wpAny (model prog w) A (compareOp .In (.str k t) (.ref D)) Q E s :=
  in_list_strs (is_l N hm) (strs_pd hi) h
end
end Mine
namespace Mine
theorem others_len {ls : List (List Int)} (hg : ∀ l ∈ ls, GoodRow l) (n i : Nat) : ∀ x ∈ others c8 n ls i, x.length ≤ 1000 := fun x hx => by
  obtain ⟨j, _, rfl⟩ := List.mem_map.mp hx
  rw [text8_len]
  have : GoodRow (ls.getD j []) := by
    rw [List.getD_eq_getElem?_getD]
    cases e : ls[j]? with
    | none => exact good_nil
    | some l => exact hg l (List.mem_of_getElem? e)
  have := this.1
  omega
end Mine
end
section
local macro_rules | `(tactic| walk_at "subscriptTail") => `(tactic| (k_here; (with_reducible show wpAny _ _ (subscriptTail _ _ (Value.ref _) (Value.int _ _)) _ _ _); refine Mine.stop ?_))
local macro_rules | `(tactic| walk_at "pyIter ref") => `(tactic| (k_here; refine Mine.stop ?_))
local macro_rules | `(tactic| walk_at "call builtin:list.append") => `(tactic| (k_here; (with_reducible show wpAny _ _ (call (Value.builtin _) [Value.ref _, _]) _ _ _); k_dflt (refine' Mine.append_l ?k1 ?k2 ?k3 ?_ ?z; (case k1 => k_asm); (case k2 => k_asm); (case k3 => k_upd); (case z => (rw [PySem.sizeLine_eq]; omega)); k_whole); intro h' F' N'; (try k_sweep)))
local macro_rules | `(tactic| walk_at "getItem ref int") => `(tactic| (k_here; k_dflt (refine Mine.get_last (by k_asm) (by k_mem) ?_)))
local macro_rules | `(tactic| walk_at "subscriptTail") => `(tactic| (k_here; (with_reducible show wpAny _ _ (subscriptTail _ _ (Value.ref _) (Value.int _ _)) _ _ _); k_dflt (refine Mine.tail_last (by k_asm) (by k_mem) ?_)))
local macro_rules | `(tactic| walk_at "setItem ref int") => `(tactic| (k_here; k_dflt (refine' Mine.set_last ?k1 ?k2 ?k3 ?_; (case k1 => k_asm); (case k2 => k_asm); (case k3 => k_upd); k_whole); intro h' F' N'; (try k_sweep)))
local macro_rules | `(tactic| walk_at "call builtin:len") => `(tactic| (k_here; (with_reducible show wpAny _ _ (call (Value.builtin "len") [Value.ref _]) _ _ _); k_dflt (refine' Mine.len_l ?k1 ?k2 ?k3 ?_; (case k1 => k_asm); (case k2 => k_mem); (case k3 => (rw [PySem.sizeLine_eq]; (try simp only [List.length_append, List.length_cons, List.length_nil]); omega)); k_whole)))
local macro_rules | `(tactic| walk_at "binaryOp Add ref ref") => `(tactic| (k_here; k_dflt (refine' Mine.add_l ?k1 ?k2 ?k3 ?k4 ?k5 ?_; (case k1 => k_asm); (case k2 => k_asm); (case k3 => k_mem); (case k4 => k_mem); (case k5 => (rw [PySem.sizeLine_eq]; (try simp only [List.length_append, List.length_cons, List.length_nil, List.length_take, List.length_drop]); omega)); k_whole); intro D' h' F' N' l1; (try k_lt l1); (try k_sweep)))
local macro_rules | `(tactic| walk_at "call type:list") => `(tactic| (k_here; (with_reducible show wpAny _ _ (call (Value.type _) [Value.ref _]) _ _ _); k_dflt (refine' Mine.copy_l ?k1 ?k2 ?k3 ?k4 ?_; (case k1 => k_asm); (case k2 => k_asm); (case k3 => k_mem); (case k4 => (rw [PySem.sizeLine_eq]; (try simp only [List.length_append, List.length_cons, List.length_nil, List.length_take, List.length_drop]); omega)); k_whole); intro D' c' h' F' N' l1; (try k_lt l1); (try k_sweep)))
local macro_rules | `(tactic| walk_at "subscriptTail Name Slice ref ref") => `(tactic| (k_here; (with_reducible show wpAny _ _ (subscriptTail _ (PySem.Expr.Slice _ _ none _) (Value.ref _) (Value.ref _)) _ _ _); k_dflt ((refine' Mine.slice_mid ?F ?N ?l ?p ?p2 ?p3 ?_ ?s ?t ?z); (case F => k_asm); (case N => k_asm); (case l => k_mem); (case p => omega); (case p2 => omega); (case p3 => omega); (case s => with_unfolding_all rfl); (case t => kmk_pure); (case z => (rw [PySem.sizeLine_eq]; omega))); intro D' h' F' N' l1; (try k_lt l1); (try k_sweep)))
local macro_rules | `(tactic| walk_at "eval ListComp") => `(tactic| (k_here; first
  | (lcg_look; k_dflt (refine LCg.ListComp_U (F₀ := by k_asm) (by with_unfolding_all rfl) (by decide) (by rfl) (by decide) (by rfl) ?_); k_dflt lcg_toSrc)
  | (lcf_look; k_dflt (refine LCg.ListComp_U (F₀ := by k_asm) (by with_unfolding_all rfl) (by decide) (by rfl) (by decide) (by rfl) ?_); k_dflt lcg_toSrc)
  | (lct_look; k_dflt (refine LCt.ListComp_T (F₀ := by k_asm) (by with_unfolding_all rfl) (by decide) (by rfl) (by decide) (by rfl) ?_); k_dflt lct_toSrc)))
local macro_rules | `(tactic| walk_at "exec Assign cons ListComp") => `(tactic| (k_here; first
  | (lcg_look; k_dflt (refine LCg.Assign_ListComp_U (F₀ := by k_asm) (by rfl) (by with_unfolding_all rfl) (by with_unfolding_all rfl) (by decide) (by rfl) (by decide) (by rfl) (by rfl) (by rfl) ?_); k_dflt lcg_toSrc)
  | (lcf_look; k_dflt (refine LCg.Assign_ListComp_U (F₀ := by k_asm) (by rfl) (by with_unfolding_all rfl) (by with_unfolding_all rfl) (by decide) (by rfl) (by decide) (by rfl) (by rfl) (by rfl) ?_); k_dflt lcg_toSrc)
  | (lct_look; k_dflt (refine LCt.Assign_ListComp_T (F₀ := by k_asm) (by rfl) (by with_unfolding_all rfl) (by with_unfolding_all rfl) (by decide) (by rfl) (by decide) (by rfl) (by rfl) (by rfl) ?_); k_dflt lct_toSrc)))
local macro_rules | `(tactic| walk_at "CompSrc") => `(tactic| (k_here; refine Mine.stop ?_))
local macro_rules | `(tactic| walk_at "CompSrcT") => `(tactic| (k_here; refine Mine.stop ?_))
local macro_rules | `(tactic| walk_at "exec Assign") => `(tactic| (k_here; with_reducible refine plainObj_wpAny_Assign_Attribute ?_ ?_; rotate_left; with_unfolding_all rfl))
local macro_rules | `(tactic| walk_at "exec For Name Call cons nil") => `(tactic| (k_here; k_dflt (refine Mine.For_T (by k_asm) (by intro _ _; rfl) ?_)))
local macro_rules | `(tactic| walk_at "exec For Name Name cons nil") => `(tactic| (k_here; k_dflt (refine Mine.For_T (by k_asm) (by intro _ _; rfl) ?_)))
local macro_rules | `(tactic| walk_at "exec For Name Attribute cons nil") => `(tactic| (k_here; k_dflt (refine Mine.For_T (by k_asm) (by intro _ _; rfl) ?_)))
local macro_rules | `(tactic| walk_at "CompEnd") => `(tactic| (k_here; refine Mine.stop ?_))
local macro_rules | `(tactic| ktr_rel) => `(tactic| first
  | ((with_reducible show wpAny _ _ (subscriptTail _ _ (Value.ref _) (Value.int _ _)) _ _ _); (first | ((with_reducible show wpAny _ _ (subscriptTail _ _ (Value.ref _) (Value.int (-1) _)) _ _ _); k_dflt (refine Mine.tail_last (by k_asm) (by k_mem) ?_)) | refine Mine.stop ?_))
  | ((with_reducible show wpAny _ _ (eval (PySem.Expr.ListComp _ _ _ _) _) _ _ _); refine Mine.stop ?_)
  | ((with_reducible show wpAny _ _ (compareOp CmpOp.NotEq (Value.ref _) (Value.ref _)) _ _ _); refine Mine.stop ?_)
  | ((with_reducible show wpAny _ _ (compareOp CmpOp.In (Value.str _ _) (Value.ref _)) _ _ _); refine Mine.stop ?_)
  | ((with_reducible show wpAny _ _ (compareOp CmpOp.Eq (Value.ref _) (Value.ref _)) _ _ _); refine Mine.stop ?_)
  | ((with_reducible show wpAny _ _ (exec (PySem.Stmt.If _ _ _ _) _) _ _ _); (with_reducible rename Mine.Mark => mk9); clear mk9; refine Mine.stop ?_)
  | ((with_reducible show wpAny _ _ (call (Value.builtin "str.join") [Value.str _ _, Value.ref _] _) _ _ _); refine Mine.stop ?_)
  | ((with_reducible show wpAny _ _ (call (Value.ref 49) _ _) _ _ _); refine Mine.stop ?_))
local macro_rules | `(tactic| walk_at "compareOp In str ref") => `(tactic| (k_here; refine Mine.stop ?_))
local macro_rules | `(tactic| ktr_unf) => `(tactic| repeat' (first | (k_unfold; (try dsimp only)) | ktr_rel | walk1 | (dsimp only; walk1) | fail "no step"))
local macro_rules | `(tactic| walk_at "call builtin:list.pop") => `(tactic| (k_here; (with_reducible show wpAny _ _ (call (Value.builtin _) [Value.ref _]) _ _ _); k_dflt (refine' kl_pop ?F ?N ?e ?U ?z ?_; (case F => k_asm); (case N => k_asm); (case U => k_upd); (case e => exact Mine.last_is _ _); (case z => (rw [PySem.sizeLine_eq]; simp; omega))); intro h' F' N'; (try dsimp only [List.nil_append, List.cons_append] at N')))
local macro_rules | `(tactic| walk_at "exec For Name Subscript cons nil") => `(tactic| (k_here; k_dflt (refine Mine.For_T (by k_asm) (by intro _ _; rfl) ?_)))
local macro_rules | `(tactic| k_mem) => `(tactic| assumption)
local macro_rules | `(tactic| k_all) => `(tactic| exact Mine.Off.mem (by assumption))
set_option maxRecDepth 100000 in
set_option maxHeartbeats 8000000 in
theorem PySem.Challenge.cw_kn0091_08_holds : PySem.Challenge.rw_kn0091_08.Holds := by
  refine Mine.hd08 (by
  k_go0
  (all_goals try k_fold)
  rename ¬ ((_ : Nat) : Int) < _ => hle
  rename IntsAre _ _ => hI
  have hlv := hI.length
  ktr_unf
  rename Fr _ _ _ _ => F9
  rename News _ _ _ _ => N9
  have hpi := Mine.pd_ints hI
  rename (_ < _ ∧ _ < _ ∧ _ < _ ∧ _) => l1
  refine Mine.unstop (Mine.forT_pd_b (G := Mine.IntV) (its := _) (by exact hpi) [Str.ofString "x"] (Mine.Build _ [_, _, _, _, _, _]) rfl (.inl (by assumption)) F9 N9 ⟨_, [], [], [], [], [], 0, 0, rfl, .nil, .nil, Mine.good_nil, fun _ h => absurd h List.not_mem_nil, Nat.zero_le _, Nat.ne_of_lt l1.1, ?_, True.intro, True.intro, True.intro⟩ ?_ ?_)
  · simp only [Mine.Off, and_true]
    omega
  · intro pre x post v u nw I oI h tk hsp hv hJ hoff0 F N
    obtain ⟨la, ls, refs, cur, vs, es, c1, c2, rfl, hls, hcu, hgc, hgl, hll, hne, hor, hoe, hot, hok⟩ := hJ
    simp only [Mine.third] at hok
    clear F9 N9
    simp only [List.cons_append, List.nil_append] at N hoff0
    simp only [Mine.Off, and_true] at hor
    have hoff := hoff0
    simp only [Mine.Off, and_true] at hoff
    simp only [Mine.over] at F
    obtain ⟨t, rfl⟩ := hv
    have hrl := Mine.pd_len hls
    have hvl := Mine.pd_len hcu
    have hyl : (refs ++ [Value.ref la]).length ≤ 2000 := by simp; omega
    have hvl2 : vs.length ≤ 2000 := by have := hgc.1; omega
    have hx0 : 0 ≤ Int.fmod x 12 := Int.fmod_nonneg_of_pos x (by decide)
    have hx1 : Int.fmod x 12 < 12 := Int.fmod_lt_of_pos x (by decide)
    ktr_unf
    all_goals first
      | (exfalso; omega)
      | (dsimp only [Mine.TurnPost, Mine.QJ]
         exact ⟨_, _, _, _, rfl, by assumption, Mine.news_tail (by assumption), fun z1 h1 => by simp only [if_neg (Mine.off1 h1)], la, ls, refs, cur, vs, es, c1, c2, rfl, hls, hcu, hgc, hgl, hll, hne, by (simp only [Mine.Off, and_true]; exact hor), hoe, hot, hok⟩)
      | (rename Fr _ _ _ _ => F2
         rename News _ _ _ _ => N2
         rename (I < _ ∧ _ < _ ∧ _ < _ ∧ _) => l1
         have hlw : (ls ++ [cur]).length ≤ 11 := by simp at hyl ⊢; rename ((_ : Int) ≠ 12) => e12; simp at e12; omega
         dsimp only [Mine.TurnPost]
         refine Mine.TurnEnd.mk' [] F2 (Mine.build_news N2) ?_ ⟨fun z1 h1 => by simp only [if_neg (Mine.off1 h1)], _, ls ++ [cur], refs ++ [Value.ref la], [Int.fmod x 12], [_], (la, W.listOf vs.toArray c2) :: es, _, _, rfl, PySem.Paired.snoc (Mine.row_up (fun _ h => List.mem_cons_of_mem _ h) hls) ⟨la, vs, c2, rfl, List.mem_cons_self, hcu⟩, .cons ⟨_, rfl⟩ .nil, Mine.good_snoc Mine.good_nil (by decide) hx0 (by omega), ?_, hlw, ?_, ?_, ?_, ?_, ?_⟩)
      | (rename Fr _ _ _ _ => F2
         rename News _ _ _ _ => N2
         rename (I < _ ∧ _ < _ ∧ _ < _ ∧ _) => l1
         have hlw : (ls ++ [cur]).length ≤ 11 := by simp at hyl ⊢; rename ((_ : Int) ≠ 12) => e12; simp at e12; omega
         dsimp only [Mine.TurnPost]
         refine Mine.TurnEnd.mk' [] F2 (Mine.build_news N2) ?_ ⟨fun z1 h1 => by simp only [if_neg (Mine.off1 h1)], _, ls ++ [cur], refs ++ [Value.ref la], [], [], (la, W.listOf vs.toArray c2) :: es, _, _, rfl, PySem.Paired.snoc (Mine.row_up (fun _ h => List.mem_cons_of_mem _ h) hls) ⟨la, vs, c2, rfl, List.mem_cons_self, hcu⟩, .nil, Mine.good_nil, ?_, hlw, ?_, ?_, ?_, ?_, ?_⟩)
      | (dsimp only [Mine.TurnPost]
         refine Mine.TurnEnd.mk' [] (by assumption) (by assumption) (by exact hoff0) ⟨fun z1 h1 => by simp only [if_neg (Mine.off1 h1)], la, ls, refs, cur ++ [Int.fmod x 12], vs ++ [_], es, c1, _, rfl, hls, Mine.int_snoc hcu, Mine.good_snoc hgc (by omega) hx0 (by omega), hgl, hll, hne, by (simp only [Mine.Off, and_true]; exact hor), hoe, hot, hok⟩)
    all_goals first
      | exact Mine.good_last hgl hgc
      | exact Nat.ne_of_gt l1.2.1
      | (simp only [List.cons_append, List.nil_append, Mine.Off, and_true]; omega)
      | (simp only [List.cons_append, List.nil_append, Mine.Off]; exact ⟨by omega, hot⟩)
      | (simp only [List.cons_append, List.nil_append, Mine.Off, Mine.third]; exact ⟨by omega, hok⟩)
      | (simp only [List.cons_append, List.nil_append, Mine.Off]; exact ⟨by omega, Mine.off_lt l1.2.2.2.2.2.2.2.2.2⟩)
      | (simp only [List.cons_append, List.nil_append, Mine.Off, true_and]; refine ⟨by omega, by omega, by omega, by omega, by omega, by omega, by omega, by omega, by omega, hoff.2.2.2.2.2.2.2.2⟩)
  · intro u nw h tk hJ F N
    obtain ⟨la, ls, refs, cur, vs, es, c1, c2, rfl, hls, hcu, hgc, hgl, hll, hne, hor, hoe, hot, hok⟩ := hJ
    simp only [Mine.third] at hok
    clear F9 N9
    simp only [List.cons_append, List.nil_append] at N
    simp only [Mine.Off, and_true] at hor
    simp only [Mine.over] at F
    have hrl := Mine.pd_len hls
    have hvl := Mine.pd_len hcu
    have hyl : (refs ++ [Value.ref la]).length ≤ 2000 := by simp; omega
    have hvl2 : vs.length ≤ 2000 := by have := hgc.1; omega
    dsimp only
    have hmark : Mine.Mark := True.intro
    ktr_unf
    rename Fr _ _ _ _ => F8
    rename News _ _ _ _ => N8
    refine Mine.unstop (Mine.cut08 F8 N8 ?_ ?_)
    rotate_left
    · rintro f s' ⟨rfl, h, tk, ls, refs, es, c, rfl, F, N, hls, hgl, hll, hok⟩
      simp only [Mine.third] at hok
      clear F8 N8
      simp only [List.cons_append, List.nil_append] at N
      have hrl2 := Mine.pd_len hls
      have hyl3 : refs.length ≤ 2000 := by omega
      ktr_unf
      rename Fr _ _ _ _ => F8
      rename News _ _ _ _ => N8
      refine Mine.unstop (Mine.forT_count [Str.ofString "one", Str.ofString "j", Str.ofString "n", Str.ofString "token", Str.ofString "pieces", Str.ofString "start", Str.ofString "end", Str.ofString "due"] refs.length (fun i u nw => Mine.Cell [_, _, _] _ (_ :: _ :: _ :: es) nw) rfl (by assumption) (by omega) (by omega) (by omega) F8 N8 ⟨_, _, rfl, by assumption⟩ ?_ ?_)
      · intro i t5 u5 nw5 I5 oI5 h5 tk5 hi5 hJ5 hoff50 F5 N5
        obtain ⟨oc, vc, rfl, hoc⟩ := hJ5
        clear F8 N8
        simp only [List.cons_append, List.nil_append] at N5 hoff50
        have hoff5 := hoff50
        simp only [Mine.Off] at hoff5
        simp only [Mine.over] at F5
        rw [Int.zero_add]
        ktr_unf
        refine Mine.unstop ?_
        lct_look
        k_dflt (refine LCt.ListComp_T (F₀ := by k_asm) (by with_unfolding_all rfl) (by decide) (by rfl) (by decide) (by rfl) ?_)
        ktr_unf
        refine Mine.unstop (LCt.CompSrcT.range (n := refs.length) rfl (by assumption) (by k_asm) (by k_asm) (small_one (by omega) (by omega) (by omega) (by omega)) (by rw [rangeSize_nat]; omega) (by rw [PySem.sizeLine_eq]; omega) ?_)
        intro g
        refine Mine.compT_count Mine.StrV (fun j => decide (j ≠ i)) (fun j => Mine.text8 Mine.c8 (ls.getD j [])) ?_ ?_
        · intro j t9 I9 oI9 C9 oC9 D9 ys m₂ h9 tk9 E9 hj hyl C1 hx' F9 N9 off0 ne
          have off := off0
          simp only [LCg.Off3] at off
          obtain ⟨row, hrow⟩ : ∃ row, ls[j]? = some row := ⟨_, List.getElem?_eq_getElem (by omega)⟩
          have hgr := hgl row (List.mem_of_getElem? hrow)
          ktr_unf
          · rename ((0 : Int) + _ ≠ _) => hji
            refine Mine.unstop ?_
            (first | lcg_look | lcf_look)
            k_dflt (refine LCg.ListComp_U (F₀ := by k_asm) (by with_unfolding_all rfl) (by decide) (by rfl) (by decide) (by rfl) ?_)
            ktr_unf
            refine Mine.unstop (Mine.tail_pd (j := j) (by k_asm) (by k_mem) hls hrow (by omega) (by omega) ?_)
            rintro v ⟨a7, vs7, c7, rfl, hm7, hp7⟩
            have hvl7 := Mine.pd_len hp7
            have hrl7 := hgr.1
            ktr_unf
            refine Mine.unstop (LCg.CompSrc.ledger (by rfl) (by k_asm) (by k_asm) (by k_mem) (by simp only [List.size_toArray, PySem.sizeLine_eq]; omega) ?_)
            intro g7
            refine Mine.comp_pd Mine.StrV (fun n => Mine.mk [Mine.c8 n]) hp7 ?_ ?_
            · intro n v6 I6 oI6 C6 oC6 D6 ys6 m₆ h6 tk6 E6 hn6 hv6 hyl6 C1' hx6 F6 N6 off60 ne6
              have off6 := off60
              simp only [LCg.Off3] at off6
              obtain ⟨t6, rfl⟩ := hv6
              have hn10 := hgr.2 n hn6
              ktr_unf
              refine Mine.unstop (Mine.tail_pd (j := n.toNat) (F := Mine.StrV) (as := Mine.signsL) (by k_asm) (by k_mem) (by unfold Mine.signsL; repeat (first | exact .nil | refine .cons ⟨_, rfl⟩ ?_)) (Mine.signs_at hn10) (by omega) (by omega) ?_)
              rintro v5 ⟨t5', rfl⟩
              ktr_unf
              refine Mine.unstop (Mine.cend [] (by assumption) (by assumption) off60 (.inr ⟨W.listOf _ _, by k_mem, rfl, _, rfl⟩) ⟨rfl, t5', rfl⟩)
            · intro ys7 hy7
              ktr_unf
              rename News _ _ _ _ => N6
              refine Mine.unstop (join_listW (Mine.is_l N6 (by k_mem)) (Mine.strs_pd hy7) (by decide) (by rw [Mine.joinw8]; omega) ?_)
              intro t' k'
              rw [Mine.join8]
              ktr_unf
              refine Mine.unstop (Mine.cend [_] (by assumption) (by assumption) off0 True.intro ⟨rfl, decide_eq_true (fun q => hji (by omega)), t', by rw [Mine.getD_of hrow]⟩)
          · refine Mine.unstop (Mine.cend [] (by assumption) (by assumption) off0 True.intro ⟨rfl, ?_⟩)
            exact decide_eq_false (fun q => q (by omega))
        · intro ys hy
          have hyl : ys.length ≤ 12 := by rw [← Mine.pd_len hy, List.length_map]; exact Nat.le_trans (List.length_filter_le _ _) (by rw [List.length_range]; omega)
          obtain ⟨rowk, hrowk⟩ : ∃ row, ls[i]? = some row := ⟨_, List.getElem?_eq_getElem (by omega)⟩
          have hgk := hgl rowk (List.mem_of_getElem? hrowk)
          ktr_unf
          refine Mine.unstop (Mine.tail_pd (j := i) (by k_asm) (by k_mem) hls hrowk (by omega) (by omega) ?_)
          rintro v ⟨a7, vs7, c7, rfl, hm7, hp7⟩
          have hvl7 := Mine.pd_len hp7
          have hrl7 := hgk.1
          ktr_unf
          rename Fr _ _ _ _ => F4
          rename News _ _ _ _ => N4
          refine Mine.unstop (Mine.forT_pd_lj (its := vs7.toArray) hp7 [Str.ofString "n"] [] (fun pre u zs => 10 ∉ pre ∧ Mine.Pd Mine.StrV (pre.map fun n => Mine.mk [Mine.s8 n]) zs) (fun u zs => Mine.Pd Mine.StrV ((rowk.takeWhile (· != 10)).map fun n => Mine.mk [Mine.s8 n]) zs) rfl (.inr ⟨W.listOf _ _, _, rfl, rfl, .inr (by k_mem)⟩) F4 N4 ⟨List.not_mem_nil, .nil⟩ ?_ ?_ ?_)
          · intro pre3 n3 post3 v3 u3 zs3 c3 I3 oI3 h3 tk3 hsp3 hv3 hJ3 hoff30 F3 N3
            clear F4 N4
            simp only [List.nil_append] at N3
            have hoff3 := hoff30
            simp only [Mine.Off, List.nil_append] at hoff3
            simp only [Mine.over] at F3
            obtain ⟨t3, rfl⟩ := hv3
            have hn10 := hgk.2 n3 (by rw [hsp3]; simp)
            have hzl3 := Mine.pd_len hJ3.2
            have hzs3 : zs3.length ≤ 2000 := by have := congrArg List.length hsp3; simp at this hzl3; omega
            ktr_unf
            · rename (n3 = 10) => e3
              dsimp only [Mine.TurnPost, Mine.QJ]
              exact ⟨_, _, _, _, rfl, by assumption, Mine.news_tail (by assumption), fun z1 h1 => by simp only [if_neg (Mine.off1 h1)], zs3, c3, rfl, by rw [hsp3, e3, Mine.tw_stopI hJ3.1]; exact hJ3.2⟩
            · rename (n3 ≠ 10) => e3
              refine Mine.unstop (Mine.tail_pd (j := n3.toNat) (F := Mine.StrV) (as := Mine.smallsL) (by k_asm) (by k_mem) (by unfold Mine.smallsL; repeat (first | exact .nil | refine .cons ⟨_, rfl⟩ ?_)) (Mine.smalls_at hn10) (by omega) (by omega) ?_)
              rintro v5 ⟨t5', rfl⟩
              ktr_unf
              dsimp only [Mine.TurnPost]
              refine Mine.TurnEnd.mk' [] (by assumption) (by assumption) (by exact hoff30) ⟨fun z1 h1 => by simp only [if_neg (Mine.off1 h1)], zs3 ++ [_], c3 + 1, rfl, ?_, by rw [List.map_append]; exact PySem.Paired.snoc hJ3.2 ⟨t5', rfl⟩⟩
              rw [List.mem_append, List.mem_singleton]
              exact fun q => q.elim hJ3.1 fun q => e3 q.symm
          · intro u3 zs3 hJ3 hs3
            rw [Mine.tw_allI hJ3.1]; exact hJ3.2
          · intro u3 zs3 c3 h3 tk3 hP3 F3 N3
            clear F4 N4
            rw [Mine.tok_map] at hP3
            simp only [List.nil_append] at N3
            simp only [Mine.over] at F3
            have htl : (Mine.tok8 rowk).length ≤ 8 := by
              unfold Mine.tok8; rw [List.length_map]; exact Nat.le_trans (List.takeWhile_sublist _).length_le hgk.1
            have hzl3 := Mine.pd_len hP3
            rw [List.length_map] at hzl3
            have hzs3 : zs3.length ≤ 2000 := by omega
            dsimp only
            ktr_unf
            rename Fr _ _ _ _ => F4
            rename News _ _ _ _ => N4
            refine Mine.unstop (Mine.forT_count [Str.ofString "start", Str.ofString "end"] (Mine.tok8 rowk).length (fun i u nw => Mine.LstP _ _ (Mine.piecesTo (Mine.tok8 rowk) i) nw) rfl (by assumption) (by omega) (by omega) (by omega) F4 N4 (Mine.LstP.start ..) ?_ ?_)
            · intro i2 t2 u2 nw2 I2 oI2 h2 tk2 hi2 hJ2 hoff20 F2 N2
              clear F4 N4
              obtain ⟨zs2, c2', rfl, hp2⟩ := hJ2
              rw [Int.zero_add]
              have hoff2 := hoff20
              simp only [Mine.Off] at hoff2
              simp only [Mine.over] at F2
              ktr_unf
              rename Fr _ _ _ _ => F4
              rename News _ _ _ _ => N4
              refine Mine.unstop (Mine.forT_count [Str.ofString "end"] ((Mine.tok8 rowk).length - i2) (fun j u nw => Mine.LstP _ _ (Mine.piecesRow (Mine.tok8 rowk) i2 j) nw) rfl (by assumption) (by omega) (by omega) (by omega) F4 (Mine.news_pick2 N4) (Mine.LstP.row hp2) ?_ ?_)
              · intro j1 t1 u1 nw1 I1 oI1 h1 tk1 hj1 hJ1 hoff10 F1 N1
                clear F4 N4
                obtain ⟨zs1, c1', rfl, hp1⟩ := hJ1
                have hoff1 := hoff10
                simp only [Mine.Off] at hoff1
                simp only [Mine.over] at F1
                have hzl1 := Mine.pd_len hp1
                have hpl1 := Mine.pieces_len2 htl hi2 (Nat.le_of_lt hj1)
                have hzs1 : zs1.length ≤ 2000 := by omega
                ktr_unf
                rename News _ _ _ _ => N6
                rw [show ((i2 : Int) + 1 + (j1 : Int) - (i2 : Int)).toNat = j1 + 1 by omega, Int.toNat_natCast] at N6
                have hjp := Mine.pd_take (Mine.pd_drop hP3 i2) (j1 + 1)
                rw [← List.map_drop, ← List.map_take] at hjp
                refine Mine.unstop (join_listW (Mine.is_l N6 (by k_mem)) (Mine.strs_pd hjp) (by decide) (by rw [Mine.joinw1]; have := List.length_take_le (j1 + 1) ((Mine.tok8 rowk).drop i2); omega) ?_)
                intro t' k'
                rw [Mine.join1]
                ktr_unf
                dsimp only [Mine.TurnPost]
                refine Mine.TurnEnd.mk' [_] (by assumption) (by assumption) (by exact hoff10) ⟨fun z1 h1 => by simp only [if_neg (Mine.off1 h1)], zs1 ++ [_], c1' + 1, rfl, ?_⟩
                rw [Mine.pieces_snoc]
                exact PySem.Paired.snoc hp1 ⟨t', rfl⟩
              · intro u1 nw1 h1 tk1 hJ1 F1 N1
                clear F4 N4
                obtain ⟨zs1, c1', rfl, hp1⟩ := hJ1
                simp only [Mine.over] at F1
                dsimp only
                ktr_unf
                rename Fr _ _ _ _ => F4
                rename News _ _ _ _ => N4
                dsimp only [Mine.TurnPost]
                refine Mine.TurnEnd.mk' [] F4 (Mine.news_pick2 N4) (by exact hoff20) ⟨fun z1 h1 => ?_, zs1, c1', rfl, by rw [← Mine.pieces_next]; exact hp1⟩
                simp only [List.mem_cons, not_or, List.not_mem_nil, not_false_iff, and_true] at h1
                simp only [if_neg h1.1, if_neg h1.2]
            · intro u2 nw2 h2 tk2 hJ2 F2 N2
              clear F4 N4
              obtain ⟨zs2, c2', rfl, hp2⟩ := hJ2
              simp only [Mine.over] at F2
              have hzl2 := Mine.pd_len hp2
              have hpl2 := Mine.pieces_len (Mine.tok8 rowk) htl (Mine.tok8 rowk).length (Nat.le_refl _)
              have hzs2 : zs2.length ≤ 2000 := by omega
              dsimp only
              ktr_unf
              rename Fr _ _ _ _ => F4
              rename News _ _ _ _ => N4
              refine Mine.unstop (Mine.forT_count_s [Str.ofString "j", Str.ofString "due"] refs.length (fun m u => u (Str.ofString "due") = some (.bool ((List.range m).any fun j => decide (j ≠ i) && (Mine.piecesTo (Mine.tok8 rowk) (Mine.tok8 rowk).length).any (· == Mine.text8 Mine.s8 (ls.getD j []))))) rfl (by assumption) (by omega) (by omega) (by omega) F4 N4 rfl ?_ ?_)
              · intro j1 t1 u1 I1 oI1 h1 tk1 hj1 hJ1 hoff10 F1 N1
                clear F4 N4
                have hoff1 := hoff10
                simp only [Mine.Off] at hoff1
                simp only [Mine.over, hJ1] at F1
                rw [Int.zero_add]
                obtain ⟨rowj, hrowj⟩ : ∃ row, ls[j1]? = some row := ⟨_, List.getElem?_eq_getElem (by omega)⟩
                have hgj := hgl rowj (List.mem_of_getElem? hrowj)
                have h2n : ∀ z, z ∉ [Str.ofString "j", Str.ofString "due"] → z ≠ Str.ofString "j" ∧ z ≠ Str.ofString "due" := fun z q => by
                  simpa only [List.mem_cons, not_or, List.not_mem_nil, not_false_iff, and_true] using q
                ktr_unf
                · rename ((j1 : Int) ≠ (i : Int)) => hji
                  refine Mine.unstop ?_
                  (first | lcg_look | lcf_look)
                  k_dflt (refine LCg.ListComp_U (F₀ := by k_asm) (by with_unfolding_all rfl) (by decide) (by rfl) (by decide) (by rfl) ?_)
                  ktr_unf
                  refine Mine.unstop (Mine.tail_pd (j := j1) (by k_asm) (by k_mem) hls hrowj (by omega) (by omega) ?_)
                  rintro v ⟨a17, vs17, c17, rfl, hm17, hp17⟩
                  have hvl17 := Mine.pd_len hp17
                  have hrl17 := hgj.1
                  ktr_unf
                  refine Mine.unstop (LCg.CompSrc.ledger (by rfl) (by k_asm) (by k_asm) (by k_mem) (by simp only [List.size_toArray, PySem.sizeLine_eq]; omega) ?_)
                  intro g17
                  refine Mine.comp_pd Mine.StrV (fun n => Mine.mk [Mine.s8 n]) hp17 ?_ ?_
                  · intro n v6 I6 oI6 C6 oC6 D6 ys6 m₆ h6 tk6 E6 hn6 hv6 hyl6 C1' hx6 F6 N6 off60 ne6
                    have off6 := off60
                    simp only [LCg.Off3] at off6
                    obtain ⟨t6, rfl⟩ := hv6
                    have hn10 := hgj.2 n hn6
                    ktr_unf
                    refine Mine.unstop (Mine.tail_pd (j := n.toNat) (F := Mine.StrV) (as := Mine.smallsL) (by k_asm) (by k_mem) (by unfold Mine.smallsL; repeat (first | exact .nil | refine .cons ⟨_, rfl⟩ ?_)) (Mine.smalls_at hn10) (by omega) (by omega) ?_)
                    rintro v5 ⟨t5', rfl⟩
                    ktr_unf
                    refine Mine.unstop (Mine.cend [] (by assumption) (by assumption) off60 (.inr ⟨W.listOf _ _, by k_mem, rfl, _, rfl⟩) ⟨rfl, t5', rfl⟩)
                  · intro ys17 hy17
                    ktr_unf
                    rename News _ _ _ _ => N6
                    refine Mine.unstop (join_listW (Mine.is_l N6 (by k_mem)) (Mine.strs_pd hy17) (by decide) (by rw [Mine.joinw8]; omega) ?_)
                    intro t' k'
                    rw [Mine.join8]
                    ktr_unf
                    rename News _ _ _ _ => N6
                    refine Mine.unstop (Mine.in_l N6 (by k_mem) hp2 ?_)
                    ktr_unf
                    · rename (List.any _ _ = true) => e5
                      dsimp only [Mine.TurnPost]
                      refine Mine.TurnEnd.mk' [_] (by assumption) (by assumption) (by exact hoff10) ⟨rfl, fun z1 q1 => by simp only [if_neg (h2n z1 q1).1, if_neg (h2n z1 q1).2], ?_⟩
                      rw [Mine.any_next, Mine.getD_of hrowj, e5, show decide (j1 ≠ i) = true from decide_eq_true (fun q => hji (by omega)), Bool.and_true, Bool.or_true]
                      rfl
                    · rename (List.any _ _ = false) => e5
                      dsimp only [Mine.TurnPost]
                      refine Mine.TurnEnd.mk' [_] (by assumption) (by assumption) (by exact hoff10) ⟨rfl, fun z1 q1 => by simp only [if_neg (h2n z1 q1).1, if_neg (h2n z1 q1).2], ?_⟩
                      rw [Mine.any_next, Mine.getD_of hrowj, e5, Bool.and_false, Bool.or_false]
                      rfl
                · rename ((j1 : Int) = (i : Int)) => hji
                  dsimp only [Mine.TurnPost]
                  refine Mine.TurnEnd.mk' [] (by assumption) (by assumption) (by exact hoff10) ⟨rfl, fun z1 q1 => by simp only [if_neg (h2n z1 q1).1, if_neg (h2n z1 q1).2], ?_⟩
                  rw [Mine.any_next, show decide (j1 ≠ i) = false from decide_eq_false (fun q => q (by omega)), Bool.false_and, Bool.or_false]
                  rfl
              · intro u1 h1 tk1 hJ1 F1 N1
                clear F4 N4
                simp only [Mine.over, hJ1] at F1
                dsimp only
                ktr_unf
                refine Mine.unstop ?_
                (first | lcg_look | lcf_look)
                k_dflt (refine LCg.ListComp_U (F₀ := by k_asm) (by with_unfolding_all rfl) (by decide) (by rfl) (by decide) (by rfl) ?_)
                ktr_unf
                refine Mine.unstop (Mine.tail_pd (j := i) (by k_asm) (by k_mem) hls hrowk (by omega) (by omega) ?_)
                rintro v ⟨a17, vs17, c17, rfl, hm17, hp17⟩
                have hvl17 := Mine.pd_len hp17
                have hrl17 := hgk.1
                ktr_unf
                refine Mine.unstop (LCg.CompSrc.ledger (by rfl) (by k_asm) (by k_asm) (by k_mem) (by simp only [List.size_toArray, PySem.sizeLine_eq]; omega) ?_)
                intro g17
                refine Mine.comp_pd Mine.StrV (fun n => Mine.mk [Mine.c8 n]) hp17 ?_ ?_
                · intro n v6 I6 oI6 C6 oC6 D6 ys6 m₆ h6 tk6 E6 hn6 hv6 hyl6 C1' hx6 F6 N6 off60 ne6
                  have off6 := off60
                  simp only [LCg.Off3] at off6
                  obtain ⟨t6, rfl⟩ := hv6
                  have hn10 := hgk.2 n hn6
                  ktr_unf
                  refine Mine.unstop (Mine.tail_pd (j := n.toNat) (F := Mine.StrV) (as := Mine.signsL) (by k_asm) (by k_mem) (by unfold Mine.signsL; repeat (first | exact .nil | refine .cons ⟨_, rfl⟩ ?_)) (Mine.signs_at hn10) (by omega) (by omega) ?_)
                  rintro v5 ⟨t5', rfl⟩
                  ktr_unf
                  refine Mine.unstop (Mine.cend [] (by assumption) (by assumption) off60 (.inr ⟨W.listOf _ _, by k_mem, rfl, _, rfl⟩) ⟨rfl, t5', rfl⟩)
                · intro ys17 hy17
                  ktr_unf
                  rename News _ _ _ _ => N6
                  refine Mine.unstop (join_listW (Mine.is_l N6 (by k_mem)) (Mine.strs_pd hy17) (by decide) (by rw [Mine.joinw8]; omega) ?_)
                  intro t' k'
                  rw [Mine.join8]
                  ktr_unf
                  rename Fr _ _ _ _ => F4
                  rename News _ _ _ _ => N4
                  have hnm8 : (Mine.text8 Mine.c8 rowk).length ≤ 1000 := by rw [Mine.text8_len]; omega
                  refine Mine.unstop (Mine.applies (its := ys.toArray) (xs := Mine.others Mine.c8 refs.length ls i) rfl rfl (by assumption) F4 (by assumption) (by assumption) (InstAt.of_news N4 (by k_mem) (by k_mem)) (Mine.is_l N4 (by k_mem)) hy (Mine.others_len hgl _ _) hnm8 ?_)
                  intro h3 tk3 keep3
                  obtain ⟨F1, N1⟩ := Mine.after_keep F4 N4 keep3
                  clear F4 N4 keep3
                  rw [Mine.due8 hgl hrowk hrl2.symm]
                  ktr_unf
                  · rename ((_ != _) = true) => e6
                    rw [bne_self_eq_false] at e6
                    cases e6
                  · dsimp only [Mine.TurnPost]
                    refine Mine.TurnEnd.mk' [_, _, _, _, _, _, _, _] (by assumption) (by assumption) (by exact hoff50) ⟨fun z1 q1 => ?_, _, _, rfl, by assumption⟩
                    simp only [List.mem_cons, not_or, List.not_mem_nil, not_false_iff, and_true] at q1
                    obtain ⟨n1, n2, n3, n4, n5, n6, n7, n8⟩ := q1
                    simp only [if_neg n1, if_neg n2, if_neg n3, if_neg n4, if_neg n5, if_neg n6, if_neg n7, if_neg n8]
      · intro u5 nw5 h5 tk5 hJ5 F5 N5
        obtain ⟨oc, vc, rfl, hoc⟩ := hJ5
        clear F8 N8
        simp only [List.cons_append, List.nil_append] at N5
        simp only [Mine.over] at F5
        dsimp only
        ktr_unf
        rename Fr _ _ _ _ => F4
        rename News _ _ _ _ => N4
        refine Mine.unstop (Mine.applies (its := #[]) (xs := []) rfl rfl (by assumption) F4 (by assumption) (by assumption) (InstAt.of_news N4 (by k_mem) (by k_mem)) (Mine.is_l (n := 0) (xs := []) N4 (by k_mem)) .nil (fun _ h => absurd h List.not_mem_nil) (by decide) ?_)
        intro h3 tk3 keep3
        obtain ⟨F1, N1⟩ := Mine.after_keep F4 N4 keep3
        clear F4 N4 keep3
        rw [List.any_nil]
        ktr_unf
        all_goals (k_end; wrow_close)
    · ktr_unf
      rename Fr _ _ _ _ => F7
      rename News _ _ _ _ => N7
      refine Mine.unstop (ke_eq_ints (xs := vs) (ys := []) (Mine.is_l N7 (by k_mem)) (Mine.is_l (n := 0) N7 (by k_mem)) (Mine.ints_pd hcu) .nil (by ke_room) ?_)
      ktr_unf
      · rename News _ _ _ _ => N6
        exact ⟨rfl, _, _, ls, refs, es, _, rfl, by assumption, Mine.cut_news1 N6, hls, hgl, by omega, hok⟩
      · rename News _ _ _ _ => N6
        exact ⟨rfl, _, _, ls ++ [cur], refs ++ [Value.ref la], (la, W.listOf vs.toArray c2) :: es, _, rfl, by assumption, Mine.cut_news2 N6, PySem.Paired.snoc (Mine.row_up (fun _ h => List.mem_cons_of_mem _ h) hls) ⟨la, vs, c2, rfl, List.mem_cons_self, hcu⟩, Mine.good_last hgl hgc, by simp; omega, ⟨Ne.symm hor.2.2.1, hok⟩⟩)
end
