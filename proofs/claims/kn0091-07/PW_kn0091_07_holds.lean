import PyProof.Rows.All
import Wide.All
import OpenK.AllK
import Wide.FinOn
import PySem.Challenge.RW_kn0091_07
open PySem PySem.W PyProof.Rows
set_option Elab.async false
section
set_option maxRecDepth 100000 in
set_option maxHeartbeats 8000000 in
open_top Mine.hd07 for PySem.Challenge.rw_kn0091_07
end
section
namespace Mine
open PySem.Calls PySem.Spec

def Stop (P : Prop) : Prop := P
theorem stop {P : Prop} (h : Stop P) : P := h
theorem unstop {P : Prop} (h : P) : Stop P := h

/-- no entry of the ledger stands at I -/
def Off (I : Addr) : List (Addr × Obj) → Prop
  | [] => True
  | p :: r => (@Ne Nat p.1 I) ∧ Off I r
theorem Off.mem {I : Addr} : ∀ {l : List (Addr × Obj)}, Off I l → ∀ p ∈ l, p.1 ≠ I
  | [], _, _, h => nomatch h
  | _ :: _, x, p, h => by
    rcases List.mem_cons.mp h with rfl | h
    · exact x.1
    · exact Off.mem x.2 p h
theorem Off.of {I : Addr} : ∀ {l : List (Addr × Obj)}, (∀ p ∈ l, p.1 ≠ I) → Off I l
  | [], _ => trivial
  | _ :: _, h => ⟨h _ List.mem_cons_self, Off.of fun p hp => h p (List.mem_cons_of_mem _ hp)⟩

section
variable {prog : Program} {w : World} {A : Around} {E : Value → Shared → Prop} {s : Shared} {env : Env} {h₀ : Heap} {x : Str} {body : List Stmt} {Q : Flow → Shared → Prop}

def TurnEnd (h₀ : Heap) (L I : Addr) (oI : Obj) (J : (Str → Option Value) → List (Addr × Obj) → Prop) (s₁ s₂ : Shared) : Prop :=
  ∃ h' tk m' nx, s₂ = { s₁ with heap := h', toks := tk } ∧ Fr h₀ L h' m' ∧ News h₀ L h' ((I, oI) :: nx) ∧ Off I nx ∧ J m' nx
def TurnPost (h₀ : Heap) (L I : Addr) (oI : Obj) (J : (Str → Option Value) → List (Addr × Obj) → Prop) (s₁ : Shared) (Q : Flow → Shared → Prop) (f : Flow) (s₂ : Shared) : Prop :=
  match f with
  | .ret v => Q (.ret v) s₂
  | .brk => Q .next s₂
  | .next => TurnEnd h₀ L I oI J s₁ s₂
  | .cont => TurnEnd h₀ L I oI J s₁ s₂

/-- a for over a list, by any invariant of the frame's names and of the ledger -/
theorem iter_list {l : Addr} {its : Array Value} {m₀ : Str → Option Value} {news : List (Addr × Obj)} (J : Nat → (Str → Option Value) → List (Addr × Obj) → Prop)
    (hh : A.handled = none) (src : h₀.IsList l its ∨ ∃ ol k, ol.cls = .type "list" ∧ ol.data = .seq its k ∧ ∀ i m nx, J i m nx → (l, ol) ∈ nx)
    (F : Fr h₀ env.locals s.heap m₀) (N : News h₀ env.locals s.heap news) (hj : J 0 m₀ news)
    (turn : ∀ i v m₁ nw I oI h tk, its[i]? = some v → J i m₁ nw → Off I nw → Fr h₀ env.locals h (fun y => if y = x then some v else m₁ y) → News h₀ env.locals h ((I, oI) :: nw) →
      wpAny (model prog w) A (execs body env) (TurnPost h₀ env.locals I oI (J (i + 1)) { s with heap := h, toks := tk } Q) E { s with heap := h, toks := tk })
    (done : ∀ m₁ nw h tk, J its.size m₁ nw → Fr h₀ env.locals h m₁ → News h₀ env.locals h nw → Q .next { s with heap := h, toks := tk }) :
    wpAny (model prog w) A (pyIter (.ref l)) (fun it s₂ => LoopAtV prog w A h₀ env x body Q E it s₂) E s := by
  have hls : s.heap.IsList l its := by
    rcases src with hl | ⟨ol, k, hc, hd, hm⟩
    · exact hl.at fun o e => F.keep l o e
    · exact ⟨ol, (N _ (hm _ _ _ hj)).1, hc, k, hd⟩
  obtain ⟨ol', hol, _⟩ := id hls
  have hlt : l < s.heap.objs.size := Heap.lt_size hol
  have hne : l ≠ s.heap.objs.size := Nat.ne_of_lt hlt
  have hLl : env.locals ≠ l := by
    rcases src with hl | ⟨ol, k, hc, hd, hm⟩
    · obtain ⟨o, e, _⟩ := hl
      exact fun q => absurd (Nat.lt_of_lt_of_le (Heap.lt_size e) F.above) (q ▸ Nat.lt_irrefl _)
    · exact fun q => (N _ (hm _ _ _ hj)).2.1 q.symm
  refine wpAny_pyIter_list hls ?_
  have W := Walks.list (prog := prog) (w := w) hh s.heap.objs.size l hne its
  refine ⟨_, _, _, its.size, _, _, m₀, news, J, rfl, W, ?_, ?_, ?_, ⟨⟨_, Heap.get?_push_size _ rfl, rfl, rfl⟩, hls.at fun o e => Heap.get?_push_of_some _ e⟩, F.push _, (fun p hp => ⟨Heap.get?_push_of_some _ (N p hp).1, (N p hp).2⟩), hj, ?_, ?_⟩
  · intro hm
    rcases List.mem_cons.mp hm with e | hm
    · exact absurd F.ns.lt (e ▸ Nat.lt_irrefl _)
    · exact hLl (List.mem_singleton.mp hm)
  · intro b hb
    rw [List.mem_singleton.mp hb]
    exact next_is_new F
  · intro p hp hI
    exact absurd (Heap.lt_size (N p hp).1) ((List.mem_singleton.mp hI) ▸ Nat.lt_irrefl _)
  · rintro i v m₁ news₁ s₁ own ⟨hh', tk', rfl⟩ hin hP hJ hoff hown hget hin' hst F₁ N₁
    obtain ⟨oI, heI, _⟩ := hst.1
    have hIown : (s.heap.objs.size, oI) ∈ own := hin' _ (by simp) (next_is_new F) oI heI
    have hoffI : Off s.heap.objs.size news₁ := Off.of fun p hp q => hoff p hp (List.mem_singleton.mpr q)
    have N₂ : News h₀ env.locals hh' ((s.heap.objs.size, oI) :: news₁) := fun p hp => by
      rcases List.mem_cons.mp hp with rfl | hp
      · exact N₁ _ (List.mem_append_left _ hIown)
      · exact N₁ _ (List.mem_append_right _ hp)
    refine wpAny_mono (turn i v m₁ news₁ _ oI hh' tk' hP hJ hoffI F₁ N₂) (fun f s₂ p => ?_) fun _ _ e => e
    have fin : TurnEnd h₀ env.locals s.heap.objs.size oI (J (i + 1)) { s with heap := hh', toks := tk' } s₂ → LoopStepU h₀ env.locals [s.heap.objs.size] own (J (i + 1)) { s with heap := hh', toks := tk' } .next s₂ := by
      rintro ⟨h', tk, m', nx, e, F', N', hoff', hj'⟩
      refine ⟨rfl, h', tk, m', nx, e, F', fun p hp => ?_, fun p hp q => hoff'.mem p hp (List.mem_singleton.mp q), hj'⟩
      rcases List.mem_append.mp hp with hp | hp
      · have hg := hget p hp
        have h0 := (N₁ p (List.mem_append_left _ hp)).2.2
        rcases List.mem_cons.mp (hown p hp) with h1 | h1
        · have e1 : p = (s.heap.objs.size, oI) := by
            obtain ⟨a, o⟩ := p
            dsimp only at h1 hg
            subst h1
            rw [heI] at hg; cases hg; rfl
          rw [e1]; exact N' _ List.mem_cons_self
        · have h2 : p.1 = l := List.mem_singleton.mp h1
          rcases src with hl | ⟨ol, k, hc, hd, hm⟩
          · obtain ⟨o, e, _⟩ := hl
            rw [h2, e] at h0; cases h0
          · have e1 : p = (l, ol) := by
              obtain ⟨a, o⟩ := p
              dsimp only at h2 hg
              subst h2
              have := (N₁ _ (List.mem_append_right _ (hm _ _ _ hJ))).1
              rw [hg] at this
              cases this; rfl
            rw [e1]; exact N' _ (List.mem_cons_of_mem _ (hm _ _ _ hj'))
      · exact N' p (List.mem_cons_of_mem _ hp)
    cases f with
    | ret v => exact .ret p
    | brk => exact .brk p
    | next => exact .next (fin p)
    | cont => exact .cont (fin p)
  · rintro h' tk m' news' F' N' _ hJ
    exact done m' news' h' tk hJ F' N'

end

section
open LCg
variable {prog : Program} {w : World} {A : Around} {h₀ : Heap} {L : Addr} {m : Str → Option Value} {env : Env} {ct elt : Expr} {x : Str} {scope : Scope} {cl : List (Str × Addr)} {s : Shared} {S : List (Addr × Obj) → Prop} {P : Nat → Value → Prop} {Fin : List Value → List (Addr × Obj) → Prop} {news : List (Addr × Obj)}

/-- a comprehension without a test, by an invariant -/
theorem comp_inv {n : Nat} (J : Nat → List Value → List (Addr × Obj) → Prop) (h0 : J 0 [] news)
    (turn : ∀ i v ys nw I oI C oC D m₂ h tk (E' : Value → Shared → Prop), i < n → P i v → J i ys nw → NsObj oC m₂ → m₂ x = some v → Fr h₀ L h m → News h₀ L h ((I, oI) :: (C, oC) :: (D, lst ys) :: nw) → Off3 I C D nw → ((@Ne Nat I C) ∧ (@Ne Nat I D) ∧ (@Ne Nat C D)) →
      wpAny (model prog w) A (eval elt (compEnvC scope cl C env)) (CompEnd h₀ L m { s with heap := h, toks := tk } I oI C oC D (lst ys) S (fun y nw' => J (i + 1) (ys ++ [y]) nw')) E' { s with heap := h, toks := tk })
    (fin : ∀ ys nw, J n ys nw → Fin ys nw) : CompRest prog w A h₀ L m env elt x scope cl s S P Fin n 0 [] news := by
  have key : ∀ (j i : Nat) (ys : List Value) (nw : List (Addr × Obj)), i + j = n → J i ys nw → CompRest prog w A h₀ L m env elt x scope cl s S P Fin j i ys nw := by
    intro j
    induction j with
    | zero => intro i ys nw e hj; obtain rfl : i = n := by omega
              exact fin ys nw hj
    | succ j ih =>
      intro i ys nw e hj v I oI C oC D m₂ h tk E' hP hC hx F N off ne
      refine wpAny_mono (turn i v ys nw I oI C oC D m₂ h tk E' (by omega) hP hj hC hx F N off ne) (fun y s₂ hq => ?_) fun _ _ e => e
      obtain ⟨h', tk', nw', e', F', N', off', hS, hj'⟩ := hq
      exact ⟨h', tk', nw', e', F', N', off', hS, ih (i + 1) _ _ (by omega) hj'⟩
  exact key n 0 [] news (by omega) h0

/-- a comprehension with a test, by an invariant -/
theorem compT_inv {n : Nat} (J : Nat → List Value → List (Addr × Obj) → Prop) (h0 : J 0 [] news)
    (turn : ∀ i v ys nw I oI C oC D m₂ h tk (E' : Value → Shared → Prop), i < n → P i v → J i ys nw → NsObj oC m₂ → m₂ x = some v → Fr h₀ L h m → News h₀ L h ((I, oI) :: (C, oC) :: (D, lst ys) :: nw) → Off3 I C D nw → ((@Ne Nat I C) ∧ (@Ne Nat I D) ∧ (@Ne Nat C D)) →
      wpAny (model prog w) A (isTrue ct (compEnvC scope cl C env) (eval ct (compEnvC scope cl C env))) (fun ok s' => if ok = true then
        wpAny (model prog w) A (eval elt (compEnvC scope cl C env)) (CompEnd h₀ L m { s with heap := h, toks := tk } I oI C oC D (lst ys) S (fun y nw' => J (i + 1) (ys ++ [y]) nw')) E' s'
        else CompEnd h₀ L m { s with heap := h, toks := tk } I oI C oC D (lst ys) S (fun _ nw' => J (i + 1) ys nw') Value.none s') E' { s with heap := h, toks := tk })
    (fin : ∀ ys nw, J n ys nw → Fin ys nw) : LCt.CompRestT prog w A h₀ L m env ct elt x scope cl s S P Fin n 0 [] news := by
  have key : ∀ (j i : Nat) (ys : List Value) (nw : List (Addr × Obj)), i + j = n → J i ys nw → LCt.CompRestT prog w A h₀ L m env ct elt x scope cl s S P Fin j i ys nw := by
    intro j
    induction j with
    | zero => intro i ys nw e hj; obtain rfl : i = n := by omega
              exact fin ys nw hj
    | succ j ih =>
      intro i ys nw e hj v I oI C oC D m₂ h tk E' hP hC hx F N off ne
      refine wpAny_mono (turn i v ys nw I oI C oC D m₂ h tk E' (by omega) hP hj hC hx F N off ne) (fun ok s₂ hq => ?_) fun _ _ e => e
      cases ok with
      | true =>
        simp only [if_true] at hq ⊢
        refine wpAny_mono hq (fun y s₃ hr => ?_) fun _ _ e => e
        obtain ⟨h', tk', nw', e', F', N', off', hS, hj'⟩ := hr
        exact ⟨h', tk', nw', e', F', N', off', hS, ih (i + 1) _ _ (by omega) hj'⟩
      | false =>
        simp only [Bool.false_eq_true, if_false] at hq ⊢
        obtain ⟨h', tk', nw', e', F', N', off', hS, hj'⟩ := hq
        exact ⟨h', tk', nw', e', F', N', off', hS, ih (i + 1) _ _ (by omega) hj'⟩
  exact key n 0 [] news (by omega) h0
end

/-! lists of values by what they stand for -/
abbrev Pd {α : Type} (F : α → Value → Prop) (as : List α) (vs : List Value) : Prop := PySem.Paired F as vs
theorem pd_len {α : Type} {F : α → Value → Prop} {as : List α} {vs : List Value} (h : Pd F as vs) : as.length = vs.length := PySem.Paired.length h
theorem pd_at {α : Type} {F : α → Value → Prop} : ∀ {as : List α} {vs : List Value}, Pd F as vs → ∀ (i : Nat) (v : Value), vs[i]? = some v → ∃ a, as[i]? = some a ∧ F a v
  | _, _, .nil, i, v, h => by simp at h
  | _, _, .cons h₁ t, 0, v, h => by simp at h; subst h; exact ⟨_, by simp, h₁⟩
  | _, _, .cons h₁ t, i + 1, v, h => by simp at h; obtain ⟨a, e, f⟩ := pd_at t i v h; exact ⟨a, by simpa using e, f⟩
theorem pd_get {α : Type} {F : α → Value → Prop} : ∀ {as : List α} {vs : List Value}, Pd F as vs → ∀ (i : Nat) (a : α), as[i]? = some a → ∃ v, vs[i]? = some v ∧ F a v
  | _, _, .nil, i, v, h => by simp at h
  | _, _, .cons h₁ t, 0, v, h => by simp at h; subst h; exact ⟨_, by simp, h₁⟩
  | _, _, .cons h₁ t, i + 1, v, h => by simp at h; obtain ⟨a, e, f⟩ := pd_get t i v h; exact ⟨a, by simpa using e, f⟩
def IntV (n : Int) (v : Value) : Prop := ∃ t, v = .int n t
theorem pd_ints : ∀ {vs : List Value} {ns : List Int}, IntsAre vs ns → Pd IntV ns vs
  | _, _, .nil => .nil
  | _, _, .cons n t h => .cons ⟨t, rfl⟩ (pd_ints h)
theorem ints_pd : ∀ {vs : List Value} {ns : List Int}, Pd IntV ns vs → IntsAre vs ns
  | _, _, .nil => .nil
  | _, _, .cons ⟨_, e⟩ h => by rw [e]; exact .cons _ _ (ints_pd h)

section
open LCg
variable {prog : Program} {w : World} {A : Around} {h₀ : Heap} {L : Addr} {m : Str → Option Value} {env : Env} {ct elt : Expr} {x : Str} {scope : Scope} {cl : List (Str × Addr)} {s : Shared} {S : List (Addr × Obj) → Prop} {Fin : List Value → List (Addr × Obj) → Prop} {news : List (Addr × Obj)}

/-- a comprehension over a list that leaves the ledger as it was, item by item -/
theorem comp_pd {α β : Type} {F : α → Value → Prop} (G : β → Value → Prop) (f : α → β) {as : List α} {its : Array Value} (hi : Pd F as its.toList)
    (turn : ∀ a v I oI C oC D ys m₂ h tk (E' : Value → Shared → Prop), a ∈ as → F a v → ys.length ≤ as.length → NsObj oC m₂ → m₂ x = some v → Fr h₀ L h m → News h₀ L h ((I, oI) :: (C, oC) :: (D, lst ys) :: news) → Off3 I C D news → ((@Ne Nat I C) ∧ (@Ne Nat I D) ∧ (@Ne Nat C D)) →
      wpAny (model prog w) A (eval elt (compEnvC scope cl C env)) (CompEnd h₀ L m { s with heap := h, toks := tk } I oI C oC D (lst ys) S (fun y nw' => nw' = news ∧ G (f a) y)) E' { s with heap := h, toks := tk })
    (fin : ∀ ys, Pd G (as.map f) ys → Fin ys news) : CompRest prog w A h₀ L m env elt x scope cl s S (fun i v => its[i]? = some v) Fin its.size 0 [] news := by
  have hl := pd_len hi
  refine comp_inv (fun i ys nw => nw = news ∧ Pd G ((as.take i).map f) ys) ⟨rfl, by simp; exact .nil⟩ ?_ ?_
  · intro i v ys nw I oI C oC D m₂ h tk E' hin hP hJ hC hx F' N off ne
    obtain ⟨rfl, hy⟩ := hJ
    obtain ⟨a, ha, hF⟩ := pd_at hi i v (by simpa using hP)
    have hyl := pd_len hy
    refine wpAny_mono (turn a v I oI C oC D ys m₂ h tk E' (List.mem_of_getElem? ha) hF (by rw [← hyl]; simp; omega) hC hx F' N off ne) (fun y s₂ hq => ?_) fun _ _ e => e
    obtain ⟨h', tk', nw', e', F₂, N₂, off', hS, hn, hg⟩ := hq
    refine ⟨h', tk', nw', e', F₂, N₂, off', hS, hn, ?_⟩
    rw [List.take_add_one, ha, List.map_append]
    exact PySem.Paired.snoc hy hg
  · rintro ys nw ⟨rfl, hy⟩
    refine fin ys ?_
    have : as.take its.size = as := by rw [List.take_of_length_le]; simp at hl; omega
    rwa [this] at hy

/-- the same with a test -/
theorem compT_pd {α β : Type} {F : α → Value → Prop} (G : β → Value → Prop) (p : α → Bool) (f : α → β) {as : List α} {its : Array Value} (hi : Pd F as its.toList)
    (turn : ∀ a v I oI C oC D ys m₂ h tk (E' : Value → Shared → Prop), a ∈ as → F a v → ys.length ≤ as.length → NsObj oC m₂ → m₂ x = some v → Fr h₀ L h m → News h₀ L h ((I, oI) :: (C, oC) :: (D, lst ys) :: news) → Off3 I C D news → ((@Ne Nat I C) ∧ (@Ne Nat I D) ∧ (@Ne Nat C D)) →
      wpAny (model prog w) A (isTrue ct (compEnvC scope cl C env) (eval ct (compEnvC scope cl C env))) (fun ok s' => if ok = true then
        wpAny (model prog w) A (eval elt (compEnvC scope cl C env)) (CompEnd h₀ L m { s with heap := h, toks := tk } I oI C oC D (lst ys) S (fun y nw' => nw' = news ∧ p a = true ∧ G (f a) y)) E' s'
        else CompEnd h₀ L m { s with heap := h, toks := tk } I oI C oC D (lst ys) S (fun _ nw' => nw' = news ∧ p a = false) Value.none s') E' { s with heap := h, toks := tk })
    (fin : ∀ ys, Pd G ((as.filter p).map f) ys → Fin ys news) : LCt.CompRestT prog w A h₀ L m env ct elt x scope cl s S (fun i v => its[i]? = some v) Fin its.size 0 [] news := by
  have hl := pd_len hi
  refine compT_inv (fun i ys nw => nw = news ∧ Pd G (((as.take i).filter p).map f) ys) ⟨rfl, by simp; exact .nil⟩ ?_ ?_
  · intro i v ys nw I oI C oC D m₂ h tk E' hin hP hJ hC hx F' N off ne
    obtain ⟨rfl, hy⟩ := hJ
    obtain ⟨a, ha, hF⟩ := pd_at hi i v (by simpa using hP)
    have hyl := pd_len hy
    have hle : ys.length ≤ as.length := by
      rw [← hyl, List.length_map]
      exact Nat.le_trans (List.length_filter_le _ _) (by simp; omega)
    refine wpAny_mono (turn a v I oI C oC D ys m₂ h tk E' (List.mem_of_getElem? ha) hF hle hC hx F' N off ne) (fun ok s₂ hq => ?_) fun _ _ e => e
    cases ok with
    | true =>
      simp only [if_true] at hq ⊢
      refine wpAny_mono hq (fun y s₃ hr => ?_) fun _ _ e => e
      obtain ⟨h', tk', nw', e', F₂, N₂, off', hS, hn, hp, hg⟩ := hr
      refine ⟨h', tk', nw', e', F₂, N₂, off', hS, hn, ?_⟩
      rw [PySem.take_succ_filter p as i a ha, List.map_append, hp]
      exact PySem.Paired.snoc hy hg
    | false =>
      simp only [Bool.false_eq_true, if_false] at hq ⊢
      obtain ⟨h', tk', nw', e', F₂, N₂, off', hS, hn, hp⟩ := hq
      refine ⟨h', tk', nw', e', F₂, N₂, off', hS, hn, ?_⟩
      rw [PySem.take_succ_filter p as i a ha, List.map_append, hp]
      simpa using hy
  · rintro ys nw ⟨rfl, hy⟩
    refine fin ys ?_
    have : as.take its.size = as := by rw [List.take_of_length_le]; simp at hl; omega
    rwa [this] at hy
end

/-! a call whose body leaves all that stood as it stood: the whole heap is its ground -/
section
variable {prog : Program} {w : World} {A A₀ : Around} {s : Shared} {K : Frag} {L : Addr} {h₀ base : Heap} {m mg mb : Str → Option Value} {p : Program} {loose : List Str} {mean : ExcName → Option Value}

end

/-! the frame's map between turns: the stored names by u, all else by m₀ -/
def over (u m₀ : Str → Option Value) : List Str → Str → Option Value
  | [], y => m₀ y
  | a :: r, y => if y = a then u a else over u m₀ r y
theorem over_in {u m₀ : Str → Option Value} : ∀ {l : List Str} {y : Str}, (y ∉ l → u y = m₀ y) → over u m₀ l y = u y
  | [], y, h => (h List.not_mem_nil).symm
  | a :: r, y, h => by
    unfold over
    by_cases e : y = a
    · rw [if_pos e, e]
    · rw [if_neg e]
      exact over_in fun hn => h fun hm => (List.mem_cons.mp hm).elim e hn
theorem over_set {u m₀ : Str → Option Value} {l : List Str} {x : Str} {v : Option Value} (h : ∀ z, z ≠ x → z ∉ l → u z = m₀ z) : (fun y => if y = x then v else u y) = fun y => if y = x then v else over u m₀ l y := by
  funext y
  by_cases e : y = x
  · rw [if_pos e, if_pos e]
  · rw [if_neg e, if_neg e, over_in fun hn => h y e hn]
theorem over_self {u m₀ : Str → Option Value} {l : List Str} {x : Str} (h : ∀ z, z ≠ x → z ∉ l → u z = m₀ z) : u = fun y => if y = x then u x else over u m₀ l y := by
  funext y
  by_cases e : y = x
  · rw [if_pos e, e]
  · rw [if_neg e, over_in fun hn => h y e hn]
def Same (x : Str) (stored : List Str) (m₀ m' : Str → Option Value) : Prop := ∀ z, z ≠ x → z ∉ stored → m' z = m₀ z
section
variable {prog : Program} {w : World} {A : Around} {E : Value → Shared → Prop} {s : Shared} {env : Env} {h₀ : Heap} {x : Str} {body : List Stmt} {Q : Flow → Shared → Prop}
theorem iter_list_o (stored : List Str) {l : Addr} {its : Array Value} {m₀ : Str → Option Value} {news : List (Addr × Obj)} (J : Nat → (Str → Option Value) → List (Addr × Obj) → Prop)
    (hh : A.handled = none) (src : h₀.IsList l its ∨ ∃ ol k, ol.cls = .type "list" ∧ ol.data = .seq its k ∧ ∀ i m nx, J i m nx → (l, ol) ∈ nx)
    (F : Fr h₀ env.locals s.heap m₀) (N : News h₀ env.locals s.heap news) (hj : J 0 m₀ news)
    (turn : ∀ i v u nw I oI h tk, its[i]? = some v → J i u nw → Off I nw → Fr h₀ env.locals h (fun y => if y = x then some v else over u m₀ stored y) → News h₀ env.locals h ((I, oI) :: nw) →
      wpAny (model prog w) A (execs body env) (TurnPost h₀ env.locals I oI (fun m' nx => Same x stored m₀ m' ∧ J (i + 1) m' nx) { s with heap := h, toks := tk } Q) E { s with heap := h, toks := tk })
    (done : ∀ u nw h tk, J its.size u nw → Fr h₀ env.locals h (fun y => if y = x then u x else over u m₀ stored y) → News h₀ env.locals h nw → Q .next { s with heap := h, toks := tk }) :
    wpAny (model prog w) A (pyIter (.ref l)) (fun it s₂ => LoopAtV prog w A h₀ env x body Q E it s₂) E s := by
  refine iter_list (fun i m nx => Same x stored m₀ m ∧ J i m nx) hh (src.imp id fun ⟨ol, k, a, b, c⟩ => ⟨ol, k, a, b, fun i m nx h => c i m nx h.2⟩) F N ⟨fun _ _ _ => rfl, hj⟩ ?_ ?_
  · rintro i v m₁ nw I oI h tk hv ⟨hs, hJ⟩ hoff F₁ N₁
    rw [over_set hs] at F₁
    exact turn i v m₁ nw I oI h tk hv hJ hoff F₁ N₁
  · rintro m₁ nw h tk ⟨hs, hJ⟩ F₁ N₁
    refine done m₁ nw h tk hJ ?_ N₁
    rw [← over_self hs]; exact F₁
/-- the ledger stays: J is of the names alone -/
theorem iter_list_s (stored : List Str) {l : Addr} {its : Array Value} {m₀ : Str → Option Value} {news : List (Addr × Obj)} (J : Nat → (Str → Option Value) → Prop)
    (hh : A.handled = none) (src : h₀.IsList l its ∨ ∃ ol k, ol.cls = .type "list" ∧ ol.data = .seq its k ∧ (l, ol) ∈ news)
    (F : Fr h₀ env.locals s.heap m₀) (N : News h₀ env.locals s.heap news) (hj : J 0 m₀)
    (turn : ∀ i v u I oI h tk, its[i]? = some v → J i u → Off I news → Fr h₀ env.locals h (fun y => if y = x then some v else over u m₀ stored y) → News h₀ env.locals h ((I, oI) :: news) →
      wpAny (model prog w) A (execs body env) (TurnPost h₀ env.locals I oI (fun m' nx => Same x stored m₀ m' ∧ nx = news ∧ J (i + 1) m') { s with heap := h, toks := tk } Q) E { s with heap := h, toks := tk })
    (done : ∀ u h tk, J its.size u → Fr h₀ env.locals h (fun y => if y = x then u x else over u m₀ stored y) → News h₀ env.locals h news → Q .next { s with heap := h, toks := tk }) :
    wpAny (model prog w) A (pyIter (.ref l)) (fun it s₂ => LoopAtV prog w A h₀ env x body Q E it s₂) E s := by
  refine iter_list_o stored (fun i m nx => nx = news ∧ J i m) hh (src.imp id fun ⟨ol, k, a, b, c⟩ => ⟨ol, k, a, b, fun i m nx h => h.1 ▸ c⟩) F N ⟨rfl, hj⟩ ?_ ?_
  · rintro i v u nw I oI h tk hv ⟨rfl, hJ⟩ hoff F₁ N₁
    exact turn i v u I oI h tk hv hJ hoff F₁ N₁
  · rintro u nw h tk ⟨rfl, hJ⟩ F₁ N₁
    exact done u h tk hJ F₁ N₁
end

/-- a turn's end: what the turn has made and dropped stands ahead (ext) -/
theorem TurnEnd.mk' {h₀ : Heap} {L I : Addr} {oI : Obj} {J : (Str → Option Value) → List (Addr × Obj) → Prop} {s₁ : Shared} {h' : Heap} {tk : Nat} {m' : Str → Option Value} (ext : List (Addr × Obj)) {nx : List (Addr × Obj)}
    (F : Fr h₀ L h' m') (N : News h₀ L h' (ext ++ (I, oI) :: nx)) (off : Off I nx) (hj : J m' nx) :
    TurnEnd h₀ L I oI J s₁ { s₁ with heap := h', toks := tk } := ⟨h', tk, m', nx, rfl, F, fun p hp => N p (List.mem_append_right _ hp), off, hj⟩

section
variable {prog : Program} {w : World} {A : Around} {E : Value → Shared → Prop} {s : Shared} {env : Env} {h₀ : Heap} {x : Str} {body : List Stmt} {Q : Flow → Shared → Prop}
theorem take_split {α : Type} {as : List α} {i : Nat} {a : α} (h : as[i]? = some a) : as = as.take i ++ a :: as.drop (i + 1) := by
  have hi : i < as.length := by
    rcases Nat.lt_or_ge i as.length with q | q
    · exact q
    · rw [List.getElem?_eq_none q] at h; cases h
  have : as[i] = a := by rw [List.getElem?_eq_getElem hi] at h; exact Option.some.inj h
  rw [← this, ← List.drop_eq_getElem_cons hi, List.take_append_drop]
theorem take_next {α : Type} {as : List α} {i : Nat} {a : α} (h : as[i]? = some a) : as.take (i + 1) = as.take i ++ [a] := by rw [List.take_add_one, h]; rfl

end

section
variable {prog : Program} {w : World} {A : Around} {E : Value → Shared → Prop} {s : Shared} {h₀ : Heap} {L D : Addr} {m : Str → Option Value} {news news' : List (Addr × Obj)} {n : Nat} {k : Int} {t : Tok}
theorem get_at {its : Array Value} {v : Value} {Q : Value → Shared → Prop} (hl : s.heap.IsList D its) (h0 : 0 ≤ k) (hfit : k < 2 ^ 63) (hx : its[k.toNat]? = some v) (h : Q v s) :
    wpAny (model prog w) A (getItem (.ref D) (.int k t)) Q E s := wpAny_getItem_list hl h0 hfit hx h
theorem tail_at {value slice : PySem.Expr} {its : Array Value} {v : Value} {Q : Value → Shared → Prop} (hl : s.heap.IsList D its) (h0 : 0 ≤ k) (hfit : k < 2 ^ 63) (hx : its[k.toNat]? = some v) (h : Q v s)
    (hs : subscripted slice false (.ref D) (.int k t) = operate [.ref D, .int k t] (getItem (.ref D) (.int k t)) := by with_unfolding_all rfl) :
    wpAny (model prog w) A (subscriptTail value slice (.ref D) (.int k t)) Q E s :=
  tail_any hl.typeIs slot_list_getitem.lookup (get_at hl h0 hfit hx h) hs
end

section
variable {prog : Program} {w : World} {A : Around} {E : Value → Shared → Prop} {s : Shared} {h₀ : Heap} {L D : Addr} {m : Str → Option Value} {news news' : List (Addr × Obj)} {n : Nat}
end

section
variable {prog : Program} {w : World} {A : Around} {E : Value → Shared → Prop} {s : Shared} {h₀ : Heap} {L D a b l : Addr} {m : Str → Option Value} {news news' : List (Addr × Obj)} {n k : Nat} {xs zs : List Value} {Q : Value → Shared → Prop}
theorem is_l (N : News h₀ L s.heap news) (ha : (a, listOf xs.toArray n) ∈ news) : s.heap.IsList a xs.toArray := PySem.IsL.isList (n := n) (N _ ha).1
end

section
variable {prog : Program} {w : World} {A : Around} {E : Value → Shared → Prop} {s : Shared} {env : Env} {h₀ : Heap} {x : Str} {body : List Stmt} {Q : Flow → Shared → Prop}
end

section
open LCg
variable {prog : Program} {w : World} {A : Around} {E : Value → Shared → Prop} {s : Shared} {h₀ : Heap} {L : Addr} {m : Str → Option Value} {env : Env}
end
section
open LCg
variable {prog : Program} {w : World} {A : Around} {h₀ : Heap} {L : Addr} {m : Str → Option Value} {env : Env} {elt : Expr} {x : Str} {scope : Scope} {cl : List (Str × Addr)} {s : Shared} {S : List (Addr × Obj) → Prop} {Fin : List Value → List (Addr × Obj) → Prop} {news : List (Addr × Obj)}
end

theorem cend {h₀ : Heap} {L I C D : Addr} {m : Str → Option Value} {s₁ : Shared} {oI oC oD : Obj} {S : List (Addr × Obj) → Prop} {rest : Value → List (Addr × Obj) → Prop} {y : Value} {h' : Heap} {tk : Nat} (ext : List (Addr × Obj)) {news' : List (Addr × Obj)}
    (F : Fr h₀ L h' m) (N : News h₀ L h' (ext ++ (I, oI) :: (C, oC) :: (D, oD) :: news')) (off : LCg.Off3 I C D news') (hS : S news') (r : rest y news') :
    LCg.CompEnd h₀ L m s₁ I oI C oC D oD S rest y { s₁ with heap := h', toks := tk } := ⟨h', tk, news', rfl, F, fun p hp => N p (List.mem_append_right _ hp), off, hS, r⟩

section
variable {prog : Program} {w : World} {A A₀ : Around} {s : Shared} {K : Frag} {L : Addr} {h₀ base : Heap} {m mg mb : Str → Option Value} {p : Program} {loose : List Str} {mean : ExcName → Option Value}
end

section
open LCg
variable {prog : Program} {w : World} {A : Around} {h₀ : Heap} {L : Addr} {m : Str → Option Value} {env : Env} {ct elt : Expr} {x : Str} {scope : Scope} {cl : List (Str × Addr)} {s : Shared} {S : List (Addr × Obj) → Prop} {Fin : List Value → List (Addr × Obj) → Prop} {news : List (Addr × Obj)}
end
section
variable {prog : Program} {w : World} {A : Around} {E : Value → Shared → Prop} {s : Shared} {g : Heap} {L D : Addr} {m : Str → Option Value} {its : Array Value} {k : Int} {j : Nat} {t : Tok} {v : Value} {Q : Value → Shared → Prop}
theorem at_up (hl : g.IsList D its) (F : Fr g L s.heap m) : s.heap.IsList D its := hl.at fun o e => F.keep _ _ e
end

/-! a for with any target (a local, a captured name, a tuple) -/
section
variable {prog : Program} {w : World} {A : Around} {s : Shared} {env : Env} {h₀ : Heap} {L : Addr}

theorem codeAny_forT {R : Result → Shared → Prop} {target : Expr} {body : List Stmt} {I : Addr} {fp wr : List Addr} {n : Nat} {P : Nat → Value → Prop} {St : Nat → Heap → Prop} {m : Str → Option Value}
    {news : List (Addr × Obj)} (W : Walks prog w A I fp wr n P St) (hLf : L ∉ fp) (hwr : ∀ b ∈ wr, h₀.get? b = none) (hnw : ∀ p ∈ news, p.1 ∉ wr)
    (hst : St 0 s.heap) (F : Fr h₀ L s.heap m) (N : News h₀ L s.heap news)
    (J : Nat → (Str → Option Value) → List (Addr × Obj) → Prop) (h0 : J 0 m news)
    (step : ∀ i v m₁ news₁ s₁ own, (∃ h tk, s₁ = { s with heap := h, toks := tk }) → i < n → P i v → J i m₁ news₁ → (∀ p ∈ news₁, p.1 ∉ wr) → (∀ p ∈ own, p.1 ∈ fp) → (∀ p ∈ own, s₁.heap.get? p.1 = some p.2) → (∀ b ∈ fp, h₀.get? b = none → ∀ o, s₁.heap.get? b = some o → (b, o) ∈ own) → St (i + 1) s₁.heap →
      Fr h₀ L s₁.heap m₁ → News h₀ L s₁.heap (own ++ news₁) →
      wpAny (model prog w) A (assign target env v) (fun _ s₂ => wpAny (model prog w) A (execs body env) (LoopStepV h₀ L wr own (J (i + 1)) s₁ (fun v s' => R (.ok (.ret v)) s') fun s' => R (.ok .next) s') (notedBy (model prog w) A env fun e s' => R (.error e) s') s₂) (notedBy (model prog w) A env fun e s' => R (.error e) s') s₁)
    (hR : ∀ h' tk m' news', Fr h₀ L h' m' → News h₀ L h' news' → (∀ p ∈ news', p.1 ∉ wr) → J n m' news' → R (.ok .next) { s with heap := h', toks := tk })
    (ht : ∀ v, letOwnedTupleGo target (.ref I) v = pure ()) :
    codeAny (model prog w) A (.forLoop target (.ref I) body [] env) R s := by
  have hLw : L ∉ wr := fun h => hLf (W.sub _ h)
  have old : ∀ b o, h₀.get? b = some o → b ∉ wr := fun b o e hb => by rw [hwr b hb] at e; cases e
  refine codeAny_forLoop
    (fun k s' => ∃ h' tk m' news' i, s' = { s with heap := h', toks := tk } ∧ St i h' ∧ Fr h₀ L h' m' ∧ News h₀ L h' news' ∧ (∀ p ∈ news', p.1 ∉ wr) ∧ J i m' news' ∧ i ≤ n ∧ k = n + 1 - i) ?_ (n + 1)
    ⟨s.heap, s.toks, m, news, 0, rfl, hst, F, N, hnw, h0, Nat.zero_le _, rfl⟩ ht
  rintro k s' ⟨h', tk, m', news', i, rfl, hst', F', N', hnw', hJ, hi, rfl⟩
  have next : ∀ h₁ : Heap, (∀ b o, b ∉ wr → h'.get? b = some o → h₁.get? b = some o) → Fr h₀ L h₁ m' ∧ News h₀ L h₁ news' := fun h₁ hk₁ =>
    ⟨⟨F'.ns.at' fun o e => hk₁ _ o hLw e, fun b o e => hk₁ b o (old b o e) (F'.keep b o e), F'.above⟩, fun p hp => ⟨hk₁ _ _ (hnw' p hp) (N' p hp).1, (N' p hp).2⟩⟩
  by_cases hlt : i < n
  · refine W.item i _ _ _ hlt hst' fun v h₁ tk₁ hP hst₁ hk₁ => ?_
    obtain ⟨F₁, N₁⟩ := next h₁ hk₁
    have Nown : News h₀ L h₁ (ownOf h₀ fp h₁) := news_ownOf hLf
    refine wpAny_mono (step i v m' news' _ (ownOf h₀ fp h₁) ⟨_, _, rfl⟩ hlt hP hJ hnw' ownOf_sub (fun p hp => (Nown p hp).1) (fun b hb hn o e => mem_ownOf hb hn e) hst₁ F₁ (Nown.append N₁)) (fun _ s₂ h₂ => wpAny_mono h₂ (fun f s₃ h₃ => ?_) fun _ _ e => e) fun _ _ e => e
    have fin : LoopStepU h₀ L wr (ownOf h₀ fp h₁) (J (i + 1)) { s with heap := h₁, toks := tk₁ } .next s₃ → ∃ m, m < n + 1 - i ∧ ∃ h' tk m' news' i, s₃ = { s with heap := h', toks := tk } ∧ St i h' ∧ Fr h₀ L h' m' ∧ News h₀ L h' news' ∧ (∀ p ∈ news', p.1 ∉ wr) ∧ J i m' news' ∧ i ≤ n ∧ m = n + 1 - i := by
      rintro ⟨_, h₃', tk₃, m₂, news₂, rfl, F₃, N₃, ha₃, hJ₃⟩
      refine ⟨n + 1 - (i + 1), by omega, h₃', tk₃, m₂, news₂, i + 1, rfl, ?_, F₃, N₃.right, ha₃, hJ₃, hlt, rfl⟩
      refine W.frame _ _ _ hst₁ fun b hb o e => ?_
      cases hn : h₀.get? b with
      | some o₀ =>
        have : o₀ = o := by have := F₁.keep b o₀ hn; rw [e] at this; exact (Option.some.inj this).symm
        exact this ▸ F₃.keep b o₀ hn
      | none => exact (N₃ _ (List.mem_append_left _ (mem_ownOf hb hn e))).1
    cases f with
    | ret v => exact h₃
    | brk => exact h₃
    | cont => exact fin h₃
    | next => exact fin h₃
  · have hin : i = n := by omega
    subst hin
    refine W.done _ _ _ hst' fun h₁ tk₁ hk₁ => wpAny_execs_nil ?_
    obtain ⟨F₁, N₁⟩ := next h₁ hk₁
    exact hR h₁ tk₁ m' news' F₁ N₁ hnw' hJ

def LoopAtT (prog : Program) (w : World) (A : Around) (h₀ : Heap) (L : Addr) (env : Env) (target : Expr) (body : List Stmt) (Q : Flow → Shared → Prop) (E : Value → Shared → Prop) (it : Value) (s₂ : Shared) : Prop :=
  ∃ (I : Addr) (fp wr : List Addr) (n : Nat) (P : Nat → Value → Prop) (St : Nat → Heap → Prop) (m : Str → Option Value) (news : List (Addr × Obj)) (J : Nat → (Str → Option Value) → List (Addr × Obj) → Prop),
    it = .ref I ∧ Walks prog w A I fp wr n P St ∧ L ∉ fp ∧ (∀ b ∈ wr, h₀.get? b = none) ∧ (∀ p ∈ news, p.1 ∉ wr) ∧ St 0 s₂.heap ∧ Fr h₀ L s₂.heap m ∧ News h₀ L s₂.heap news ∧ J 0 m news ∧
    (∀ i v m₁ news₁ s₁ own, (∃ h tk, s₁ = { s₂ with heap := h, toks := tk }) → i < n → P i v → J i m₁ news₁ → (∀ p ∈ news₁, p.1 ∉ wr) → (∀ p ∈ own, p.1 ∈ fp) → (∀ p ∈ own, s₁.heap.get? p.1 = some p.2) → (∀ b ∈ fp, h₀.get? b = none → ∀ o, s₁.heap.get? b = some o → (b, o) ∈ own) → St (i + 1) s₁.heap →
      Fr h₀ L s₁.heap m₁ → News h₀ L s₁.heap (own ++ news₁) →
      wpAny (model prog w) A (assign target env v) (fun _ s₃ => wpAny (model prog w) A (execs body env) (LoopStepV h₀ L wr own (J (i + 1)) s₁ (fun v s' => Q (.ret v) s') fun s' => Q .next s') E s₃) E s₁) ∧
    ∀ h' tk m' news', Fr h₀ L h' m' → News h₀ L h' news' → (∀ p ∈ news', p.1 ∉ wr) → J n m' news' → Q .next { s₂ with heap := h', toks := tk }

theorem For_T {E : Value → Shared → Prop} {Q : Flow → Shared → Prop} {target : Expr} {pos : Pos} {iter : Expr} {body : List Stmt} {m : Str → Option Value} (_F : Fr h₀ L s.heap m)
    (ht : ∀ it v, letOwnedTupleGo target it v = pure ())
    (h : wpAny (model prog w) A (eval iter env) (fun xv s₁ => wpAny (model prog w) A (pyIter xv) (fun it s₂ => LoopAtT prog w A h₀ L env target body Q E it s₂) E s₁) E s)
    (hs : ∀ x, foldedSetIterable iter env x = pure x := by intro _; rfl)
    (hE : PassesOwn (model prog w) A env E := by passes_own) :
    wpAny (model prog w) A (exec (.For target iter body [] pos) env) Q E s := by
  refine wpAny_For (wpAny_mono h (fun xv s₁ h₁ => wpAny_mono h₁ (fun it s₂ h₂ => ?_) fun _ _ e => e) fun _ _ e => e) hs
  obtain ⟨I, fp, wr, n, P, St, m, news, J, rfl, W, hLf, hwr, hnw, hst, F, N, h0, step, hQ⟩ := h₂
  refine codeAny_forT (R := fun r s' => match r with | .ok f => Q f s' | .error e => cameBackBy (model prog w) A env E e s') W hLf hwr hnw hst F N J h0 ?_ hQ (ht _)
  intro i v m₁ news₁ s₁ own a b c d e f g k st F₁ N₁
  exact wpAny_passesOwn hE (wpAny_mono (step i v m₁ news₁ s₁ own a b c d e f g k st F₁ N₁) (fun _ s₃ h₃ => wpAny_passesOwn hE h₃) fun _ _ e => e)
end

section
variable {prog : Program} {w : World} {A : Around} {E : Value → Shared → Prop} {s : Shared} {env : Env} {h₀ : Heap} {L : Addr} {target : Expr} {body : List Stmt} {Q : Flow → Shared → Prop}
def SameT (stored : List Str) (m₀ m' : Str → Option Value) : Prop := ∀ z, z ∉ stored → m' z = m₀ z
theorem over_T {u m₀ : Str → Option Value} {l : List Str} (h : SameT l m₀ u) : u = over u m₀ l := funext fun y => (over_in fun hn => h y hn).symm

/-- over range(a, b) -/
theorem forT_count (stored : List Str) {r : Addr} {a b : Int} {t u v : Tok} (n : Nat) {m₀ : Str → Option Value} {news : List (Addr × Obj)} (J : Nat → (Str → Option Value) → List (Addr × Obj) → Prop)
    (hh : A.handled = none) (hr : IsRange s.heap r a b 1 t u v) (hn : (b - a).toNat = n) (ha : -1000000 ≤ a ∧ a ≤ 1000000) (hb : -1000000 ≤ b ∧ b ≤ 1000000)
    (F : Fr h₀ L s.heap m₀) (N : News h₀ L s.heap news) (hj : J 0 m₀ news)
    (turn : ∀ (i : Nat) (t : Tok) u nw I oI h tk, i < n → J i u nw → Off I nw → Fr h₀ L h (over u m₀ stored) → News h₀ L h ((I, oI) :: nw) →
      wpAny (model prog w) A (assign target env (.int (a + (i : Int)) t)) (fun _ s₂ => wpAny (model prog w) A (execs body env) (TurnPost h₀ L I oI (fun m' nx => SameT stored m₀ m' ∧ J (i + 1) m' nx) { s with heap := h, toks := tk } Q) E s₂) E { s with heap := h, toks := tk })
    (done : ∀ u nw h tk, J n u nw → Fr h₀ L h (over u m₀ stored) → News h₀ L h nw → Q .next { s with heap := h, toks := tk }) :
    wpAny (model prog w) A (pyIter (.ref r)) (fun it s₂ => LoopAtT prog w A h₀ L env target body Q E it s₂) E s := by
  have hsm := small_one (a := a) (b := b) (by omega) (by omega) (by omega) (by omega)
  have hn' : Builtin.Range.rangeSize a b 1 = ((n : Nat) : Int) := by rw [rangeSize_nat, hn]
  refine wpAny_pyIter_range hr hsm ?_
  have W := Walks.range (prog := prog) (w := w) hh s.heap.objs.size a 1 n
  refine ⟨_, _, _, n, _, _, m₀, news, (fun i m nx => SameT stored m₀ m ∧ J i m nx), rfl, W, ?_, ?_, ?_, (by show IsRangeIter _ _ _ _ _; rw [hn']; simpa using Heap.get?_push_size _ rfl), F.push _, (fun p hp => ⟨Heap.get?_push_of_some _ (N p hp).1, (N p hp).2⟩), ⟨fun _ _ => rfl, hj⟩, ?_, ?_⟩
  · intro hm
    exact absurd F.ns.lt ((List.mem_singleton.mp hm) ▸ Nat.lt_irrefl _)
  · intro b hb
    rw [List.mem_singleton.mp hb]
    exact next_is_new F
  · intro p hp hI
    exact absurd (Heap.lt_size (N p hp).1) ((List.mem_singleton.mp hI) ▸ Nat.lt_irrefl _)
  · rintro i v m₁ news₁ s₁ own ⟨hh', tk', rfl⟩ hin hP ⟨hs, hJ⟩ hoff hown hget hin' hst F₁ N₁
    obtain ⟨t, rfl⟩ := hP
    have heI : hh'.get? s.heap.objs.size = some _ := hst
    have hIown := hin' _ (by simp) (next_is_new F) _ heI
    have hoffI : Off s.heap.objs.size news₁ := Off.of fun p hp q => hoff p hp (List.mem_singleton.mpr q)
    generalize hoI : ({ cls := .type "range_iterator", data := .fields #[rawInt (a + ((i + 1 : Nat) : Int) * 1), rawInt ((n : Int) - ((i + 1 : Nat) : Int)), rawInt 1] } : Obj) = oI at heI hIown
    rw [over_T hs] at F₁
    rw [Int.mul_one]
    refine wpAny_mono (turn i t m₁ news₁ s.heap.objs.size oI hh' tk' hin hJ hoffI F₁ (fun p hp => by
      rcases List.mem_cons.mp hp with rfl | hp
      · exact N₁ _ (List.mem_append_left _ hIown)
      · exact N₁ _ (List.mem_append_right _ hp))) (fun _ s₂ h₂ => wpAny_mono h₂ (fun f s₃ p => ?_) fun _ _ e => e) fun _ _ e => e
    have fin : TurnEnd h₀ L s.heap.objs.size oI (fun m' nx => SameT stored m₀ m' ∧ J (i + 1) m' nx) { s with heap := hh', toks := tk' } s₃ → LoopStepU h₀ L [s.heap.objs.size] own (fun m nx => SameT stored m₀ m ∧ J (i + 1) m nx) { s with heap := hh', toks := tk' } .next s₃ := by
      rintro ⟨h', tk, m', nx, e, F', N', hoff', hj'⟩
      refine ⟨rfl, h', tk, m', nx, e, F', fun p hp => ?_, fun p hp q => hoff'.mem p hp (List.mem_singleton.mp q), hj'⟩
      rcases List.mem_append.mp hp with hp | hp
      · have hg := hget p hp
        have h1 := List.mem_singleton.mp (hown p hp)
        obtain ⟨a, o⟩ := p
        dsimp only at h1 hg
        subst h1
        have e9 : o = oI := by
          have := heI.symm.trans hg
          exact (Option.some.inj this).symm
        rw [e9]
        exact N' _ List.mem_cons_self
      · exact N' p (List.mem_cons_of_mem _ hp)
    cases f with
    | ret v => exact .ret p
    | brk => exact .brk p
    | next => exact .next (fin p)
    | cont => exact .cont (fin p)
  · rintro h' tk m' news' F' N' _ ⟨hs, hJ⟩
    rw [over_T hs] at F'
    exact done m' news' h' tk hJ F' N'

end

section
variable {prog : Program} {w : World} {A : Around} {E : Value → Shared → Prop} {s : Shared} {g : Heap} {L D : Addr} {m : Str → Option Value} {its : Array Value} {xs : List Str} {k : Str} {t : Tok} {Q : Value → Shared → Prop}
end

section
variable {h₀ h h' : Heap} {L D : Addr} {m : Str → Option Value} {news : List (Addr × Obj)} {o : Obj}
end
section
variable {prog : Program} {w : World} {A : Around} {E : Value → Shared → Prop} {s : Shared} {env : Env} {h₀ : Heap} {L : Addr} {target : Expr} {body : List Stmt} {Q : Flow → Shared → Prop}
end
section
variable {prog : Program} {w : World} {A : Around} {E : Value → Shared → Prop} {s : Shared} {h₀ : Heap} {L D : Addr} {m : Str → Option Value} {news : List (Addr × Obj)} {vs : List Value} {n : Nat} {k : Int} {j : Nat} {t : Tok} {v : Value} {Q : Value → Shared → Prop}
theorem tail_l {value slice : PySem.Expr} (N : News h₀ L s.heap news) (hm : (D, listOf vs.toArray n) ∈ news) (hx : vs[j]? = some v) (hk : k = (j : Int)) (hj : (j : Int) < 1000000) (h : Q v s)
    (hs : subscripted slice false (.ref D) (.int k t) = operate [.ref D, .int k t] (getItem (.ref D) (.int k t)) := by with_unfolding_all rfl) :
    wpAny (model prog w) A (subscriptTail value slice (.ref D) (.int k t)) Q E s :=
  tail_at (is_l N hm) (by omega) (by omega) (by rw [hk, Int.toNat_natCast]; simpa using hx) h hs
theorem tail_pd {value slice : PySem.Expr} {α : Type} {F : α → Value → Prop} {as : List α} {a : α} (N : News h₀ L s.heap news) (hm : (D, listOf vs.toArray n) ∈ news) (hp : Pd F as vs) (ha : as[j]? = some a) (hk : k = (j : Int)) (hj : (j : Int) < 1000000) (h : ∀ v, F a v → Q v s)
    (hs : subscripted slice false (.ref D) (.int k t) = operate [.ref D, .int k t] (getItem (.ref D) (.int k t)) := by with_unfolding_all rfl) :
    wpAny (model prog w) A (subscriptTail value slice (.ref D) (.int k t)) Q E s := by
  obtain ⟨v, hv, hF⟩ := pd_get hp j a ha
  exact tail_l N hm hv hk hj (h v hF) hs
end

section
variable {prog : Program} {w : World} {A : Around} {E : Value → Shared → Prop} {s : Shared} {h₀ : Heap} {L l : Addr} {m : Str → Option Value} {news : List (Addr × Obj)} {n : Nat} {xs : List Value} {Q : Value → Shared → Prop} {value slice : PySem.Expr} {k : Int} {t : Tok}
end

section
variable {prog : Program} {w : World} {A : Around} {E : Value → Shared → Prop} {s : Shared} {env : Env} {h₀ : Heap} {L : Addr} {target : Expr} {body : List Stmt} {Q Q' : Flow → Shared → Prop}
end

section
variable {prog : Program} {w : World} {A : Around} {E : Value → Shared → Prop} {s : Shared} {env : Env} {h₀ : Heap} {L : Addr} {target : Expr} {body : List Stmt} {Q : Flow → Shared → Prop}
end
section
variable {prog : Program} {w : World} {A : Around} {E : Value → Shared → Prop} {s : Shared} {env : Env} {h₀ : Heap} {L : Addr} {target : Expr} {body : List Stmt} {Q : Flow → Shared → Prop}
end
end Mine
end
section
namespace Mine
/-- the name's part ahead of its first slash, in small letters -/
def token (name : Str) : Str := Txt.lower (((Txt.split name (Str.ofString "/"))[0]?).getD Str.empty)
theorem token_of {name y : Str} (e : (Txt.split name (Str.ofString "/"))[0]? = some y) : token name = Txt.lower y := by unfold token; rw [e]; rfl
def fitsOne (name a : Str) : Bool := a != Str.ofString "*" && !(Builtin.Str.occurrences (token name) (Txt.lower a) 0 (token name).length 1).isEmpty

end Mine
end
section
set_option maxRecDepth 100000
namespace Mine
open PySem.Calls PySem.Spec
section
variable {prog : Program} {w : World} {A : Around} {E : Value → Shared → Prop} {s : Shared}
/-- a method that neither the type nor an object has -/
theorem getMethod_miss {v : Value} {ty id : String} {name : Str} {pl : Sem Bool} {Q : Value × List Value → Shared → Prop} (hT : s.TypeIs v ty) (hg : typeLookup (.type ty) "__getattribute__" = pure (some (.builtin id)))
    (hid : (Manifest.canonical id != "object.__getattribute__") = false) (ha : typeLookup (.type ty) "__getattr__" = pure none) (hmiss : typeLookup (.type ty) name = pure none)
    (h : wpAny (model prog w) A (getAttr v name) (fun _ _ => False) E s) : wpAny (model prog w) A (getMethod v name pl) Q E s := by
  unfold getMethod
  refine wpAny_bind (wpAny_specialOf hT hg ?_)
  show wpAny _ _ (if (Manifest.canonical id != "object.__getattribute__") = true then _ else _) _ _ _
  rw [hid, if_neg (by decide)]
  refine wpAny_bind (wpAny_specialOf hT ha ?_)
  show wpAny _ _ (if (Option.isSome none) = true then _ else _) _ _ _
  rw [if_neg (by decide)]
  refine wpAny_bind (wpAny_specialOf hT hmiss ?_)
  exact wpAny_bind (wpAny_mono h (fun _ _ q => q.elim) fun _ _ e => e)
theorem int_no_getattr : typeLookup (.type "int") "__getattr__" = pure none := by rw [typeLookup_type, builtinLookup_eq_fast]; kernel_rfl
theorem none_no_getattr : typeLookup (.type "NoneType") "__getattr__" = pure none := by rw [typeLookup_type, builtinLookup_eq_fast]; kernel_rfl
theorem list_no_getattr : typeLookup (.type "list") "__getattr__" = pure none := by rw [typeLookup_type, builtinLookup_eq_fast]; kernel_rfl
theorem int_lower : typeLookup (.type "int") (Str.ofString "lower") = pure none := by rw [typeLookup_type, builtinLookup_eq_fast]; kernel_rfl
theorem none_lower : typeLookup (.type "NoneType") (Str.ofString "lower") = pure none := by rw [typeLookup_type, builtinLookup_eq_fast]; kernel_rfl
theorem list_split : typeLookup (.type "list") (Str.ofString "split") = pure none := by rw [typeLookup_type, builtinLookup_eq_fast]; kernel_rfl
theorem missF_int {n : Int} {t : Tok} {name : Str} {Q : Value → Shared → Prop} (hmiss : typeLookup (.type "int") name = pure none) (hA : A.handled = none)
    (h : ∀ h' tk e, Heap.NewExcOf s.heap h' e "AttributeError" → E (.ref e) { s with heap := h', toks := tk }) (hsz : name.length + 100 ≤ sizeLine) : wpAny (model prog w) A (getAttr (.int n t) name) Q E s := by
  obtain ⟨hp, g, d, tk, os⟩ := s
  have hT : ∀ s' : Shared, s'.TypeIs (.int n t) "int" := fun _ => rfl
  have f1 := sub_AttributeError
  have f3 := PySem.F.slot_int_getattribute.lookup
  have f4 := PySem.F.slot_int_getattribute.bind (.int n t)
  have f5 := am_int_getattr_none
  unfold getAttr getAttrBy
  repeat (any_goals (first | assumption | ((with_reducible show wpAny _ _ (call (Value.builtin "int.__getattribute__") _ _) _ _ _); refine call_meets PySem.F.slot_int_getattribute (hT _) am_entry_int_getattribute (PySem.F.args_int_getattribute_2 _ _) (meets_getattribute_miss_int n t name _ hmiss hsz) ⟨hA, fun h' tk' e hx => ?_⟩) | wp_step))
  obtain ⟨t', u', he⟩ := hx.there
  show wpAny _ _ (getattributeRaised _ _ _ _ _ _ _) _ _ _
  unfold getattributeRaised
  repeat (any_goals (first | assumption | wp_step))
  exact h _ _ _ hx.of
theorem missF_none {name : Str} {Q : Value → Shared → Prop} (hmiss : typeLookup (.type "NoneType") name = pure none) (hA : A.handled = none)
    (h : ∀ h' tk e, Heap.NewExcOf s.heap h' e "AttributeError" → E (.ref e) { s with heap := h', toks := tk }) (hsz : name.length + 100 ≤ sizeLine) : wpAny (model prog w) A (getAttr .none name) Q E s := by
  obtain ⟨hp, g, d, tk, os⟩ := s
  have hT : ∀ s' : Shared, s'.TypeIs (.none) "NoneType" := fun _ => rfl
  have f1 := sub_AttributeError
  have f3 := PySem.F.slot_NoneType_getattribute.lookup
  have f4 := PySem.F.slot_NoneType_getattribute.bind (.none)
  have f5 := am_none_getattr_none
  unfold getAttr getAttrBy
  repeat (any_goals (first | assumption | ((with_reducible show wpAny _ _ (call (Value.builtin "object.__getattribute__") _ _) _ _ _); refine call_meets PySem.F.slot_NoneType_getattribute (hT _) PySem.F.entry_object_getattribute (PySem.F.args_object_getattribute_2 _ _) (meets_getattribute_miss_none name _ hmiss hsz) ⟨hA, fun h' tk' e hx => ?_⟩) | wp_step))
  obtain ⟨t', u', he⟩ := hx.there
  show wpAny _ _ (getattributeRaised _ _ _ _ _ _ _) _ _ _
  unfold getattributeRaised
  repeat (any_goals (first | assumption | wp_step))
  exact h _ _ _ hx.of
theorem getMethod_int {n : Int} {t : Tok} {name : Str} {pl : Sem Bool} {Q : Value × List Value → Shared → Prop} (hmiss : typeLookup (.type "int") name = pure none) (hA : A.handled = none) (hsz : name.length + 100 ≤ sizeLine)
    (h : ∀ h' tk e, Heap.NewExcOf s.heap h' e "AttributeError" → E (.ref e) { s with heap := h', toks := tk }) : wpAny (model prog w) A (getMethod (.int n t) name pl) Q E s :=
  getMethod_miss (ty := "int") rfl PySem.F.slot_int_getattribute.lookup (by decide +kernel) int_no_getattr hmiss (missF_int hmiss hA h hsz)
theorem getMethod_none {name : Str} {pl : Sem Bool} {Q : Value × List Value → Shared → Prop} (hmiss : typeLookup (.type "NoneType") name = pure none) (hA : A.handled = none) (hsz : name.length + 100 ≤ sizeLine)
    (h : ∀ h' tk e, Heap.NewExcOf s.heap h' e "AttributeError" → E (.ref e) { s with heap := h', toks := tk }) : wpAny (model prog w) A (getMethod .none name pl) Q E s :=
  getMethod_miss (ty := "NoneType") rfl PySem.F.slot_NoneType_getattribute.lookup (by decide +kernel) none_no_getattr hmiss (missF_none hmiss hA h hsz)
theorem missF_list {a : Addr} {zs : List Value} {k : Nat} {name : Str} {Q : Value → Shared → Prop} (hx : s.heap.get? a = some (W.listOf zs.toArray k)) (hmiss : typeLookup (.type "list") name = pure none)
    (hname : (["__module__", "__name__", "__qualname__", "__doc__", "__annotations__"] : List Str).contains name = false) (hA : A.handled = none)
    (h : ∀ h' tk e, Heap.NewExcOf s.heap h' e "AttributeError" → E (.ref e) { s with heap := h', toks := tk }) (hsz : name.length + 100 ≤ sizeLine) : wpAny (model prog w) A (getAttr (.ref a) name) Q E s := by
  obtain ⟨hp, g, d, tk, os⟩ := s
  have hT : ∀ tk', (⟨hp, g, d, tk', os⟩ : Shared).TypeIs (.ref a) "list" := fun _ => ⟨_, hx, rfl⟩
  have f1 := sub_AttributeError
  have f3 := PySem.F.slot_list_getattribute.lookup
  have f4 := PySem.F.slot_list_getattribute.bind (.ref a)
  have f5 := am_list_getattr_none
  unfold getAttr getAttrBy
  repeat (any_goals (first | assumption | exact hT _ | ((with_reducible show wpAny _ _ (call (Value.builtin "list.__getattribute__") _ _) _ _ _); refine call_meets PySem.F.slot_list_getattribute (hT _) am_entry_list_getattribute (PySem.F.args_list_getattribute_2 _ _) (meets_getattribute_miss_list a zs.toArray k #[] name _ hmiss hname hsz) ⟨hx, hA, fun h' tk' e hx' => ?_⟩) | wp_step))
  obtain ⟨t', u', he⟩ := hx'.there
  show wpAny _ _ (getattributeRaised _ _ _ _ _ _ _) _ _ _
  unfold getattributeRaised
  repeat (any_goals (first | assumption | wp_step))
  exact h _ _ _ hx'.of
theorem getMethod_list {a : Addr} {zs : List Value} {n : Nat} {name : Str} {pl : Sem Bool} {Q : Value × List Value → Shared → Prop} (hl : s.heap.get? a = some (W.listOf zs.toArray n)) (hmiss : typeLookup (.type "list") name = pure none)
    (hname : (["__module__", "__name__", "__qualname__", "__doc__", "__annotations__"] : List Str).contains name = false) (hA : A.handled = none) (hsz : name.length + 100 ≤ sizeLine)
    (h : ∀ h' tk e, Heap.NewExcOf s.heap h' e "AttributeError" → E (.ref e) { s with heap := h', toks := tk }) : wpAny (model prog w) A (getMethod (.ref a) name pl) Q E s :=
  getMethod_miss (ty := "list") ⟨_, hl, rfl⟩ PySem.F.slot_list_getattribute.lookup (by decide +kernel) list_no_getattr hmiss (missF_list hl hmiss hname hA h hsz)
end
section
variable {M : Model} {A : Around} {E : Value → Shared → Prop} {s' : Shared} {base g h : Heap} {outer : List Env} {L a e : Addr} {m : Str → Option Value} {name : Str} {scope : Scope} {cd : Value} {Q : Unit → Shared → Prop}
end
end Mine
end
section
set_option maxRecDepth 100000
namespace Mine
open PySem.Calls PySem.Spec
section
variable {M : Model} {A : Around} {E : Value → Shared → Prop} {s' : Shared} {base g h : Heap} {outer : List Env} {L a e : Addr} {m : Str → Option Value} {name : Str} {scope : Scope} {cd : Value} {Q : Unit → Shared → Prop} {news : List (Addr × Obj)}
/-- an exception that is new, of any fields, leaves its frame: for a try around the call -/
theorem leave_newOfS {cls : String} (K : Below A base outer g) (hx : Heap.NewExcOf h s'.heap e cls) (F : Fr g L h m) (N : News g L h news)
    (hQ : ∀ h', RaisedSN base g outer e (.type cls) news h' → RaisedN base outer e (.type cls) news h' → g.UpToSlots h' → Q () { s' with heap := h' }) (hk : scope.kind = .function := by rfl) :
    wpAny M (A.deeper (envOf name scope L a cd)) (leaving (envOf name scope L a cd) (.ref e)) Q E s' := by
  have K' := K.push (name := name) (a := a) (cd := cd) F hk
  have hin : ∀ env ∈ (envOf name scope L a cd :: outer), ∀ b, env.frame = some b → b ∈ (envOf name scope L a cd :: outer).filterMap (·.frame) := fun env he b hb => List.mem_filterMap.mpr ⟨env, he, hb⟩
  have st : base.StaysIn (hideAll h ((envOf name scope L a cd :: outer).filterMap (·.frame))) := fun b o q => hideAll_get _ (K'.stays b o q) fun hm => by
    rw [(K'.frames.mem hm).1] at q; cases q
  have sg : ∀ b o, g.get? b = some o → b ∉ outer.filterMap (·.frame) → (hideAll h ((envOf name scope L a cd :: outer).filterMap (·.frame))).get? b = some o := fun b o q nm => hideAll_get _ (F.keep b o q) fun hm => by
    rcases kts_mem hm with z | z
    · rw [z, kts_self F] at q
      cases q
    · exact nm z
  have hl : ∀ q ∈ news, (hideAll h ((envOf name scope L a cd :: outer).filterMap (·.frame))).get? q.1 = some q.2 ∧ g.get? q.1 = none ∧ base.get? q.1 = none := fun q hq => by
    refine ⟨hideAll_get _ (N q hq).1 fun hm => ?_, (N q hq).2.2, fresh_of_stays K.stays (N q hq).2.2⟩
    obtain ⟨env, he, hf⟩ := List.mem_filterMap.mp hm
    rcases List.mem_cons.mp he with rfl | he
    · exact (N q hq).2.1 (Option.some.inj hf).symm
    · obtain ⟨o, ho, _⟩ := (K.frames.mem (List.mem_filterMap.mpr ⟨env, he, hf⟩)).2
      rw [(N q hq).2.2] at ho; cases ho
  obtain ⟨ob, ws, he, hcls, hd, h1⟩ := hx.there
  have hz : 1 < ws.size := (Array.getElem?_eq_some_iff.mp h1).1
  have h0 : ws[0]? = some ws[0] := Array.getElem?_eq_getElem (by omega)
  have hen : (hideAll h ((envOf name scope L a cd :: outer).filterMap (·.frame))).get? e = none := by
    cases q : (hideAll h ((envOf name scope L a cd :: outer).filterMap (·.frame))).get? e with
    | none => rfl
    | some o => have := of_hideAll _ q; rw [hx.new] at this; cases this
  refine wpAny_leaving_firstW (a0 := ws[0]) K'.stack ((funFrames_hide K'.frames hin).of_keeps fun b o hb _ => ⟨o, hx.keeps b o hb, rfl⟩) rfl he (fun b o hb => hx.keeps b o (of_hideAll _ hb)) hen hd h1 h0 fun h' hL => ?_
  obtain ⟨k1, ⟨_, _, k2⟩, k3, k4⟩ := hL
  have R : RaisedSN base g outer e (.type cls) news h' := ⟨_, ws[0], st, sg, hl, k1, hen, k2, by rw [← hcls]; exact k3⟩
  exact hQ h' R R.toN (((Heap.UpToSlots.of_keeps F.keep).trans (Heap.UpToSlots.of_keeps hx.keeps)).trans k4)
end
def LeaveT (R : Result → Shared → Prop) (v : Value) (s' : Shared) : Prop := R (.ok (.ret v)) s'
section
variable {prog : Program} {w : World} {A A₀ : Around} {s : Shared} {K : Frag} {L : Addr} {h₀ base : Heap} {m mg mb : Str → Option Value} {p : Program} {loose : List Str} {mean : ExcName → Option Value}
/-- a call of a def that catches what it raises: the whole heap is its ground, up to the caller's frame's slots -/
theorem code_baseS {env : Env} {R : Result → Shared → Prop} {name qual : Str} {params : Arguments} {body : List Stmt} {scope : Scope} {dV kV doc pm cdv ct oc : Value} {an od : Option Addr} {osl : Array (Option Value)} {f : Addr} {args : Args} {binds : List (Str × Value)}
    (B : Below A₀ base [] h₀) (F : Fr h₀ L s.heap m) (X₀ : K.In h₀) (T : Top p loose mean mg mb h₀) (hA : A.frames = some [env]) (hf : env.frame = some L) (hke : env.scope.kind = .function)
    (ho : K.lookup f = some ⟨oc, od, .func (fnOf name qual params body scope dV kV doc pm an cdv ct), osl⟩) (hcd : codeIn K cdv qual = true) (hroom : A.depth < recursionLimit)
    (hbind : BindsTo s (fnOf name qual params body scope dV kV doc pm an cdv ct) args binds) (hloc : ∀ y ∈ binds, scope.names.lookup y.1 = some .local)
    (h : ∀ L' h₁, Fr s.heap L' h₁ (fun y => binds.reverse.lookup y) → News s.heap L' h₁ [] → Below A base [env] s.heap → K.In s.heap → Top p loose mean mg mb s.heap → KtsDicts ([env].filterMap (·.frame)) s.heap →
      wpAny (model prog w) (A.deeper (envOf qual scope L' f cdv)) (execs body (envOf qual scope L' f cdv))
        (fun fl s' => LeaveT R (match fl with | .ret v => v | _ => .none) s')
        (fun e s' => wpAny (model prog w) (A.deeper (envOf qual scope L' f cdv)) (leaving (envOf qual scope L' f cdv) e) (fun _ s'' => R (.error e) s'') (fun e' s'' => R (.error e') s'') s')
        { s with heap := h₁, toks := s.toks + binds.length })
    (hco : scope.isCoroutine = false := by rfl) (hgen : scope.isGenerator = false := by rfl) (hk : scope.kind = .function := by rfl)
    (hcell : ∀ x ∈ scope.names, x.2 ≠ .cell := by decide) : codeAny (model prog w) A (.call (.ref f) args) R s := by
  obtain ⟨FG, BG, st, lv⟩ := groundX (R := R) B F (News.nil (h₀ := h₀) (L := L) (h := s.heap)) hA hf hke
  refine codeAny_call_def (fd := fnOf name qual params body scope dV kV doc pm an cdv ct) (body := body) (binds := binds) hroom ((X₀.keeps F.keep) _ _ ho) rfl (T.nolimit.keeps F.keep) (codeRec_of (X₀.keeps F.keep) hcd) rfl hbind hcell hloc (fun h₁ hns hk₁ => ?_) hco hgen hk
  have hD : KtsDicts ([env].filterMap (·.frame)) s.heap := fun b hb => by
    obtain ⟨oL, es, ep, hL, hLd, _⟩ := F.ns
    simp only [List.filterMap_cons, List.filterMap_nil, hf, List.mem_singleton] at hb
    subst hb
    exact ⟨oL, es, ep, hL, hLd⟩
  exact wpAny_mono (h s.heap.objs.size h₁ ⟨hns, hk₁, Nat.le_refl _⟩ News.nil BG (X₀.keeps F.keep) (T.keeps F.keep) hD) (fun fl s' hr => hr) fun _ _ y => y
end
/-- the caller's frame and ledger behind such a call -/
theorem back_S {h₀ g g' h' : Heap} {L L' : Addr} {env : Env} {m m' : Str → Option Value} (hf : env.frame = some L) (F : Fr h₀ L g m) (T : KtsTurn ([env].filterMap (·.frame)) g g') (F' : Fr g' L' h' m') :
    Fr h₀ L h' m ∧ ∀ b o, @Ne Nat b L → g.get? b = some o → h'.get? b = some o := by
  have hfs : [env].filterMap (·.frame) = [L] := by simp [hf]
  rw [hfs] at T
  obtain ⟨oL, es, ep, hL, hLd, hLk, hLf⟩ := F.ns
  have nL₀ : h₀.get? L = none := kts_self F
  have other : ∀ b o, @Ne Nat b L → g.get? b = some o → h'.get? b = some o := fun b o n e => F'.keep _ _ (T.other b o e fun q => n (List.mem_singleton.mp q))
  obtain ⟨sl, hs⟩ := T.up hL
  refine ⟨⟨⟨_, es, ep, F'.keep _ _ hs, hLd, hLk, hLf⟩, fun b o e => other b o (fun q => ?_) (F.keep b o e), F.above⟩, other⟩
  have q' : b = L := q
  rw [q', nL₀] at e; cases e
theorem after_S {h₀ g h' : Heap} {L : Addr} {news : List (Addr × Obj)} (N : News h₀ L g news) (k : ∀ b o, @Ne Nat b L → g.get? b = some o → h'.get? b = some o) : News h₀ L h' news := fun p hp =>
  ⟨k _ _ (fun q => (N p hp).2.1 q) (N p hp).1, (N p hp).2⟩
end Mine
end
section
set_option maxRecDepth 100000
namespace Mine
open PySem.Calls PySem.Spec
open PySem.Builtin PySem.Builtin.Bytes
theorem slot_bytes_split : Slot "bytes" "split" "bytes.split" :=
  .of (owner := "bytes") (n := "split") (by rw [typeLookup_type, builtinLookup_eq_fast]; kernel_rfl) (by decide +kernel) (by decide +kernel) (by decide +kernel)
    (by first | exact .inl (by decide +kernel) | exact .inr (by decide +kernel)) (by rw [isSubtype_type]; kernel_rfl)
theorem type_bytes_split : typeOf (.builtin "bytes.split") = pure (.type "method_descriptor") := by show builtinType _ = _; rw [builtinType_eq_fast]; kernel_rfl
theorem entry_bytes_split : entryFor table "bytes.split" = some Builtin.«bytes.split» := entryFor_of_tree (by kernel_rfl)
theorem args_bytes_split_2 (a b : Value) : argsOk "bytes.split" ⟨[a, b], []⟩ := by
  unfold argsOk; rw [signature?_of (id := "bytes.split") (n := ['t', 'i', 'l', 'p', 's']) (o := ['s', 'e', 't', 'y', 'b']) (by kernel_rfl) FB.owner_bytes]; kernel_rfl
theorem str_no_buffer : typeLookup (.type "str") "__buffer__" = pure none := by rw [typeLookup_type, builtinLookup_eq_fast]; kernel_rfl
theorem meets_split_str (b : Array UInt8) (t : Tok) (x : Str) (u : Tok) : Meets (Builtin.«bytes.split» ⟨[.bytes b t, .str x u], []⟩) (raisesNew "TypeError") :=
  .of_wp fun prog w A R s h => by
    obtain ⟨hp, g, d, tk, os⟩ := s
    have f1 := str_no_buffer
    have f2 : payload (.bytes b t) = pure b := rfl
    unfold Builtin.«bytes.split» splitM
    dsimp only
    refine wpAny_bind (wpAny_of_eq (a := [some (.str x u), none]) rfl ?_)
    dsimp only
    refine wpAny_bind (wpAny_pure ?_)
    refine wpAny_bind (wpAny_of_eq (a := b) rfl ?_)
    refine wpAny_bind ?_
    unfold bytesLike buffer?
    refine wpAny_bind ?_
    refine wpAny_bind (wpAny_specialOf (T := "str") (typeIs_str _ x u) f1 ?_)
    dsimp only
    refine wpAny_bind (wpAny_specialOf (T := "str") (typeIs_str _ x u) f1 ?_)
    dsimp only
    refine wpAny_pure ?_
    dsimp only
    refine wpAny_bind (wpAny_rule ?_)
    wp_walk
    exact_raiseError plainExc_TypeError h.1 h.2
section
variable {prog : Program} {w : World} {A : Around} {E : Value → Shared → Prop} {s : Shared}
theorem split_bytes {b : Array UInt8} {t : Tok} {x : Str} {u : Tok} {Q : Value → Shared → Prop} (hA : A.handled = none) (h : ∀ h' tk e, Heap.NewExc s.heap h' e "TypeError" → E (.ref e) { s with heap := h', toks := tk }) :
    wpAny (model prog w) A (call (.builtin "bytes.split") [.bytes b t, .str x u]) Q E s :=
  call_meets slot_bytes_split (typeIs_bytes _ _ _) entry_bytes_split (args_bytes_split_2 _ _) (meets_split_str b t x u) ⟨hA, fun h' tk e hx => h h' tk e hx⟩
theorem method_split {b : Array UInt8} {t : Tok} {pl : Sem Bool} {Q : Value × List Value → Shared → Prop} (h : Q (.builtin "bytes.split", [.bytes b t]) s) : wpAny (model prog w) A (getMethod (.bytes b t) (Str.ofString "split") pl) Q E s :=
  KBd.method_of (.bytes b t) (typeIs_bytes _ _ _) slot_bytes_split type_bytes_split KBd.noRef h
end
section
variable {prog : Program} {w : World} {A₀ : Around} {E : Value → Shared → Prop} {s' : Shared} {base g g₀ G : Heap} {outer : List Env} {L a e : Addr} {m : Str → Option Value} {name : Str} {scope : Scope} {cd : Value}
  {b₀ b₁ : Stmt} {suite suite1 : List Stmt} {pos np pos1 np1 : Pos} {rest : List ExceptHandler} {Q : Flow → Shared → Prop} {news : List (Addr × Obj)} {KF : Frag}
  {p : Program} {loose : List Str} {mean : ExcName → Option Value} {mg mb : Str → Option Value} {x x1 : Str} {X T' T1 : String}
/-- caught by the second of two handlers -/
theorem caught_SN2 (R : RaisedSN base G (envOf name scope L a cd :: outer) e (.type X) news s'.heap) (F : Fr g L G m) (K : Below A₀ base outer g) (hsm : G.UpToSlots s'.heap) (XB : KF.In base) (TB : Top p loose mean mg mb base)
    (D : KtsDicts (outer.filterMap (·.frame)) g) (T0 : KtsTurn (outer.filterMap (·.frame)) g₀ g)
    (ex1 : nsIn KF mainGlobals x1 = some none) (hv1 : bootBuiltins x1 = some (.type T1)) (hn1 : x1 ≠ "__name__")
    (hexc1 : isSubtype (.type T1) (.type "BaseException") = pure true) (hnt1 : isSubtype (.type ((Manifest.find? T1).elim "type" fun y => y.metatype)) (.type "tuple") = pure false) (hsub1 : isSubtype (.type X) (.type T1) = pure false)
    (ex : nsIn KF mainGlobals x = some none) (hv : bootBuiltins x = some (.type T')) (hn' : x ≠ "__name__")
    (hexc : isSubtype (.type T') (.type "BaseException") = pure true) (hnt : isSubtype (.type ((Manifest.find? T').elim "type" fun y => y.metatype)) (.type "tuple") = pure false) (hsub : isSubtype (.type X) (.type T') = pure true)
    (k : ∀ h' g', KtsTurn (outer.filterMap (·.frame)) g₀ g' → Fr g' L h' m → News g' L h' news → Below A₀ base outer g' → KF.In g' → Top p loose mean mg mb g' → KtsDicts (outer.filterMap (·.frame)) g' →
      wpAny (model prog w) ((A₀.deeper (envOf name scope L a cd)).mark (some (.ref e))) (execs (b₀ :: suite) (envOf name scope L a cd)) Q E { s' with heap := h' })
    (hk : scope.kind = .function := by rfl) (hx : (envOf name scope L a cd).kindOf x = some .globalImplicit := by rfl) (hd : (x == ("__debug__" : Str)) = false := by decide)
    (hx1 : (envOf name scope L a cd).kindOf x1 = some .globalImplicit := by rfl) (hd1 : (x1 == ("__debug__" : Str)) = false := by decide)
    (hE : PassesOwnAt (model prog w) ((A₀.deeper (envOf name scope L a cd)).mark (some (.ref e))) (A₀.deeper (envOf name scope L a cd)) (envOf name scope L a cd) E := by passes_own) :
    wpAny (model prog w) (A₀.deeper (envOf name scope L a cd)) (noteFrame (.ref e) (envOf name scope L a cd))
      (fun _ s₂ => wpAny (model prog w) (A₀.deeper (envOf name scope L a cd)) (setFlight (.ref e) none) (fun _ s₃ =>
        wpAny (model prog w) (A₀.deeper (envOf name scope L a cd)) (handleBy (.ref e) (envOf name scope L a cd) (.ExceptHandler (some (.Name x1 np1)) none (b₁ :: suite1) pos1 :: .ExceptHandler (some (.Name x np)) none (b₀ :: suite) pos :: rest)) Q E s₃) E s₂) E s' := by
  obtain ⟨B, a0, hB, hBG, hl, hfl⟩ := R
  have hL : B.get? L = none := by
    obtain ⟨_, ⟨L', _, hf, hn', _⟩, _⟩ := hfl.2.2.1
    obtain rfl : L = L' := Option.some.inj hf
    exact hn'
  refine wpAny_looks_onW (Around.frames_deeper K.stack) rfl hfl fun h₄ hheld₄ hsm₄ => ?_
  refine wpAny_landsW hheld₄ fun h₅ hheld hsm₅' => ?_
  have hsm₅ := hsm₄.trans hsm₅'
  obtain ⟨g₅, T₅, F₅, K₅⟩ := kts_ground K F hBG hheld.1 (hsm.trans hsm₅)
  have X₅ : KF.In g₅ := XB.keeps K₅.stays
  have P₅ : TopRead p loose mg mb g₅ := topRead_of (TB.keeps K₅.stays)
  obtain ⟨ob, hob, hobc⟩ := hheld.there
  refine wpAny_handleBy_builtin (X := X) (T := T1) (b := false) hexc1 hnt1 hsub1 (name_B F₅ X₅ P₅ ex1 hv1 hn1 ⟨rfl, ⟨ob, hob, hobc⟩, ?_⟩ hk hx1 hd1)
  simp only [Bool.false_eq_true, if_false]
  refine wpAny_handleBy_builtin (X := X) (T := T') (b := true) hexc hnt hsub (name_B F₅ X₅ P₅ ex hv hn' ⟨rfl, ⟨ob, hob, hobc⟩, ?_⟩ hk hx hd)
  refine lands_againW hheld fun h₆ hfl₆ hsm₆ => ?_
  obtain ⟨g₆, T₆, F₆, K₆⟩ := kts_ground K F hBG hfl₆.1 ((hsm.trans hsm₅).trans hsm₆)
  have Nl : News g₆ L h₆ news := fun q hq => ⟨hfl₆.1 _ _ (hl q hq).1, (fun z => by have := (hl q hq).1; rw [z, hL] at this; cases this), T₆.none_ _ (kts_none F.keep (hl q hq).2.1)⟩
  have X₆ : KF.In g₆ := XB.keeps K₆.stays
  have P₆ : Top p loose mean mg mb g₆ := TB.keeps K₆.stays
  have D₆ : KtsDicts (outer.filterMap (·.frame)) g₆ := D.turn T₆
  exact wpAny_passesOwnAt hE (k h₆ g₆ (T0.trans T₆) F₆ Nl K₆ X₆ P₆ D₆)
end
theorem TypeError_not_Attr : isSubtype (.type "TypeError") (.type "AttributeError") = pure false := by rw [isSubtype_type]; kernel_rfl
end Mine
end
section
namespace Mine
open PySem.Calls PySem.Spec
section
variable {prog : Program} {w : World} {A : Around} {E : Value → Shared → Prop} {s : Shared} {env : Env} {h₀ : Heap} {L : Addr} {target : Expr} {body : List Stmt} {Q : Flow → Shared → Prop}
/-- a for over a list with a target that unpacks -/
theorem forU_list (stored : List Str) {l : Addr} {its : Array Value} {m₀ : Str → Option Value} {news : List (Addr × Obj)} (J : Nat → (Str → Option Value) → List (Addr × Obj) → Prop)
    (hh : A.handled = none) (src : h₀.IsList l its ∨ ∃ ol k, ol.cls = .type "list" ∧ ol.data = .seq its k ∧ ∀ i m nx, J i m nx → (l, ol) ∈ nx)
    (hLe : env.locals = L) (F : Fr h₀ L s.heap m₀) (N : News h₀ L s.heap news) (hj : J 0 m₀ news)
    (turn : ∀ i v u nw I oI h tk, its[i]? = some v → J i u nw → Off I nw → Fr h₀ L h (over u m₀ stored) → News h₀ L h ((I, oI) :: nw) →
      wpAny (model prog w) A (assign target env v) (fun _ s₂ => wpAny (model prog w) A (execs body env) (TurnPost h₀ L I oI (fun m' nx => SameT stored m₀ m' ∧ J (i + 1) m' nx) { s with heap := h, toks := tk } Q) E s₂) E { s with heap := h, toks := tk })
    (done : ∀ u nw h tk, J its.size u nw → Fr h₀ L h (over u m₀ stored) → News h₀ L h nw → Q .next { s with heap := h, toks := tk }) :
    wpAny (model prog w) A (pyIter (.ref l)) (fun it s₂ => TurnsAt prog w A h₀ env target body Q E it s₂) E s := by
  subst hLe
  have hls : s.heap.IsList l its := by
    rcases src with hl | ⟨ol, k, hc, hd, hm⟩
    · exact hl.at fun o e => F.keep l o e
    · exact ⟨ol, (N _ (hm _ _ _ hj)).1, hc, k, hd⟩
  obtain ⟨ol', hol, _⟩ := id hls
  have hlt : l < s.heap.objs.size := Heap.lt_size hol
  have hne : l ≠ s.heap.objs.size := Nat.ne_of_lt hlt
  have hLl : env.locals ≠ l := by
    rcases src with hl | ⟨ol, k, hc, hd, hm⟩
    · obtain ⟨o, e, _⟩ := hl
      exact fun q => absurd (Nat.lt_of_lt_of_le (Heap.lt_size e) F.above) (q ▸ Nat.lt_irrefl _)
    · exact fun q => (N _ (hm _ _ _ hj)).2.1 q.symm
  refine wpAny_pyIter_list hls ?_
  have W := Walks.list (prog := prog) (w := w) hh s.heap.objs.size l hne its
  refine ⟨_, _, _, its.size, _, _, _, m₀, news, (fun i m nx => SameT stored m₀ m ∧ J i m nx), rfl, KTurns.ofWalks W (fun i v s Q E st hq => letGo_listiter st.1 hq), ?_, ?_, ?_, ⟨⟨_, Heap.get?_push_size _ rfl, rfl, rfl⟩, hls.at fun o e => Heap.get?_push_of_some _ e⟩, F.push _, (fun p hp => ⟨Heap.get?_push_of_some _ (N p hp).1, (N p hp).2⟩), ⟨fun _ _ => rfl, hj⟩, ?_, ?_⟩
  · intro hm
    rcases List.mem_cons.mp hm with e | hm
    · exact absurd F.ns.lt (e ▸ Nat.lt_irrefl _)
    · exact hLl (List.mem_singleton.mp hm)
  · intro b hb
    rw [List.mem_singleton.mp hb]
    exact next_is_new F
  · intro p hp hI
    exact absurd (Heap.lt_size (N p hp).1) ((List.mem_singleton.mp hI) ▸ Nat.lt_irrefl _)
  · rintro i v m₁ news₁ hh' tk' own hin hP ⟨hs, hJ⟩ hoff hown hget hin' hst F₁ N₁
    obtain ⟨oI, heI, _⟩ := hst.1
    have hIown : (s.heap.objs.size, oI) ∈ own := hin' _ (by simp) (next_is_new F) oI heI
    have hoffI : Off s.heap.objs.size news₁ := Off.of fun p hp q => hoff p hp (List.mem_singleton.mpr q)
    rw [over_T hs] at F₁
    refine wpAny_mono (turn i v m₁ news₁ _ oI hh' tk' hP hJ hoffI F₁ (fun p hp => by
      rcases List.mem_cons.mp hp with rfl | hp
      · exact N₁ _ (List.mem_append_left _ hIown)
      · exact N₁ _ (List.mem_append_right _ hp))) (fun _ s₂ h₂ => wpAny_mono h₂ (fun f s₃ p => ?_) fun _ _ e => e) fun _ _ e => e
    have fin : TurnEnd h₀ env.locals s.heap.objs.size oI (fun m' nx => SameT stored m₀ m' ∧ J (i + 1) m' nx) { s with heap := hh', toks := tk' } s₃ → LoopStepU h₀ env.locals [s.heap.objs.size] own (fun m nx => SameT stored m₀ m ∧ J (i + 1) m nx) { s with heap := hh', toks := tk' } .next s₃ := by
      rintro ⟨h', tk, m', nx, e, F', N', hoff', hj'⟩
      refine ⟨rfl, h', tk, m', nx, e, F', fun p hp => ?_, fun p hp q => hoff'.mem p hp (List.mem_singleton.mp q), hj'⟩
      rcases List.mem_append.mp hp with hp | hp
      · have hg := hget p hp
        have h0 := (N₁ p (List.mem_append_left _ hp)).2.2
        rcases List.mem_cons.mp (hown p hp) with h1 | h1
        · have e1 : p = (s.heap.objs.size, oI) := by
            obtain ⟨a, o⟩ := p
            dsimp only at h1 hg
            subst h1
            have := heI.symm.trans hg
            rw [Option.some.inj this]
          rw [e1]; exact N' _ List.mem_cons_self
        · have h2 : p.1 = l := List.mem_singleton.mp h1
          rcases src with hl | ⟨ol, k, hc, hd, hm⟩
          · obtain ⟨o, e, _⟩ := hl
            rw [h2, e] at h0; cases h0
          · have e1 : p = (l, ol) := by
              obtain ⟨a, o⟩ := p
              dsimp only at h2 hg
              subst h2
              have := (N₁ _ (List.mem_append_right _ (hm _ _ _ hJ))).1
              have := hg.symm.trans this
              rw [Option.some.inj this]
            rw [e1]; exact N' _ (List.mem_cons_of_mem _ (hm _ _ _ hj'.2))
      · exact N' p (List.mem_cons_of_mem _ hp)
    cases f with
    | ret v => exact .ret p
    | brk => exact .brk p
    | next => exact .next (fin p)
    | cont => exact .cont (fin p)
  · rintro h' tk m' news' F' N' _ ⟨hs, hJ⟩
    rw [over_T hs] at F'
    exact done m' news' h' tk hJ F' N'

theorem forU_pd {α : Type} {G : α → Value → Prop} {as : List α} {its : Array Value} (hi : Pd G as its.toList) (stored : List Str) {l : Addr} {m₀ : Str → Option Value} {news : List (Addr × Obj)} (J : List α → (Str → Option Value) → List (Addr × Obj) → Prop)
    (hh : A.handled = none) (src : h₀.IsList l its ∨ ∃ ol k, ol.cls = .type "list" ∧ ol.data = .seq its k ∧ ∀ pre m nx, J pre m nx → (l, ol) ∈ nx)
    (hLe : env.locals = L) (F : Fr h₀ L s.heap m₀) (N : News h₀ L s.heap news) (hj : J [] m₀ news)
    (turn : ∀ pre a post v u nw I oI h tk, as = pre ++ a :: post → G a v → J pre u nw → Off I nw → Fr h₀ L h (over u m₀ stored) → News h₀ L h ((I, oI) :: nw) →
      wpAny (model prog w) A (assign target env v) (fun _ s₂ => wpAny (model prog w) A (execs body env) (TurnPost h₀ L I oI (fun m' nx => SameT stored m₀ m' ∧ J (pre ++ [a]) m' nx) { s with heap := h, toks := tk } Q) E s₂) E { s with heap := h, toks := tk })
    (done : ∀ u nw h tk, J as u nw → Fr h₀ L h (over u m₀ stored) → News h₀ L h nw → Q .next { s with heap := h, toks := tk }) :
    wpAny (model prog w) A (pyIter (.ref l)) (fun it s₂ => TurnsAt prog w A h₀ env target body Q E it s₂) E s := by
  have hl := pd_len hi
  refine forU_list stored (its := its) (fun i m nx => J (as.take i) m nx) hh (src.imp id fun ⟨ol, k, a, b, c⟩ => ⟨ol, k, a, b, fun i m nx h => c _ m nx h⟩) hLe F N (by simpa using hj) ?_ ?_
  · intro i v u nw I oI h tk hv hJ hoff F₁ N₁
    obtain ⟨a, ha, hF⟩ := pd_at hi i v (by simpa using hv)
    rw [take_next ha]
    exact turn _ a _ v u nw I oI h tk (take_split ha) hF hJ hoff F₁ N₁
  · intro u nw h tk hJ F₁ N₁
    refine done u nw h tk ?_ F₁ N₁
    have e : as.take its.size = as := List.take_of_length_le (by rw [hl]; simp)
    rwa [e] at hJ
end
end Mine
end
section
namespace Mine
def txt (k : Int) : Str := if k = 0 then Str.ofString "fig" else if k = 1 then Str.ofString "Plum" else if k = 2 then Str.ofString "*" else Str.ofString "fig/2"
def AgV (k : Int) (v : Value) : Prop := (0 ≤ k ∧ k ≤ 3 ∧ ∃ t, v = .str (txt k) t) ∨ (k = 4 ∧ ∃ t, v = .int 7 t) ∨ (k = 5 ∧ v = .none)
def hit (name : Str) (k : Int) : Bool := decide (3 < k) || fitsOne name (txt k)
def VerdV (o : Option Int) (r : Value) : Prop := match o with
  | none => r = .bool false
  | some k => if k < 4 then r = .bool true else ∃ t, r = .str (Str.ofString "no such thing") t
theorem txt_len {k : Int} : (txt k).length ≤ 5 := by
  unfold txt
  split
  · decide +kernel
  · split
    · decide +kernel
    · split <;> decide +kernel
theorem inst_up {g h : Heap} {L : Addr} {m : Str → Option Value} {x C : Addr} {ox : Obj} {od : Option Obj} (I : InstAt g x ox C od) (F : Fr g L h m) : InstAt h x ox C od :=
  ⟨F.keep _ _ I.at_, I.cls, I.no, by
    have := I.dict
    revert this
    cases ox.dict with
    | none => cases od with
      | none => exact id
      | some o => exact id
    | some a => cases od with
      | none => exact id
      | some o => exact fun e => F.keep _ _ e⟩
/-- an Entry's own dict, as __init__ leaves it *)-/
abbrev entryDict (h1 h2 h3 h4 : Int) (t1 t2 t3 t4 : Tok) (ua rl dl rr : Value) (n : Nat) : Obj :=
  dictOf [⟨h1, .str (Str.ofString "useragents") t1, ua⟩, ⟨h2, .str (Str.ofString "rulelines") t2, rl⟩, ⟨h3, .str (Str.ofString "delay") t3, dl⟩, ⟨h4, .str (Str.ofString "req_rate") t4, rr⟩] n
theorem isExc_AttributeError : isSubtype (.type "AttributeError") (.type "BaseException") = pure true := by rw [isSubtype_type]; kernel_rfl
theorem notTuple_AttributeError : isSubtype (.type ((Manifest.find? "AttributeError").elim "type" fun x => x.metatype)) (.type "tuple") = pure false := by
  rw [show ((Manifest.find? "AttributeError").elim "type" fun x => x.metatype) = "type" from by kernel_rfl, isSubtype_type]; kernel_rfl
end Mine
local macro_rules | `(tactic| kts_caughtN) => `(tactic| ((with_reducible show wpAny _ _ (noteFrame _ _) (fun _ s₂ => wpAny _ _ (setFlight _ none) (fun _ s₃ => wpAny _ _ (handleBy _ _ (ExceptHandler.ExceptHandler (some (Expr.Name ("AttributeError" : Str) _)) none _ _ :: _)) _ _ s₃) _ s₂) _ _); k_dflt (refine' caught_SN0 (T' := "AttributeError") ?R ?F ?K ?U ?XB ?TB ?D ?T0 ?ex PyProof.Rows.Boot.«AttributeError» ?hn Mine.isExc_AttributeError Mine.notTuple_AttributeError ?hs ?_; (case R => assumption); (case F => assumption); (case K => assumption); (case U => assumption); (case XB => assumption); (case TB => assumption); (case D => assumption); (case T0 => first | assumption | exact KtsTurn.refl); (case hs => kts_sub); (case ex => k_is); (case hn => decide); k_whole); intro h' g' T' F' N' K' X' P' D'; (try k_lift K'); (try k_sweep)))
local macro_rules | `(tactic| k_inst) => `(tactic| first | exact Mine.inst_up (by assumption) (by assumption) | exact Mine.inst_up (Mine.inst_up (by assumption) (by assumption)) (by assumption))
local macro_rules | `(tactic| walk_at "leaving ref") => `(tactic| (k_here; (refine' Mine.leave_newOfS ?k1 ?k0 ?k2 ?k3 ?_; (case k0 => assumption); (case k2 => assumption); (case k1 => assumption); (case k3 => k_asm); k_whole; intro h' S' R' U'; (try dsimp only at S' R' U' ⊢))))
local macro_rules | `(tactic| walk_at "getMethod int") => `(tactic| (k_here; k_dflt (refine Mine.getMethod_int (by first | exact Mine.int_lower | exact Mine.int_split) rfl (by decide +kernel) ?_); intro h' tk' e' x'))
local macro_rules | `(tactic| walk_at "getMethod none") => `(tactic| (k_here; k_dflt (refine Mine.getMethod_none Mine.none_lower rfl (by decide +kernel) ?_); intro h' tk' e' x'))
local macro_rules | `(tactic| walk_at "pyIter ref") => `(tactic| (k_here; refine Mine.stop ?_))
local macro_rules | `(tactic| walk_at "call builtin:str.lower") => `(tactic| first
  | ((rename (∀ a, a ∈ _ → Str.length a ≤ _) => hs'); (rename (_[_]? = some _) => hy'); (have hk' := hs' _ (List.mem_of_getElem? hy')); refine SCL.lower (by omega) ?_; intro _)
  | (refine SCL.lower (by omega) ?_; intro _))
set_option maxRecDepth 100000 in
set_option maxHeartbeats 8000000 in
theorem Mine.told {w : World} {p : Program} {loose : List Str} {mean : ExcName → Option Value} {mg mb : Str → Option Value} {base h₀ : Heap} {L : Addr} {m : Str → Option Value} {env : Env} {s : Shared} {Q : Value → Shared → Prop} {E : Value → Shared → Prop}
  (hf : env.frame = some L) (hke : env.scope.kind = .function) (B : Below callerA base [] h₀) (F₀ : Fr h₀ L s.heap m) (X : (Mine.hd07.heap_39 w.params).In h₀) (T : Top p loose mean mg mb h₀) (XB : (Mine.hd07.heap_39 w.params).In base) (TB : Top p loose mean mg mb base)
  {x d l : Addr} {h1 h2 h3 h4 : Int} {t1 t2 t3 t4 : Tok} {rl dl rr : Value} {n : Nat} {vs : List Value} {ks : List Int} {name : Str} {tn : Tok}
  (I : InstAt s.heap x (instObj 59 d) 59 (some (Mine.entryDict h1 h2 h3 h4 t1 t2 t3 t4 (.ref l) rl dl rr n))) (hl : s.heap.IsList l vs.toArray) (hv : Mine.Pd Mine.AgV ks vs)
  (hnm : name.length ≤ 40)
  (hpost : ∀ h' tk r, Fr h₀ L h' m → (∀ b o, @Ne Nat b L → s.heap.get? b = some o → h'.get? b = some o) → Mine.VerdV (ks.find? (Mine.hit name)) r → Q r { s with heap := h', toks := tk }) :
  wpAny (model PySem.Challenge.rw_kn0091_07.row.prog w) (callerA.deeper env) (call (.ref 70) [.ref x, .str name tn] []) Q E s := by
  w_top off
  revert X; k_fill; intro X
  refine wpAny_call (Mine.code_baseS (K := Mine.hd07.heap_39 w.params) B F₀ X T rfl hf hke (by k_is) (by k_is) (by k_room) (BindsTo.of_eq rfl) (locs rfl) ?_ rfl rfl rfl (by decide))
  intro L' h₁ F' N' B' X' T' D'
  dsimp only
  clear B X T
  repeat' (first | (k_unfold; (try dsimp only)) | walk1 | (dsimp only; walk1) | fail "no step")
  rename Fr _ _ _ _ => F9
  rename News _ _ _ _ => N9
  rename Fr s.heap _ _ _ => FG9
  rename (List.map _ _ = Txt.split _ _) => hlk
  rename (_[_]? = some _) => hy9
  have htok := Mine.token_of (by rw [← hlk]; exact hy9)
  refine Mine.unstop (Mine.iter_list_s [] (its := vs.toArray) (fun i u => ∀ k ∈ ks.take i, Mine.hit name k = false) rfl (.inl (hl.at fun o e => FG9.keep _ _ e)) F9 N9 (fun k hk => by simp at hk) ?_ ?_)
  · intro i v u I' oI' h tk hv' hJ hoff0 F N
    have hoff := hoff0
    simp only [Mine.Off, and_true] at hoff
    simp only [Mine.over] at F
    obtain ⟨k, hk, hA⟩ := Mine.pd_at hv i v (by simpa using hv')
    have hsp := Mine.take_split hk
    have hnext : Mine.hit name k = false → ∀ k' ∈ ks.take (i + 1), Mine.hit name k' = false := fun e k' hk' => by
      rw [Mine.take_next hk] at hk'
      rcases List.mem_append.mp hk' with q | q
      · exact hJ k' q
      · rw [List.mem_singleton.mp q]; exact e
    have hfind : Mine.hit name k = true → ks.find? (Mine.hit name) = some k := fun e => by
      rw [hsp, List.find?_append, List.find?_eq_none.mpr (fun a ha q => by rw [hJ a ha] at q; cases q), List.find?_cons_of_pos e]; rfl
    have hkl := Mine.txt_len (k := k)
    rcases hA with ⟨hk0, hk3, t, rfl⟩ | ⟨rfl, t, rfl⟩ | ⟨rfl, rfl⟩
    · (repeat' (first | (k_unfold; (try dsimp only)) | walk1 | (dsimp only; walk1) | fail "no step"))
      · rename ((Mine.txt k != Str.ofString "*") = true) => e1
        rename (List.isEmpty _ = true) => e2
        (try dsimp only [Mine.TurnPost])
        refine Mine.TurnEnd.mk' [] (by assumption) (by assumption) (by exact hoff0) ⟨fun z z1 _ => (if_neg z1).trans (if_neg z1), rfl, hnext ?_⟩
        unfold Mine.hit Mine.fitsOne
        rw [htok, e2, decide_eq_false (by omega)]; simp
      · rename ((Mine.txt k != Str.ofString "*") = true) => e1
        rename (List.isEmpty _ = false) => e2
        have e3 := hfind (by unfold Mine.hit Mine.fitsOne; rw [htok, e2, e1]; simp)
        dsimp only [Mine.TurnPost]
        (repeat' (first | (k_unfold; (try dsimp only)) | walk1 | (dsimp only; walk1) | fail "no step"))
        rename Fr s.heap L' _ _ => kF9
        unfold Mine.LeaveT
        have kb := Mine.back_S hf F₀ KtsTurn.refl kF9
        refine hpost _ _ _ kb.1 kb.2 ?_
        rw [e3]
        show (if k < 4 then _ else _)
        rw [if_pos (by omega)]
      · rename ((Mine.txt k != Str.ofString "*") = false) => e1
        (try dsimp only [Mine.TurnPost])
        refine Mine.TurnEnd.mk' [] (by assumption) (by assumption) (by exact hoff0) ⟨fun z z1 _ => if_neg z1, rfl, hnext ?_⟩
        unfold Mine.hit Mine.fitsOne
        rw [e1, decide_eq_false (by omega)]; rfl
    · have e3 := hfind (by unfold Mine.hit; rfl)
      (repeat' (first | (k_unfold; (try dsimp only)) | walk1 | (dsimp only; walk1) | fail "no step"))
      dsimp only
      rename KtsTurn _ s.heap _ => kT9
      rename Fr _ L' _ _ => kF9
      unfold Mine.LeaveT
      have kb := Mine.back_S hf F₀ kT9 kF9
      refine hpost _ _ _ kb.1 kb.2 ?_
      rw [e3]
      exact ⟨_, rfl⟩
    · have e3 := hfind (by unfold Mine.hit; rfl)
      (repeat' (first | (k_unfold; (try dsimp only)) | walk1 | (dsimp only; walk1) | fail "no step"))
      dsimp only
      rename KtsTurn _ s.heap _ => kT9
      rename Fr _ L' _ _ => kF9
      unfold Mine.LeaveT
      have kb := Mine.back_S hf F₀ kT9 kF9
      refine hpost _ _ _ kb.1 kb.2 ?_
      rw [e3]
      exact ⟨_, rfl⟩
  · intro u h tk hJ F N
    simp only [Mine.over] at F
    dsimp only
    repeat' (first | (k_unfold; (try dsimp only)) | walk1 | (dsimp only; walk1) | fail "no step")
    rename Fr s.heap L' _ _ => kF9
    unfold Mine.LeaveT
    have kb := Mine.back_S hf F₀ KtsTurn.refl kF9
    refine hpost _ _ _ kb.1 kb.2 ?_
    have e3 : ks.find? (Mine.hit name) = none := List.find?_eq_none.mpr fun a ha => by
      have hl9 := Mine.pd_len hv
      rw [List.take_of_length_le (by rw [List.size_toArray]; omega)] at hJ
      rw [hJ a ha]; exact Bool.false_ne_true
    rw [e3]
    rfl
end
section
namespace Mine
def isStar (k : Int) : Bool := k == 2
theorem txt_star : ∀ k : Int, 0 ≤ k → k ≤ 3 → (txt k == Str.ofString "*") = (k == 2) := by
  intro k h0 h3
  have : k = 0 ∨ k = 1 ∨ k = 2 ∨ k = 3 := by omega
  rcases this with rfl | rfl | rfl | rfl <;> decide +kernel
theorem any_star {prog : Program} {w : World} {A : Around} {E : Value → Shared → Prop} {s : Shared} {g : Heap} {L l : Addr} {m : Str → Option Value} {ks : List Int} {vs : List Value} {t : Tok} {Q : Value → Shared → Prop}
    (hl : g.IsList l vs.toArray) (F : Fr g L s.heap m) (hv : Pd AgV ks vs) (h : Q (.bool (ks.any isStar)) s) : wpAny (model prog w) A (compareOp .In (.str (Str.ofString "*") t) (.ref l)) Q E s := by
  have he : ∀ {ks : List Int} {vs : List Value}, Pd AgV ks vs → (∀ y ∈ vs, PySem.SeqAt.EqAt A.in1 s y (.str (Str.ofString "*") t) (isStrOf (Str.ofString "*") y)) ∧ vs.any (isStrOf (Str.ofString "*")) = ks.any isStar := by
    intro ks vs hv
    induction hv with
    | nil => exact ⟨fun _ h => absurd h List.not_mem_nil, rfl⟩
    | @cons k v ks vs h1 _ ih =>
      obtain ⟨i1, i2⟩ := ih
      have one : PySem.SeqAt.EqAt A.in1 s v (.str (Str.ofString "*") t) (isStrOf (Str.ofString "*") v) ∧ isStrOf (Str.ofString "*") v = isStar k := by
        rcases h1 with ⟨h0, h3, tv, rfl⟩ | ⟨rfl, tv, rfl⟩ | ⟨rfl, rfl⟩
        · exact ⟨PySem.SeqAt.EqAt.str_str _ _ _ _, txt_star k h0 h3⟩
        · exact ⟨PySem.SeqAt.EqAt.int_str _ _ _ _, rfl⟩
        · exact ⟨PySem.SeqAt.EqAt.none_str _ _, rfl⟩
      refine ⟨fun y hy => ?_, ?_⟩
      · rcases List.mem_cons.mp hy with rfl | hy
        · exact one.1
        · exact i1 y hy
      · rw [List.any_cons, List.any_cons, one.2, i2]
  obtain ⟨h1, h2⟩ := he hv
  refine PySem.SeqAt.in_listAt _ (at_up hl F) (fun y hy => h1 y (by simpa using hy)) ?_
  rw [← Array.any_toList, show vs.toArray.toList = vs from rfl, h2]
  exact h
end Mine
local macro_rules | `(tactic| kts_caughtN) => `(tactic| ((with_reducible show wpAny _ _ (noteFrame _ _) (fun _ s₂ => wpAny _ _ (setFlight _ none) (fun _ s₃ => wpAny _ _ (handleBy _ _ (ExceptHandler.ExceptHandler (some (Expr.Name ("AttributeError" : Str) _)) none _ _ :: _)) _ _ s₃) _ s₂) _ _); k_dflt (refine' caught_SN0 (T' := "AttributeError") ?R ?F ?K ?U ?XB ?TB ?D ?T0 ?ex PyProof.Rows.Boot.«AttributeError» ?hn Mine.isExc_AttributeError Mine.notTuple_AttributeError ?hs ?_; (case R => assumption); (case F => assumption); (case K => assumption); (case U => assumption); (case XB => assumption); (case TB => assumption); (case D => assumption); (case T0 => first | assumption | exact KtsTurn.refl); (case hs => kts_sub); (case ex => k_is); (case hn => decide); k_whole); intro h' g' T' F' N' K' X' P' D'; (try k_lift K'); (try k_sweep)))
local macro_rules | `(tactic| k_inst) => `(tactic| first | exact Mine.inst_up (by assumption) (by assumption) | exact Mine.inst_up (Mine.inst_up (by assumption) (by assumption)) (by assumption))
local macro_rules | `(tactic| walk_at "leaving ref") => `(tactic| (k_here; (refine' Mine.leave_newOfS ?k1 ?k0 ?k2 ?k3 ?_; (case k0 => assumption); (case k2 => assumption); (case k1 => assumption); (case k3 => k_asm); k_whole; intro h' S' R' U'; (try dsimp only at S' R' U' ⊢))))
local macro_rules | `(tactic| walk_at "getMethod int") => `(tactic| (k_here; k_dflt (refine Mine.getMethod_int (by first | exact Mine.int_lower | exact Mine.int_split) rfl (by decide +kernel) ?_); intro h' tk' e' x'))
local macro_rules | `(tactic| walk_at "getMethod none") => `(tactic| (k_here; k_dflt (refine Mine.getMethod_none Mine.none_lower rfl (by decide +kernel) ?_); intro h' tk' e' x'))
local macro_rules | `(tactic| walk_at "pyIter ref") => `(tactic| (k_here; refine Mine.stop ?_))
local macro_rules | `(tactic| walk_at "call builtin:str.lower") => `(tactic| first
  | ((rename (∀ a, a ∈ _ → Str.length a ≤ _) => hs'); (rename (_[_]? = some _) => hy'); (have hk' := hs' _ (List.mem_of_getElem? hy')); refine SCL.lower (by omega) ?_; intro _)
  | (refine SCL.lower (by omega) ?_; intro _))
local macro_rules | `(tactic| walk_at "compareOp In str ref") => `(tactic| (k_here; refine Mine.stop ?_))
set_option maxRecDepth 100000 in
set_option maxHeartbeats 8000000 in
theorem Mine.toldNone {w : World} {p : Program} {loose : List Str} {mean : ExcName → Option Value} {mg mb : Str → Option Value} {base h₀ : Heap} {L : Addr} {m : Str → Option Value} {env : Env} {s : Shared} {Q : Value → Shared → Prop} {E : Value → Shared → Prop}
  (hf : env.frame = some L) (hke : env.scope.kind = .function) (B : Below callerA base [] h₀) (F₀ : Fr h₀ L s.heap m) (X : (Mine.hd07.heap_39 w.params).In h₀) (T : Top p loose mean mg mb h₀) (XB : (Mine.hd07.heap_39 w.params).In base) (TB : Top p loose mean mg mb base)
  {x d l : Addr} {h1 h2 h3 h4 : Int} {t1 t2 t3 t4 : Tok} {rl dl rr : Value} {n : Nat} {vs : List Value} {ks : List Int} 
  (I : InstAt s.heap x (instObj 59 d) 59 (some (Mine.entryDict h1 h2 h3 h4 t1 t2 t3 t4 (.ref l) rl dl rr n))) (hl : s.heap.IsList l vs.toArray) (hv : Mine.Pd Mine.AgV ks vs)
  (hpost : ∀ h' tk , Fr h₀ L h' m → (∀ b o, @Ne Nat b L → s.heap.get? b = some o → h'.get? b = some o) → Q (.bool (ks.any Mine.isStar)) { s with heap := h', toks := tk }) :
  wpAny (model PySem.Challenge.rw_kn0091_07.row.prog w) (callerA.deeper env) (call (.ref 70) [.ref x, .none] []) Q E s := by
  w_top off
  revert X; k_fill; intro X
  refine wpAny_call (Mine.code_baseS (K := Mine.hd07.heap_39 w.params) B F₀ X T rfl hf hke (by k_is) (by k_is) (by k_room) (BindsTo.of_eq rfl) (locs rfl) ?_ rfl rfl rfl (by decide))
  intro L' h₁ F' N' B' X' T' D'
  dsimp only
  clear B X T
  repeat' (first | (k_unfold; (try dsimp only)) | walk1 | (dsimp only; walk1) | fail "no step")
  rename Fr s.heap L' _ _ => FG9
  rename Fr _ _ _ _ => F9
  refine Mine.unstop (Mine.any_star (hl.at fun o e => FG9.keep _ _ e) F9 hv ?_)
  repeat' (first | (k_unfold; (try dsimp only)) | walk1 | (dsimp only; walk1) | fail "no step")
  rename Fr s.heap L' _ _ => kF9
  unfold Mine.LeaveT
  have kb := Mine.back_S hf F₀ KtsTurn.refl kF9
  exact hpost _ _ kb.1 kb.2
set_option maxRecDepth 100000 in
set_option maxHeartbeats 8000000 in
theorem Mine.told5 {w : World} {p : Program} {loose : List Str} {mean : ExcName → Option Value} {mg mb : Str → Option Value} {base h₀ : Heap} {L : Addr} {m : Str → Option Value} {env : Env} {s : Shared} {Q : Value → Shared → Prop} {E : Value → Shared → Prop}
  (hf : env.frame = some L) (hke : env.scope.kind = .function) (B : Below callerA base [] h₀) (F₀ : Fr h₀ L s.heap m) (X : (Mine.hd07.heap_39 w.params).In h₀) (T : Top p loose mean mg mb h₀) (XB : (Mine.hd07.heap_39 w.params).In base) (TB : Top p loose mean mg mb base)
  {x d l : Addr} {h1 h2 h3 h4 : Int} {t1 t2 t3 t4 : Tok} {rl dl rr : Value} {n : Nat} {vs : List Value} {ks : List Int} 
  (I : InstAt s.heap x (instObj 59 d) 59 (some (Mine.entryDict h1 h2 h3 h4 t1 t2 t3 t4 (.ref l) rl dl rr n))) (hl : s.heap.IsList l vs.toArray) (hv : Mine.Pd Mine.AgV ks vs)
  {n5 : Int} {tn : Tok}
  (hpost : ∀ h' tk tq, Fr h₀ L h' m → (∀ b o, @Ne Nat b L → s.heap.get? b = some o → h'.get? b = some o) → Q (.str (Str.ofString "no such thing") tq) { s with heap := h', toks := tk }) :
  wpAny (model PySem.Challenge.rw_kn0091_07.row.prog w) (callerA.deeper env) (call (.ref 70) [.ref x, .int n5 tn] []) Q E s := by
  w_top off
  revert X; k_fill; intro X
  refine wpAny_call (Mine.code_baseS (K := Mine.hd07.heap_39 w.params) B F₀ X T rfl hf hke (by k_is) (by k_is) (by k_room) (BindsTo.of_eq rfl) (locs rfl) ?_ rfl rfl rfl (by decide))
  intro L' h₁ F' N' B' X' T' D'
  dsimp only
  clear B X T
  repeat' (first | (k_unfold; (try dsimp only)) | walk1 | (dsimp only; walk1) | fail "no step")
  dsimp only
  rename KtsTurn _ s.heap _ => kT9
  rename Fr _ L' _ _ => kF9
  unfold Mine.LeaveT
  have kb := Mine.back_S hf F₀ kT9 kF9
  exact hpost _ _ _ kb.1 kb.2
end
section
local macro_rules | `(tactic| kts_caughtN) => `(tactic| ((with_reducible show wpAny _ _ (noteFrame _ _) (fun _ s₂ => wpAny _ _ (setFlight _ none) (fun _ s₃ => wpAny _ _ (handleBy _ _ (ExceptHandler.ExceptHandler (some (Expr.Name ("AttributeError" : Str) _)) none _ _ :: _)) _ _ s₃) _ s₂) _ _); k_dflt (refine' caught_SN0 (T' := "AttributeError") ?R ?F ?K ?U ?XB ?TB ?D ?T0 ?ex PyProof.Rows.Boot.«AttributeError» ?hn Mine.isExc_AttributeError Mine.notTuple_AttributeError ?hs ?_; (case R => assumption); (case F => assumption); (case K => assumption); (case U => assumption); (case XB => assumption); (case TB => assumption); (case D => assumption); (case T0 => first | assumption | exact KtsTurn.refl); (case hs => kts_sub); (case ex => k_is); (case hn => decide); k_whole); intro h' g' T' F' N' K' X' P' D'; (try k_lift K'); (try k_sweep)))
local macro_rules | `(tactic| k_inst) => `(tactic| first | exact Mine.inst_up (by assumption) (by assumption) | exact Mine.inst_up (Mine.inst_up (by assumption) (by assumption)) (by assumption))
local macro_rules | `(tactic| walk_at "leaving ref") => `(tactic| (k_here; (refine' Mine.leave_newOfS ?k1 ?k0 ?k2 ?k3 ?_; (case k0 => assumption); (case k2 => assumption); (case k1 => assumption); (case k3 => k_asm); k_whole; intro h' S' R' U'; (try dsimp only at S' R' U' ⊢))))
local macro_rules | `(tactic| walk_at "getMethod int") => `(tactic| (k_here; k_dflt (refine Mine.getMethod_int (by first | exact Mine.int_lower | exact Mine.int_split) rfl (by decide +kernel) ?_); intro h' tk' e' x'))
local macro_rules | `(tactic| walk_at "getMethod none") => `(tactic| (k_here; k_dflt (refine Mine.getMethod_none Mine.none_lower rfl (by decide +kernel) ?_); intro h' tk' e' x'))
local macro_rules | `(tactic| walk_at "pyIter ref") => `(tactic| (k_here; refine Mine.stop ?_))
local macro_rules | `(tactic| walk_at "call builtin:str.lower") => `(tactic| first
  | ((rename (∀ a, a ∈ _ → Str.length a ≤ _) => hs'); (rename (_[_]? = some _) => hy'); (have hk' := hs' _ (List.mem_of_getElem? hy')); refine SCL.lower (by omega) ?_; intro _)
  | (refine SCL.lower (by omega) ?_; intro _))
local macro_rules | `(tactic| walk_at "compareOp In str ref") => `(tactic| (k_here; refine Mine.stop ?_))
local macro_rules | `(tactic| kts_caughtN) => `(tactic| ((with_reducible show wpAny _ _ (noteFrame _ _) (fun _ s₂ => wpAny _ _ (setFlight _ none) (fun _ s₃ => wpAny _ _ (handleBy _ _ (ExceptHandler.ExceptHandler (some (Expr.Name ("AttributeError" : Str) _)) none _ _ :: ExceptHandler.ExceptHandler (some (Expr.Name ("TypeError" : Str) _)) none _ _ :: _)) _ _ s₃) _ s₂) _ _); k_dflt (refine' Mine.caught_SN2 (X := "TypeError") (T1 := "AttributeError") (T' := "TypeError") ?R ?F ?K ?U ?XB ?TB ?D ?T0 ?ex1 PyProof.Rows.Boot.«AttributeError» ?hn1 Mine.isExc_AttributeError Mine.notTuple_AttributeError Mine.TypeError_not_Attr ?ex PyProof.Rows.Boot.«TypeError» ?hn PySem.F.isExc_TypeError PySem.F.notTuple_TypeError ?hs ?_; (case R => assumption); (case F => assumption); (case K => assumption); (case U => assumption); (case XB => assumption); (case TB => assumption); (case D => assumption); (case T0 => first | assumption | exact KtsTurn.refl); (case hs => kts_sub); (case ex => k_is); (case ex1 => k_is); (case hn => decide); (case hn1 => decide); k_whole); intro h' g' T' F' N' K' X' P' D'; (try k_lift K'); (try k_sweep)))
local macro_rules | `(tactic| walk_at "getMethod bytes") => `(tactic| (k_here; k_dflt (refine Mine.method_split ?_)))
local macro_rules | `(tactic| walk_at "call builtin:bytes.split") => `(tactic| (k_here; k_dflt (refine Mine.split_bytes rfl ?_); intro h' tk' e' x'))
local macro_rules | `(tactic| walk_at "getMethod ref") => `(tactic| (k_here; (with_reducible show wpAny _ _ (getMethod (Value.ref _) (PySem.Str.ofString "split") _) _ _ _); refine Mine.stop ?_))
set_option maxRecDepth 100000 in
set_option maxHeartbeats 8000000 in
theorem Mine.toldList {w : World} {p : Program} {loose : List Str} {mean : ExcName → Option Value} {mg mb : Str → Option Value} {base h₀ : Heap} {L : Addr} {m : Str → Option Value} {env : Env} {s : Shared} {Q : Value → Shared → Prop} {E : Value → Shared → Prop}
  (hf : env.frame = some L) (hke : env.scope.kind = .function) (B : Below callerA base [] h₀) (F₀ : Fr h₀ L s.heap m) (X : (Mine.hd07.heap_39 w.params).In h₀) (T : Top p loose mean mg mb h₀) (XB : (Mine.hd07.heap_39 w.params).In base) (TB : Top p loose mean mg mb base)
  {x d l : Addr} {h1 h2 h3 h4 : Int} {t1 t2 t3 t4 : Tok} {rl dl rr : Value} {n : Nat} {vs : List Value} {ks : List Int} 
  (I : InstAt s.heap x (instObj 59 d) 59 (some (Mine.entryDict h1 h2 h3 h4 t1 t2 t3 t4 (.ref l) rl dl rr n))) (hl : s.heap.IsList l vs.toArray) (hv : Mine.Pd Mine.AgV ks vs)
  {la : Addr} {zs : List Value} {kl : Nat} (hla : s.heap.get? la = some (W.listOf zs.toArray kl))
  (hpost : ∀ h' tk tq, Fr h₀ L h' m → (∀ b o, @Ne Nat b L → s.heap.get? b = some o → h'.get? b = some o) → Q (.str (Str.ofString "no such thing") tq) { s with heap := h', toks := tk }) :
  wpAny (model PySem.Challenge.rw_kn0091_07.row.prog w) (callerA.deeper env) (call (.ref 70) [.ref x, .ref la] []) Q E s := by
  w_top off
  revert X; k_fill; intro X
  refine wpAny_call (Mine.code_baseS (K := Mine.hd07.heap_39 w.params) B F₀ X T rfl hf hke (by k_is) (by k_is) (by k_room) (BindsTo.of_eq rfl) (locs rfl) ?_ rfl rfl rfl (by decide))
  intro L' h₁ F' N' B' X' T' D'
  dsimp only
  clear B X T
  repeat' (first | (k_unfold; (try dsimp only)) | walk1 | (dsimp only; walk1) | fail "no step")
  rename Fr _ _ _ _ => F9
  rename Fr s.heap _ _ _ => FG9
  refine Mine.unstop (Mine.getMethod_list (F9.keep _ _ (FG9.keep _ _ hla)) Mine.list_split (by decide +kernel) rfl (by decide +kernel) ?_)
  intro h9 tk9 e9 x9
  repeat' (first | (k_unfold; (try dsimp only)) | walk1 | (dsimp only; walk1) | fail "no step")
  dsimp only
  rename KtsTurn _ s.heap _ => kT9
  rename Fr _ L' _ _ => kF9
  unfold Mine.LeaveT
  have kb := Mine.back_S hf F₀ kT9 kF9
  exact hpost _ _ _ kb.1 kb.2
set_option maxRecDepth 100000 in
set_option maxHeartbeats 8000000 in
theorem Mine.toldBytes {w : World} {p : Program} {loose : List Str} {mean : ExcName → Option Value} {mg mb : Str → Option Value} {base h₀ : Heap} {L : Addr} {m : Str → Option Value} {env : Env} {s : Shared} {Q : Value → Shared → Prop} {E : Value → Shared → Prop}
  (hf : env.frame = some L) (hke : env.scope.kind = .function) (B : Below callerA base [] h₀) (F₀ : Fr h₀ L s.heap m) (X : (Mine.hd07.heap_39 w.params).In h₀) (T : Top p loose mean mg mb h₀) (XB : (Mine.hd07.heap_39 w.params).In base) (TB : Top p loose mean mg mb base)
  {x d l : Addr} {h1 h2 h3 h4 : Int} {t1 t2 t3 t4 : Tok} {rl dl rr : Value} {n : Nat} {vs : List Value} {ks : List Int} 
  (I : InstAt s.heap x (instObj 59 d) 59 (some (Mine.entryDict h1 h2 h3 h4 t1 t2 t3 t4 (.ref l) rl dl rr n))) (hl : s.heap.IsList l vs.toArray) (hv : Mine.Pd Mine.AgV ks vs)
  {b5 : Array UInt8} {tn : Tok}
  (hpost : ∀ h' tk tq, Fr h₀ L h' m → (∀ b o, @Ne Nat b L → s.heap.get? b = some o → h'.get? b = some o) → Q (.str (Str.ofString "not of this kind") tq) { s with heap := h', toks := tk }) :
  wpAny (model PySem.Challenge.rw_kn0091_07.row.prog w) (callerA.deeper env) (call (.ref 70) [.ref x, .bytes b5 tn] []) Q E s := by
  w_top off
  revert X; k_fill; intro X
  refine wpAny_call (Mine.code_baseS (K := Mine.hd07.heap_39 w.params) B F₀ X T rfl hf hke (by k_is) (by k_is) (by k_room) (BindsTo.of_eq rfl) (locs rfl) ?_ rfl rfl rfl (by decide))
  intro L' h₁ F' N' B' X' T' D'
  dsimp only
  clear B X T
  repeat' (first | (k_unfold; (try dsimp only)) | walk1 | (dsimp only; walk1) | fail "no step")
  dsimp only
  rename KtsTurn _ s.heap _ => kT9
  rename Fr _ L' _ _ => kF9
  unfold Mine.LeaveT
  have kb := Mine.back_S hf F₀ kT9 kF9
  exact hpost _ _ _ kb.1 kb.2
end
section
namespace Mine
def inFits (fits : List Int) (k : Int) : Bool := decide (3 < k) || fits.any (· == k)
def names6 : List (Str × List Int) := [(Str.ofString "FIG/2", [0]), (Str.ofString "x-plUMx", [1]), (Str.ofString "Plum fig", [0, 1]), (Str.ofString "*", []), (Str.ofString "pl/um/fig", []), (Str.ofString "", [])]
theorem hit_all : ∀ p ∈ names6, ∀ k ∈ ([0, 1, 2, 3] : List Int), fitsOne p.1 (txt k) = p.2.any (· == k) := by decide +kernel
theorem names_len : ∀ p ∈ names6, p.1.length ≤ 40 := by decide +kernel
theorem hit_is {p : Str × List Int} (hp : p ∈ names6) {k : Int} (h0 : 0 ≤ k) (h5 : k ≤ 5) : hit p.1 k = inFits p.2 k := by
  unfold hit inFits
  by_cases h : 3 < k
  · rw [decide_eq_true h]; rfl
  · have hk : k ∈ ([0, 1, 2, 3] : List Int) := by
      have : k = 0 ∨ k = 1 ∨ k = 2 ∨ k = 3 := by omega
      rcases this with rfl | rfl | rfl | rfl <;> decide
    rw [hit_all p hp k hk]
theorem find_head {α : Type} {p : α → Bool} : ∀ l : List α, l.find? p = (l.filter p).head?
  | [] => rfl
  | a :: r => by
    rw [List.find?_cons, List.filter_cons]
    cases h : p a
    · simp only [Bool.false_eq_true, if_false]; exact find_head r
    · simp
theorem find_is {p : Str × List Int} (hp : p ∈ names6) {ks : List Int} (hk : ∀ k ∈ ks, 0 ≤ k ∧ k ≤ 5) : ks.find? (hit p.1) = (ks.filter (inFits p.2)).head? := by
  rw [find_head]
  congr 1
  exact List.filter_congr fun k h => hit_is hp (hk k h).1 (hk k h).2
def kinds (ns : List Int) : List Int := ns.map fun x => Int.fmod x 6
theorem kinds_b {ns : List Int} : ∀ k ∈ kinds ns, 0 ≤ k ∧ k ≤ 5 := fun k hk => by
  obtain ⟨x, _, rfl⟩ := List.mem_map.mp hk
  have h1 := Int.fmod_nonneg_of_pos x (b := 6) (by decide)
  have h2 := Int.fmod_lt_of_pos x (b := 6) (by decide)
  omega
/-- a pair of the list of names -/
def FV (es : List (Addr × Obj)) (p : Str × List Int) (v : Value) : Prop := ∃ t tn fl fs k, v = .ref t ∧ (t, ({ cls := .type "tuple", data := .seq #[.str p.1 tn, .ref fl] } : Obj)) ∈ es ∧ (fl, W.listOf (List.toArray fs) k) ∈ es ∧ Pd IntV p.2 fs
theorem ints_layAll : ∀ ns : List Int, PyData.canLayAll0 (ns.map PyData.int) = true ∧ PyData.depthAll (ns.map PyData.int) = 0
  | [] => ⟨rfl, rfl⟩
  | n :: r => by
    obtain ⟨h1, h2⟩ := ints_layAll r
    simp [PyData.canLayAll0, PyData.canLay0, PyData.depthAll, PyData.depth, h1, h2]
theorem ints_shaped (ns : List Int) : PySem.SeqAt.shaped (.list (ns.map PyData.int)) = true := by
  obtain ⟨h1, h2⟩ := ints_layAll ns
  simp [PySem.SeqAt.shaped, PyData.canLay0, PyData.depth, h1, h2]
theorem ints_carried : ∀ {ns : List Int} {vs : List Value}, Pd IntV ns vs → PyProof.Rows.CarriedAll vs (ns.map PyData.int)
  | _, _, .nil => .nil
  | _, _, .cons ⟨t, e⟩ r => by subst e; exact .cons (.int _ t) (ints_carried r)
section
variable {prog : Program} {w : World} {A : Around} {E : Value → Shared → Prop} {s : Shared}
/-- l != [] of a list of numbers -/
theorem ne_nil {a b : Addr} {xs : List Value} {ns : List Int} {Q : Value → Shared → Prop}
    (ha : s.heap.IsList a xs.toArray) (hb : s.heap.IsList b #[]) (hi : Pd IntV ns xs) (hu : A.units + 64 < cLine) (h : Q (.bool (!decide (ns = []))) s) :
    wpAny (model prog w) A (compareOp .NotEq (.ref a) (.ref b)) Q E s := by
  refine PyProof.Rows.ne_dataH_same (PyProof.Rows.reads_newData ha (ints_carried hi)) (PyProof.Rows.reads_newData (ys := []) hb (ints_carried (ns := []) .nil)) (ints_shaped ns) (ints_shaped []) hu (PySem.SeqAt.noMix_of_shape (.list .int) rfl _ _ (list_map_has fun _ => rfl) rfl) ?_
  have e : PySem.Spec.same (.list (ns.map PyData.int)) (.list (([] : List Int).map PyData.int)) = decide (ns = []) := by
    cases ns with
    | nil => rfl
    | cons n r => simp [PySem.Spec.same, PySem.Spec.sameAll]
  rw [e]; exact h
theorem ag_eq {A : Around} {k : Int} {v v' : Value} (h : AgV k v) (h' : AgV k v') : PySem.SeqAt.EqAt A s v v' true := by
  rcases h with ⟨h0, h3, t, rfl⟩ | ⟨rfl, t, rfl⟩ | ⟨rfl, rfl⟩
  · rcases h' with ⟨_, _, t', rfl⟩ | ⟨rfl, t', rfl⟩ | ⟨rfl, rfl⟩
    · have := PySem.SeqAt.EqAt.str_str (A := A) (s := s) (txt k) t (txt k) t'
      rwa [beq_self_eq_true] at this
    · exact absurd h3 (by decide)
    · exact absurd h3 (by decide)
  · rcases h' with ⟨_, h3, t', rfl⟩ | ⟨_, t', rfl⟩ | ⟨e, rfl⟩
    · exact absurd h3 (by decide)
    · exact PySem.SeqAt.EqAt.int_int _ _ _ _
    · exact absurd e (by decide)
  · rcases h' with ⟨_, h3, t', rfl⟩ | ⟨e, t', rfl⟩ | ⟨_, rfl⟩
    · exact absurd h3 (by decide)
    · exact absurd e (by decide)
    · exact PySem.SeqAt.EqAt.same _
/-- == of two lists of the same kinds -/
theorem eq_ags {a b : Addr} {xs ys : List Value} {ks : List Int} {Q : Value → Shared → Prop} (ha : s.heap.IsList a xs.toArray) (hb : s.heap.IsList b ys.toArray) (hi : Pd AgV ks xs) (hj : Pd AgV ks ys) (hu : A.units < cLine) (h : Q (.bool true) s) :
    wpAny (model prog w) A (compareOp .Eq (.ref a) (.ref b)) Q E s := by
  have l1 := pd_len hi
  have l2 := pd_len hj
  refine PySem.SeqAt.eq_listAt (e := fun _ => true) ha hb (by simp; omega) hu (fun j h1 h2 => ?_) (by rw [show ((List.range xs.toArray.size).all fun _ => true) = true by simp]; exact h)
  obtain ⟨k, hk, hF⟩ := pd_at hi j _ (List.getElem?_eq_getElem (by simpa using h1))
  obtain ⟨k', hk', hF'⟩ := pd_at hj j _ (List.getElem?_eq_getElem (by simpa using h2))
  rw [hk] at hk'; cases hk'
  exact ag_eq (by simpa using hF) (by simpa using hF')
end
end Mine
end
section
namespace Mine
theorem news_es {g h : Heap} {L : Addr} {a e1 e2 e3 e4 e5 e6 e7 e8 e9 e10 e11 e12 : Addr × Obj} {rest : List (Addr × Obj)} (N : News g L h (a :: e1 :: e2 :: e3 :: e4 :: e5 :: e6 :: e7 :: e8 :: e9 :: e10 :: e11 :: e12 :: rest)) :
    News g L h (a :: (rest ++ [e1, e2, e3, e4, e5, e6, e7, e8, e9, e10, e11, e12])) := fun p hp => N p (by
  simp only [List.mem_cons, List.mem_append, List.not_mem_nil, or_false] at hp ⊢
  rcases hp with q | q | q | q | q | q | q | q | q | q | q | q | q | q <;> simp [q])
abbrev tupS (x : Str) (t : Tok) (f : Addr) : Obj := { cls := .type "tuple", data := .seq #[.str x t, .ref f] }
theorem names_pack {g h : Heap} {L c : Addr} {a b1 b2 b3 b4 b5 b6 : Addr × Obj} {oc : Obj} {T0 T1 T2 T3 T4 T5 f0 f1 f2 f3 f4 f5 : Addr} {t0 t1 t2 t3 t4 t5 u1 u2 u3 u4 : Tok} {k0 k1 k2 k3 k4 k5 : Nat}
    (N : News g L h (a :: (T5, tupS (Str.ofString "") t5 f5) :: (f5, W.listOf (List.toArray []) k5) :: (T4, tupS (Str.ofString "pl/um/fig") t4 f4) :: (f4, W.listOf (List.toArray []) k4) :: (T3, tupS (Str.ofString "*") t3 f3) :: (f3, W.listOf (List.toArray []) k3) :: (T2, tupS (Str.ofString "Plum fig") t2 f2) :: (f2, W.listOf (List.toArray [.int 0 u3, .int 1 u4]) k2) :: (T1, tupS (Str.ofString "x-plUMx") t1 f1) :: (f1, W.listOf (List.toArray [.int 1 u2]) k1) :: (T0, tupS (Str.ofString "FIG/2") t0 f0) :: (f0, W.listOf (List.toArray [.int 0 u1]) k0) ::  [b1, b2, b3, b4, b5, b6, (c, oc)])) (hoff : ∀ p ∈ [T5, f5, T4, f4, T3, f3, T2, f2, T1, f1, T0, f0], @Ne Nat p c) :
    ∃ ES, News g L h (a :: ([b1, b2, b3, b4, b5, b6, (c, oc)] ++ ES)) ∧ Pd (FV ES) names6 [.ref T0, .ref T1, .ref T2, .ref T3, .ref T4, .ref T5] ∧ Off c ES := by
  refine ⟨_, news_es N, .cons ⟨_, _, _, _, _, rfl, .tail _ (.tail _ (.tail _ (.tail _ (.tail _ (.tail _ (.tail _ (.tail _ (.tail _ (.tail _ (.head _)))))))))), .tail _ (.tail _ (.tail _ (.tail _ (.tail _ (.tail _ (.tail _ (.tail _ (.tail _ (.tail _ (.tail _ (.head _))))))))))), .cons ⟨_, rfl⟩ (.nil)⟩ (.cons ⟨_, _, _, _, _, rfl, .tail _ (.tail _ (.tail _ (.tail _ (.tail _ (.tail _ (.tail _ (.tail _ (.head _)))))))), .tail _ (.tail _ (.tail _ (.tail _ (.tail _ (.tail _ (.tail _ (.tail _ (.tail _ (.head _))))))))), .cons ⟨_, rfl⟩ (.nil)⟩ (.cons ⟨_, _, _, _, _, rfl, .tail _ (.tail _ (.tail _ (.tail _ (.tail _ (.tail _ (.head _)))))), .tail _ (.tail _ (.tail _ (.tail _ (.tail _ (.tail _ (.tail _ (.head _))))))), .cons ⟨_, rfl⟩ (.cons ⟨_, rfl⟩ (.nil))⟩ (.cons ⟨_, _, _, _, _, rfl, .tail _ (.tail _ (.tail _ (.tail _ (.head _)))), .tail _ (.tail _ (.tail _ (.tail _ (.tail _ (.head _))))), .nil⟩ (.cons ⟨_, _, _, _, _, rfl, .tail _ (.tail _ (.head _)), .tail _ (.tail _ (.tail _ (.head _))), .nil⟩ (.cons ⟨_, _, _, _, _, rfl, .head _, .tail _ (.head _), .nil⟩ (.nil)))))), ?_⟩
  simp only [List.forall_mem_cons, List.not_mem_nil, false_implies, implies_true, and_true] at hoff
  simp only [Off, and_true]
  exact hoff
/-- between the turns over the names -/
def J7 (p0 p1 p2 p3 p4 p5 p6 : Addr × Obj) (c : Addr) (ES nw : List (Addr × Obj)) : Prop := ∃ oC vC, nw = p0 :: p1 :: p2 :: p3 :: p4 :: p5 :: p6 :: (c, oC) :: ES ∧ oC.data = .cell vC
theorem J7.mem {p0 p1 p2 p3 p4 p5 p6 : Addr × Obj} {c : Addr} {ES nw : List (Addr × Obj)} (h : J7 p0 p1 p2 p3 p4 p5 p6 c ES nw) : p0 ∈ nw := by
  obtain ⟨oC, vC, rfl, _⟩ := h; exact .head _
end Mine
end
section
local macro_rules | `(tactic| walk_at "subscriptTail") => `(tactic| (k_here; (with_reducible show wpAny _ _ (subscriptTail _ _ (Value.ref _) (Value.int _ _)) _ _ _); refine Mine.stop ?_))
local macro_rules | `(tactic| walk_at "pyIter ref") => `(tactic| (k_here; refine Mine.stop ?_))
local macro_rules | `(tactic| walk_at "call builtin:list.append") => `(tactic| (k_here; (with_reducible show wpAny _ _ (call (Value.builtin _) [Value.ref _, _]) _ _ _); k_dflt (refine' Mine.append_l ?k1 ?k2 ?k3 ?_ ?z; (case k1 => k_asm); (case k2 => k_asm); (case k3 => k_upd); (case z => (rw [PySem.sizeLine_eq]; omega)); k_whole); intro h' F' N'; (try k_sweep)))
local macro_rules | `(tactic| walk_at "call builtin:len") => `(tactic| (k_here; (with_reducible show wpAny _ _ (call (Value.builtin "len") [Value.ref _]) _ _ _); k_dflt (refine' Mine.len_l ?k1 ?k2 ?k3 ?_; (case k1 => k_asm); (case k2 => k_mem); (case k3 => (rw [PySem.sizeLine_eq]; (try simp only [List.length_append, List.length_cons, List.length_nil]); omega)); k_whole)))
local macro_rules | `(tactic| walk_at "binaryOp Add ref ref") => `(tactic| (k_here; k_dflt (refine' Mine.add_l ?k1 ?k2 ?k3 ?k4 ?k5 ?_; (case k1 => k_asm); (case k2 => k_asm); (case k3 => k_mem); (case k4 => k_mem); (case k5 => (rw [PySem.sizeLine_eq]; (try simp only [List.length_append, List.length_cons, List.length_nil, List.length_take, List.length_drop]); omega)); k_whole); intro D' h' F' N' l1; (try k_lt l1); (try k_sweep)))
local macro_rules | `(tactic| walk_at "call type:list") => `(tactic| (k_here; (with_reducible show wpAny _ _ (call (Value.type _) [Value.ref _]) _ _ _); k_dflt (refine' Mine.copy_l ?k1 ?k2 ?k3 ?k4 ?_; (case k1 => k_asm); (case k2 => k_asm); (case k3 => k_mem); (case k4 => (rw [PySem.sizeLine_eq]; (try simp only [List.length_append, List.length_cons, List.length_nil, List.length_take, List.length_drop]); omega)); k_whole); intro D' c' h' F' N' l1; (try k_lt l1); (try k_sweep)))
local macro_rules | `(tactic| walk_at "subscriptTail Name Slice ref ref") => `(tactic| (k_here; (with_reducible show wpAny _ _ (subscriptTail _ (PySem.Expr.Slice _ _ none _) (Value.ref _) (Value.ref _)) _ _ _); k_dflt ((first | refine' Mine.slice_to ?F ?N ?l ?p ?_ ?s ?t ?z | refine' Mine.slice_from ?F ?N ?l ?p ?_ ?s ?t ?z); (case F => k_asm); (case N => k_asm); (case l => k_mem); (case p => omega); (case s => with_unfolding_all rfl); (case t => kmk_pure); (case z => (rw [PySem.sizeLine_eq]; omega))); intro D' h' F' N' l1; (try k_lt l1); (try k_sweep)))
local macro_rules | `(tactic| walk_at "eval ListComp") => `(tactic| (k_here; first
  | (lcg_look; k_dflt (refine LCg.ListComp_U (F₀ := by k_asm) (by with_unfolding_all rfl) (by decide) (by rfl) (by decide) (by rfl) ?_))
  | (lcf_look; k_dflt (refine LCg.ListComp_U (F₀ := by k_asm) (by with_unfolding_all rfl) (by decide) (by rfl) (by decide) (by rfl) ?_))
  | (lct_look; k_dflt (refine LCt.ListComp_T (F₀ := by k_asm) (by with_unfolding_all rfl) (by decide) (by rfl) (by decide) (by rfl) ?_))))
local macro_rules | `(tactic| walk_at "exec Assign cons ListComp") => `(tactic| (k_here; first
  | (lcg_look; k_dflt (refine LCg.Assign_ListComp_U (F₀ := by k_asm) (by rfl) (by with_unfolding_all rfl) (by with_unfolding_all rfl) (by decide) (by rfl) (by decide) (by rfl) (by rfl) (by rfl) ?_))
  | (lcf_look; k_dflt (refine LCg.Assign_ListComp_U (F₀ := by k_asm) (by rfl) (by with_unfolding_all rfl) (by with_unfolding_all rfl) (by decide) (by rfl) (by decide) (by rfl) (by rfl) (by rfl) ?_))
  | (lct_look; k_dflt (refine LCt.Assign_ListComp_T (F₀ := by k_asm) (by rfl) (by with_unfolding_all rfl) (by with_unfolding_all rfl) (by decide) (by rfl) (by decide) (by rfl) (by rfl) (by rfl) ?_))))
local macro_rules | `(tactic| walk_at "CompSrc") => `(tactic| (k_here; k_dflt (first
  | (refine LCg.CompSrc.ledger (by rfl) (by k_asm) (by k_asm) (by k_mem) (by first | (simp only [List.size_toArray, List.length_append, List.length_cons, List.length_nil, List.length_take, List.length_drop, PySem.sizeLine_eq]; omega) | size_fits) ?_; intro g'; refine Mine.stop ?_)
  | (refine LCg.CompSrc.base (by rfl) (by k_asm) (by k_asm) (by assumption) (by first | (simp only [List.size_toArray, List.length_append, List.length_cons, List.length_nil, List.length_take, List.length_drop, PySem.sizeLine_eq]; omega) | size_fits) ?_; intro g'; refine Mine.stop ?_))))
local macro_rules | `(tactic| walk_at "CompSrcT") => `(tactic| (k_here; k_dflt (first
  | (refine LCt.CompSrcT.ledger (by rfl) (by k_asm) (by k_asm) (by k_mem) (by first | (simp only [List.size_toArray, List.length_append, List.length_cons, List.length_nil, List.length_take, List.length_drop, PySem.sizeLine_eq]; omega) | size_fits) ?_; intro g'; refine Mine.stop ?_)
  | (refine LCt.CompSrcT.base (by rfl) (by k_asm) (by k_asm) (by assumption) (by first | (simp only [List.size_toArray, List.length_append, List.length_cons, List.length_nil, List.length_take, List.length_drop, PySem.sizeLine_eq]; omega) | size_fits) ?_; intro g'; refine Mine.stop ?_))))
local macro_rules | `(tactic| walk_at "exec Assign") => `(tactic| (k_here; with_reducible refine plainObj_wpAny_Assign_Attribute ?_ ?_; rotate_left; with_unfolding_all rfl))
local macro_rules | `(tactic| walk_at "exec For Name Call cons nil") => `(tactic| (k_here; k_dflt (refine Mine.For_T (by k_asm) (by intro _ _; rfl) ?_)))
local macro_rules | `(tactic| walk_at "exec For Name Name cons nil") => `(tactic| (k_here; k_dflt (refine Mine.For_T (by k_asm) (by intro _ _; rfl) ?_)))
local macro_rules | `(tactic| walk_at "exec For Name Attribute cons nil") => `(tactic| (k_here; k_dflt (refine Mine.For_T (by k_asm) (by intro _ _; rfl) ?_)))
local macro_rules | `(tactic| walk_at "CompEnd") => `(tactic| (k_here; refine Mine.stop ?_))
local macro_rules | `(tactic| ktr_rel) => `(tactic| first
  | ((with_reducible show wpAny _ _ (subscriptTail _ _ (Value.ref _) (Value.int _ _)) _ _ _); refine Mine.stop ?_)
  | ((with_reducible show wpAny _ _ (call (Value.ref 70) _ _) _ _ _); refine Mine.stop ?_)
  | ((with_reducible show wpAny _ _ (compareOp CmpOp.In (Value.int _ _) (Value.ref _)) _ _ _); refine Mine.stop ?_)
  | ((with_reducible show wpAny _ _ (compareOp CmpOp.Eq (Value.ref _) (Value.ref _)) _ _ _); refine Mine.stop ?_)
  | ((with_reducible show wpAny _ _ (compareOp CmpOp.NotEq (Value.ref _) (Value.ref _)) _ _ _); refine Mine.stop ?_)
  | ((with_reducible show wpAny _ _ (eval (PySem.Expr.ListComp _ _ _ _) _) _ _ _); refine Mine.stop ?_)
  | ((with_reducible show wpAny _ _ (compareOp CmpOp.NotEq (Value.ref _) (Value.ref _)) _ _ _); refine Mine.stop ?_)
  | ((with_reducible show wpAny _ _ (compareOp CmpOp.In (Value.str _ _) (Value.ref _)) _ _ _); refine Mine.stop ?_)
  | fail "none")
local macro_rules | `(tactic| walk_at "compareOp In str ref") => `(tactic| (k_here; refine Mine.stop ?_))
local macro_rules | `(tactic| ktr_unf) => `(tactic| repeat' (first | (k_unfold; (try dsimp only)) | ktr_rel | walk1 | (dsimp only; walk1) | fail "no step"))
local macro_rules | `(tactic| walk_at "CompSrc") => `(tactic| (k_here; refine Mine.stop ?_))
local macro_rules | `(tactic| walk_at "CompSrcT") => `(tactic| (k_here; refine Mine.stop ?_))
local macro_rules | `(tactic| k_mem) => `(tactic| assumption)
local macro_rules | `(tactic| walk_at "execs cons") => `(tactic| ((with_reducible refine wpAny_execs_cons ?_); try dsimp only))
local macro_rules | `(tactic| walk_at "execs cons Assign cons") => `(tactic| (k_here; walk_at "execs cons"))
local macro_rules | `(tactic| k_all) => `(tactic| exact Mine.Off.mem (by assumption))
local macro_rules | `(tactic| walk_at "newList") => `(tactic| (k_here; k_dflt (refine' newList_K ?k1 ?k2 ?_; (case k1 => k_asm); (case k2 => k_asm); k_whole); intro l' h' F' N' l1; (try k_lt l1); (try k_sweep)))
set_option maxRecDepth 100000 in
set_option maxHeartbeats 8000000 in
theorem PySem.Challenge.cw_kn0091_07_holds : PySem.Challenge.rw_kn0091_07.Holds := by
  refine Mine.hd07 (by
  k_go0
  (all_goals try k_fold)
  rename ¬ ((_ : Nat) : Int) < _ => hle
  rename IntsAre _ _ => hI
  have hlv := hI.length
  have hpi := Mine.pd_ints hI
  rename List Int => ns
  have hgl : List.length ns ≤ 63 := by omega
  ktr_unf
  refine Mine.unstop (LCg.CompSrc.base (by rfl) (by k_asm) (by k_asm) (by assumption) (by simp only [List.size_toArray, PySem.sizeLine_eq]; omega) ?_)
  intro g1
  refine Mine.comp_pd Mine.IntV (fun x => Int.fmod x 6) hpi ?_ ?_
  · intro x v I1 oI1 C1 oC1 D1 ys1 m1 h1 tk1 E1 hx hv hyl1 hC1 hx1 F1 N1 off10 ne1
    obtain ⟨t1, rfl⟩ := hv
    have off1 := off10
    simp only [LCg.Off3, and_true] at off1
    ktr_unf
    refine Mine.unstop (Mine.cend [] (by assumption) (by assumption) off10 (.inl (by assumption)) ⟨rfl, _, rfl⟩)
  · intro ks hks
    have hkb := Mine.kinds_b (ns := ns)
    have hks : Mine.Pd Mine.IntV (Mine.kinds ns) ks := hks
    have hkl := Mine.pd_len hks
    have hkn : (Mine.kinds ns).length = ns.length := by unfold Mine.kinds; rw [List.length_map]
    rw [hkn] at hkl
    generalize Mine.kinds ns = kk at hks hkb hkn
    ktr_unf
    refine Mine.unstop ?_
    (first | lcg_look | lcf_look)
    k_dflt (refine LCg.ListComp_U (F₀ := by k_asm) (by with_unfolding_all rfl) (by decide) (by rfl) (by decide) (by rfl) ?_)
    ktr_unf
    refine Mine.unstop (LCg.CompSrc.ledger (by rfl) (by k_asm) (by k_asm) (.tail _ (.tail _ (.tail _ (.tail _ (.head _))))) (by simp only [List.size_toArray, PySem.sizeLine_eq]; omega) ?_)
    intro g2
    refine Mine.comp_pd Mine.AgV id hks ?_ ?_
    · intro k v I2 oI2 C2 oC2 D2 ys2 m2 h2 tk2 E2 hkm hv hyl2 hC2 hx2 F2 N2 off20 ne2
      obtain ⟨t2, rfl⟩ := hv
      have off2 := off20
      simp only [LCg.Off3] at off2
      have hk6 : k = 0 ∨ k = 1 ∨ k = 2 ∨ k = 3 ∨ k = 4 ∨ k = 5 := by have := hkb k hkm; omega
      ktr_unf
      rcases hk6 with rfl | rfl | rfl | rfl | rfl | rfl
      · rename News _ _ _ _ => N5
        refine Mine.unstop (Mine.tail_l (vs := [_, _, _, _, _, _]) (j := 0) N5 (.head _) rfl rfl (by omega) ?_)
        ktr_unf
        refine Mine.unstop (Mine.cend [_] (by assumption) (by assumption) off20 (.inr ⟨W.listOf _ _, .tail _ (.tail _ (.tail _ (.tail _ (.head _)))), rfl, _, rfl⟩) ⟨rfl, .inl ⟨by decide, by decide, _, rfl⟩⟩)
      · rename News _ _ _ _ => N5
        refine Mine.unstop (Mine.tail_l (vs := [_, _, _, _, _, _]) (j := 1) N5 (.head _) rfl rfl (by omega) ?_)
        ktr_unf
        refine Mine.unstop (Mine.cend [_] (by assumption) (by assumption) off20 (.inr ⟨W.listOf _ _, .tail _ (.tail _ (.tail _ (.tail _ (.head _)))), rfl, _, rfl⟩) ⟨rfl, .inl ⟨by decide, by decide, _, rfl⟩⟩)
      · rename News _ _ _ _ => N5
        refine Mine.unstop (Mine.tail_l (vs := [_, _, _, _, _, _]) (j := 2) N5 (.head _) rfl rfl (by omega) ?_)
        ktr_unf
        refine Mine.unstop (Mine.cend [_] (by assumption) (by assumption) off20 (.inr ⟨W.listOf _ _, .tail _ (.tail _ (.tail _ (.tail _ (.head _)))), rfl, _, rfl⟩) ⟨rfl, .inl ⟨by decide, by decide, _, rfl⟩⟩)
      · rename News _ _ _ _ => N5
        refine Mine.unstop (Mine.tail_l (vs := [_, _, _, _, _, _]) (j := 3) N5 (.head _) rfl rfl (by omega) ?_)
        ktr_unf
        refine Mine.unstop (Mine.cend [_] (by assumption) (by assumption) off20 (.inr ⟨W.listOf _ _, .tail _ (.tail _ (.tail _ (.tail _ (.head _)))), rfl, _, rfl⟩) ⟨rfl, .inl ⟨by decide, by decide, _, rfl⟩⟩)
      · rename News _ _ _ _ => N5
        refine Mine.unstop (Mine.tail_l (vs := [_, _, _, _, _, _]) (j := 4) N5 (.head _) rfl rfl (by omega) ?_)
        ktr_unf
        refine Mine.unstop (Mine.cend [_] (by assumption) (by assumption) off20 (.inr ⟨W.listOf _ _, .tail _ (.tail _ (.tail _ (.tail _ (.head _)))), rfl, _, rfl⟩) ⟨rfl, .inr (.inl ⟨rfl, _, rfl⟩)⟩)
      · rename News _ _ _ _ => N5
        refine Mine.unstop (Mine.tail_l (vs := [_, _, _, _, _, _]) (j := 5) N5 (.head _) rfl rfl (by omega) ?_)
        ktr_unf
        refine Mine.unstop (Mine.cend [_] (by assumption) (by assumption) off20 (.inr ⟨W.listOf _ _, .tail _ (.tail _ (.tail _ (.tail _ (.head _)))), rfl, _, rfl⟩) ⟨rfl, .inr (.inr ⟨rfl, rfl⟩)⟩)
    · intro us hus
      rw [List.map_id] at hus
      have hul := Mine.pd_len hus
      ktr_unf
      rename Fr _ _ _ _ => F9
      rename News _ _ _ _ => N9
      obtain ⟨ES, N6, hfv, hcES⟩ := Mine.names_pack N9 (by
        simp only [List.forall_mem_cons, List.not_mem_nil, false_implies, implies_true, and_true]
        (repeat' apply And.intro) <;> (refine PySem.W.neN ?_; omega))
      clear N9
      simp only [List.cons_append, List.nil_append] at N6
      rename (_ = Data.cell _) => hoc0
      refine Mine.unstop (Mine.forU_pd (G := Mine.FV ES) (its := _) (by exact hfv) [Str.ofString "name", Str.ofString "due", Str.ofString "marks", Str.ofString "turn", Str.ofString "told"]
        (fun pre u nw => Mine.J7 _ _ _ _ _ _ _ _ ES nw) rfl (.inr ⟨W.listOf _ _, _, rfl, rfl, fun _ _ _ h => Mine.J7.mem h⟩) rfl F9 N6 ⟨_, _, rfl, by assumption⟩ ?_ ?_)
      · intro pre pr post v u4 nw4 I4 oI4 h4 tk4 hsp hv hJ hoff40 F N
        obtain ⟨oC, vC, rfl, hoC⟩ := hJ
        obtain ⟨t4, tn4, fl, fs, kf, rfl, hm1, hm2, hfs⟩ := hv
        have hprm : pr ∈ Mine.names6 := by rw [hsp]; simp
        simp only [Mine.over] at F
        clear F9 N6
        have hoff4 := hoff40
        simp only [Mine.Off] at hoff4
        ktr_unf
        refine Mine.unstop (LCt.CompSrcT.ledger (by rfl) (by k_asm) (by k_asm) (.tail _ (.tail _ (.tail _ (.tail _ (.tail _ (.tail _ (.tail _ (.head _)))))))) (by simp only [List.size_toArray, PySem.sizeLine_eq]; omega) ?_)
        intro g5
        refine Mine.compT_pd Mine.IntV (Mine.inFits pr.2) id hks ?_ ?_
        · intro k v I6 oI6 C6 oC6 D6 ys6 m6 h6 tk6 E6 hkm hv hyl6 hC6 hx6 F6 N6 off60 ne6
          obtain ⟨t6, rfl⟩ := hv
          have hk05 := hkb k hkm
          ktr_unf
          · refine Mine.unstop (Mine.cend [] (by assumption) (by assumption) off60 (.inr ⟨W.listOf _ _, (.tail _ (.tail _ (.tail _ (.tail _ (.tail _ (.tail _ (.tail _ (.head _)))))))), rfl, _, rfl⟩) ⟨rfl, ?_, t6, rfl⟩)
            unfold Mine.inFits
            rw [decide_eq_true (by assumption)]; rfl
          · rename ¬ (3 < k) => n6
            rename News _ _ _ _ => N5
            refine Mine.unstop (PyProof.Rows.in_list_ints (vs := fs) (Mine.is_l N5 (.tail _ (.tail _ (.tail _ (.tail _ (.tail _ (.tail _ (.tail _ (.tail _ (.tail _ (.tail _ (.tail _ (.tail _ (hm2)))))))))))))) (Mine.ints_pd hfs) ?_)
            rw [show (pr.2.any (· == k)) = Mine.inFits pr.2 k from by unfold Mine.inFits; rw [decide_eq_false n6]; rfl]
            ktr_unf
            · refine Mine.unstop (Mine.cend [] (by assumption) (by assumption) off60 (.inr ⟨W.listOf _ _, (.tail _ (.tail _ (.tail _ (.tail _ (.tail _ (.tail _ (.tail _ (.head _)))))))), rfl, _, rfl⟩) ⟨rfl, by assumption, t6, rfl⟩)
            · refine Mine.unstop (Mine.cend [] (by assumption) (by assumption) off60 (.inr ⟨W.listOf _ _, (.tail _ (.tail _ (.tail _ (.tail _ (.tail _ (.tail _ (.tail _ (.head _)))))))), rfl, _, rfl⟩) ⟨rfl, by assumption⟩)
        · intro ms hms
          rw [List.map_id] at hms
          unfold LCg.FinA
          intro Dg hg10 tkg Fg Ng og
          simp only [LCg.Off1] at og
          dsimp only
          have hfi := Mine.find_is hprm hkb
          have hfl : (kk.filter (Mine.inFits pr.2)).length ≤ kk.length := List.length_filter_le _ _
          generalize kk.filter (Mine.inFits pr.2) = gg at hms hfi hfl
          ktr_unf
          rename News _ _ _ _ => N5
          refine Mine.unstop (Mine.ne_nil (Mine.is_l N5 (.tail _ (.head _))) (by exact Mine.is_l (xs := []) N5 (.head _)) hms (by ke_room) ?_)
          cases gg with
          | nil =>
            rw [show (!decide (([] : List Int) = [])) = false from rfl]
            ktr_unf
            rename IsRange _ _ _ _ _ _ _ _ => R7
            rename Fr _ _ _ _ => F7
            rename News _ _ _ _ => N7
            refine Mine.unstop (Mine.forT_count [Str.ofString "turn", Str.ofString "told"] 2 (fun _ _ nw => nw = _) rfl R7 (by decide) ⟨by decide, by decide⟩ ⟨by decide, by decide⟩ F7 N7 rfl ?_ ?_)
            · intro i7 t7 u7 nw7 I7 oI7 h7 tk7 hi7 hJ7 hoff70 F8 N8
              subst hJ7
              simp only [Mine.over] at F8
              clear F7 N7 R7
              have hoff7 := hoff70
              simp only [Mine.Off] at hoff7
              ktr_unf
              rename News _ _ _ _ => N9
              rename Fr _ _ _ _ => F9
              refine Mine.unstop (Mine.told (ks := kk) (vs := us) (name := pr.1) rfl rfl (by assumption) F9 (by assumption) (by assumption) (by assumption) (by assumption) (InstAt.of_news N9 (.tail _ (.tail _ (.tail _ (.tail _ (.tail _ (.tail _ (.tail _ (.tail _ (.head _))))))))) (.tail _ (.tail _ (.tail _ (.tail _ (.tail _ (.tail _ (.tail _ (.tail _ (.tail _ (.head _))))))))))) (Mine.is_l N9 (.tail _ (.tail _ (.tail _ (.tail _ (.tail _ (.head _))))))) hus (Mine.names_len _ hprm) ?_)
              intro h9 tk9 r9 F10 keep9 hv9
              have N10 := Mine.after_S N9 keep9
              clear F9 N9 keep9
              rw [hfi] at hv9
              cases (show r9 = Value.bool false from hv9)
              ktr_unf
              (try dsimp only [Mine.TurnPost])
              exact Mine.TurnEnd.mk' [] (by assumption) (by assumption) (by exact hoff70) ⟨fun z1 q1 => by
                  simp only [List.mem_cons, not_or, List.not_mem_nil, not_false_iff, and_true] at q1
                  obtain ⟨n1, n2⟩ := q1
                  simp only [if_neg n1, if_neg n2], rfl⟩
            · intro u7 nw7 h7 tk7 hJ7 F8 N8
              subst hJ7
              simp only [Mine.over] at F8
              clear F7 N7 R7
              dsimp only
              ktr_unf
              (try dsimp only [Mine.TurnPost])
              exact Mine.TurnEnd.mk' [_, _] (by assumption) (by assumption) (by exact hoff40) ⟨fun z1 q1 => by
                  simp only [List.mem_cons, not_or, List.not_mem_nil, not_false_iff, and_true] at q1
                  obtain ⟨n1, n2, n3, n4, n5⟩ := q1
                  simp only [if_neg n1, if_neg n2, if_neg n3, if_neg n4, if_neg n5], _, _, rfl, by assumption⟩
          | cons g0 gr =>
            rw [show (!decide (g0 :: gr = [])) = true from rfl]
            ktr_unf
            rename News _ _ _ _ => N5
            refine Mine.unstop (Mine.tail_pd (j := 0) N5 (.tail _ (.head _)) hms rfl rfl (by omega) ?_)
            rintro v ⟨t6, rfl⟩
            ktr_unf
            · rename g0 < 4 => g4
              rename IsRange _ _ _ _ _ _ _ _ => R7
              rename Fr _ _ _ _ => F7
              rename News _ _ _ _ => N7
              refine Mine.unstop (Mine.forT_count [Str.ofString "turn", Str.ofString "told"] 2 (fun _ _ nw => nw = _) rfl R7 (by decide) ⟨by decide, by decide⟩ ⟨by decide, by decide⟩ F7 N7 rfl ?_ ?_)
              · intro i7 t7 u7 nw7 I7 oI7 h7 tk7 hi7 hJ7 hoff70 F8 N8
                subst hJ7
                simp only [Mine.over] at F8
                clear F7 N7 R7
                have hoff7 := hoff70
                simp only [Mine.Off] at hoff7
                ktr_unf
                rename News _ _ _ _ => N9
                rename Fr _ _ _ _ => F9
                refine Mine.unstop (Mine.told (ks := kk) (vs := us) (name := pr.1) rfl rfl (by assumption) F9 (by assumption) (by assumption) (by assumption) (by assumption) (InstAt.of_news N9 (.tail _ (.tail _ (.tail _ (.tail _ (.tail _ (.tail _ (.tail _ (.tail _ (.head _))))))))) (.tail _ (.tail _ (.tail _ (.tail _ (.tail _ (.tail _ (.tail _ (.tail _ (.tail _ (.head _))))))))))) (Mine.is_l N9 (.tail _ (.tail _ (.tail _ (.tail _ (.tail _ (.head _))))))) hus (Mine.names_len _ hprm) ?_)
                intro h9 tk9 r9 F10 keep9 hv9
                have N10 := Mine.after_S N9 keep9
                clear F9 N9 keep9
                rw [hfi] at hv9
                cases (show r9 = Value.bool true from (by have e9 : Mine.VerdV (some g0) r9 := hv9; dsimp only [Mine.VerdV] at e9; rwa [if_pos g4] at e9))
                ktr_unf
                (try dsimp only [Mine.TurnPost])
                exact Mine.TurnEnd.mk' [] (by assumption) (by assumption) (by exact hoff70) ⟨fun z1 q1 => by
                    simp only [List.mem_cons, not_or, List.not_mem_nil, not_false_iff, and_true] at q1
                    obtain ⟨n1, n2⟩ := q1
                    simp only [if_neg n1, if_neg n2], rfl⟩
              · intro u7 nw7 h7 tk7 hJ7 F8 N8
                subst hJ7
                simp only [Mine.over] at F8
                clear F7 N7 R7
                dsimp only
                ktr_unf
                (try dsimp only [Mine.TurnPost])
                exact Mine.TurnEnd.mk' [_, _] (by assumption) (by assumption) (by exact hoff40) ⟨fun z1 q1 => by
                    simp only [List.mem_cons, not_or, List.not_mem_nil, not_false_iff, and_true] at q1
                    obtain ⟨n1, n2, n3, n4, n5⟩ := q1
                    simp only [if_neg n1, if_neg n2, if_neg n3, if_neg n4, if_neg n5], _, _, rfl, by assumption⟩
            · rename ¬ (g0 < 4) => g4
              rename IsRange _ _ _ _ _ _ _ _ => R7
              rename Fr _ _ _ _ => F7
              rename News _ _ _ _ => N7
              refine Mine.unstop (Mine.forT_count [Str.ofString "turn", Str.ofString "told"] 2 (fun _ _ nw => nw = _) rfl R7 (by decide) ⟨by decide, by decide⟩ ⟨by decide, by decide⟩ F7 N7 rfl ?_ ?_)
              · intro i7 t7 u7 nw7 I7 oI7 h7 tk7 hi7 hJ7 hoff70 F8 N8
                subst hJ7
                simp only [Mine.over] at F8
                clear F7 N7 R7
                have hoff7 := hoff70
                simp only [Mine.Off] at hoff7
                ktr_unf
                rename News _ _ _ _ => N9
                rename Fr _ _ _ _ => F9
                refine Mine.unstop (Mine.told (ks := kk) (vs := us) (name := pr.1) rfl rfl (by assumption) F9 (by assumption) (by assumption) (by assumption) (by assumption) (InstAt.of_news N9 (.tail _ (.tail _ (.tail _ (.tail _ (.tail _ (.tail _ (.tail _ (.tail _ (.head _))))))))) (.tail _ (.tail _ (.tail _ (.tail _ (.tail _ (.tail _ (.tail _ (.tail _ (.tail _ (.head _))))))))))) (Mine.is_l N9 (.tail _ (.tail _ (.tail _ (.tail _ (.tail _ (.head _))))))) hus (Mine.names_len _ hprm) ?_)
                intro h9 tk9 r9 F10 keep9 hv9
                have N10 := Mine.after_S N9 keep9
                clear F9 N9 keep9
                rw [hfi] at hv9
                obtain ⟨t9, rfl⟩ := (show ∃ t, r9 = Value.str (Str.ofString "no such thing") t from (by have e9 : Mine.VerdV (some g0) r9 := hv9; dsimp only [Mine.VerdV] at e9; rwa [if_neg g4] at e9))
                ktr_unf
                (try dsimp only [Mine.TurnPost])
                exact Mine.TurnEnd.mk' [] (by assumption) (by assumption) (by exact hoff70) ⟨fun z1 q1 => by
                    simp only [List.mem_cons, not_or, List.not_mem_nil, not_false_iff, and_true] at q1
                    obtain ⟨n1, n2⟩ := q1
                    simp only [if_neg n1, if_neg n2], rfl⟩
              · intro u7 nw7 h7 tk7 hJ7 F8 N8
                subst hJ7
                simp only [Mine.over] at F8
                clear F7 N7 R7
                dsimp only
                ktr_unf
                (try dsimp only [Mine.TurnPost])
                exact Mine.TurnEnd.mk' [_, _] (by assumption) (by assumption) (by exact hoff40) ⟨fun z1 q1 => by
                    simp only [List.mem_cons, not_or, List.not_mem_nil, not_false_iff, and_true] at q1
                    obtain ⟨n1, n2, n3, n4, n5⟩ := q1
                    simp only [if_neg n1, if_neg n2, if_neg n3, if_neg n4, if_neg n5], _, _, rfl, by assumption⟩
      · intro u nw h tk hJ F N
        obtain ⟨oC, vC, rfl, hoC⟩ := hJ
        simp only [Mine.over] at F
        clear F9 N6
        dsimp only
        ktr_unf
        rename News _ _ _ _ => N9
        rename Fr _ _ _ _ => F9
        refine Mine.unstop (Mine.toldNone (ks := kk) (vs := us) rfl rfl (by assumption) F9 (by assumption) (by assumption) (by assumption) (by assumption) (InstAt.of_news N9 (.tail _ (.tail _ (.tail _ (.tail _ (.head _))))) (.tail _ (.tail _ (.tail _ (.tail _ (.tail _ (.head _))))))) (Mine.is_l N9 (.tail _ (.head _))) hus  ?_)
        intro h9 tk9  F10 keep9
        have N10 := Mine.after_S N9 keep9
        clear F9 N9 keep9
        ktr_unf
        rename News _ _ _ _ => N5
        refine Mine.unstop (PyProof.Rows.in_list_ints (vs := ks) (Mine.is_l N5 (.tail _ (.tail _ (.tail _ (.tail _ (.tail _ (.tail _ (.head _)))))))) (Mine.ints_pd hks) ?_)
        rw [show (kk.any (· == 2)) = kk.any Mine.isStar from rfl]
        generalize kk.any Mine.isStar = bs
        ktr_unf
        · rename (bs != bs) = true => e9
          cases bs <;> cases e9
        rename News _ _ _ _ => N9
        rename Fr _ _ _ _ => F9
        refine Mine.unstop (Mine.told5 (ks := kk) (vs := us) rfl rfl (by assumption) F9 (by assumption) (by assumption) (by assumption) (by assumption) (InstAt.of_news N9 (.tail _ (.tail _ (.tail _ (.tail _ (.head _))))) (.tail _ (.tail _ (.tail _ (.tail _ (.tail _ (.head _))))))) (Mine.is_l N9 (.tail _ (.head _))) hus  ?_)
        intro h9 tk9 tq9 F10 keep9
        have N10 := Mine.after_S N9 keep9
        clear F9 N9 keep9
        ktr_unf
        rename News _ _ _ _ => N9
        rename Fr _ _ _ _ => F9
        refine Mine.unstop (Mine.toldList (ks := kk) (vs := us) rfl rfl (by assumption) F9 (by assumption) (by assumption) (by assumption) (by assumption) (InstAt.of_news N9 (.tail _ (.tail _ (.tail _ (.tail _ (.tail _ (.head _)))))) (.tail _ (.tail _ (.tail _ (.tail _ (.tail _ (.tail _ (.head _)))))))) (Mine.is_l N9 (.tail _ (.tail _ (.head _)))) hus (zs := [_]) (by exact (N9 _ (.head _)).1) ?_)
        intro h9 tk9 tq8 F10 keep9
        have N10 := Mine.after_S N9 keep9
        clear F9 N9 keep9
        ktr_unf
        rename News _ _ _ _ => N9
        rename Fr _ _ _ _ => F9
        refine Mine.unstop (Mine.toldBytes (ks := kk) (vs := us) rfl rfl (by assumption) F9 (by assumption) (by assumption) (by assumption) (by assumption) (InstAt.of_news N9 (.tail _ (.tail _ (.tail _ (.tail _ (.tail _ (.head _)))))) (.tail _ (.tail _ (.tail _ (.tail _ (.tail _ (.tail _ (.head _)))))))) (Mine.is_l N9 (.tail _ (.tail _ (.head _)))) hus  ?_)
        intro h9 tk9 tq7 F10 keep9
        have N10 := Mine.after_S N9 keep9
        clear F9 N9 keep9
        ktr_unf
        refine Mine.unstop ?_
        (first | lcg_look | lcf_look)
        k_dflt (refine LCg.ListComp_U (F₀ := by k_asm) (by with_unfolding_all rfl) (by decide) (by rfl) (by decide) (by rfl) ?_)
        ktr_unf
        refine Mine.unstop (LCg.CompSrc.ledger (by rfl) (by k_asm) (by k_asm) (.tail _ (.tail _ (.tail _ (.tail _ (.tail _ (.tail _ (.tail _ (.head _)))))))) (by simp only [List.size_toArray, PySem.sizeLine_eq]; omega) ?_)
        intro g5
        refine Mine.comp_pd Mine.AgV id hks ?_ ?_
        · intro k v I2 oI2 C2 oC2 D2 ys2 m2 h2 tk2 E2 hkm hv hyl2 hC2 hx2 F2 N2 off20 ne2
          obtain ⟨t2, rfl⟩ := hv
          have off2 := off20
          simp only [LCg.Off3] at off2
          have hk6 : k = 0 ∨ k = 1 ∨ k = 2 ∨ k = 3 ∨ k = 4 ∨ k = 5 := by have := hkb k hkm; omega
          ktr_unf
          rcases hk6 with rfl | rfl | rfl | rfl | rfl | rfl
          · rename News _ _ _ _ => N5
            refine Mine.unstop (Mine.tail_l (vs := [_, _, _, _, _, _]) (j := 0) N5 (.head _) rfl rfl (by omega) ?_)
            ktr_unf
            refine Mine.unstop (Mine.cend [_] (by assumption) (by assumption) off20 (.inr ⟨W.listOf _ _, (.tail _ (.tail _ (.tail _ (.tail _ (.tail _ (.tail _ (.tail _ (.head _)))))))), rfl, _, rfl⟩) ⟨rfl, .inl ⟨by decide, by decide, _, rfl⟩⟩)
          · rename News _ _ _ _ => N5
            refine Mine.unstop (Mine.tail_l (vs := [_, _, _, _, _, _]) (j := 1) N5 (.head _) rfl rfl (by omega) ?_)
            ktr_unf
            refine Mine.unstop (Mine.cend [_] (by assumption) (by assumption) off20 (.inr ⟨W.listOf _ _, (.tail _ (.tail _ (.tail _ (.tail _ (.tail _ (.tail _ (.tail _ (.head _)))))))), rfl, _, rfl⟩) ⟨rfl, .inl ⟨by decide, by decide, _, rfl⟩⟩)
          · rename News _ _ _ _ => N5
            refine Mine.unstop (Mine.tail_l (vs := [_, _, _, _, _, _]) (j := 2) N5 (.head _) rfl rfl (by omega) ?_)
            ktr_unf
            refine Mine.unstop (Mine.cend [_] (by assumption) (by assumption) off20 (.inr ⟨W.listOf _ _, (.tail _ (.tail _ (.tail _ (.tail _ (.tail _ (.tail _ (.tail _ (.head _)))))))), rfl, _, rfl⟩) ⟨rfl, .inl ⟨by decide, by decide, _, rfl⟩⟩)
          · rename News _ _ _ _ => N5
            refine Mine.unstop (Mine.tail_l (vs := [_, _, _, _, _, _]) (j := 3) N5 (.head _) rfl rfl (by omega) ?_)
            ktr_unf
            refine Mine.unstop (Mine.cend [_] (by assumption) (by assumption) off20 (.inr ⟨W.listOf _ _, (.tail _ (.tail _ (.tail _ (.tail _ (.tail _ (.tail _ (.tail _ (.head _)))))))), rfl, _, rfl⟩) ⟨rfl, .inl ⟨by decide, by decide, _, rfl⟩⟩)
          · rename News _ _ _ _ => N5
            refine Mine.unstop (Mine.tail_l (vs := [_, _, _, _, _, _]) (j := 4) N5 (.head _) rfl rfl (by omega) ?_)
            ktr_unf
            refine Mine.unstop (Mine.cend [_] (by assumption) (by assumption) off20 (.inr ⟨W.listOf _ _, (.tail _ (.tail _ (.tail _ (.tail _ (.tail _ (.tail _ (.tail _ (.head _)))))))), rfl, _, rfl⟩) ⟨rfl, .inr (.inl ⟨rfl, _, rfl⟩)⟩)
          · rename News _ _ _ _ => N5
            refine Mine.unstop (Mine.tail_l (vs := [_, _, _, _, _, _]) (j := 5) N5 (.head _) rfl rfl (by omega) ?_)
            ktr_unf
            refine Mine.unstop (Mine.cend [_] (by assumption) (by assumption) off20 (.inr ⟨W.listOf _ _, (.tail _ (.tail _ (.tail _ (.tail _ (.tail _ (.tail _ (.tail _ (.head _)))))))), rfl, _, rfl⟩) ⟨rfl, .inr (.inr ⟨rfl, rfl⟩)⟩)
        · intro ws hws
          rw [List.map_id] at hws
          unfold LCg.FinE
          intro Dg hg10 tkg Fg Ng og
          simp only [LCg.Off1] at og
          dsimp only
          ktr_unf
          rename News _ _ _ _ => N5
          refine Mine.unstop (Mine.eq_ags (Mine.is_l N5 (.tail _ (.tail _ (.tail _ (.head _))))) (Mine.is_l N5 (.head _)) hus hws (by ke_room) ?_)
          ktr_unf
          (k_end; kc_close)
)
end
