import PyProof.Rows.All
import Wide.All
import OpenK.AllK
import Wide.FinOn
import PySem.Challenge.RW_kn0091_09
open PySem PySem.W PyProof.Rows
set_option Elab.async false
section
set_option maxRecDepth 100000 in
set_option maxHeartbeats 8000000 in
open_top Mine.hd09 for PySem.Challenge.rw_kn0091_09
end
section
namespace Mine
open PySem.Calls PySem.Spec

def Stop (P : Prop) : Prop := P
theorem stop {P : Prop} (h : Stop P) : P := h
theorem unstop {P : Prop} (h : P) : Stop P := h

/-- no entry of the ledger stands at I -/
def Off (I : Addr) : List (Addr × Obj) → Prop
  | [] => True
  | p :: r => (@Ne Nat p.1 I) ∧ Off I r
theorem Off.mem {I : Addr} : ∀ {l : List (Addr × Obj)}, Off I l → ∀ p ∈ l, p.1 ≠ I
  | [], _, _, h => nomatch h
  | _ :: _, x, p, h => by
    rcases List.mem_cons.mp h with rfl | h
    · exact x.1
    · exact Off.mem x.2 p h
theorem Off.of {I : Addr} : ∀ {l : List (Addr × Obj)}, (∀ p ∈ l, p.1 ≠ I) → Off I l
  | [], _ => trivial
  | _ :: _, h => ⟨h _ List.mem_cons_self, Off.of fun p hp => h p (List.mem_cons_of_mem _ hp)⟩

section
variable {prog : Program} {w : World} {A : Around} {E : Value → Shared → Prop} {s : Shared} {env : Env} {h₀ : Heap} {x : Str} {body : List Stmt} {Q : Flow → Shared → Prop}

def TurnEnd (h₀ : Heap) (L I : Addr) (oI : Obj) (J : (Str → Option Value) → List (Addr × Obj) → Prop) (s₁ s₂ : Shared) : Prop :=
  ∃ h' tk m' nx, s₂ = { s₁ with heap := h', toks := tk } ∧ Fr h₀ L h' m' ∧ News h₀ L h' ((I, oI) :: nx) ∧ Off I nx ∧ J m' nx
def TurnPost (h₀ : Heap) (L I : Addr) (oI : Obj) (J : (Str → Option Value) → List (Addr × Obj) → Prop) (s₁ : Shared) (Q : Flow → Shared → Prop) (f : Flow) (s₂ : Shared) : Prop :=
  match f with
  | .ret v => Q (.ret v) s₂
  | .brk => Q .next s₂
  | .next => TurnEnd h₀ L I oI J s₁ s₂
  | .cont => TurnEnd h₀ L I oI J s₁ s₂

end

section
open LCg
variable {prog : Program} {w : World} {A : Around} {h₀ : Heap} {L : Addr} {m : Str → Option Value} {env : Env} {ct elt : Expr} {x : Str} {scope : Scope} {cl : List (Str × Addr)} {s : Shared} {S : List (Addr × Obj) → Prop} {P : Nat → Value → Prop} {Fin : List Value → List (Addr × Obj) → Prop} {news : List (Addr × Obj)}

/-- a comprehension without a test, by an invariant -/
theorem comp_inv {n : Nat} (J : Nat → List Value → List (Addr × Obj) → Prop) (h0 : J 0 [] news)
    (turn : ∀ i v ys nw I oI C oC D m₂ h tk (E' : Value → Shared → Prop), i < n → P i v → J i ys nw → NsObj oC m₂ → m₂ x = some v → Fr h₀ L h m → News h₀ L h ((I, oI) :: (C, oC) :: (D, lst ys) :: nw) → Off3 I C D nw → ((@Ne Nat I C) ∧ (@Ne Nat I D) ∧ (@Ne Nat C D)) →
      wpAny (model prog w) A (eval elt (compEnvC scope cl C env)) (CompEnd h₀ L m { s with heap := h, toks := tk } I oI C oC D (lst ys) S (fun y nw' => J (i + 1) (ys ++ [y]) nw')) E' { s with heap := h, toks := tk })
    (fin : ∀ ys nw, J n ys nw → Fin ys nw) : CompRest prog w A h₀ L m env elt x scope cl s S P Fin n 0 [] news := by
  have key : ∀ (j i : Nat) (ys : List Value) (nw : List (Addr × Obj)), i + j = n → J i ys nw → CompRest prog w A h₀ L m env elt x scope cl s S P Fin j i ys nw := by
    intro j
    induction j with
    | zero => intro i ys nw e hj; obtain rfl : i = n := by omega
              exact fin ys nw hj
    | succ j ih =>
      intro i ys nw e hj v I oI C oC D m₂ h tk E' hP hC hx F N off ne
      refine wpAny_mono (turn i v ys nw I oI C oC D m₂ h tk E' (by omega) hP hj hC hx F N off ne) (fun y s₂ hq => ?_) fun _ _ e => e
      obtain ⟨h', tk', nw', e', F', N', off', hS, hj'⟩ := hq
      exact ⟨h', tk', nw', e', F', N', off', hS, ih (i + 1) _ _ (by omega) hj'⟩
  exact key n 0 [] news (by omega) h0

/-- a comprehension with a test, by an invariant -/
theorem compT_inv {n : Nat} (J : Nat → List Value → List (Addr × Obj) → Prop) (h0 : J 0 [] news)
    (turn : ∀ i v ys nw I oI C oC D m₂ h tk (E' : Value → Shared → Prop), i < n → P i v → J i ys nw → NsObj oC m₂ → m₂ x = some v → Fr h₀ L h m → News h₀ L h ((I, oI) :: (C, oC) :: (D, lst ys) :: nw) → Off3 I C D nw → ((@Ne Nat I C) ∧ (@Ne Nat I D) ∧ (@Ne Nat C D)) →
      wpAny (model prog w) A (isTrue ct (compEnvC scope cl C env) (eval ct (compEnvC scope cl C env))) (fun ok s' => if ok = true then
        wpAny (model prog w) A (eval elt (compEnvC scope cl C env)) (CompEnd h₀ L m { s with heap := h, toks := tk } I oI C oC D (lst ys) S (fun y nw' => J (i + 1) (ys ++ [y]) nw')) E' s'
        else CompEnd h₀ L m { s with heap := h, toks := tk } I oI C oC D (lst ys) S (fun _ nw' => J (i + 1) ys nw') Value.none s') E' { s with heap := h, toks := tk })
    (fin : ∀ ys nw, J n ys nw → Fin ys nw) : LCt.CompRestT prog w A h₀ L m env ct elt x scope cl s S P Fin n 0 [] news := by
  have key : ∀ (j i : Nat) (ys : List Value) (nw : List (Addr × Obj)), i + j = n → J i ys nw → LCt.CompRestT prog w A h₀ L m env ct elt x scope cl s S P Fin j i ys nw := by
    intro j
    induction j with
    | zero => intro i ys nw e hj; obtain rfl : i = n := by omega
              exact fin ys nw hj
    | succ j ih =>
      intro i ys nw e hj v I oI C oC D m₂ h tk E' hP hC hx F N off ne
      refine wpAny_mono (turn i v ys nw I oI C oC D m₂ h tk E' (by omega) hP hj hC hx F N off ne) (fun ok s₂ hq => ?_) fun _ _ e => e
      cases ok with
      | true =>
        simp only [if_true] at hq ⊢
        refine wpAny_mono hq (fun y s₃ hr => ?_) fun _ _ e => e
        obtain ⟨h', tk', nw', e', F', N', off', hS, hj'⟩ := hr
        exact ⟨h', tk', nw', e', F', N', off', hS, ih (i + 1) _ _ (by omega) hj'⟩
      | false =>
        simp only [Bool.false_eq_true, if_false] at hq ⊢
        obtain ⟨h', tk', nw', e', F', N', off', hS, hj'⟩ := hq
        exact ⟨h', tk', nw', e', F', N', off', hS, ih (i + 1) _ _ (by omega) hj'⟩
  exact key n 0 [] news (by omega) h0
end

/-! lists of values by what they stand for -/
abbrev Pd {α : Type} (F : α → Value → Prop) (as : List α) (vs : List Value) : Prop := PySem.Paired F as vs
theorem pd_len {α : Type} {F : α → Value → Prop} {as : List α} {vs : List Value} (h : Pd F as vs) : as.length = vs.length := PySem.Paired.length h
theorem pd_at {α : Type} {F : α → Value → Prop} : ∀ {as : List α} {vs : List Value}, Pd F as vs → ∀ (i : Nat) (v : Value), vs[i]? = some v → ∃ a, as[i]? = some a ∧ F a v
  | _, _, .nil, i, v, h => by simp at h
  | _, _, .cons h₁ t, 0, v, h => by simp at h; subst h; exact ⟨_, by simp, h₁⟩
  | _, _, .cons h₁ t, i + 1, v, h => by simp at h; obtain ⟨a, e, f⟩ := pd_at t i v h; exact ⟨a, by simpa using e, f⟩
theorem pd_get {α : Type} {F : α → Value → Prop} : ∀ {as : List α} {vs : List Value}, Pd F as vs → ∀ (i : Nat) (a : α), as[i]? = some a → ∃ v, vs[i]? = some v ∧ F a v
  | _, _, .nil, i, v, h => by simp at h
  | _, _, .cons h₁ t, 0, v, h => by simp at h; subst h; exact ⟨_, by simp, h₁⟩
  | _, _, .cons h₁ t, i + 1, v, h => by simp at h; obtain ⟨a, e, f⟩ := pd_get t i v h; exact ⟨a, by simpa using e, f⟩
theorem pd_mono {α : Type} {F G : α → Value → Prop} : ∀ {as : List α} {vs : List Value}, Pd F as vs → (∀ a v, a ∈ as → F a v → G a v) → Pd G as vs
  | _, _, .nil, _ => .nil
  | _, _, .cons h₁ t, k => .cons (k _ _ List.mem_cons_self h₁) (pd_mono t fun a v ha => k a v (List.mem_cons_of_mem _ ha))
def IntV (n : Int) (v : Value) : Prop := ∃ t, v = .int n t
def StrV (x : Str) (v : Value) : Prop := ∃ t, v = .str x t
theorem pd_ints : ∀ {vs : List Value} {ns : List Int}, IntsAre vs ns → Pd IntV ns vs
  | _, _, .nil => .nil
  | _, _, .cons n t h => .cons ⟨t, rfl⟩ (pd_ints h)
section
open LCg
variable {prog : Program} {w : World} {A : Around} {h₀ : Heap} {L : Addr} {m : Str → Option Value} {env : Env} {ct elt : Expr} {x : Str} {scope : Scope} {cl : List (Str × Addr)} {s : Shared} {S : List (Addr × Obj) → Prop} {Fin : List Value → List (Addr × Obj) → Prop} {news : List (Addr × Obj)}

/-- the same with a test -/
theorem compT_pd {α β : Type} {F : α → Value → Prop} (G : β → Value → Prop) (p : α → Bool) (f : α → β) {as : List α} {its : Array Value} (hi : Pd F as its.toList)
    (turn : ∀ a v I oI C oC D ys m₂ h tk (E' : Value → Shared → Prop), a ∈ as → F a v → ys.length ≤ as.length → NsObj oC m₂ → m₂ x = some v → Fr h₀ L h m → News h₀ L h ((I, oI) :: (C, oC) :: (D, lst ys) :: news) → Off3 I C D news → ((@Ne Nat I C) ∧ (@Ne Nat I D) ∧ (@Ne Nat C D)) →
      wpAny (model prog w) A (isTrue ct (compEnvC scope cl C env) (eval ct (compEnvC scope cl C env))) (fun ok s' => if ok = true then
        wpAny (model prog w) A (eval elt (compEnvC scope cl C env)) (CompEnd h₀ L m { s with heap := h, toks := tk } I oI C oC D (lst ys) S (fun y nw' => nw' = news ∧ p a = true ∧ G (f a) y)) E' s'
        else CompEnd h₀ L m { s with heap := h, toks := tk } I oI C oC D (lst ys) S (fun _ nw' => nw' = news ∧ p a = false) Value.none s') E' { s with heap := h, toks := tk })
    (fin : ∀ ys, Pd G ((as.filter p).map f) ys → Fin ys news) : LCt.CompRestT prog w A h₀ L m env ct elt x scope cl s S (fun i v => its[i]? = some v) Fin its.size 0 [] news := by
  have hl := pd_len hi
  refine compT_inv (fun i ys nw => nw = news ∧ Pd G (((as.take i).filter p).map f) ys) ⟨rfl, by simp; exact .nil⟩ ?_ ?_
  · intro i v ys nw I oI C oC D m₂ h tk E' hin hP hJ hC hx F' N off ne
    obtain ⟨rfl, hy⟩ := hJ
    obtain ⟨a, ha, hF⟩ := pd_at hi i v (by simpa using hP)
    have hyl := pd_len hy
    have hle : ys.length ≤ as.length := by
      rw [← hyl, List.length_map]
      exact Nat.le_trans (List.length_filter_le _ _) (by simp; omega)
    refine wpAny_mono (turn a v I oI C oC D ys m₂ h tk E' (List.mem_of_getElem? ha) hF hle hC hx F' N off ne) (fun ok s₂ hq => ?_) fun _ _ e => e
    cases ok with
    | true =>
      simp only [if_true] at hq ⊢
      refine wpAny_mono hq (fun y s₃ hr => ?_) fun _ _ e => e
      obtain ⟨h', tk', nw', e', F₂, N₂, off', hS, hn, hp, hg⟩ := hr
      refine ⟨h', tk', nw', e', F₂, N₂, off', hS, hn, ?_⟩
      rw [PySem.take_succ_filter p as i a ha, List.map_append, hp]
      exact PySem.Paired.snoc hy hg
    | false =>
      simp only [Bool.false_eq_true, if_false] at hq ⊢
      obtain ⟨h', tk', nw', e', F₂, N₂, off', hS, hn, hp⟩ := hq
      refine ⟨h', tk', nw', e', F₂, N₂, off', hS, hn, ?_⟩
      rw [PySem.take_succ_filter p as i a ha, List.map_append, hp]
      simpa using hy
  · rintro ys nw ⟨rfl, hy⟩
    refine fin ys ?_
    have : as.take its.size = as := by rw [List.take_of_length_le]; simp at hl; omega
    rwa [this] at hy
end

/-! a call whose body leaves all that stood as it stood: the whole heap is its ground -/
def LeaveB (g : Heap) (R : Result → Shared → Prop) (v : Value) (s' : Shared) : Prop := ∃ L' m', Fr g L' s'.heap m' ∧ R (.ok (.ret v)) s'
theorem LeaveB.intro {g : Heap} {R : Result → Shared → Prop} {v : Value} {s' : Shared} {L' : Addr} {m' : Str → Option Value} (F : Fr g L' s'.heap m') (h : R (.ok (.ret v)) s') : LeaveB g R v s' := ⟨L', m', F, h⟩
section
variable {prog : Program} {w : World} {A A₀ : Around} {s : Shared} {K : Frag} {L : Addr} {h₀ base : Heap} {m mg mb : Str → Option Value} {p : Program} {loose : List Str} {mean : ExcName → Option Value}

end

/-! the frame's map between turns: the stored names by u, all else by m₀ -/
def over (u m₀ : Str → Option Value) : List Str → Str → Option Value
  | [], y => m₀ y
  | a :: r, y => if y = a then u a else over u m₀ r y
theorem over_in {u m₀ : Str → Option Value} : ∀ {l : List Str} {y : Str}, (y ∉ l → u y = m₀ y) → over u m₀ l y = u y
  | [], y, h => (h List.not_mem_nil).symm
  | a :: r, y, h => by
    unfold over
    by_cases e : y = a
    · rw [if_pos e, e]
    · rw [if_neg e]
      exact over_in fun hn => h fun hm => (List.mem_cons.mp hm).elim e hn
section
variable {prog : Program} {w : World} {A : Around} {E : Value → Shared → Prop} {s : Shared} {env : Env} {h₀ : Heap} {x : Str} {body : List Stmt} {Q : Flow → Shared → Prop}
end

/-- a turn's end: what the turn has made and dropped stands ahead (ext) -/
theorem TurnEnd.mk' {h₀ : Heap} {L I : Addr} {oI : Obj} {J : (Str → Option Value) → List (Addr × Obj) → Prop} {s₁ : Shared} {h' : Heap} {tk : Nat} {m' : Str → Option Value} (ext : List (Addr × Obj)) {nx : List (Addr × Obj)}
    (F : Fr h₀ L h' m') (N : News h₀ L h' (ext ++ (I, oI) :: nx)) (off : Off I nx) (hj : J m' nx) :
    TurnEnd h₀ L I oI J s₁ { s₁ with heap := h', toks := tk } := ⟨h', tk, m', nx, rfl, F, fun p hp => N p (List.mem_append_right _ hp), off, hj⟩

section
variable {prog : Program} {w : World} {A : Around} {E : Value → Shared → Prop} {s : Shared} {env : Env} {h₀ : Heap} {x : Str} {body : List Stmt} {Q : Flow → Shared → Prop}
theorem take_split {α : Type} {as : List α} {i : Nat} {a : α} (h : as[i]? = some a) : as = as.take i ++ a :: as.drop (i + 1) := by
  have hi : i < as.length := by
    rcases Nat.lt_or_ge i as.length with q | q
    · exact q
    · rw [List.getElem?_eq_none q] at h; cases h
  have : as[i] = a := by rw [List.getElem?_eq_getElem hi] at h; exact Option.some.inj h
  rw [← this, ← List.drop_eq_getElem_cons hi, List.take_append_drop]
theorem take_next {α : Type} {as : List α} {i : Nat} {a : α} (h : as[i]? = some a) : as.take (i + 1) = as.take i ++ [a] := by rw [List.take_add_one, h]; rfl

end

section
variable {prog : Program} {w : World} {A : Around} {E : Value → Shared → Prop} {s : Shared} {h₀ : Heap} {L D : Addr} {m : Str → Option Value} {news news' : List (Addr × Obj)} {n : Nat} {k : Int} {t : Tok}
theorem get_at {its : Array Value} {v : Value} {Q : Value → Shared → Prop} (hl : s.heap.IsList D its) (h0 : 0 ≤ k) (hfit : k < 2 ^ 63) (hx : its[k.toNat]? = some v) (h : Q v s) :
    wpAny (model prog w) A (getItem (.ref D) (.int k t)) Q E s := wpAny_getItem_list hl h0 hfit hx h
theorem tail_at {value slice : PySem.Expr} {its : Array Value} {v : Value} {Q : Value → Shared → Prop} (hl : s.heap.IsList D its) (h0 : 0 ≤ k) (hfit : k < 2 ^ 63) (hx : its[k.toNat]? = some v) (h : Q v s)
    (hs : subscripted slice false (.ref D) (.int k t) = operate [.ref D, .int k t] (getItem (.ref D) (.int k t)) := by with_unfolding_all rfl) :
    wpAny (model prog w) A (subscriptTail value slice (.ref D) (.int k t)) Q E s :=
  tail_any hl.typeIs slot_list_getitem.lookup (get_at hl h0 hfit hx h) hs
end

section
variable {prog : Program} {w : World} {A : Around} {E : Value → Shared → Prop} {s : Shared} {h₀ : Heap} {L D : Addr} {m : Str → Option Value} {news news' : List (Addr × Obj)} {n : Nat}
theorem append_l {zs : List Value} {x : Value} {Q : Value → Shared → Prop} (F : Fr h₀ L s.heap m) (N : News h₀ L s.heap news) (U : Upd D (listOf zs.toArray n) (listOf (zs ++ [x]).toArray (n + 1)) news news')
    (h : ∀ h', Fr h₀ L h' m → News h₀ L h' news' → Q .none { s with heap := h' }) (hsz : zs.length ≤ sizeLine) : wpAny (model prog w) A (call (.builtin "list.append") [.ref D, x]) Q E s :=
  append_K F N (by rw [List.push_toArray]; exact U) h (by rw [List.size_toArray]; exact hsz)
end

section
variable {prog : Program} {w : World} {A : Around} {E : Value → Shared → Prop} {s : Shared} {h₀ : Heap} {L D a b l : Addr} {m : Str → Option Value} {news news' : List (Addr × Obj)} {n k : Nat} {xs zs : List Value} {Q : Value → Shared → Prop}
theorem is_l (N : News h₀ L s.heap news) (ha : (a, listOf xs.toArray n) ∈ news) : s.heap.IsList a xs.toArray := PySem.IsL.isList (n := n) (N _ ha).1
theorem copy_l (F : Fr h₀ L s.heap m) (N : News h₀ L s.heap news) (hb : (b, listOf xs.toArray n) ∈ news) (hz : xs.length ≤ sizeLine)
    (h : ∀ D c h', Fr h₀ L h' m → News h₀ L h' ((D, listOf xs.toArray c) :: news) → (∀ q ∈ news, q.1 < D) → Q (.ref D) { s with heap := h' }) : wpAny (model prog w) A (call (.type "list") [.ref b]) Q E s :=
  kup_listOf F N hb rfl h hz
end

section
variable {prog : Program} {w : World} {A : Around} {E : Value → Shared → Prop} {s : Shared} {env : Env} {h₀ : Heap} {x : Str} {body : List Stmt} {Q : Flow → Shared → Prop}
end

section
open LCg
variable {prog : Program} {w : World} {A : Around} {E : Value → Shared → Prop} {s : Shared} {h₀ : Heap} {L : Addr} {m : Str → Option Value} {env : Env}
end
section
open LCg
variable {prog : Program} {w : World} {A : Around} {h₀ : Heap} {L : Addr} {m : Str → Option Value} {env : Env} {elt : Expr} {x : Str} {scope : Scope} {cl : List (Str × Addr)} {s : Shared} {S : List (Addr × Obj) → Prop} {Fin : List Value → List (Addr × Obj) → Prop} {news : List (Addr × Obj)}
end

theorem cend {h₀ : Heap} {L I C D : Addr} {m : Str → Option Value} {s₁ : Shared} {oI oC oD : Obj} {S : List (Addr × Obj) → Prop} {rest : Value → List (Addr × Obj) → Prop} {y : Value} {h' : Heap} {tk : Nat} (ext : List (Addr × Obj)) {news' : List (Addr × Obj)}
    (F : Fr h₀ L h' m) (N : News h₀ L h' (ext ++ (I, oI) :: (C, oC) :: (D, oD) :: news')) (off : LCg.Off3 I C D news') (hS : S news') (r : rest y news') :
    LCg.CompEnd h₀ L m s₁ I oI C oC D oD S rest y { s₁ with heap := h', toks := tk } := ⟨h', tk, news', rfl, F, fun p hp => N p (List.mem_append_right _ hp), off, hS, r⟩

section
variable {prog : Program} {w : World} {A A₀ : Around} {s : Shared} {K : Frag} {L : Addr} {h₀ base : Heap} {m mg mb : Str → Option Value} {p : Program} {loose : List Str} {mean : ExcName → Option Value}
end

section
open LCg
variable {prog : Program} {w : World} {A : Around} {h₀ : Heap} {L : Addr} {m : Str → Option Value} {env : Env} {ct elt : Expr} {x : Str} {scope : Scope} {cl : List (Str × Addr)} {s : Shared} {S : List (Addr × Obj) → Prop} {Fin : List Value → List (Addr × Obj) → Prop} {news : List (Addr × Obj)}
theorem range_next (n : Nat) : List.range (n + 1) = List.range n ++ [n] := List.range_succ
/-- over a range, with a test, the ledger as it was -/
theorem compT_count {β : Type} (G : β → Value → Prop) (p : Nat → Bool) (f : Nat → β) {n : Nat} {a : Int}
    (turn : ∀ (i : Nat) (t : Tok) I oI C oC D ys m₂ h tk (E' : Value → Shared → Prop), i < n → ys.length ≤ n → NsObj oC m₂ → m₂ x = some (.int (a + (i : Int)) t) → Fr h₀ L h m → News h₀ L h ((I, oI) :: (C, oC) :: (D, lst ys) :: news) → Off3 I C D news → ((@Ne Nat I C) ∧ (@Ne Nat I D) ∧ (@Ne Nat C D)) →
      wpAny (model prog w) A (isTrue ct (compEnvC scope cl C env) (eval ct (compEnvC scope cl C env))) (fun ok s' => if ok = true then
        wpAny (model prog w) A (eval elt (compEnvC scope cl C env)) (CompEnd h₀ L m { s with heap := h, toks := tk } I oI C oC D (lst ys) S (fun y nw' => nw' = news ∧ p i = true ∧ G (f i) y)) E' s'
        else CompEnd h₀ L m { s with heap := h, toks := tk } I oI C oC D (lst ys) S (fun _ nw' => nw' = news ∧ p i = false) Value.none s') E' { s with heap := h, toks := tk })
    (fin : ∀ ys, Pd G (((List.range n).filter p).map f) ys → Fin ys news) : LCt.CompRestT prog w A h₀ L m env ct elt x scope cl s S (fun i v => ∃ t, v = .int (a + (i : Int)) t) Fin n 0 [] news := by
  refine compT_inv (fun i ys nw => nw = news ∧ Pd G (((List.range i).filter p).map f) ys) ⟨rfl, .nil⟩ ?_ ?_
  · intro i v ys nw I oI C oC D m₂ h tk E' hin hP hJ hC hx F' N' off ne
    obtain ⟨rfl, hy⟩ := hJ
    obtain ⟨t, rfl⟩ := hP
    have hyl := pd_len hy
    have hle : ys.length ≤ n := by
      rw [← hyl, List.length_map]
      exact Nat.le_trans (List.length_filter_le _ _) (by rw [List.length_range]; omega)
    refine wpAny_mono (turn i t I oI C oC D ys m₂ h tk E' hin hle hC hx F' N' off ne) (fun ok s₂ hq => ?_) fun _ _ e => e
    cases ok with
    | true =>
      simp only [if_true] at hq ⊢
      refine wpAny_mono hq (fun y s₃ hr => ?_) fun _ _ e => e
      obtain ⟨h', tk', nw', e', F₂, N₂, off', hS, hn, hp, hg⟩ := hr
      refine ⟨h', tk', nw', e', F₂, N₂, off', hS, hn, ?_⟩
      rw [range_next, List.filter_append, List.map_append, List.filter_cons_of_pos hp, List.filter_nil]
      exact PySem.Paired.snoc hy hg
    | false =>
      simp only [Bool.false_eq_true, if_false] at hq ⊢
      obtain ⟨h', tk', nw', e', F₂, N₂, off', hS, hn, hp⟩ := hq
      refine ⟨h', tk', nw', e', F₂, N₂, off', hS, hn, ?_⟩
      rw [range_next, List.filter_append, List.map_append, List.filter_cons_of_neg (by rw [hp]; decide), List.filter_nil]
      simpa using hy
  · rintro ys nw ⟨rfl, hy⟩
    exact fin ys hy
/-- over a range, no test -/
theorem comp_count {β : Type} (G : β → Value → Prop) (f : Nat → β) {n : Nat} {a : Int}
    (turn : ∀ (i : Nat) (t : Tok) I oI C oC D ys m₂ h tk (E' : Value → Shared → Prop), i < n → ys.length ≤ n → NsObj oC m₂ → m₂ x = some (.int (a + (i : Int)) t) → Fr h₀ L h m → News h₀ L h ((I, oI) :: (C, oC) :: (D, lst ys) :: news) → Off3 I C D news → ((@Ne Nat I C) ∧ (@Ne Nat I D) ∧ (@Ne Nat C D)) →
      wpAny (model prog w) A (eval elt (compEnvC scope cl C env)) (CompEnd h₀ L m { s with heap := h, toks := tk } I oI C oC D (lst ys) S (fun y nw' => nw' = news ∧ G (f i) y)) E' { s with heap := h, toks := tk })
    (fin : ∀ ys, Pd G ((List.range n).map f) ys → Fin ys news) : CompRest prog w A h₀ L m env elt x scope cl s S (fun i v => ∃ t, v = .int (a + (i : Int)) t) Fin n 0 [] news := by
  refine comp_inv (fun i ys nw => nw = news ∧ Pd G ((List.range i).map f) ys) ⟨rfl, .nil⟩ ?_ ?_
  · intro i v ys nw I oI C oC D m₂ h tk E' hin hP hJ hC hx F' N' off ne
    obtain ⟨rfl, hy⟩ := hJ
    obtain ⟨t, rfl⟩ := hP
    have hyl := pd_len hy
    refine wpAny_mono (turn i t I oI C oC D ys m₂ h tk E' hin (by rw [← hyl, List.length_map, List.length_range]; omega) hC hx F' N' off ne) (fun y s₂ hq => ?_) fun _ _ e => e
    obtain ⟨h', tk', nw', e', F₂, N₂, off', hS, hn, hg⟩ := hq
    refine ⟨h', tk', nw', e', F₂, N₂, off', hS, hn, ?_⟩
    rw [range_next, List.map_append]
    exact PySem.Paired.snoc hy hg
  · rintro ys nw ⟨rfl, hy⟩
    exact fin ys hy
end
section
variable {prog : Program} {w : World} {A : Around} {E : Value → Shared → Prop} {s : Shared} {g : Heap} {L D : Addr} {m : Str → Option Value} {its : Array Value} {k : Int} {j : Nat} {t : Tok} {v : Value} {Q : Value → Shared → Prop}
theorem at_up (hl : g.IsList D its) (F : Fr g L s.heap m) : s.heap.IsList D its := hl.at fun o e => F.keep _ _ e
theorem tail_nat {value slice : PySem.Expr} (hl : g.IsList D its) (F : Fr g L s.heap m) (hx : its[j]? = some v) (hk : k = (j : Int)) (hj : (j : Int) < 1000000) (h : Q v s)
    (hs : subscripted slice false (.ref D) (.int k t) = operate [.ref D, .int k t] (getItem (.ref D) (.int k t)) := by with_unfolding_all rfl) :
    wpAny (model prog w) A (subscriptTail value slice (.ref D) (.int k t)) Q E s :=
  tail_at (at_up hl F) (by omega) (by omega) (by rw [hk, Int.toNat_natCast]; exact hx) h hs
end

/-! a for with any target (a local, a captured name, a tuple) -/
section
variable {prog : Program} {w : World} {A : Around} {s : Shared} {env : Env} {h₀ : Heap} {L : Addr}

theorem codeAny_forT {R : Result → Shared → Prop} {target : Expr} {body : List Stmt} {I : Addr} {fp wr : List Addr} {n : Nat} {P : Nat → Value → Prop} {St : Nat → Heap → Prop} {m : Str → Option Value}
    {news : List (Addr × Obj)} (W : Walks prog w A I fp wr n P St) (hLf : L ∉ fp) (hwr : ∀ b ∈ wr, h₀.get? b = none) (hnw : ∀ p ∈ news, p.1 ∉ wr)
    (hst : St 0 s.heap) (F : Fr h₀ L s.heap m) (N : News h₀ L s.heap news)
    (J : Nat → (Str → Option Value) → List (Addr × Obj) → Prop) (h0 : J 0 m news)
    (step : ∀ i v m₁ news₁ s₁ own, (∃ h tk, s₁ = { s with heap := h, toks := tk }) → i < n → P i v → J i m₁ news₁ → (∀ p ∈ news₁, p.1 ∉ wr) → (∀ p ∈ own, p.1 ∈ fp) → (∀ p ∈ own, s₁.heap.get? p.1 = some p.2) → (∀ b ∈ fp, h₀.get? b = none → ∀ o, s₁.heap.get? b = some o → (b, o) ∈ own) → St (i + 1) s₁.heap →
      Fr h₀ L s₁.heap m₁ → News h₀ L s₁.heap (own ++ news₁) →
      wpAny (model prog w) A (assign target env v) (fun _ s₂ => wpAny (model prog w) A (execs body env) (LoopStepV h₀ L wr own (J (i + 1)) s₁ (fun v s' => R (.ok (.ret v)) s') fun s' => R (.ok .next) s') (notedBy (model prog w) A env fun e s' => R (.error e) s') s₂) (notedBy (model prog w) A env fun e s' => R (.error e) s') s₁)
    (hR : ∀ h' tk m' news', Fr h₀ L h' m' → News h₀ L h' news' → (∀ p ∈ news', p.1 ∉ wr) → J n m' news' → R (.ok .next) { s with heap := h', toks := tk })
    (ht : ∀ v, letOwnedTupleGo target (.ref I) v = pure ()) :
    codeAny (model prog w) A (.forLoop target (.ref I) body [] env) R s := by
  have hLw : L ∉ wr := fun h => hLf (W.sub _ h)
  have old : ∀ b o, h₀.get? b = some o → b ∉ wr := fun b o e hb => by rw [hwr b hb] at e; cases e
  refine codeAny_forLoop
    (fun k s' => ∃ h' tk m' news' i, s' = { s with heap := h', toks := tk } ∧ St i h' ∧ Fr h₀ L h' m' ∧ News h₀ L h' news' ∧ (∀ p ∈ news', p.1 ∉ wr) ∧ J i m' news' ∧ i ≤ n ∧ k = n + 1 - i) ?_ (n + 1)
    ⟨s.heap, s.toks, m, news, 0, rfl, hst, F, N, hnw, h0, Nat.zero_le _, rfl⟩ ht
  rintro k s' ⟨h', tk, m', news', i, rfl, hst', F', N', hnw', hJ, hi, rfl⟩
  have next : ∀ h₁ : Heap, (∀ b o, b ∉ wr → h'.get? b = some o → h₁.get? b = some o) → Fr h₀ L h₁ m' ∧ News h₀ L h₁ news' := fun h₁ hk₁ =>
    ⟨⟨F'.ns.at' fun o e => hk₁ _ o hLw e, fun b o e => hk₁ b o (old b o e) (F'.keep b o e), F'.above⟩, fun p hp => ⟨hk₁ _ _ (hnw' p hp) (N' p hp).1, (N' p hp).2⟩⟩
  by_cases hlt : i < n
  · refine W.item i _ _ _ hlt hst' fun v h₁ tk₁ hP hst₁ hk₁ => ?_
    obtain ⟨F₁, N₁⟩ := next h₁ hk₁
    have Nown : News h₀ L h₁ (ownOf h₀ fp h₁) := news_ownOf hLf
    refine wpAny_mono (step i v m' news' _ (ownOf h₀ fp h₁) ⟨_, _, rfl⟩ hlt hP hJ hnw' ownOf_sub (fun p hp => (Nown p hp).1) (fun b hb hn o e => mem_ownOf hb hn e) hst₁ F₁ (Nown.append N₁)) (fun _ s₂ h₂ => wpAny_mono h₂ (fun f s₃ h₃ => ?_) fun _ _ e => e) fun _ _ e => e
    have fin : LoopStepU h₀ L wr (ownOf h₀ fp h₁) (J (i + 1)) { s with heap := h₁, toks := tk₁ } .next s₃ → ∃ m, m < n + 1 - i ∧ ∃ h' tk m' news' i, s₃ = { s with heap := h', toks := tk } ∧ St i h' ∧ Fr h₀ L h' m' ∧ News h₀ L h' news' ∧ (∀ p ∈ news', p.1 ∉ wr) ∧ J i m' news' ∧ i ≤ n ∧ m = n + 1 - i := by
      rintro ⟨_, h₃', tk₃, m₂, news₂, rfl, F₃, N₃, ha₃, hJ₃⟩
      refine ⟨n + 1 - (i + 1), by omega, h₃', tk₃, m₂, news₂, i + 1, rfl, ?_, F₃, N₃.right, ha₃, hJ₃, hlt, rfl⟩
      refine W.frame _ _ _ hst₁ fun b hb o e => ?_
      cases hn : h₀.get? b with
      | some o₀ =>
        have : o₀ = o := by have := F₁.keep b o₀ hn; rw [e] at this; exact (Option.some.inj this).symm
        exact this ▸ F₃.keep b o₀ hn
      | none => exact (N₃ _ (List.mem_append_left _ (mem_ownOf hb hn e))).1
    cases f with
    | ret v => exact h₃
    | brk => exact h₃
    | cont => exact fin h₃
    | next => exact fin h₃
  · have hin : i = n := by omega
    subst hin
    refine W.done _ _ _ hst' fun h₁ tk₁ hk₁ => wpAny_execs_nil ?_
    obtain ⟨F₁, N₁⟩ := next h₁ hk₁
    exact hR h₁ tk₁ m' news' F₁ N₁ hnw' hJ

def LoopAtT (prog : Program) (w : World) (A : Around) (h₀ : Heap) (L : Addr) (env : Env) (target : Expr) (body : List Stmt) (Q : Flow → Shared → Prop) (E : Value → Shared → Prop) (it : Value) (s₂ : Shared) : Prop :=
  ∃ (I : Addr) (fp wr : List Addr) (n : Nat) (P : Nat → Value → Prop) (St : Nat → Heap → Prop) (m : Str → Option Value) (news : List (Addr × Obj)) (J : Nat → (Str → Option Value) → List (Addr × Obj) → Prop),
    it = .ref I ∧ Walks prog w A I fp wr n P St ∧ L ∉ fp ∧ (∀ b ∈ wr, h₀.get? b = none) ∧ (∀ p ∈ news, p.1 ∉ wr) ∧ St 0 s₂.heap ∧ Fr h₀ L s₂.heap m ∧ News h₀ L s₂.heap news ∧ J 0 m news ∧
    (∀ i v m₁ news₁ s₁ own, (∃ h tk, s₁ = { s₂ with heap := h, toks := tk }) → i < n → P i v → J i m₁ news₁ → (∀ p ∈ news₁, p.1 ∉ wr) → (∀ p ∈ own, p.1 ∈ fp) → (∀ p ∈ own, s₁.heap.get? p.1 = some p.2) → (∀ b ∈ fp, h₀.get? b = none → ∀ o, s₁.heap.get? b = some o → (b, o) ∈ own) → St (i + 1) s₁.heap →
      Fr h₀ L s₁.heap m₁ → News h₀ L s₁.heap (own ++ news₁) →
      wpAny (model prog w) A (assign target env v) (fun _ s₃ => wpAny (model prog w) A (execs body env) (LoopStepV h₀ L wr own (J (i + 1)) s₁ (fun v s' => Q (.ret v) s') fun s' => Q .next s') E s₃) E s₁) ∧
    ∀ h' tk m' news', Fr h₀ L h' m' → News h₀ L h' news' → (∀ p ∈ news', p.1 ∉ wr) → J n m' news' → Q .next { s₂ with heap := h', toks := tk }

theorem For_T {E : Value → Shared → Prop} {Q : Flow → Shared → Prop} {target : Expr} {pos : Pos} {iter : Expr} {body : List Stmt} {m : Str → Option Value} (_F : Fr h₀ L s.heap m)
    (ht : ∀ it v, letOwnedTupleGo target it v = pure ())
    (h : wpAny (model prog w) A (eval iter env) (fun xv s₁ => wpAny (model prog w) A (pyIter xv) (fun it s₂ => LoopAtT prog w A h₀ L env target body Q E it s₂) E s₁) E s)
    (hs : ∀ x, foldedSetIterable iter env x = pure x := by intro _; rfl)
    (hE : PassesOwn (model prog w) A env E := by passes_own) :
    wpAny (model prog w) A (exec (.For target iter body [] pos) env) Q E s := by
  refine wpAny_For (wpAny_mono h (fun xv s₁ h₁ => wpAny_mono h₁ (fun it s₂ h₂ => ?_) fun _ _ e => e) fun _ _ e => e) hs
  obtain ⟨I, fp, wr, n, P, St, m, news, J, rfl, W, hLf, hwr, hnw, hst, F, N, h0, step, hQ⟩ := h₂
  refine codeAny_forT (R := fun r s' => match r with | .ok f => Q f s' | .error e => cameBackBy (model prog w) A env E e s') W hLf hwr hnw hst F N J h0 ?_ hQ (ht _)
  intro i v m₁ news₁ s₁ own a b c d e f g k st F₁ N₁
  exact wpAny_passesOwn hE (wpAny_mono (step i v m₁ news₁ s₁ own a b c d e f g k st F₁ N₁) (fun _ s₃ h₃ => wpAny_passesOwn hE h₃) fun _ _ e => e)
end

section
variable {prog : Program} {w : World} {A : Around} {E : Value → Shared → Prop} {s : Shared} {env : Env} {h₀ : Heap} {L : Addr} {target : Expr} {body : List Stmt} {Q : Flow → Shared → Prop}
def SameT (stored : List Str) (m₀ m' : Str → Option Value) : Prop := ∀ z, z ∉ stored → m' z = m₀ z
theorem over_T {u m₀ : Str → Option Value} {l : List Str} (h : SameT l m₀ u) : u = over u m₀ l := funext fun y => (over_in fun hn => h y hn).symm

/-- over a list's items -/
theorem forT_list (stored : List Str) {l : Addr} {its : Array Value} {m₀ : Str → Option Value} {news : List (Addr × Obj)} (J : Nat → (Str → Option Value) → List (Addr × Obj) → Prop)
    (hh : A.handled = none) (src : h₀.IsList l its ∨ ∃ ol k, ol.cls = .type "list" ∧ ol.data = .seq its k ∧ ∀ i m nx, J i m nx → (l, ol) ∈ nx)
    (F : Fr h₀ L s.heap m₀) (N : News h₀ L s.heap news) (hj : J 0 m₀ news)
    (turn : ∀ i v u nw I oI h tk, its[i]? = some v → J i u nw → Off I nw → Fr h₀ L h (over u m₀ stored) → News h₀ L h ((I, oI) :: nw) →
      wpAny (model prog w) A (assign target env v) (fun _ s₂ => wpAny (model prog w) A (execs body env) (TurnPost h₀ L I oI (fun m' nx => SameT stored m₀ m' ∧ J (i + 1) m' nx) { s with heap := h, toks := tk } Q) E s₂) E { s with heap := h, toks := tk })
    (done : ∀ u nw h tk, J its.size u nw → Fr h₀ L h (over u m₀ stored) → News h₀ L h nw → Q .next { s with heap := h, toks := tk }) :
    wpAny (model prog w) A (pyIter (.ref l)) (fun it s₂ => LoopAtT prog w A h₀ L env target body Q E it s₂) E s := by
  have hls : s.heap.IsList l its := by
    rcases src with hl | ⟨ol, k, hc, hd, hm⟩
    · exact hl.at fun o e => F.keep l o e
    · exact ⟨ol, (N _ (hm _ _ _ hj)).1, hc, k, hd⟩
  obtain ⟨ol', hol, _⟩ := id hls
  have hlt : l < s.heap.objs.size := Heap.lt_size hol
  have hne : l ≠ s.heap.objs.size := Nat.ne_of_lt hlt
  have hLl : L ≠ l := by
    rcases src with hl | ⟨ol, k, hc, hd, hm⟩
    · obtain ⟨o, e, _⟩ := hl
      exact fun q => absurd (Nat.lt_of_lt_of_le (Heap.lt_size e) F.above) (q ▸ Nat.lt_irrefl _)
    · exact fun q => (N _ (hm _ _ _ hj)).2.1 q.symm
  refine wpAny_pyIter_list hls ?_
  have W := Walks.list (prog := prog) (w := w) hh s.heap.objs.size l hne its
  refine ⟨_, _, _, its.size, _, _, m₀, news, (fun i m nx => SameT stored m₀ m ∧ J i m nx), rfl, W, ?_, ?_, ?_, ⟨⟨_, Heap.get?_push_size _ rfl, rfl, rfl⟩, hls.at fun o e => Heap.get?_push_of_some _ e⟩, F.push _, (fun p hp => ⟨Heap.get?_push_of_some _ (N p hp).1, (N p hp).2⟩), ⟨fun _ _ => rfl, hj⟩, ?_, ?_⟩
  · intro hm
    rcases List.mem_cons.mp hm with e | hm
    · exact absurd F.ns.lt (e ▸ Nat.lt_irrefl _)
    · exact hLl (List.mem_singleton.mp hm)
  · intro b hb
    rw [List.mem_singleton.mp hb]
    exact next_is_new F
  · intro p hp hI
    exact absurd (Heap.lt_size (N p hp).1) ((List.mem_singleton.mp hI) ▸ Nat.lt_irrefl _)
  · rintro i v m₁ news₁ s₁ own ⟨hh', tk', rfl⟩ hin hP ⟨hs, hJ⟩ hoff hown hget hin' hst F₁ N₁
    obtain ⟨oI, heI, _⟩ := hst.1
    have hIown : (s.heap.objs.size, oI) ∈ own := hin' _ (by simp) (next_is_new F) oI heI
    have hoffI : Off s.heap.objs.size news₁ := Off.of fun p hp q => hoff p hp (List.mem_singleton.mpr q)
    rw [over_T hs] at F₁
    refine wpAny_mono (turn i v m₁ news₁ _ oI hh' tk' hP hJ hoffI F₁ (fun p hp => by
      rcases List.mem_cons.mp hp with rfl | hp
      · exact N₁ _ (List.mem_append_left _ hIown)
      · exact N₁ _ (List.mem_append_right _ hp))) (fun _ s₂ h₂ => wpAny_mono h₂ (fun f s₃ p => ?_) fun _ _ e => e) fun _ _ e => e
    have fin : TurnEnd h₀ L s.heap.objs.size oI (fun m' nx => SameT stored m₀ m' ∧ J (i + 1) m' nx) { s with heap := hh', toks := tk' } s₃ → LoopStepU h₀ L [s.heap.objs.size] own (fun m nx => SameT stored m₀ m ∧ J (i + 1) m nx) { s with heap := hh', toks := tk' } .next s₃ := by
      rintro ⟨h', tk, m', nx, e, F', N', hoff', hj'⟩
      refine ⟨rfl, h', tk, m', nx, e, F', fun p hp => ?_, fun p hp q => hoff'.mem p hp (List.mem_singleton.mp q), hj'⟩
      rcases List.mem_append.mp hp with hp | hp
      · have hg := hget p hp
        have h0 := (N₁ p (List.mem_append_left _ hp)).2.2
        rcases List.mem_cons.mp (hown p hp) with h1 | h1
        · have e1 : p = (s.heap.objs.size, oI) := by
            obtain ⟨a, o⟩ := p
            dsimp only at h1 hg
            subst h1
            have := heI.symm.trans hg
            rw [Option.some.inj this]
          rw [e1]; exact N' _ List.mem_cons_self
        · have h2 : p.1 = l := List.mem_singleton.mp h1
          rcases src with hl | ⟨ol, k, hc, hd, hm⟩
          · obtain ⟨o, e, _⟩ := hl
            rw [h2, e] at h0; cases h0
          · have e1 : p = (l, ol) := by
              obtain ⟨a, o⟩ := p
              dsimp only at h2 hg
              subst h2
              have := (N₁ _ (List.mem_append_right _ (hm _ _ _ hJ))).1
              have := hg.symm.trans this
              rw [Option.some.inj this]
            rw [e1]; exact N' _ (List.mem_cons_of_mem _ (hm _ _ _ hj'.2))
      · exact N' p (List.mem_cons_of_mem _ hp)
    cases f with
    | ret v => exact .ret p
    | brk => exact .brk p
    | next => exact .next (fin p)
    | cont => exact .cont (fin p)
  · rintro h' tk m' news' F' N' _ ⟨hs, hJ⟩
    rw [over_T hs] at F'
    exact done m' news' h' tk hJ F' N'

/-- over range(a, b) -/
theorem forT_count (stored : List Str) {r : Addr} {a b : Int} {t u v : Tok} (n : Nat) {m₀ : Str → Option Value} {news : List (Addr × Obj)} (J : Nat → (Str → Option Value) → List (Addr × Obj) → Prop)
    (hh : A.handled = none) (hr : IsRange s.heap r a b 1 t u v) (hn : (b - a).toNat = n) (ha : -1000000 ≤ a ∧ a ≤ 1000000) (hb : -1000000 ≤ b ∧ b ≤ 1000000)
    (F : Fr h₀ L s.heap m₀) (N : News h₀ L s.heap news) (hj : J 0 m₀ news)
    (turn : ∀ (i : Nat) (t : Tok) u nw I oI h tk, i < n → J i u nw → Off I nw → Fr h₀ L h (over u m₀ stored) → News h₀ L h ((I, oI) :: nw) →
      wpAny (model prog w) A (assign target env (.int (a + (i : Int)) t)) (fun _ s₂ => wpAny (model prog w) A (execs body env) (TurnPost h₀ L I oI (fun m' nx => SameT stored m₀ m' ∧ J (i + 1) m' nx) { s with heap := h, toks := tk } Q) E s₂) E { s with heap := h, toks := tk })
    (done : ∀ u nw h tk, J n u nw → Fr h₀ L h (over u m₀ stored) → News h₀ L h nw → Q .next { s with heap := h, toks := tk }) :
    wpAny (model prog w) A (pyIter (.ref r)) (fun it s₂ => LoopAtT prog w A h₀ L env target body Q E it s₂) E s := by
  have hsm := small_one (a := a) (b := b) (by omega) (by omega) (by omega) (by omega)
  have hn' : Builtin.Range.rangeSize a b 1 = ((n : Nat) : Int) := by rw [rangeSize_nat, hn]
  refine wpAny_pyIter_range hr hsm ?_
  have W := Walks.range (prog := prog) (w := w) hh s.heap.objs.size a 1 n
  refine ⟨_, _, _, n, _, _, m₀, news, (fun i m nx => SameT stored m₀ m ∧ J i m nx), rfl, W, ?_, ?_, ?_, (by show IsRangeIter _ _ _ _ _; rw [hn']; simpa using Heap.get?_push_size _ rfl), F.push _, (fun p hp => ⟨Heap.get?_push_of_some _ (N p hp).1, (N p hp).2⟩), ⟨fun _ _ => rfl, hj⟩, ?_, ?_⟩
  · intro hm
    exact absurd F.ns.lt ((List.mem_singleton.mp hm) ▸ Nat.lt_irrefl _)
  · intro b hb
    rw [List.mem_singleton.mp hb]
    exact next_is_new F
  · intro p hp hI
    exact absurd (Heap.lt_size (N p hp).1) ((List.mem_singleton.mp hI) ▸ Nat.lt_irrefl _)
  · rintro i v m₁ news₁ s₁ own ⟨hh', tk', rfl⟩ hin hP ⟨hs, hJ⟩ hoff hown hget hin' hst F₁ N₁
    obtain ⟨t, rfl⟩ := hP
    have heI : hh'.get? s.heap.objs.size = some _ := hst
    have hIown := hin' _ (by simp) (next_is_new F) _ heI
    have hoffI : Off s.heap.objs.size news₁ := Off.of fun p hp q => hoff p hp (List.mem_singleton.mpr q)
    generalize hoI : ({ cls := .type "range_iterator", data := .fields #[rawInt (a + ((i + 1 : Nat) : Int) * 1), rawInt ((n : Int) - ((i + 1 : Nat) : Int)), rawInt 1] } : Obj) = oI at heI hIown
    rw [over_T hs] at F₁
    rw [Int.mul_one]
    refine wpAny_mono (turn i t m₁ news₁ s.heap.objs.size oI hh' tk' hin hJ hoffI F₁ (fun p hp => by
      rcases List.mem_cons.mp hp with rfl | hp
      · exact N₁ _ (List.mem_append_left _ hIown)
      · exact N₁ _ (List.mem_append_right _ hp))) (fun _ s₂ h₂ => wpAny_mono h₂ (fun f s₃ p => ?_) fun _ _ e => e) fun _ _ e => e
    have fin : TurnEnd h₀ L s.heap.objs.size oI (fun m' nx => SameT stored m₀ m' ∧ J (i + 1) m' nx) { s with heap := hh', toks := tk' } s₃ → LoopStepU h₀ L [s.heap.objs.size] own (fun m nx => SameT stored m₀ m ∧ J (i + 1) m nx) { s with heap := hh', toks := tk' } .next s₃ := by
      rintro ⟨h', tk, m', nx, e, F', N', hoff', hj'⟩
      refine ⟨rfl, h', tk, m', nx, e, F', fun p hp => ?_, fun p hp q => hoff'.mem p hp (List.mem_singleton.mp q), hj'⟩
      rcases List.mem_append.mp hp with hp | hp
      · have hg := hget p hp
        have h1 := List.mem_singleton.mp (hown p hp)
        obtain ⟨a, o⟩ := p
        dsimp only at h1 hg
        subst h1
        have e9 : o = oI := by
          have := heI.symm.trans hg
          exact (Option.some.inj this).symm
        rw [e9]
        exact N' _ List.mem_cons_self
      · exact N' p (List.mem_cons_of_mem _ hp)
    cases f with
    | ret v => exact .ret p
    | brk => exact .brk p
    | next => exact .next (fin p)
    | cont => exact .cont (fin p)
  · rintro h' tk m' news' F' N' _ ⟨hs, hJ⟩
    rw [over_T hs] at F'
    exact done m' news' h' tk hJ F' N'

theorem forT_pd {α : Type} {G : α → Value → Prop} {as : List α} {its : Array Value} (hi : Pd G as its.toList) (stored : List Str) {l : Addr} {m₀ : Str → Option Value} {news : List (Addr × Obj)} (J : List α → (Str → Option Value) → List (Addr × Obj) → Prop)
    (hh : A.handled = none) (src : h₀.IsList l its ∨ ∃ ol k, ol.cls = .type "list" ∧ ol.data = .seq its k ∧ ∀ pre m nx, J pre m nx → (l, ol) ∈ nx)
    (F : Fr h₀ L s.heap m₀) (N : News h₀ L s.heap news) (hj : J [] m₀ news)
    (turn : ∀ pre a post v u nw I oI h tk, as = pre ++ a :: post → G a v → J pre u nw → Off I nw → Fr h₀ L h (over u m₀ stored) → News h₀ L h ((I, oI) :: nw) →
      wpAny (model prog w) A (assign target env v) (fun _ s₂ => wpAny (model prog w) A (execs body env) (TurnPost h₀ L I oI (fun m' nx => SameT stored m₀ m' ∧ J (pre ++ [a]) m' nx) { s with heap := h, toks := tk } Q) E s₂) E { s with heap := h, toks := tk })
    (done : ∀ u nw h tk, J as u nw → Fr h₀ L h (over u m₀ stored) → News h₀ L h nw → Q .next { s with heap := h, toks := tk }) :
    wpAny (model prog w) A (pyIter (.ref l)) (fun it s₂ => LoopAtT prog w A h₀ L env target body Q E it s₂) E s := by
  have hl := pd_len hi
  refine forT_list stored (its := its) (fun i m nx => J (as.take i) m nx) hh (src.imp id fun ⟨ol, k, a, b, c⟩ => ⟨ol, k, a, b, fun i m nx h => c _ m nx h⟩) F N (by simpa using hj) ?_ ?_
  · intro i v u nw I oI h tk hv hJ hoff F₁ N₁
    obtain ⟨a, ha, hF⟩ := pd_at hi i v (by simpa using hv)
    rw [take_next ha]
    exact turn _ a _ v u nw I oI h tk (take_split ha) hF hJ hoff F₁ N₁
  · intro u nw h tk hJ F₁ N₁
    refine done u nw h tk ?_ F₁ N₁
    have e : as.take its.size = as := List.take_of_length_le (by rw [hl]; simp)
    rwa [e] at hJ
end

theorem strs_pd : ∀ {xs : List Str} {vs : List Value}, Pd StrV xs vs → StrsAre vs xs
  | _, _, .nil => .nil
  | _, _, .cons ⟨_, e⟩ h => by rw [e]; exact .cons _ _ (strs_pd h)
section
variable {prog : Program} {w : World} {A : Around} {E : Value → Shared → Prop} {s : Shared} {g : Heap} {L D : Addr} {m : Str → Option Value} {its : Array Value} {xs : List Str} {k : Str} {t : Tok} {Q : Value → Shared → Prop}
end

section
variable {h₀ h h' : Heap} {L D : Addr} {m : Str → Option Value} {news : List (Addr × Obj)} {o : Obj}
end
section
variable {prog : Program} {w : World} {A : Around} {E : Value → Shared → Prop} {s : Shared} {env : Env} {h₀ : Heap} {L : Addr} {target : Expr} {body : List Stmt} {Q : Flow → Shared → Prop}
end
section
variable {prog : Program} {w : World} {A : Around} {E : Value → Shared → Prop} {s : Shared} {h₀ : Heap} {L D : Addr} {m : Str → Option Value} {news : List (Addr × Obj)} {vs : List Value} {n : Nat} {k : Int} {j : Nat} {t : Tok} {v : Value} {Q : Value → Shared → Prop}
theorem tail_l {value slice : PySem.Expr} (N : News h₀ L s.heap news) (hm : (D, listOf vs.toArray n) ∈ news) (hx : vs[j]? = some v) (hk : k = (j : Int)) (hj : (j : Int) < 1000000) (h : Q v s)
    (hs : subscripted slice false (.ref D) (.int k t) = operate [.ref D, .int k t] (getItem (.ref D) (.int k t)) := by with_unfolding_all rfl) :
    wpAny (model prog w) A (subscriptTail value slice (.ref D) (.int k t)) Q E s :=
  tail_at (is_l N hm) (by omega) (by omega) (by rw [hk, Int.toNat_natCast]; simpa using hx) h hs
theorem tail_pd {value slice : PySem.Expr} {α : Type} {F : α → Value → Prop} {as : List α} {a : α} (N : News h₀ L s.heap news) (hm : (D, listOf vs.toArray n) ∈ news) (hp : Pd F as vs) (ha : as[j]? = some a) (hk : k = (j : Int)) (hj : (j : Int) < 1000000) (h : ∀ v, F a v → Q v s)
    (hs : subscripted slice false (.ref D) (.int k t) = operate [.ref D, .int k t] (getItem (.ref D) (.int k t)) := by with_unfolding_all rfl) :
    wpAny (model prog w) A (subscriptTail value slice (.ref D) (.int k t)) Q E s := by
  obtain ⟨v, hv, hF⟩ := pd_get hp j a ha
  exact tail_l N hm hv hk hj (h v hF) hs
end

section
variable {prog : Program} {w : World} {A : Around} {E : Value → Shared → Prop} {s : Shared} {h₀ : Heap} {L l : Addr} {m : Str → Option Value} {news : List (Addr × Obj)} {n : Nat} {xs : List Value} {Q : Value → Shared → Prop} {value slice : PySem.Expr} {k : Int} {t : Tok}
end

section
variable {prog : Program} {w : World} {A : Around} {E : Value → Shared → Prop} {s : Shared} {env : Env} {h₀ : Heap} {L : Addr} {target : Expr} {body : List Stmt} {Q Q' : Flow → Shared → Prop}
end

section
variable {prog : Program} {w : World} {A : Around} {E : Value → Shared → Prop} {s : Shared} {env : Env} {h₀ : Heap} {L : Addr} {target : Expr} {body : List Stmt} {Q : Flow → Shared → Prop}
end
section
variable {prog : Program} {w : World} {A : Around} {E : Value → Shared → Prop} {s : Shared} {env : Env} {h₀ : Heap} {L : Addr} {target : Expr} {body : List Stmt} {Q : Flow → Shared → Prop}
end
end Mine
end
section
namespace Mine
open PySem.Calls PySem.Spec
section
variable {prog : Program} {w : World} {A : Around} {E : Value → Shared → Prop} {s : Shared} {env : Env} {h₀ : Heap} {L : Addr} {target : Expr} {body : List Stmt} {Q : Flow → Shared → Prop}
end
section
variable {prog : Program} {w : World} {A : Around} {E : Value → Shared → Prop} {s : Shared} {h₀ : Heap} {L l : Addr} {m : Str → Option Value} {news : List (Addr × Obj)} {Q : Value → Shared → Prop} {value slice : PySem.Expr} {a b : Int} {t u : Tok} {its : Array Value}
end
section
variable {prog : Program} {w : World} {A : Around} {E : Value → Shared → Prop} {s : Shared} {h₀ : Heap} {L D : Addr} {m : Str → Option Value} {news news' : List (Addr × Obj)} {n : Nat} {zs : List Value}
end

section
variable {prog : Program} {w : World} {A : Around} {E : Value → Shared → Prop} {s : Shared} {h₀ : Heap} {L D : Addr} {m : Str → Option Value} {news news' : List (Addr × Obj)} {n : Nat} {zs : List Value}
end
end Mine
end
section
namespace Mine
open PySem.Calls PySem.Spec
section
variable {prog : Program} {w : World} {A A₀ : Around} {s : Shared} {K : Frag} {L D : Addr} {o : Obj} {h₀ base : Heap} {m mg mb : Str → Option Value} {p : Program} {loose : List Str} {mean : ExcName → Option Value}
/-- a call that turns one object of the ledger alone: all else is its ground -/
theorem code_hide {env : Env} {outer : List Env} {R : Result → Shared → Prop} {name qual : Str} {params : Arguments} {body : List Stmt} {scope : Scope} {cl : List (Str × Addr)} {dV kV doc pm cdv ct : Value} {an : Option Addr} {fo : Obj} {f : Addr} {args : Args} {binds : List (Str × Value)}
    (B : Below A₀ base outer h₀) (F : Fr h₀ L s.heap m) (X₀ : K.In h₀) (N : News h₀ L s.heap [(D, o)]) (T : Top p loose mean mg mb h₀) (hA : A.frames = some (env :: outer)) (hf : env.frame = some L) (hke : env.scope.kind = .function)
    (ho : s.heap.get? f = some fo) (hd : fo.data = .func (fnX name qual params body scope cl dV kV doc pm an cdv ct)) (hcd : s.heap.CodeRec cdv qual) (hroom : A.depth < recursionLimit)
    (hbind : BindsTo s (fnX name qual params body scope cl dV kV doc pm an cdv ct) args binds) (hloc : ∀ y ∈ binds, scope.names.lookup y.1 = some .local)
    (h : ∀ L' h₁, Fr (hideAll s.heap [D]) L' h₁ (fun y => binds.reverse.lookup y) → News (hideAll s.heap [D]) L' h₁ [(D, o)] → Below A base (env :: outer) (hideAll s.heap [D]) → K.In (hideAll s.heap [D]) → Top p loose mean mg mb (hideAll s.heap [D]) →
      wpAny (model prog w) (A.deeper (envX qual scope L' f cdv cl)) (execs body (envX qual scope L' f cdv cl))
        (fun fl s' => LeaveB (hideAll s.heap [D]) R (match fl with | .ret v => v | _ => .none) s')
        (fun e s' => wpAny (model prog w) (A.deeper (envX qual scope L' f cdv cl)) (leaving (envX qual scope L' f cdv cl) e) (fun _ s'' => R (.error e) s'') (fun e' s'' => R (.error e') s'') s')
        { s with heap := h₁, toks := s.toks + binds.length })
    (hco : scope.isCoroutine = false := by rfl) (hgen : scope.isGenerator = false := by rfl) (hk : scope.kind = .function := by rfl)
    (hcell : ∀ x ∈ scope.names, x.2 ≠ .cell := by decide) : codeAny (model prog w) A (.call (.ref f) args) R s := by
  obtain ⟨FG, BG, st, lv⟩ := groundX (R := R) B F N hA hf hke
  refine codeAny_call_def (fd := fnX name qual params body scope cl dV kV doc pm an cdv ct) (body := body) (binds := binds) hroom ho hd (T.nolimit.keeps F.keep) hcd rfl hbind hcell hloc (fun h₁ hns hk₁ => ?_) hco hgen hk
  exact wpAny_mono (h s.heap.objs.size h₁ ⟨hns, fun b o e => hk₁ b o (of_hideAll _ e), Nat.le_of_eq (hideAll_size _ _)⟩
    (fun p hp => ⟨hk₁ _ _ (N p hp).1, Nat.ne_of_lt (Heap.lt_size (N p hp).1), hideAll_none _ (List.mem_map_of_mem hp)⟩) BG (X₀.keeps st) (T.keeps st)) (fun fl s' ⟨_, _, _, hr⟩ => hr) fun _ _ y => y
end
theorem hide_get {h : Heap} {D b : Addr} {o : Obj} (e : h.get? b = some o) (n : @Ne Nat b D) : (hideAll h [D]).get? b = some o := hideAll_get _ e (fun q => n (List.mem_singleton.mp q))
theorem hide_of {h : Heap} {D b : Addr} {o : Obj} (e : (hideAll h [D]).get? b = some o) : h.get? b = some o := of_hideAll _ e
theorem hide_self {h : Heap} {D : Addr} : (hideAll h [D]).get? D = none := hideAll_none _ List.mem_cons_self
/-- behind such a call -/
theorem after_hide {h₀ h h' : Heap} {L D : Addr} {m : Str → Option Value} {o o' : Obj} {pre post es : List (Addr × Obj)} (F : Fr h₀ L h m) (N : News h₀ L h (pre ++ (D, o) :: post)) (h1 : ∀ p ∈ pre, p.1 ≠ D) (h2 : ∀ p ∈ post, p.1 ≠ D)
    (k : ∀ b x, @Ne Nat b D → h.get? b = some x → h'.get? b = some x) (hD : h'.get? D = some o') (he : ∀ p ∈ es, h.get? p.1 = none ∧ h'.get? p.1 = some p.2) :
    Fr h₀ L h' m ∧ News h₀ L h' (es ++ (pre ++ (D, o') :: post)) ∧ ∀ q ∈ pre ++ (D, o) :: post, Off q.1 es := by
  have hDn := N (D, o) (List.mem_append_right _ (.head _))
  have keep0 : ∀ b x, h₀.get? b = some x → h'.get? b = some x := fun b x e => k b x (fun q => by
    have q' : b = D := q
    rw [q', hDn.2.2] at e; cases e) (F.keep b x e)
  obtain ⟨oL, es', ep, hL, hr⟩ := F.ns
  have hL' := k L oL (fun q => hDn.2.1 (show D = L from (q : L = D).symm)) hL
  refine ⟨⟨⟨oL, es', ep, hL', hr⟩, keep0, F.above⟩, fun p hp => ?_, fun q hq => Off.of fun p hp e => ?_⟩
  · rcases List.mem_append.mp hp with hp | hp
    · obtain ⟨e1, e2⟩ := he p hp
      refine ⟨e2, fun q => ?_, ?_⟩
      · rw [q, hL] at e1; cases e1
      · cases q : h₀.get? p.1 with
        | none => rfl
        | some x => have := F.keep _ _ q; rw [e1] at this; cases this
    · rcases List.mem_append.mp hp with hp | hp
      · have z := N p (List.mem_append_left _ hp)
        exact ⟨k _ _ (h1 p hp) z.1, z.2⟩
      · rcases List.mem_cons.mp hp with rfl | hp
        · exact ⟨hD, hDn.2⟩
        · have z := N p (List.mem_append_right _ (.tail _ hp))
          exact ⟨k _ _ (h2 p hp) z.1, z.2⟩
  · have z := (N q hq).1
    have e1 := (he p hp).1
    rw [e, z] at e1; cases e1
section
variable {prog : Program} {w : World} {A : Around} {E : Value → Shared → Prop} {s : Shared} {g : Heap} {L a : Addr} {cn : Str} {cs : Scope} {ccd : Value} {cl : List (Str × Addr)} {m : Str → Option Value} {x : Str} {v : Value} {c : Addr} {o : Obj} {Q : Value → Shared → Prop}
/-- a captured name whose cell lies in the ground -/
theorem loadX_G {M : Model} (F : Fr g L s.heap m) (hc : cl.lookup x = some c) (hg : g.get? c = some o) (hd : o.data = .cell (some v)) (h : Q v s)
    (hk : cs.kind = .function := by rfl) (hx : (envX cn cs L a ccd cl).kindOf x = some .free := by rfl) (hn : (x == ("__classdict__" : Str)) = false := by decide) :
    wpAny M A (loadName (envX cn cs L a ccd cl) x) Q E s := wpAny_loadName_free hk hx hc ⟨o, F.keep _ _ hg, hd⟩ h hn
theorem nameX_G {M : Model} {pos : Pos} (F : Fr g L s.heap m) (hc : cl.lookup x = some c) (hg : g.get? c = some o) (hd : o.data = .cell (some v)) (h : Q v s)
    (hk : cs.kind = .function := by rfl) (hx : (envX cn cs L a ccd cl).kindOf x = some .free := by rfl) (hn : (x == ("__classdict__" : Str)) = false := by decide) (hb : (x == ("__debug__" : Str)) = false := by decide) :
    wpAny M A (eval (.Name x pos) (envX cn cs L a ccd cl)) Q E s := wpAny_Name (loadX_G F hc hg hd h hk hx hn) hb
end
end Mine
end
section
namespace Mine
open PySem.Calls PySem.Spec
theorem filt_aux {P : Nat → Bool} : ∀ (l : List Value) (i : Nat), (∀ k, i ≤ k → k < i + l.length → P k = true) → (l.zipIdx i).filterMap (fun x => if P x.2 = true then none else some x.1) = []
  | [], _, _ => rfl
  | a :: r, i, h => by
    rw [List.zipIdx_cons, List.filterMap_cons]
    simp only [h i (Nat.le_refl _) (by simp), if_true]
    exact filt_aux r (i + 1) fun k h1 h2 => h k (by omega) (by simp; omega)
theorem filt_none {P : Nat → Bool} {xs : Array Value} (h : ∀ k, k < xs.size → P k = true) : (xs.toList.zipIdx.filterMap fun x => if P x.2 = true then none else some x.1).toArray = #[] := by
  rw [filt_aux xs.toList 0 (fun k _ h2 => h k (by simpa using h2))]
section
variable {prog : Program} {w : World} {A : Around} {E : Value → Shared → Prop} {s : Shared} {h₀ : Heap} {L D : Addr} {m : Str → Option Value} {news : List (Addr × Obj)} {news' : Nat → List (Addr × Obj)} {n : Nat} {its : Array Value}
/-- del l[:] -/
theorem delItem_all {l sl : Addr} {items : Array Value} {Q : Unit → Shared → Prop} (hl : IsL s.heap l items n) (hs : s.heap.IsSliceOf sl .none .none .none)
    (h : ∀ f : Array Value → Array Value, f items = #[] → Q () { s with heap := s.heap.update l (Obj.mapSeq f) }) (hsz : items.size ≤ sizeLine) : wpAny (model prog w) A (delItem (.ref l) (.ref sl)) Q E s := by
  obtain ⟨os, hos, hcs, hds⟩ := id hs
  have hTs : s.TypeIs (.ref sl) "slice" := ⟨os, hos, hcs⟩
  have hTl : s.TypeIs (.ref l) "list" := ⟨_, hl, rfl⟩
  refine wpAny_delItem_slot hTl (by decide) PySem.F.slot_list_delitem (wpAny_call_entry PySem.F.slot_list_delitem hTl PySem.F.entry_list_delitem ?_ (PySem.F.args_list_delitem_2 _ _))
  show wpAny _ _ (Builtin.List.listSubscript? (.ref sl) >>= _) _ _ s
  refine wpAny_bind ?_
  unfold Builtin.List.listSubscript?
  refine wpAny_bind (wpAny_specialOf hTs slice_no_index ?_)
  simp only [Option.isNone_none, if_true]
  refine wpAny_pure ?_
  show wpAny _ _ (typeOf (.ref sl) >>= _) _ _ s
  refine wpAny_bind (wpAny_typeOf hTs ?_)
  rw [if_neg (by decide)]
  rw [listSliceParts_eq]
  have hstep : ¬ ((rawPart none == rawInt 0) = true) := Bool.false_ne_true
  refine wpAny_bind (wpAny_bind (wpAny_field hos hds (x := .none) rfl (wpAny_bind (wpAny_listPart .none ?_))))
  rw [if_neg hstep]
  refine wpAny_bind (wpAny_field hos hds (x := .none) rfl (wpAny_bind (wpAny_listPart .none ?_)))
  refine wpAny_bind (wpAny_field hos hds (x := .none) rfl (wpAny_bind (wpAny_listPart .none (wpAny_pure ?_))))
  refine wpAny_bind (m := Builtin.List.listItems (.ref l)) ?_
  unfold Builtin.List.listItems
  refine wpAny_bind (wpAny_seqItems hl rfl (wpAny_pure ?_))
  refine wpAny_bind (wpAny_of_eq (sliceIndices_raw none none none items.size (by simp)) ?_)
  refine wpAny_bind (wpAny_rule ?_)
  refine wpAny_bind ?_
  have key : ∀ (A : Around) (f : Array Value → Array Value), f items = #[] → ∀ R : Unit → Shared → Prop, R () { s with heap := s.heap.update l (Obj.mapSeq f) } → wpAny (model prog w) A (Builtin.List.listUpdate (.ref l) f) R E s := fun A f hf R hR =>
    (show wpAny (model prog w) A (updateSeq l f) R E s from wpAny_updateSeq hl rfl hR hsz (by rw [hf]; exact Nat.zero_le _))
  refine key _ _ ?he _ ?_
  case he =>
    refine filt_none (fun k hk => ?_)
    have e : sliceBounds none none none items.size = (0, (items.size : Int), 1) := rfl
    rw [e]
    show (if (1 : Int) > 0 then decide ((0 : Int) ≤ (k : Int)) && decide ((k : Int) < (items.size : Int)) && (((k : Int) - 0) % 1 == 0) else _) = true
    rw [if_pos (by decide), decide_eq_true (by omega), decide_eq_true (by omega), Int.emod_one]
    rfl
  refine wpAny_bind (wpAny_letGo ?_)
  refine wpAny_pure ⟨_, rfl, h _ (filt_none fun k hk => ?_)⟩
  have e : sliceBounds none none none items.size = (0, (items.size : Int), 1) := rfl
  rw [e]
  show (if (1 : Int) > 0 then decide ((0 : Int) ≤ (k : Int)) && decide ((k : Int) < (items.size : Int)) && (((k : Int) - 0) % 1 == 0) else _) = true
  rw [if_pos (by decide), decide_eq_true (by omega), decide_eq_true (by omega), Int.emod_one]
  rfl
theorem isStr_at (k : Str) : ∀ {vs : List Value} {ns : List Str}, StrsAre vs ns → ∀ (j : Nat) (h1 : j < vs.length) (h2 : j < ns.length), isStrOf k vs[j] = (ns[j] == k)
  | _, _, .cons n t _, 0, _, _ => rfl
  | _, _, .cons n t r, j + 1, h1, h2 => isStr_at k r j (Nat.lt_of_succ_lt_succ h1) (Nat.lt_of_succ_lt_succ h2)
/-- list.index of a text -/
theorem index_strs {l : Addr} {vs : List Value} {ns : List Str} {k : Str} {t : Tok} {j : Nat} {Q : Value → Shared → Prop} (hl : s.heap.IsList l vs.toArray) (hi : StrsAre vs ns) (hk : ns[j]? = some k) (hno : ∀ i, i < j → ns[i]? ≠ some k) (hlen : ns.length ≤ 1000)
    (h : Q (.int (j : Nat) s.toks) { s with toks := s.toks + 1 }) :
    wpAny (model prog w) A (call (.builtin "list.index") [.ref l, .str k t]) Q E s := by
  obtain ⟨⟨cls, dd, data, sl⟩, ho, hc, n, hd⟩ := id hl
  simp only at hc hd
  subst hc hd
  have hll : ∀ {vs : List Value} {ns : List Str}, StrsAre vs ns → vs.length = ns.length := fun h => by
    induction h with
    | nil => rfl
    | cons _ _ _ ih => simp [ih]
  have hlen' := hll hi
  obtain ⟨hj, hjk⟩ := List.getElem?_eq_some_iff.mp hk
  refine call_meets PySem.F.slot_list_index ⟨_, ho, rfl⟩ PySem.F.entry_list_index (PySem.F.args_list_index_2 _ _)
    (PySem.SeqAt.list_indexAt l vs.toArray n dd sl (.str k t) (isStrOf k) j (by simpa [hlen'] using hj) (by omega) ?_ ?_) ⟨ho, fun y hy => (eq_isStrOf k t hi y (by simpa using hy)).at _ _, h⟩
  · show isStrOf k vs[j] = true
    rw [isStr_at k hi _ (by omega) hj, hjk]
    exact beq_self_eq_true k
  · intro i his hlt
    show isStrOf k vs[i] = false
    have hi2 : i < ns.length := by omega
    rw [isStr_at k hi i (by simpa using his) hi2]
    have := hno i hlt
    rw [List.getElem?_eq_getElem hi2] at this
    exact beq_eq_false_iff_ne.mpr fun q => this (by rw [q])
/-- del l[:] of a list of the ledger -/
theorem del_all {Q : Unit → Shared → Prop} (F : Fr h₀ L s.heap m) (N : News h₀ L s.heap news) (U : ∀ n', Upd D (W.listOf its n) (W.listOf #[] n') news (news' n')) (hz : its.size ≤ sizeLine)
    (h : ∀ h' n', Fr h₀ L h' m → News h₀ L h' (news' n') → Q () { s with heap := h' }) :
    wpAny (model prog w) A (delItem (.ref D) (.ref s.heap.objs.size)) Q E { s with heap := s.heap.push { cls := .type "slice", data := .fields #[.none, .none, .none] } } := by
  obtain ⟨pre, post, rfl, e, a, b⟩ := (U (if (#[] : Array Value).size == its.size then n else n + 1)).split
  have F' := F.push { cls := .type "slice", data := .fields #[.none, .none, .none] }
  have N' : News h₀ L (s.heap.push { cls := .type "slice", data := .fields #[.none, .none, .none] }) (pre ++ (D, W.listOf its n) :: post) := fun p hp => ⟨Heap.get?_push_of_some _ (N p hp).1, (N p hp).2⟩
  have z := N' (D, W.listOf its n) (List.mem_append.mpr (.inr (.head _)))
  refine delItem_all (n := n) z.1 (Heap.IsSliceOf.new ..) (fun f hf => ?_) hz
  refine h _ (if (#[] : Array Value).size == its.size then n else n + 1) (F'.change (Heap.SameBut.update ..) z.2.1 z.2.2) ?_
  rw [e]
  exact ki_turn f N' a b hf rfl
end
end Mine
end
section
local macro_rules | `(tactic| k_all) => `(tactic| exact Mine.Off.mem (by assumption))
local macro_rules | `(tactic| walk_at "exec Assign") => `(tactic| (k_here; with_reducible refine plainObj_wpAny_Assign_Attribute ?_ ?_; rotate_left; with_unfolding_all rfl))
local macro_rules | `(tactic| walk_at "newList") => `(tactic| (k_here; k_dflt (refine' newList_K ?k1 ?k2 ?_; (case k1 => k_asm); (case k2 => k_asm); k_whole); intro l' h' F' N' l1; (try k_lt l1); (try k_sweep)))
local macro_rules | `(tactic| walk_at "execs cons") => `(tactic| ((with_reducible refine wpAny_execs_cons ?_); try dsimp only))
local macro_rules | `(tactic| walk_at "execs cons Assign cons") => `(tactic| (k_here; walk_at "execs cons"))
local macro_rules | `(tactic| walk_at "eval ListComp") => `(tactic| (k_here; first
  | (lcg_look; k_dflt (refine LCg.ListComp_U (F₀ := by k_asm) (by with_unfolding_all rfl) (by decide) (by rfl) (by decide) (by rfl) ?_))
  | (lcf_look; k_dflt (refine LCg.ListComp_U (F₀ := by k_asm) (by with_unfolding_all rfl) (by decide) (by rfl) (by decide) (by rfl) ?_))))
local macro_rules | `(tactic| walk_at "exec Assign cons ListComp") => `(tactic| (k_here; first
  | (lcg_look; k_dflt (refine LCg.Assign_ListComp_U (F₀ := by k_asm) (by rfl) (by with_unfolding_all rfl) (by with_unfolding_all rfl) (by decide) (by rfl) (by decide) (by rfl) (by rfl) (by rfl) ?_))
  | (lcf_look; k_dflt (refine LCg.Assign_ListComp_U (F₀ := by k_asm) (by rfl) (by with_unfolding_all rfl) (by with_unfolding_all rfl) (by decide) (by rfl) (by decide) (by rfl) (by rfl) (by rfl) ?_))))
local macro_rules | `(tactic| walk_at "CompEnd") => `(tactic| fail "end")
local macro_rules | `(tactic| walk_at "CompSrc") => `(tactic| (k_here; refine Mine.stop ?_))
namespace Mine
theorem news_r1 {g h : Heap} {L : Addr} {D f c r l k x d a b e n q tb : Addr × Obj} {es : List (Addr × Obj)} (N : News g L h (D :: f :: c :: r :: l :: k :: x :: d :: a :: b :: e :: n :: q :: tb :: es)) : News g L h ([D, f, r, x, d, a, b, e, q, c] ++ ([tb, c] ++ es)) := fun p hp => N p (by
  simp only [List.mem_cons, List.mem_append, List.not_mem_nil, or_false] at hp ⊢
  rcases hp with (z | z | z | z | z | z | z | z | z | z) | (z | z) | z <;> simp [z])
theorem news_r2 {g h : Heap} {L : Addr} {D f c r l k x d a b e n q tb : Addr × Obj} {es : List (Addr × Obj)} (N : News g L h (D :: f :: r :: l :: k :: x :: d :: a :: b :: e :: n :: q :: tb :: c :: es)) : News g L h ([D, f, r, x, d, a, b, e, q, c] ++ ([tb, c] ++ es)) := fun p hp => N p (by
  simp only [List.mem_cons, List.mem_append, List.not_mem_nil, or_false] at hp ⊢
  rcases hp with (z | z | z | z | z | z | z | z | z | z) | (z | z) | z <;> simp [z])
theorem allLt_lt {d : Nat} : ∀ {l : List (Addr × Obj)}, AllLt d l → ∀ p ∈ l, @LT.lt Nat _ p.1 d
  | [], _, _, h => nomatch h
  | _ :: _, x, p, h => by
    rcases List.mem_cons.mp h with rfl | h
    · exact x.1
    · exact allLt_lt x.2 p h
theorem off_gt {d c : Nat} {l : List (Addr × Obj)} (h : AllLt d l) (hc : d ≤ c) : Off c l := Off.of fun p hp q => by
  have h1 := allLt_lt h p hp
  have q' : @Eq Nat p.1 c := q
  omega
theorem off1_off {D : Addr} : ∀ {l : List (Addr × Obj)}, LCg.Off1 D l → Off D l
  | [], _ => trivial
  | _ :: _, h => ⟨h.1, off1_off h.2⟩
def reachN (number : Int) (j : Nat) : Int := Int.fmod (Int.fdiv (Int.fdiv number 2) (5 ^ j)) 5
def verdict (place number : Int) : Str := if Int.fmod number 2 = 1 then Txt.mul (Str.ofString "x") (place + 1) else Str.ofString ""
abbrev reachQ : Str := (Str.ofString "_law_rule" ++ Str.ofString ".<locals>.") ++ Str.ofString "_law_reach"
abbrev reachS : Scope := { kind := .function, names := [(Str.ofString "name", .local), (Str.ofString "log", .free), (Str.ofString "names", .free), (Str.ofString "place", .free), (Str.ofString "reaches", .free)], isGenerator := false, isCoroutine := false }
abbrev reachP (p1 : Pos) : Arguments := { posonlyargs := [], args := [{ arg := Str.ofString "name", annotation := none, pos := p1 }], vararg := none, kwonlyargs := [], kw_defaults := [], kwarg := none, defaults := [] }
abbrev onLine (l a b : Nat) : Pos := ⟨l, a, l, b⟩
abbrev reachB (p2 p4 p5 p6 p8 p9 p10 p12 p14 p15 : Pos) (a3 b3 a7 b7 a11 b11 a13 b13 : Nat) : List Stmt :=
  [.Expr (.Call (.Attribute (.Name (Str.ofString "log") p2) (Str.ofString "append") (onLine 57 a3 b3)) [.Tuple [.Name (Str.ofString "place") p4, .Name (Str.ofString "name") p5] 0 p6] [] (onLine 57 a7 b7)) p8,
   .Return (some (.Subscript (.Name (Str.ofString "reaches") p9) (.Call (.Attribute (.Name (Str.ofString "names") p10) (Str.ofString "index") (onLine 58 a11 b11)) [.Name (Str.ofString "name") p12] [] (onLine 58 a13 b13)) p14)) p15]
abbrev reachObj (P : Arguments) (Bd : List Stmt) (cr cp cn cl : Addr) (doc pm : Value) (c' : Addr) (ct : Value) : Obj :=
  fnMade (Str.ofString "_law_reach") reachQ P Bd reachS [(Str.ofString "reaches", cr), (Str.ofString "place", cp), (Str.ofString "names", cn), (Str.ofString "log", cl)] doc pm c' ct
def IsBody (P : Arguments) (Bd : List Stmt) : Prop := ∃ p1 p2 p4 p5 p6 p8 p9 p10 p12 p14 p15 a3 b3 a7 b7 a11 b11 a13 b13, P = reachP p1 ∧ Bd = reachB p2 p4 p5 p6 p8 p9 p10 p12 p14 p15 a3 b3 a7 b7 a11 b11 a13 b13
def CodeOk (oc : Obj) : Prop := ∃ vs t, oc.data = .fields vs ∧ vs[1]? = some (.str reachQ t)
abbrev tabF (l k : Int) (c' : Addr) : Obj := tabObj (#[] ++ #[rawInt l, rawInt k, .ref c'])
def TabL (TB : List (Addr × Obj)) : Prop := TB = [(58, tabObj #[])] ∨ ∃ c' oc, TB = [(58, tabF 56 4 c'), (c', oc)] ∧ (@Ne Nat c' 58) ∧ CodeOk oc
abbrev ruleDict (h1 h2 h3 h4 h5 h6 : Int) (t1 t2 t3 t4 t5 t6 t7 : Tok) (ua rl : Value) (b : Str) (f : Addr) (n : Nat) : Obj :=
  dictOf [⟨h1, .str (Str.ofString "useragents") t1, ua⟩, ⟨h2, .str (Str.ofString "rulelines") t2, rl⟩, ⟨h3, .str (Str.ofString "delay") t3, .none⟩, ⟨h4, .str (Str.ofString "req_rate") t4, .none⟩, ⟨h5, .str (Str.ofString "allowance") t5, .str b t7⟩, ⟨h6, .str (Str.ofString "applies_to") t6, .ref f⟩] n
abbrev tup2 (a b : Value) : Obj := { cls := .type "tuple", data := .seq #[a, b] }
def reachesN (number : Int) : List Int := (List.range 4).map fun j => reachN number j
/-- the parts of a rule in a list of objects -/
def RuleE (es : List (Addr × Obj)) (ln lg : Addr) (place number : Int) (x dr : Addr) : Prop :=
  ∃ d f c' oc o1 o2 o3 o4 cr cp cn cl P Bd doc pm ct h1 h2 h3 h4 h5 h6 t1 t2 t3 t4 t5 t6 t7 ua rl n tp rs k, (x, instObj 52 d) ∈ es ∧ (d, ruleDict h1 h2 h3 h4 h5 h6 t1 t2 t3 t4 t5 t6 t7 ua rl (verdict place number) f n) ∈ es ∧
    (f, reachObj P Bd cr cp cn cl doc pm c' ct) ∈ es ∧ IsBody P Bd ∧ (cr, o1) ∈ es ∧ o1.data = .cell (some (.ref dr)) ∧ (cp, o2) ∈ es ∧ o2.data = .cell (some (.int place tp)) ∧
    (cn, o3) ∈ es ∧ o3.data = .cell (some (.ref ln)) ∧ (cl, o4) ∈ es ∧ o4.data = .cell (some (.ref lg)) ∧ (c', oc) ∈ es ∧ CodeOk oc ∧ (dr, W.listOf rs k) ∈ es ∧ Pd IntV (reachesN number) rs.toList
end Mine
set_option maxRecDepth 100000 in
set_option maxHeartbeats 8000000 in
theorem Mine.rule09 {w : World} {p : Program} {loose : List Str} {mean : ExcName → Option Value} {mg mb : Str → Option Value} {base h₀ : Heap} {L : Addr} {m : Str → Option Value} {env : Env} {s : Shared} {Q : Value → Shared → Prop} {E : Value → Shared → Prop}
  (hf : env.frame = some L) (hke : env.scope.kind = .function) (B : Below callerA base [] h₀) (F : Fr h₀ L s.heap m) (X : (Mine.hd09.heap_39 w.params).In h₀) (T : Top p loose mean mg mb h₀)
  (codeHd : CodeHd h₀ 60 58) {TB es : List (Addr × Obj)} (hTB : Mine.TabL TB) (N : News h₀ L s.heap (TB ++ es)) (off : Mine.Off 58 es) {place number : Int} {t1 t2 : Tok} {ln lg : Addr} (hp : 0 ≤ place ∧ place ≤ 100)
  (hpost : ∀ h' tk D x dr new TB', Mine.TabL TB' → Fr h₀ L h' m → News h₀ L h' (new ++ (TB' ++ es)) → (D, Mine.tup2 (.ref x) (.ref dr)) ∈ new → Mine.RuleE new ln lg place number x dr → (∀ A o, (A, o) ∈ es → Mine.Off A TB → Mine.Off A (new ++ TB')) → Mine.Off 58 new → Q (.ref D) { s with heap := h', toks := tk }) :
  wpAny (model PySem.Challenge.rw_kn0091_09.row.prog w) (callerA.deeper env) (call (.ref 61) [.int place t1, .int number t2, .ref ln, .ref lg] []) Q E s := by
  w_top off
  revert X; k_fill; intro X
  rcases hTB with rfl | ⟨c', oc, rfl, hcn, hoc⟩
  · dsimp only [List.cons_append, List.nil_append] at N
    refine wpAny_call (code_defC B F X N T rfl hf hke (by k_is) (by k_is) (by k_room) (BindsTo.of_eq rfl) rfl (by decide +kernel) ?_ rfl rfl rfl)
    intro g' L' h' tk' cells' FG' F' N' Y' B' X' T' hL1
    (try k_lt hL1)
    k_cells Y'
    (try simp only [List.cons_append, List.nil_append] at N')
    (try dsimp only)
    (try k_lift B')
    (try k_fold)
    have codeHd' := codeHd.keeps FG'.keep
    have hc5 : Mine.Off (L' + 1 + 1 + 1 + 1 + 1) es := Mine.off_gt hL1.2 (by omega)
    repeat' (first | (k_unfold; (try dsimp only)) | walk1 | (dsimp only; walk1) | fail "no step")
    · have hvd : Mine.verdict place number = Txt.mul (Str.ofString "x") (place + 1) := if_pos (by assumption)
      refine Mine.unstop (LCg.CompSrc.range (n := 4) rfl (by assumption) (by k_asm) (by k_asm) (small_one (by omega) (by omega) (by omega) (by omega)) (by rw [rangeSize_nat]; rfl) (by rw [PySem.sizeLine_eq]; omega) ?_)
      intro g9
      refine Mine.comp_count Mine.IntV (fun j => Mine.reachN number j) ?_ ?_
      · intro j t9 I9 oI9 C9 oC9 D9 ys m₂ h9 tk9 E9 hj hyl C1 hx' F9 N9 off0 ne
        have off := off0
        simp only [LCg.Off3] at off
        have hj4 : j = 0 ∨ j = 1 ∨ j = 2 ∨ j = 3 := by omega
        rcases hj4 with rfl | rfl | rfl | rfl
        all_goals
          repeat' (first | (k_unfold; (try dsimp only)) | walk1 | (dsimp only; walk1) | fail "no step")
          refine Mine.cend [] (by assumption) (by assumption) off0 True.intro ⟨rfl, _, rfl⟩
      · intro ys hy
        unfold LCg.FinE
        intro Dr hr8 tk8 F8 N8 o8
        have o8' := Mine.off1_off o8
        simp only [LCg.Off1] at o8
        dsimp only
        repeat' (first | (k_unfold; (try dsimp only)) | walk1 | (dsimp only; walk1) | fail "no step")
        rename Fr h₀ L _ _ => kF9
        rename News h₀ L _ _ => kN9
        refine hpost _ _ _ _ _ [_, _, _, _, _, _, _, _, _, _] [_, _] (.inr ⟨_, _, rfl, (by refine PySem.W.neN ?_; omega), ⟨_, _, (by assumption), (by assumption)⟩⟩) kF9 (Mine.news_r1 kN9) (.head _) ⟨_, _, _, _, _, _, _, _, _, _, _, _, _, _, _, _, _, _, _, _, _, _, _, _, _, _, _, _, _, _, _, _, _, _, _, _, .tail _ (.tail _ (.tail _ (.head _))), by rw [hvd]; exact .tail _ (.tail _ (.tail _ (.tail _ (.head _)))), .tail _ (.head _), ⟨_, _, _, _, _, _, _, _, _, _, _, _, _, _, _, _, _, _, _, rfl, rfl⟩, .tail _ (.tail _ (.tail _ (.tail _ (.tail _ (.head _))))), by assumption, .tail _ (.tail _ (.tail _ (.tail _ (.tail _ (.tail _ (.tail _ (.tail _ (.head _)))))))), by assumption, .tail _ (.tail _ (.tail _ (.tail _ (.tail _ (.tail _ (.tail _ (.head _))))))), by assumption, .tail _ (.tail _ (.tail _ (.tail _ (.tail _ (.tail _ (.head _)))))), by assumption, .tail _ (.tail _ (.tail _ (.tail _ (.tail _ (.tail _ (.tail _ (.tail _ (.tail _ (.head _))))))))), ⟨_, _, (by assumption), (by assumption)⟩, .tail _ (.tail _ (.head _)), hy⟩ ?_ ?_
        · intro D o hm hoD
          have hD := Mine.allLt_lt hL1.2 _ hm
          have hDr : @Ne Nat D Dr := Mine.Off.mem (Mine.off1_off o8.2.2.2.2.2.2.2.2.2.2) _ hm
          simp only [Mine.Off, and_true] at hoD
          simp only [List.cons_append, List.nil_append, Mine.Off, and_true]
          dsimp only at hD
          omega
        · simp only [Mine.Off, and_true]
          omega
    · have hvd : Mine.verdict place number = Str.ofString "" := if_neg (by assumption)
      refine Mine.unstop (LCg.CompSrc.range (n := 4) rfl (by assumption) (by k_asm) (by k_asm) (small_one (by omega) (by omega) (by omega) (by omega)) (by rw [rangeSize_nat]; rfl) (by rw [PySem.sizeLine_eq]; omega) ?_)
      intro g9
      refine Mine.comp_count Mine.IntV (fun j => Mine.reachN number j) ?_ ?_
      · intro j t9 I9 oI9 C9 oC9 D9 ys m₂ h9 tk9 E9 hj hyl C1 hx' F9 N9 off0 ne
        have off := off0
        simp only [LCg.Off3] at off
        have hj4 : j = 0 ∨ j = 1 ∨ j = 2 ∨ j = 3 := by omega
        rcases hj4 with rfl | rfl | rfl | rfl
        all_goals
          repeat' (first | (k_unfold; (try dsimp only)) | walk1 | (dsimp only; walk1) | fail "no step")
          refine Mine.cend [] (by assumption) (by assumption) off0 True.intro ⟨rfl, _, rfl⟩
      · intro ys hy
        unfold LCg.FinE
        intro Dr hr8 tk8 F8 N8 o8
        have o8' := Mine.off1_off o8
        simp only [LCg.Off1] at o8
        dsimp only
        repeat' (first | (k_unfold; (try dsimp only)) | walk1 | (dsimp only; walk1) | fail "no step")
        rename Fr h₀ L _ _ => kF9
        rename News h₀ L _ _ => kN9
        refine hpost _ _ _ _ _ [_, _, _, _, _, _, _, _, _, _] [_, _] (.inr ⟨_, _, rfl, (by refine PySem.W.neN ?_; omega), ⟨_, _, (by assumption), (by assumption)⟩⟩) kF9 (Mine.news_r1 kN9) (.head _) ⟨_, _, _, _, _, _, _, _, _, _, _, _, _, _, _, _, _, _, _, _, _, _, _, _, _, _, _, _, _, _, _, _, _, _, _, _, .tail _ (.tail _ (.tail _ (.head _))), by rw [hvd]; exact .tail _ (.tail _ (.tail _ (.tail _ (.head _)))), .tail _ (.head _), ⟨_, _, _, _, _, _, _, _, _, _, _, _, _, _, _, _, _, _, _, rfl, rfl⟩, .tail _ (.tail _ (.tail _ (.tail _ (.tail _ (.head _))))), by assumption, .tail _ (.tail _ (.tail _ (.tail _ (.tail _ (.tail _ (.tail _ (.tail _ (.head _)))))))), by assumption, .tail _ (.tail _ (.tail _ (.tail _ (.tail _ (.tail _ (.tail _ (.head _))))))), by assumption, .tail _ (.tail _ (.tail _ (.tail _ (.tail _ (.tail _ (.head _)))))), by assumption, .tail _ (.tail _ (.tail _ (.tail _ (.tail _ (.tail _ (.tail _ (.tail _ (.tail _ (.head _))))))))), ⟨_, _, (by assumption), (by assumption)⟩, .tail _ (.tail _ (.head _)), hy⟩ ?_ ?_
        · intro D o hm hoD
          have hD := Mine.allLt_lt hL1.2 _ hm
          have hDr : @Ne Nat D Dr := Mine.Off.mem (Mine.off1_off o8.2.2.2.2.2.2.2.2.2.2) _ hm
          simp only [Mine.Off, and_true] at hoD
          simp only [List.cons_append, List.nil_append, Mine.Off, and_true]
          dsimp only at hD
          omega
        · simp only [Mine.Off, and_true]
          omega
  · dsimp only [List.cons_append, List.nil_append] at N
    obtain ⟨vs, tq, hoc1, hoc2⟩ := hoc
    refine wpAny_call (code_defC B F X N T rfl hf hke (by k_is) (by k_is) (by k_room) (BindsTo.of_eq rfl) rfl (by decide +kernel) ?_ rfl rfl rfl)
    intro g' L' h' tk' cells' FG' F' N' Y' B' X' T' hL1
    (try k_lt hL1)
    k_cells Y'
    (try simp only [List.cons_append, List.nil_append] at N')
    (try dsimp only)
    (try k_lift B')
    (try k_fold)
    have codeHd' := codeHd.keeps FG'.keep
    have hc5 : Mine.Off (L' + 1 + 1 + 1 + 1 + 1) es := Mine.off_gt hL1.2.2 (by omega)
    repeat' (first | (k_unfold; (try dsimp only)) | walk1 | (dsimp only; walk1) | fail "no step")
    · have hvd : Mine.verdict place number = Txt.mul (Str.ofString "x") (place + 1) := if_pos (by assumption)
      refine Mine.unstop (LCg.CompSrc.range (n := 4) rfl (by assumption) (by k_asm) (by k_asm) (small_one (by omega) (by omega) (by omega) (by omega)) (by rw [rangeSize_nat]; rfl) (by rw [PySem.sizeLine_eq]; omega) ?_)
      intro g9
      refine Mine.comp_count Mine.IntV (fun j => Mine.reachN number j) ?_ ?_
      · intro j t9 I9 oI9 C9 oC9 D9 ys m₂ h9 tk9 E9 hj hyl C1 hx' F9 N9 off0 ne
        have off := off0
        simp only [LCg.Off3] at off
        have hj4 : j = 0 ∨ j = 1 ∨ j = 2 ∨ j = 3 := by omega
        rcases hj4 with rfl | rfl | rfl | rfl
        all_goals
          repeat' (first | (k_unfold; (try dsimp only)) | walk1 | (dsimp only; walk1) | fail "no step")
          refine Mine.cend [] (by assumption) (by assumption) off0 True.intro ⟨rfl, _, rfl⟩
      · intro ys hy
        unfold LCg.FinE
        intro Dr hr8 tk8 F8 N8 o8
        have o8' := Mine.off1_off o8
        simp only [LCg.Off1] at o8
        dsimp only
        repeat' (first | (k_unfold; (try dsimp only)) | walk1 | (dsimp only; walk1) | fail "no step")
        rename Fr h₀ L _ _ => kF9
        rename News h₀ L _ _ => kN9
        refine hpost _ _ _ _ _ [_, _, _, _, _, _, _, _, _, _] [_, _] (.inr ⟨_, _, rfl, hcn, ⟨_, _, hoc1, hoc2⟩⟩) kF9 (Mine.news_r2 kN9) (.head _) ⟨_, _, _, _, _, _, _, _, _, _, _, _, _, _, _, _, _, _, _, _, _, _, _, _, _, _, _, _, _, _, _, _, _, _, _, _, .tail _ (.tail _ (.tail _ (.head _))), by rw [hvd]; exact .tail _ (.tail _ (.tail _ (.tail _ (.head _)))), .tail _ (.head _), ⟨_, _, _, _, _, _, _, _, _, _, _, _, _, _, _, _, _, _, _, rfl, rfl⟩, .tail _ (.tail _ (.tail _ (.tail _ (.tail _ (.head _))))), by assumption, .tail _ (.tail _ (.tail _ (.tail _ (.tail _ (.tail _ (.tail _ (.tail _ (.head _)))))))), by assumption, .tail _ (.tail _ (.tail _ (.tail _ (.tail _ (.tail _ (.tail _ (.head _))))))), by assumption, .tail _ (.tail _ (.tail _ (.tail _ (.tail _ (.tail _ (.head _)))))), by assumption, .tail _ (.tail _ (.tail _ (.tail _ (.tail _ (.tail _ (.tail _ (.tail _ (.tail _ (.head _))))))))), ⟨_, _, hoc1, hoc2⟩, .tail _ (.tail _ (.head _)), hy⟩ ?_ ?_
        · intro D o hm hoD
          have hD := Mine.allLt_lt hL1.2.2 _ hm
          have hDr : @Ne Nat D Dr := Mine.Off.mem (Mine.off1_off o8.2.2.2.2.2.2.2.2.2.2.2) _ hm
          simp only [Mine.Off, and_true] at hoD
          simp only [List.cons_append, List.nil_append, Mine.Off, and_true]
          dsimp only at hD
          omega
        · simp only [Mine.Off, and_true]
          omega
    · have hvd : Mine.verdict place number = Str.ofString "" := if_neg (by assumption)
      refine Mine.unstop (LCg.CompSrc.range (n := 4) rfl (by assumption) (by k_asm) (by k_asm) (small_one (by omega) (by omega) (by omega) (by omega)) (by rw [rangeSize_nat]; rfl) (by rw [PySem.sizeLine_eq]; omega) ?_)
      intro g9
      refine Mine.comp_count Mine.IntV (fun j => Mine.reachN number j) ?_ ?_
      · intro j t9 I9 oI9 C9 oC9 D9 ys m₂ h9 tk9 E9 hj hyl C1 hx' F9 N9 off0 ne
        have off := off0
        simp only [LCg.Off3] at off
        have hj4 : j = 0 ∨ j = 1 ∨ j = 2 ∨ j = 3 := by omega
        rcases hj4 with rfl | rfl | rfl | rfl
        all_goals
          repeat' (first | (k_unfold; (try dsimp only)) | walk1 | (dsimp only; walk1) | fail "no step")
          refine Mine.cend [] (by assumption) (by assumption) off0 True.intro ⟨rfl, _, rfl⟩
      · intro ys hy
        unfold LCg.FinE
        intro Dr hr8 tk8 F8 N8 o8
        have o8' := Mine.off1_off o8
        simp only [LCg.Off1] at o8
        dsimp only
        repeat' (first | (k_unfold; (try dsimp only)) | walk1 | (dsimp only; walk1) | fail "no step")
        rename Fr h₀ L _ _ => kF9
        rename News h₀ L _ _ => kN9
        refine hpost _ _ _ _ _ [_, _, _, _, _, _, _, _, _, _] [_, _] (.inr ⟨_, _, rfl, hcn, ⟨_, _, hoc1, hoc2⟩⟩) kF9 (Mine.news_r2 kN9) (.head _) ⟨_, _, _, _, _, _, _, _, _, _, _, _, _, _, _, _, _, _, _, _, _, _, _, _, _, _, _, _, _, _, _, _, _, _, _, _, .tail _ (.tail _ (.tail _ (.head _))), by rw [hvd]; exact .tail _ (.tail _ (.tail _ (.tail _ (.head _)))), .tail _ (.head _), ⟨_, _, _, _, _, _, _, _, _, _, _, _, _, _, _, _, _, _, _, rfl, rfl⟩, .tail _ (.tail _ (.tail _ (.tail _ (.tail _ (.head _))))), by assumption, .tail _ (.tail _ (.tail _ (.tail _ (.tail _ (.tail _ (.tail _ (.tail _ (.head _)))))))), by assumption, .tail _ (.tail _ (.tail _ (.tail _ (.tail _ (.tail _ (.tail _ (.head _))))))), by assumption, .tail _ (.tail _ (.tail _ (.tail _ (.tail _ (.tail _ (.head _)))))), by assumption, .tail _ (.tail _ (.tail _ (.tail _ (.tail _ (.tail _ (.tail _ (.tail _ (.tail _ (.head _))))))))), ⟨_, _, hoc1, hoc2⟩, .tail _ (.tail _ (.head _)), hy⟩ ?_ ?_
        · intro D o hm hoD
          have hD := Mine.allLt_lt hL1.2.2 _ hm
          have hDr : @Ne Nat D Dr := Mine.Off.mem (Mine.off1_off o8.2.2.2.2.2.2.2.2.2.2.2) _ hm
          simp only [Mine.Off, and_true] at hoD
          simp only [List.cons_append, List.nil_append, Mine.Off, and_true]
          dsimp only at hD
          omega
        · simp only [Mine.Off, and_true]
          omega
end
section
namespace Mine
/-- a rule's closure in a heap -/
def ReachAt (h : Heap) (f : Addr) (ln lg : Addr) (place number : Int) : Prop :=
  ∃ c' oc o1 o2 o3 o4 cr cp cn cl P Bd doc pm ct tp rs dr, h.get? f = some (reachObj P Bd cr cp cn cl doc pm c' ct) ∧ IsBody P Bd ∧ h.get? cr = some o1 ∧ o1.data = .cell (some (.ref dr)) ∧ h.get? cp = some o2 ∧ o2.data = .cell (some (.int place tp)) ∧
    h.get? cn = some o3 ∧ o3.data = .cell (some (.ref ln)) ∧ h.get? cl = some o4 ∧ o4.data = .cell (some (.ref lg)) ∧ h.get? c' = some oc ∧ CodeOk oc ∧ h.IsList dr rs ∧ Pd IntV (reachesN number) rs.toList
theorem ReachAt.keeps {h h' : Heap} {f ln lg : Addr} {place number : Int} (x : ReachAt h f ln lg place number) (k : ∀ b o, h.get? b = some o → h'.get? b = some o) : ReachAt h' f ln lg place number := by
  obtain ⟨c', oc, o1, o2, o3, o4, cr, cp, cn, cl, P, Bd, doc, pm, ct, tp, rs, dr, e1, e2, e3, e4, e5, e6, e7, e8, e9, e10, e11, e12, e13, e14⟩ := x
  exact ⟨c', oc, o1, o2, o3, o4, cr, cp, cn, cl, P, Bd, doc, pm, ct, tp, rs, dr, k _ _ e1, e2, k _ _ e3, e4, k _ _ e5, e6, k _ _ e7, e8, k _ _ e9, e10, k _ _ e11, e12, e13.at fun o e => k _ _ e, e14⟩
end Mine
local macro_rules | `(tactic| k_all) => `(tactic| exact Mine.Off.mem (by assumption))
local macro_rules | `(tactic| walk_at "eval Name") => `(tactic| (k_here; k_dflt (refine' Mine.nameX_G ?F ?c ?m ?d ?_ ?a ?b; (case a => rfl); (case b => rfl); (case F => k_asm); (case c => rfl); (case m => assumption); (case d => assumption); k_whole)))
local macro_rules | `(tactic| walk_at "getMethod ref") => `(tactic| (k_here; (with_reducible show wpAny _ _ (getMethod (Value.ref _) (PySem.Str.ofString "index") _) _ _ _); refine Mine.stop ?_))
local macro_rules | `(tactic| walk_at "call builtin:list.index") => `(tactic| (k_here; refine Mine.stop ?_))
local macro_rules | `(tactic| walk_at "subscriptTail") => `(tactic| (k_here; refine Mine.stop ?_))
local macro_rules | `(tactic| walk_at "execs cons") => `(tactic| ((with_reducible refine wpAny_execs_cons ?_); try dsimp only))
local macro_rules | `(tactic| walk_at "call builtin:list.append") => `(tactic| (k_here; (with_reducible show wpAny _ _ (call (Value.builtin _) [Value.ref _, _]) _ _ _); k_dflt (refine' Mine.append_l ?k1 ?k2 ?k3 ?_ ?z; (case k1 => k_asm); (case k2 => k_asm); (case k3 => k_upd); (case z => (rw [PySem.sizeLine_eq]; omega)); k_whole); intro h' F' N'; (try k_sweep)))
set_option maxRecDepth 100000 in
set_option maxHeartbeats 8000000 in
theorem Mine.reach09 {w : World} {p : Program} {loose : List Str} {mean : ExcName → Option Value} {mg mb : Str → Option Value} {base h₀ : Heap} {L : Addr} {m : Str → Option Value} {env0 env : Env} {s : Shared} {Q : Value → Shared → Prop} {E : Value → Shared → Prop}
  (hf : env.frame = some L) (hke : env.scope.kind = .function) (B : Below (callerA.deeper env0) base [env0] h₀) (F : Fr h₀ L s.heap m) (X : (Mine.hd09.heap_39 w.params).In h₀) (T : Top p loose mean mg mb h₀)
  {lg ln f : Addr} {zs : List Value} {k : Nat} (N : News h₀ L s.heap [(lg, W.listOf zs.toArray k)]) {place number : Int} (C : Mine.ReachAt (hideAll s.heap [lg]) f ln lg place number)
  {nv : List Value} {ns : List Str} {name : Str} {tn : Tok} {j : Nat} {kn : Nat} (hl : (hideAll s.heap [lg]).get? ln = some (W.listOf nv.toArray kn)) (hn : Mine.Pd Mine.StrV ns nv) (hj : ns[j]? = some name) (hno : ∀ i, i < j → ns[i]? ≠ some name) (hj4 : j < 4) (hz : zs.length ≤ 1000) (hln : ns.length ≤ 1000)
  (hpost : ∀ h' tk t tp, (∀ b o, @Ne Nat b lg → s.heap.get? b = some o → h'.get? b = some o) → h'.get? lg = some (W.listOf (zs ++ [Value.ref t]).toArray (k + 1)) → s.heap.get? t = none → h'.get? t = some (Mine.tup2 (.int place tp) (.str name tn)) → ∀ v, Mine.IntV (Mine.reachN number j) v → Q v { s with heap := h', toks := tk }) :
  wpAny (model PySem.Challenge.rw_kn0091_09.row.prog w) ((callerA.deeper env0).deeper env) (call (.ref f) [.str name tn] []) Q E s := by
  w_top off
  obtain ⟨c', oc, o1, o2, o3, o4, cr, cp, cn, cl, P, Bd, doc, pm, ct, tp, rs, dr, e1, ⟨p1, p2, p4, p5, p6, p8, p9, p10, p12, p14, p15, a3, b3, a7, b7, a11, b11, a13, b13, rfl, rfl⟩, e3, e4, e5, e6, e7, e8, e9, e10, e11, ⟨vs, tq, e12, e13⟩, e14, e15⟩ := C
  revert X; k_fill; intro X
  refine wpAny_call (Mine.code_hide (K := Mine.hd09.heap_39 w.params) (cl := [(Str.ofString "reaches", cr), (Str.ofString "place", cp), (Str.ofString "names", cn), (Str.ofString "log", cl)]) B F X N T rfl hf hke (Mine.hide_of e1) rfl ⟨c', oc, vs, tq, rfl, Mine.hide_of e11, e12, e13⟩ (by k_room) (BindsTo.of_eq rfl) (locs rfl) ?_ rfl rfl rfl (by decide))
  intro L' h₁ F' N' B' X' T'
  have hself := Mine.hide_self (h := s.heap) (D := lg)
  have hup : ∀ b o, @Ne Nat b lg → s.heap.get? b = some o → (hideAll s.heap [lg]).get? b = some o := fun b o n e => Mine.hide_get e n
  have hdn : ∀ b, (hideAll s.heap [lg]).get? b = none → @Ne Nat b lg → s.heap.get? b = none := fun b e n => by
    cases q : s.heap.get? b with
    | none => rfl
    | some o => rw [hup b o n q] at e; cases e
  generalize hideAll s.heap [lg] = g at *
  dsimp only
  clear F B X T
  repeat' (first | (k_unfold; (try dsimp only)) | walk1 | (dsimp only; walk1) | fail "no step")
  rename Fr _ _ _ _ => F9
  rename News _ _ _ _ => N9
  refine Mine.unstop (getMethod_list_of PySem.F.slot_list_index PySem.F.type_list_index ⟨_, F9.keep _ _ hl, rfl, _, rfl⟩ ⟨_, F9.keep _ _ hl, rfl⟩ ?_)
  repeat' (first | (k_unfold; (try dsimp only)) | walk1 | (dsimp only; walk1) | fail "no step")
  refine Mine.unstop (Mine.index_strs (ns := ns) (vs := nv) (j := j) ⟨_, F9.keep _ _ hl, rfl, _, rfl⟩ (Mine.strs_pd hn) hj hno hln ?_)
  repeat' (first | (k_unfold; (try dsimp only)) | walk1 | (dsimp only; walk1) | fail "no step")
  obtain ⟨v, hv, hvr⟩ := Mine.pd_get e15 j (Mine.reachN number j) (by unfold Mine.reachesN; rw [List.getElem?_map, List.getElem?_range hj4]; rfl)
  refine Mine.unstop (Mine.tail_nat (j := j) e14 F9 (by simpa using hv) rfl (by omega) ?_)
  repeat' (first | (k_unfold; (try dsimp only)) | walk1 | (dsimp only; walk1) | fail "no step")
  refine Mine.LeaveB.intro F9 ?_
  exact hpost _ _ _ tp (fun b o n e => F9.keep _ _ (hup b o n e)) (N9 _ (.tail _ (.head _))).1 (hdn _ (N9 _ (.head _)).2.2 (by refine PySem.W.neN ?_; omega)) (N9 _ (.head _)).1 v hvr
end
section
namespace Mine
theorem inst_up {g h : Heap} {L : Addr} {m : Str → Option Value} {x C : Addr} {ox : Obj} {od : Option Obj} (I : InstAt g x ox C od) (F : Fr g L h m) : InstAt h x ox C od :=
  ⟨F.keep _ _ I.at_, I.cls, I.no, by
    have := I.dict
    revert this
    cases ox.dict with
    | none => cases od with
      | none => exact id
      | some o => exact id
    | some a => cases od with
      | none => exact id
      | some o => exact fun e => F.keep _ _ e⟩
/-- an Entry's own dict, as __init__ leaves it -/
abbrev entryDict (h1 h2 h3 h4 : Int) (t1 t2 t3 t4 : Tok) (ua rl dl rr : Value) (n : Nat) : Obj :=
  dictOf [⟨h1, .str (Str.ofString "useragents") t1, ua⟩, ⟨h2, .str (Str.ofString "rulelines") t2, rl⟩, ⟨h3, .str (Str.ofString "delay") t3, dl⟩, ⟨h4, .str (Str.ofString "req_rate") t4, rr⟩] n
section
variable {prog : Program} {w : World} {A : Around} {E : Value → Shared → Prop} {s : Shared} {K : Frag} {x C f L : Addr} {ox od : Obj} {name : Str} {h₀ : Heap} {m : Str → Option Value} {es : List DictEntry} {n : Nat} {v g : Value}
/-- an object's own entry wins over a def of its class -/
theorem findObj_ownF (hh : hasDictIn K C = true) (ha : findIn K (.ref C) name = some (some (.ref f))) (hg : specialIn K (.ref f) "__get__" = some (some g)) (ht : takesIn K (.ref f) = some false) (hl : lookIn name od = some (some v)) :
    findObj K C (some od) name = some (.value v) := by
  obtain ⟨cd, hc', hd⟩ := any_some hh
  unfold findObj
  have ho : PySem.W.ownOf cd (some od) name = some (some v) := by unfold PySem.W.ownOf; rw [if_pos hd]; exact hl
  rw [hc', Option.bind_some, ha, Option.bind_some]
  simp only [hg, ht, Option.bind_some, ho]
theorem get_ownF {expr : Bool} {Q : Value → Shared → Prop} (F : Fr h₀ L s.heap m) (X₀ : K.In h₀) (I : InstAt s.heap x ox C (some (dictOf es n))) (hp : plainGet K C name = true) (hh : hasDictIn K C = true)
    (ha : findIn K (.ref C) name = some (some (.ref f))) (hg : specialIn K (.ref f) "__get__" = some (some g)) (ht : takesIn K (.ref f) = some false) (hl : getL name es = some (some v)) (hv : handedIn v = true) (h : Q v { s with toks := s.toks + 1 }) :
    wpAny (model prog w) A (getAttr (.ref x) name expr) Q E s :=
  get_value (X₀.keeps F.keep) I (plainGet_of hp).1 (findObj_ownF hh ha hg ht (by show lookIn name (dictOf es n) = _; rw [lookIn_dict, hl])) hv h
theorem method_ownF {pl : Sem Bool} {Q : Value × List Value → Shared → Prop} (F : Fr h₀ L s.heap m) (X₀ : K.In h₀) (I : InstAt s.heap x ox C (some (dictOf es n))) (hp : plainGet K C name = true) (hh : hasDictIn K C = true)
    (ha : findIn K (.ref C) name = some (some (.ref f))) (hfn : typeIn K (.ref f) = some (.type "function")) (hg : specialIn K (.ref f) "__get__" = some (some g)) (ht : takesIn K (.ref f) = some false) (hl : getL name es = some (some v)) (hv : handedIn v = true) (h : Q (v, []) { s with toks := s.toks + 1 }) :
    wpAny (model prog w) A (getMethod (.ref x) name pl) Q E s := by
  have hcan := PySem.F.canon_object_ga
  have X := X₀.keeps F.keep
  have hu : wpAny (model prog w) A (getAttr (.ref x) name) (fun v => Q (v, [])) E s := get_ownF F X₀ I hp hh ha hg ht hl hv h
  unfold getMethod specialOf
  refine wpAny_bind (wpAny_bind (I.type.here ((looks_findIn X (plainGet_of hp).1).here ?_)))
  dsimp only
  rw [hcan, if_neg (by decide)]
  refine wpAny_bind (wpAny_bind (I.type.here ((looks_findIn X (plainGet_of hp).2).here ?_)))
  refine wpAny_bind (wpAny_bind (I.type.here ((looks_findIn X ha).here (wpAny_bind ((looks_typeIn X hfn).here ?_)))))
  rw [if_neg (by decide +kernel)]
  refine wpAny_bind (wpAny_loadPart I.at_ ?_)
  have hd := I.dict
  cases e : ox.dict with
  | none => rw [e] at hd; exact hd.elim
  | some dx =>
    rw [e] at hd
    refine wpAny_bind (wpAny_bind (wpAny_loadPart hd ?_))
    rw [nsLook_of (r := some v) (by rw [lookIn_dict, hl])]
    refine wpAny_pure ?_
    exact wpAny_bind (wpAny_mono hu (fun _ _ z => wpAny_pure z) fun _ _ z => z)
end
theorem fn_up {g h : Heap} {L f ln lg : Addr} {m : Str → Option Value} {a b : Int} (x : ReachAt g f ln lg a b) (F : Fr g L h m) : FnAt f h := by
  obtain ⟨c', oc, o1, o2, o3, o4, cr, cp, cn, cl, P, Bd, doc, pm, ct, tp, rs, dr, e1, _⟩ := x
  exact ⟨_, _, _, _, F.keep _ _ e1⟩
def RuleV (h : Heap) (ln lg : Addr) (r : Int × Int) (v : Value) : Prop :=
  ∃ x d f h1 h2 h3 h4 h5 h6 t1 t2 t3 t4 t5 t6 t7 ua rl n, v = .ref x ∧ InstAt h x (instObj 52 d) 52 (some (ruleDict h1 h2 h3 h4 h5 h6 t1 t2 t3 t4 t5 t6 t7 ua rl (verdict r.1 r.2) f n)) ∧ ReachAt h f ln lg r.1 r.2
def TupV (es : List (Addr × Obj)) (name : Str) (r : Int × Int) (v : Value) : Prop := ∃ t tp tn, v = .ref t ∧ (t, tup2 (.int r.1 tp) (.str name tn)) ∈ es
theorem TupV.mono {es es' : List (Addr × Obj)} {name : Str} {r : Int × Int} {v : Value} (h : TupV es name r v) (sub : ∀ p ∈ es, p ∈ es') : TupV es' name r v :=
  let ⟨t, tp, tn, e, m⟩ := h; ⟨t, tp, tn, e, sub _ m⟩
/-- what allowance does at one rule -/
def falsy : Option Str → Bool
  | none => false
  | some x => x.length == 0
def stepS (st : Int × Option Str) (r : Int × Str) : Int × Option Str :=
  if r.1 = 0 then st else if r.1 > st.1 then (r.1, some r.2) else if r.1 = st.1 ∧ falsy st.2 = true then (st.1, some r.2) else st
def specJ (j : Nat) (r : Int × Int) : Int × Str := (reachN r.2 j, verdict r.1 r.2)
def allowS (j : Nat) (rs : List (Int × Int)) : Int × Option Str := (rs.map (specJ j)).foldl stepS (-1, none)
def ValS : Option Str → Value → Prop
  | none, v => v = .bool true
  | some x, v => ∃ t, v = .str x t
theorem allow_snoc (j : Nat) (pre : List (Int × Int)) (r : Int × Int) : allowS j (pre ++ [r]) = stepS (allowS j pre) (specJ j r) := by
  unfold allowS; rw [List.map_append, List.foldl_append]; rfl
theorem step_gt {st : Int × Option Str} {r : Int × Str} (h0 : r.1 ≠ 0) (h : st.1 < r.1) : stepS st r = (r.1, some r.2) := by unfold stepS; rw [if_neg h0, if_pos h]
theorem step_eqN {st : Int × Option Str} {r : Int × Str} (h0 : r.1 ≠ 0) (h : ¬ st.1 < r.1) (h2 : falsy st.2 = false) : stepS st r = st := by unfold stepS; rw [if_neg h0, if_neg h, if_neg (fun q => by rw [h2] at q; exact absurd q.2 (by decide))]
theorem step_eqF {st : Int × Option Str} {r : Int × Str} (h0 : r.1 ≠ 0) (h : ¬ st.1 < r.1) (h1 : r.1 = st.1) (h2 : falsy st.2 = true) : stepS st r = (st.1, some r.2) := by unfold stepS; rw [if_neg h0, if_neg h, if_pos ⟨h1, h2⟩]
theorem step_lt {st : Int × Option Str} {r : Int × Str} (h0 : r.1 ≠ 0) (h : ¬ st.1 < r.1) (h1 : r.1 ≠ st.1) : stepS st r = st := by unfold stepS; rw [if_neg h0, if_neg h, if_neg (fun q => h1 q.1)]
theorem step_0 {st : Int × Option Str} {r : Int × Str} (h0 : r.1 = 0) : stepS st r = st := by unfold stepS; rw [if_pos h0]
theorem stepJ {j : Nat} {pre : List (Int × Int)} {r : Int × Int} {st' : Int × Option Str} {u : Str → Option Value} {t : Tok} {v : Value} (h : stepS (allowS j pre) (specJ j r) = st') (h1 : u (Str.ofString "best_match") = some (.int st'.1 t)) (h2 : u (Str.ofString "allowance") = some v) (h3 : ValS st'.2 v) :
    ∃ t v, u (Str.ofString "best_match") = some (.int (allowS j (pre ++ [r])).1 t) ∧ u (Str.ofString "allowance") = some v ∧ ValS (allowS j (pre ++ [r])).2 v := by
  rw [allow_snoc, h]; exact ⟨t, v, h1, h2, h3⟩
theorem news_rot9 {g h : Heap} {L : Addr} {t i l : Addr × Obj} {es : List (Addr × Obj)} (N : News g L h ([t] ++ ([i] ++ l :: es))) : News g L h (i :: l :: t :: es) := fun p hp => N p (by
  simp only [List.mem_cons, List.mem_append, List.not_mem_nil, or_false] at hp ⊢
  rcases hp with z | z | z | z <;> simp [z])
theorem verdict_len {p n : Int} (h0 : 0 ≤ p) (h1 : p ≤ 100) : (verdict p n).length ≤ 101 := by
  unfold verdict
  split
  · exact len_mul_one (c := 120) (N := 101) (by decide +kernel) (by omega)
  · decide +kernel
def SmallO (o : Option Str) : Prop := ∀ x, o = some x → x.length ≤ 101
theorem step_small {st : Int × Option Str} {r : Int × Str} (h : SmallO st.2) (hr : r.2.length ≤ 101) : SmallO (stepS st r).2 := by
  unfold stepS
  split
  · exact h
  · split
    · intro x e; cases e; exact hr
    · split
      · intro x e; cases e; exact hr
      · exact h
theorem allow_small (j : Nat) (rs : List (Int × Int)) (hb : ∀ r ∈ rs, 0 ≤ r.1 ∧ r.1 ≤ 100) : SmallO (allowS j rs).2 := by
  have : ∀ (l : List (Int × Str)) (st : Int × Option Str), (∀ r ∈ l, r.2.length ≤ 101) → SmallO st.2 → SmallO (l.foldl stepS st).2 := by
    intro l
    induction l with
    | nil => intro st _ h; exact h
    | cons r l ih => intro st h k; exact ih _ (fun q hq => h q (.tail _ hq)) (step_small k (h r (.head _)))
  refine this _ _ (fun r hr => ?_) (fun x e => by cases e)
  obtain ⟨q, hq, rfl⟩ := List.mem_map.mp hr
  exact verdict_len (hb q hq).1 (hb q hq).2
theorem reachN_b (n : Int) (j : Nat) : 0 ≤ reachN n j ∧ reachN n j < 5 := ⟨Int.fmod_nonneg_of_pos _ (by decide), Int.fmod_lt_of_pos _ (by decide)⟩
theorem step_b {st : Int × Option Str} {r : Int × Str} (h : -1 ≤ st.1 ∧ st.1 < 5) (hr : 0 ≤ r.1 ∧ r.1 < 5) : -1 ≤ (stepS st r).1 ∧ (stepS st r).1 < 5 := by
  unfold stepS
  split
  · exact h
  · split
    · exact ⟨by show -1 ≤ r.1; omega, hr.2⟩
    · split
      · exact h
      · exact h
theorem allow_b (j : Nat) (rs : List (Int × Int)) : -1 ≤ (allowS j rs).1 ∧ (allowS j rs).1 < 5 := by
  have : ∀ (l : List (Int × Str)) (st : Int × Option Str), (∀ r ∈ l, 0 ≤ r.1 ∧ r.1 < 5) → (-1 ≤ st.1 ∧ st.1 < 5) → -1 ≤ (l.foldl stepS st).1 ∧ (l.foldl stepS st).1 < 5 := by
    intro l
    induction l with
    | nil => intro st _ h; exact h
    | cons r l ih => intro st h k; exact ih _ (fun q hq => h q (.tail _ hq)) (step_b k (h r (.head _)))
  refine this _ _ (fun r hr => ?_) (by decide)
  obtain ⟨q, _, rfl⟩ := List.mem_map.mp hr
  exact reachN_b _ _
end Mine
local macro_rules | `(tactic| k_inst) => `(tactic| first | exact Mine.inst_up (by assumption) (by assumption) | exact Mine.inst_up (Mine.inst_up (by assumption) (by assumption)) (by assumption))
local macro_rules | `(tactic| walk_at "getMethod ref") => `(tactic| (k_here; (with_reducible show wpAny _ _ (getMethod (Value.ref _) (PySem.Str.ofString "applies_to") _) _ _ _); k_dflt (refine' Mine.method_ownF ?k1 ?k2 ?k3 ?k4 ?k5 ?k6 ?k7 ?k8 ?k9 ?k10 ?k11 ?_; (case k1 => k_asm); (case k2 => k_asm); (case k3 => k_inst); (case k4 => k_is); (case k5 => k_is); (case k6 => k_is); (case k7 => k_is); (case k8 => k_is); (case k9 => k_is); (case k10 => k_get); (case k11 => k_handed); k_whole); (try dsimp only)))
local macro_rules | `(tactic| walk_at "getAttr ref") => `(tactic| (k_here; (with_reducible show wpAny _ _ (getAttr (Value.ref _) (PySem.Str.ofString "allowance") _) _ _ _); k_dflt (refine' Mine.get_ownF ?k1 ?k2 ?k3 ?k4 ?k5 ?k6 ?k8 ?k9 ?k10 ?k11 ?_; (case k1 => k_asm); (case k2 => k_asm); (case k3 => k_inst); (case k4 => k_is); (case k5 => k_is); (case k6 => k_is); (case k8 => k_is); (case k9 => k_is); (case k10 => k_get); (case k11 => k_handed); k_whole)))
local macro_rules | `(tactic| walk_at "callWith ref") => `(tactic| (k_here; k_dflt (refine' callWith_F ?k1 ?_; (case k1 => exact Mine.fn_up (by assumption) (by assumption)); k_whole)))
local macro_rules | `(tactic| walk_at "FnAt") => `(tactic| (k_dflt (exact Mine.fn_up (by assumption) (by assumption))))
local macro_rules | `(tactic| walk_at "pyIter ref") => `(tactic| (k_here; refine Mine.stop ?_))
local macro_rules | `(tactic| walk_at "call ref") => `(tactic| (k_here; refine Mine.stop ?_))
local macro_rules | `(tactic| walk_at "exec For Name Attribute cons nil") => `(tactic| (k_here; k_dflt (refine Mine.For_T (by k_asm) (by intro _ _; rfl) ?_)))
local macro_rules | `(tactic| walk_at "execs cons") => `(tactic| ((with_reducible refine wpAny_execs_cons ?_); try dsimp only))
local macro_rules | `(tactic| walk_at "execs cons Assign cons") => `(tactic| (k_here; walk_at "execs cons"))
set_option maxRecDepth 100000 in
set_option maxHeartbeats 8000000 in
theorem Mine.allow09 {w : World} {p : Program} {loose : List Str} {mean : ExcName → Option Value} {mg mb : Str → Option Value} {base h₀ : Heap} {L : Addr} {m : Str → Option Value} {env : Env} {s : Shared} {Q : Value → Shared → Prop} {E : Value → Shared → Prop}
  (hf : env.frame = some L) (hke : env.scope.kind = .function) (B : Below callerA base [] h₀) (F : Fr h₀ L s.heap m) (X : (Mine.hd09.heap_39 w.params).In h₀) (T : Top p loose mean mg mb h₀)
  {lg ln x d l : Addr} {k0 : Nat} (N : News h₀ L s.heap [(lg, W.listOf #[] k0)])
  {h1 h2 h3 h4 : Int} {t1 t2 t3 t4 : Tok} {ua dl rr : Value} {n : Nat} {its : Array Value} {rs : List (Int × Int)} {name : Str} {tn : Tok}
  (I : InstAt (hideAll s.heap [lg]) x (instObj 52 d) 52 (some (Mine.entryDict h1 h2 h3 h4 t1 t2 t3 t4 ua (.ref l) dl rr n))) (hl : (hideAll s.heap [lg]).IsList l its) (hv : Mine.Pd (Mine.RuleV (hideAll s.heap [lg]) ln lg) rs its.toList)
  {nv : List Value} {ns : List Str} {kn j : Nat} (hln : (hideAll s.heap [lg]).get? ln = some (W.listOf nv.toArray kn)) (hn : Mine.Pd Mine.StrV ns nv) (hj : ns[j]? = some name) (hno : ∀ i, i < j → ns[i]? ≠ some name) (hj4 : j < 4) (hnl : ns.length ≤ 1000) (hrl : rs.length ≤ 64) (hb : ∀ r ∈ rs, 0 ≤ r.1 ∧ r.1 ≤ 100)
  (hpost : ∀ h' tk es zs k v, (∀ b o, @Ne Nat b lg → s.heap.get? b = some o → h'.get? b = some o) → h'.get? lg = some (W.listOf zs.toArray k) → (∀ p ∈ es, s.heap.get? p.1 = none ∧ h'.get? p.1 = some p.2) → Mine.Pd (Mine.TupV es name) rs zs → Mine.ValS (Mine.allowS j rs).2 v → Q v { s with heap := h', toks := tk }) :
  wpAny (model PySem.Challenge.rw_kn0091_09.row.prog w) (callerA.deeper env) (call (.ref 49) [.ref x, .str name tn] []) Q E s := by
  w_top off
  revert X; k_fill; intro X
  refine wpAny_call (Mine.code_hide (K := Mine.hd09.heap_39 w.params) (cl := []) B F X N T rfl hf hke ((X.keeps F.keep) _ _ rfl) rfl (codeRec_of (X.keeps F.keep) (by k_is)) (by k_room) (BindsTo.of_eq rfl) (locs rfl) ?_ rfl rfl rfl (by decide))
  intro L' h₁ F' N' B' X' T'
  have hself := Mine.hide_self (h := s.heap) (D := lg)
  have hup : ∀ b o, @Ne Nat b lg → s.heap.get? b = some o → (hideAll s.heap [lg]).get? b = some o := fun b o n e => Mine.hide_get e n
  have hdn : ∀ b, (hideAll s.heap [lg]).get? b = none → @Ne Nat b lg → s.heap.get? b = none := fun b e n => by
    cases q : s.heap.get? b with
    | none => rfl
    | some o => rw [hup b o n q] at e; cases e
  generalize hideAll s.heap [lg] = g at *
  dsimp only
  clear F B X T
  repeat' (first | (k_unfold; (try dsimp only)) | walk1 | (dsimp only; walk1) | fail "no step")
  rename Fr _ _ _ _ => F9
  rename News _ _ _ _ => N9
  refine Mine.unstop (Mine.forT_pd hv [Str.ofString "line", Str.ofString "m", Str.ofString "best_match", Str.ofString "allowance"]
    (fun pre u nw => ∃ es zs c, nw = (lg, W.listOf zs.toArray c) :: es ∧ Mine.Off lg es ∧ Mine.Pd (Mine.TupV es name) pre zs ∧ ∃ t v, u (Str.ofString "best_match") = some (.int (Mine.allowS j pre).1 t) ∧ u (Str.ofString "allowance") = some v ∧ Mine.ValS (Mine.allowS j pre).2 v) rfl (.inl hl) F9 N9 ⟨[], [], _, rfl, trivial, .nil, _, _, rfl, rfl, rfl⟩ ?_ ?_)
  · intro pre r post v u nw I' oI' h tk hsp hr hJ hoff0 F N
    obtain ⟨es, zs, c, rfl, hoe, hzs, t, va, e1, e2, hva⟩ := hJ
    have hoff := hoff0
    simp only [Mine.Off] at hoff
    simp only [Mine.over, e1, e2] at F
    have hzl : zs.length ≤ 64 := by
      have h1 := Mine.pd_len hzs
      have h2 := congrArg List.length hsp
      rw [List.length_append] at h2
      omega
    have hbd := Mine.allow_b j pre
    have hrb := Mine.reachN_b r.2 j
    have hsm := Mine.allow_small j pre (fun q hq => hb q (by rw [hsp]; simp [hq]))
    clear F9 N9
    obtain ⟨y, dy, f, g1, g2, g3, g4, g5, g6, s1, s2, s3, s4, s5, s6, s7, ua', rl', n', rfl, hi, hreach⟩ := hr
    repeat' (first | (k_unfold; (try dsimp only)) | walk1 | (dsimp only; walk1) | fail "no step")
    rename Fr _ L' _ _ => F5
    rename News _ L' _ _ => N5
    have N6 : News g L' _ [(lg, W.listOf zs.toArray c)] := fun p hp => N5 p (.tail _ (by rw [List.mem_singleton.mp hp]; exact .head _))
    have hup5 : ∀ b o, g.get? b = some o → (hideAll _ [lg]).get? b = some o := fun b o e => Mine.hide_get (F5.keep b o e) (fun q => by
      have q' : b = lg := q
      rw [q', hself] at e; cases e)
    refine Mine.unstop (Mine.reach09 (ns := ns) (nv := nv) rfl rfl B' F5 X' T' N6 (Mine.ReachAt.keeps hreach hup5) (hup5 _ _ hln) hn hj hno hj4 (by omega) hnl ?_)
    intro h9 tk9 t9 tp9 k9 hD9 hn9 ht9 v9 hv9
    obtain ⟨tv, rfl⟩ := hv9
    obtain ⟨F6, N7, hoff9⟩ := Mine.after_hide (pre := [(I', oI')]) (post := es) (es := [(t9, Mine.tup2 (.int r.1 tp9) (.str name tn))]) F5 N5 (fun p hp => by
      rw [List.mem_singleton.mp hp]; exact fun q => hoff.1 q.symm) hoe.mem k9 hD9 (fun p hp => by rw [List.mem_singleton.mp hp]; exact ⟨hn9, ht9⟩)
    clear F5 N5 N6 hup5
    repeat' (first | (k_unfold; (try dsimp only)) | walk1 | (dsimp only; walk1) | fail "no step")
    · (try dsimp only [Mine.TurnPost])
      rename News _ L' _ _ => N5
      exact Mine.TurnEnd.mk' [] (by assumption) (Mine.news_rot9 N5) ⟨hoff.1, (hoff9 (I', oI') (.head _)).1, hoff.2⟩ ⟨fun z1 q1 => by
              simp only [List.mem_cons, not_or, List.not_mem_nil, not_false_iff, and_true] at q1
              obtain ⟨n1, n2, n3, n4⟩ := q1
              simp only [if_neg n1, if_neg n2, if_neg n3, if_neg n4], _, _, _, rfl, ⟨(hoff9 (lg, W.listOf zs.toArray c) (.tail _ (.head _))).1, hoe⟩, PySem.Paired.snoc (Mine.pd_mono hzs fun _ _ _ h => h.mono fun p hp => .tail _ hp) ⟨t9, tp9, tn, rfl, .head _⟩, Mine.stepJ (Mine.step_gt (by assumption) (by assumption)) rfl rfl ⟨_, rfl⟩⟩
    · cases hst : (Mine.allowS j pre).2 with
      | none =>
        rw [hst] at hva
        obtain rfl : va = .bool true := hva
        repeat' (first | (k_unfold; (try dsimp only)) | walk1 | (dsimp only; walk1) | fail "no step")
        (try dsimp only [Mine.TurnPost])
        rename News _ L' _ _ => N5
        exact Mine.TurnEnd.mk' [] (by assumption) (Mine.news_rot9 N5) ⟨hoff.1, (hoff9 (I', oI') (.head _)).1, hoff.2⟩ ⟨fun z1 q1 => by
                simp only [List.mem_cons, not_or, List.not_mem_nil, not_false_iff, and_true] at q1
                obtain ⟨n1, n2, n3, n4⟩ := q1
                simp only [if_neg n1, if_neg n2, if_neg n3, if_neg n4], _, _, _, rfl, ⟨(hoff9 (lg, W.listOf zs.toArray c) (.tail _ (.head _))).1, hoe⟩, PySem.Paired.snoc (Mine.pd_mono hzs fun _ _ _ h => h.mono fun p hp => .tail _ hp) ⟨t9, tp9, tn, rfl, .head _⟩, Mine.stepJ (Mine.step_eqN (by assumption) (by assumption) (by rw [hst]; rfl)) rfl rfl (by rw [hst]; rfl)⟩
      | some x9 =>
        rw [hst] at hva
        obtain ⟨tx9, rfl⟩ := hva
        repeat' (first | (k_unfold; (try dsimp only)) | walk1 | (dsimp only; walk1) | fail "no step")
        have hxl := hsm x9 hst
        cases hb9 : ((x9.length : Int) != 0) with
        | true =>
          have hf9 : Mine.falsy (Mine.allowS j pre).2 = false := by
            rw [hst]; show (x9.length == 0) = false
            rw [bne_iff_ne] at hb9
            exact beq_eq_false_iff_ne.mpr (by omega)
          refine KXt.truthy hb9 (by omega) (fun k9 => ?_)
          repeat' (first | (k_unfold; (try dsimp only)) | walk1 | (dsimp only; walk1) | fail "no step")
          (try dsimp only [Mine.TurnPost])
          rename News _ L' _ _ => N5
          exact Mine.TurnEnd.mk' [] (by assumption) (Mine.news_rot9 N5) ⟨hoff.1, (hoff9 (I', oI') (.head _)).1, hoff.2⟩ ⟨fun z1 q1 => by
                  simp only [List.mem_cons, not_or, List.not_mem_nil, not_false_iff, and_true] at q1
                  obtain ⟨n1, n2, n3, n4⟩ := q1
                  simp only [if_neg n1, if_neg n2, if_neg n3, if_neg n4], _, _, _, rfl, ⟨(hoff9 (lg, W.listOf zs.toArray c) (.tail _ (.head _))).1, hoe⟩, PySem.Paired.snoc (Mine.pd_mono hzs fun _ _ _ h => h.mono fun p hp => .tail _ hp) ⟨t9, tp9, tn, rfl, .head _⟩, Mine.stepJ (Mine.step_eqN (by assumption) (by assumption) hf9) rfl rfl (by rw [hst]; exact ⟨_, rfl⟩)⟩
        | false =>
          have hf9 : Mine.falsy (Mine.allowS j pre).2 = true := by
            rw [hst]; show (x9.length == 0) = true
            rw [bne_eq_false_iff_eq] at hb9
            exact beq_iff_eq.mpr (by omega)
          refine KXt.truthy hb9 (by omega) (fun k9 => ?_)
          repeat' (first | (k_unfold; (try dsimp only)) | walk1 | (dsimp only; walk1) | fail "no step")
          (try dsimp only [Mine.TurnPost])
          rename News _ L' _ _ => N5
          exact Mine.TurnEnd.mk' [] (by assumption) (Mine.news_rot9 N5) ⟨hoff.1, (hoff9 (I', oI') (.head _)).1, hoff.2⟩ ⟨fun z1 q1 => by
                  simp only [List.mem_cons, not_or, List.not_mem_nil, not_false_iff, and_true] at q1
                  obtain ⟨n1, n2, n3, n4⟩ := q1
                  simp only [if_neg n1, if_neg n2, if_neg n3, if_neg n4], _, _, _, rfl, ⟨(hoff9 (lg, W.listOf zs.toArray c) (.tail _ (.head _))).1, hoe⟩, PySem.Paired.snoc (Mine.pd_mono hzs fun _ _ _ h => h.mono fun p hp => .tail _ hp) ⟨t9, tp9, tn, rfl, .head _⟩, Mine.stepJ (Mine.step_eqF (by assumption) (by assumption) (by assumption) hf9) rfl rfl ⟨_, rfl⟩⟩
    · (try dsimp only [Mine.TurnPost])
      rename News _ L' _ _ => N5
      exact Mine.TurnEnd.mk' [] (by assumption) (Mine.news_rot9 N5) ⟨hoff.1, (hoff9 (I', oI') (.head _)).1, hoff.2⟩ ⟨fun z1 q1 => by
              simp only [List.mem_cons, not_or, List.not_mem_nil, not_false_iff, and_true] at q1
              obtain ⟨n1, n2, n3, n4⟩ := q1
              simp only [if_neg n1, if_neg n2, if_neg n3, if_neg n4], _, _, _, rfl, ⟨(hoff9 (lg, W.listOf zs.toArray c) (.tail _ (.head _))).1, hoe⟩, PySem.Paired.snoc (Mine.pd_mono hzs fun _ _ _ h => h.mono fun p hp => .tail _ hp) ⟨t9, tp9, tn, rfl, .head _⟩, Mine.stepJ (Mine.step_lt (by assumption) (by assumption) (by assumption)) rfl rfl hva⟩
    · (try dsimp only [Mine.TurnPost])
      rename News _ L' _ _ => N5
      exact Mine.TurnEnd.mk' [] (by assumption) (Mine.news_rot9 N5) ⟨hoff.1, (hoff9 (I', oI') (.head _)).1, hoff.2⟩ ⟨fun z1 q1 => by
              simp only [List.mem_cons, not_or, List.not_mem_nil, not_false_iff, and_true] at q1
              obtain ⟨n1, n2, n3, n4⟩ := q1
              simp only [if_neg n1, if_neg n2, if_neg n3, if_neg n4], _, _, _, rfl, ⟨(hoff9 (lg, W.listOf zs.toArray c) (.tail _ (.head _))).1, hoe⟩, PySem.Paired.snoc (Mine.pd_mono hzs fun _ _ _ h => h.mono fun p hp => .tail _ hp) ⟨t9, tp9, tn, rfl, .head _⟩, Mine.stepJ (Mine.step_0 (by assumption)) rfl rfl hva⟩
  · intro u nw h tk hJ F N
    obtain ⟨es, zs, c, rfl, hoe, hzs, t, va, e1, e2, hva⟩ := hJ
    simp only [Mine.over, e1, e2] at F
    dsimp only
    repeat' (first | (k_unfold; (try dsimp only)) | walk1 | (dsimp only; walk1) | fail "no step")
    refine Mine.LeaveB.intro F ?_
    exact hpost _ _ es zs c va (fun b o n e => F.keep _ _ (hup b o n e)) (N _ (.head _)).1 (fun p hp => ⟨hdn _ (N p (.tail _ hp)).2.2 (hoe.mem p hp), (N p (.tail _ hp)).1⟩) hzs hva
end
section
namespace Mine
section
variable (j : Nat) (sc : Nat → Int)
def rsOf (n : Nat) : List (Int × Int) := (List.range n).map fun (i : Nat) => (Int.ofNat i, sc i)
def grpN (far : Int) (n : Nat) : List Nat := (List.range n).filter fun i => reachN (sc i) j == far
def oddN (i : Nat) : Bool := Int.fmod (sc i) 2 == 1
def vOf : List Nat → Str
  | [] => Str.ofString ""
  | i :: _ => Txt.mul (Str.ofString "x") ((i : Int) + 1)
def vN (far : Int) (n : Nat) : Str := vOf ((grpN j sc far n).filter (oddN sc))
def dueTo (n : Nat) : Nat → Option Str
  | 0 => none
  | k + 1 => if grpN j sc ((k : Int) + 1) n = [] then dueTo n k else some (vN j sc ((k : Int) + 1) n)
theorem rs_succ (n : Nat) : rsOf sc (n + 1) = rsOf sc n ++ [((n : Int), sc n)] := by unfold rsOf; rw [List.range_succ, List.map_append]; rfl
theorem grp_succ (far : Int) (n : Nat) : grpN j sc far (n + 1) = grpN j sc far n ++ (if reachN (sc n) j = far then [n] else []) := by
  unfold grpN
  rw [List.range_succ, List.filter_append]
  by_cases h : reachN (sc n) j = far
  · rw [if_pos h, List.filter_cons_of_pos (by simpa using h)]; rfl
  · rw [if_neg h, List.filter_cons_of_neg (by simpa using h)]; rfl
theorem ver_is (n : Nat) : verdict (n : Int) (sc n) = vOf ([n].filter (oddN sc)) := by
  unfold verdict oddN
  by_cases h : Int.fmod (sc n) 2 = 1
  · rw [if_pos h, List.filter_cons_of_pos (by simpa using h)]; rfl
  · rw [if_neg h, List.filter_cons_of_neg (by simpa using h)]; rfl
theorem vOf_falsy : ∀ l : List Nat, falsy (some (vOf l)) = true ↔ l = []
  | [] => ⟨fun _ => rfl, fun _ => by decide +kernel⟩
  | i :: l => by
    refine ⟨fun h => ?_, fun h => by cases h⟩
    have h1 : ((Txt.mul (Str.ofString "x") ((i : Int) + 1)).length : Int) = 1 * (if ((i : Int) + 1) < 0 then 0 else ((i : Int) + 1)) := len_mul_k1 (by decide +kernel)
    have h2 : ((Txt.mul (Str.ofString "x") ((i : Int) + 1)).length == 0) = true := h
    rw [if_neg (by omega)] at h1
    rw [beq_iff_eq] at h2
    omega
def InvS (n : Nat) (st : Int × Option Str) : Prop :=
  (st = (-1, none) ∧ ∀ i, i < n → reachN (sc i) j = 0) ∨ (1 ≤ st.1 ∧ st.1 < 5 ∧ (∀ i, i < n → reachN (sc i) j ≤ st.1) ∧ grpN j sc st.1 n ≠ [] ∧ st.2 = some (vN j sc st.1 n))
theorem inv_s : ∀ n, InvS j sc n (allowS j (rsOf sc n))
  | 0 => .inl ⟨rfl, fun _ h => absurd h (Nat.not_lt_zero _)⟩
  | n + 1 => by
    have ih := inv_s n
    rw [rs_succ, allow_snoc]
    generalize allowS j (rsOf sc n) = st at ih
    have hr := reachN_b (sc n) j
    have lt : ∀ i, i < n + 1 → i < n ∨ i = n := fun i h => by omega
    show InvS j sc (n + 1) (stepS st (reachN (sc n) j, verdict (n : Int) (sc n)))
    by_cases h0 : reachN (sc n) j = 0
    · rw [step_0 h0]
      rcases ih with ⟨h1, h2⟩ | ⟨h1, h2, h3, h4, h5⟩
      · exact .inl ⟨h1, fun i hi => (lt i hi).elim (h2 i) fun e => e ▸ h0⟩
      · have e : grpN j sc st.1 (n + 1) = grpN j sc st.1 n := by rw [grp_succ, if_neg (by omega), List.append_nil]
        exact .inr ⟨h1, h2, fun i hi => (lt i hi).elim (h3 i) fun e => by subst e; omega, by rw [e]; exact h4, by rw [h5]; unfold vN; rw [e]⟩
    by_cases hg : st.1 < reachN (sc n) j
    · rw [step_gt h0 hg]
      have hall : ∀ i, i < n → reachN (sc i) j < reachN (sc n) j := fun i hi => by
        rcases ih with ⟨h1, h2⟩ | ⟨h1, h2, h3, h4, h5⟩
        · rw [h2 i hi]; omega
        · have := h3 i hi; omega
      have hnil : grpN j sc (reachN (sc n) j) n = [] := by
        unfold grpN
        rw [List.filter_eq_nil_iff]
        intro i hi
        have := hall i (List.mem_range.mp hi)
        simp; omega
      have e : grpN j sc (reachN (sc n) j) (n + 1) = [n] := by rw [grp_succ, if_pos rfl, hnil, List.nil_append]
      refine .inr ⟨by show 1 ≤ reachN (sc n) j; omega, hr.2, fun i hi => (lt i hi).elim (fun q => Int.le_of_lt (hall i q)) fun e => e ▸ Int.le_refl _, ?_, ?_⟩
      · show grpN j sc (reachN (sc n) j) (n + 1) ≠ []
        rw [e]; simp
      · show some (verdict (n : Int) (sc n)) = some (vN j sc (reachN (sc n) j) (n + 1))
        unfold vN; rw [e, ver_is]
    rcases ih with ⟨rfl, h2⟩ | ⟨h1, h2, h3, h4, h5⟩
    · exact absurd (show (-1 : Int) < reachN (sc n) j by omega) hg
    by_cases he : reachN (sc n) j = st.1
    · have e : grpN j sc st.1 (n + 1) = grpN j sc st.1 n ++ [n] := by rw [grp_succ, if_pos he]
      have hle : ∀ i, i < n + 1 → reachN (sc i) j ≤ st.1 := fun i hi => (lt i hi).elim (h3 i) fun e => by subst e; omega
      by_cases hf : (grpN j sc st.1 n).filter (oddN sc) = []
      · have hfa : falsy st.2 = true := by rw [h5]; exact (vOf_falsy _).mpr hf
        rw [step_eqF h0 hg he hfa]
        refine .inr ⟨h1, h2, hle, ?_, ?_⟩
        · show grpN j sc st.1 (n + 1) ≠ []
          rw [e]; simp
        · show some (verdict (n : Int) (sc n)) = some (vN j sc st.1 (n + 1))
          unfold vN; rw [e, List.filter_append, hf, List.nil_append, ver_is]
      · have hfa : falsy st.2 = false := by
          rw [h5, ← Bool.not_eq_true]; exact fun q => hf ((vOf_falsy _).mp q)
        rw [step_eqN h0 hg hfa]
        refine .inr ⟨h1, h2, hle, by rw [e]; simp, ?_⟩
        rw [h5]
        unfold vN; rw [e, List.filter_append]
        cases hq : (grpN j sc st.1 n).filter (oddN sc) with
        | nil => exact absurd hq hf
        | cons a r => rfl
    · rw [step_lt h0 hg he]
      have e : grpN j sc st.1 (n + 1) = grpN j sc st.1 n := by rw [grp_succ, if_neg he, List.append_nil]
      exact .inr ⟨h1, h2, fun i hi => (lt i hi).elim (h3 i) fun e => by subst e; omega, by rw [e]; exact h4, by rw [h5]; unfold vN; rw [e]⟩
theorem due_is (n : Nat) : (allowS j (rsOf sc n)).2 = dueTo j sc n 4 := by
  rcases inv_s j sc n with ⟨h1, h2⟩ | ⟨h1, h2, h3, h4, h5⟩
  · rw [h1]
    have hn : ∀ k : Nat, dueTo j sc n k = none := by
      intro k
      induction k with
      | zero => rfl
      | succ k ih =>
        unfold dueTo
        rw [if_pos, ih]
        unfold grpN
        rw [List.filter_eq_nil_iff]
        intro i hi
        rw [h2 i (List.mem_range.mp hi)]
        simp; omega
    exact (hn 4).symm
  · rw [h5]
    generalize (allowS j (rsOf sc n)).1 = b at *
    obtain ⟨c, rfl⟩ : ∃ c : Nat, b = (c : Int) + 1 := ⟨(b - 1).toNat, by omega⟩
    have key : ∀ d : Nat, dueTo j sc n (c + 1 + d) = some (vN j sc ((c : Int) + 1) n) := by
      intro d
      induction d with
      | zero => show dueTo j sc n (c + 1) = _; unfold dueTo; rw [if_neg h4]
      | succ d ih =>
        show dueTo j sc n (c + 1 + d + 1) = _
        unfold dueTo
        rw [if_pos, ih]
        unfold grpN
        rw [List.filter_eq_nil_iff]
        intro i hi
        have := h3 i (List.mem_range.mp hi)
        simp; omega
    have := key (3 - c)
    rw [show c + 1 + (3 - c) = 4 by omega] at this
    exact this.symm
end
end Mine
end
section
namespace Mine
theorem Off.app {D : Addr} : ∀ {a b : List (Addr × Obj)}, Off D a → Off D b → Off D (a ++ b)
  | [], _, _, h => h
  | _ :: _, _, x, h => ⟨x.1, Off.app x.2 h⟩
theorem Off.left {D : Addr} : ∀ {a b : List (Addr × Obj)}, Off D (a ++ b) → Off D a
  | [], _, _ => trivial
  | _ :: _, _, x => ⟨x.1, Off.left x.2⟩
theorem Off.right {D : Addr} : ∀ {a b : List (Addr × Obj)}, Off D (a ++ b) → Off D b
  | [], _, h => h
  | _ :: _, _, x => Off.right (a := _) x.2
theorem off3_of {I C D : Addr} : ∀ {l : List (Addr × Obj)}, Off I l → Off C l → Off D l → LCg.Off3 I C D l
  | [], _, _, _ => trivial
  | _ :: _, a, b, c => ⟨⟨a.1, b.1, c.1⟩, off3_of a.2 b.2 c.2⟩
theorem off3_I {I C D : Addr} : ∀ {l : List (Addr × Obj)}, LCg.Off3 I C D l → Off I l ∧ Off C l ∧ Off D l
  | [], _ => ⟨trivial, trivial, trivial⟩
  | _ :: _, h => let ⟨a, b, c⟩ := off3_I h.2; ⟨⟨h.1.1, a⟩, ⟨h.1.2.1, b⟩, ⟨h.1.2.2, c⟩⟩
section
variable {g h : Heap} {L : Addr} {es new R TB : List (Addr × Obj)}
theorem news_rot (N : News g L h (es ++ (R ++ TB))) : News g L h (TB ++ (es ++ R)) := fun p hp => N p (by
  simp only [List.mem_append] at hp ⊢
  rcases hp with q | q | q
  · exact .inr (.inr q)
  · exact .inl q
  · exact .inr (.inl q))
theorem news_back (N : News g L h (new ++ (TB ++ (es ++ R)))) : News g L h (es ++ ((new ++ R) ++ TB)) := fun p hp => N p (by
  simp only [List.mem_append] at hp ⊢
  rcases hp with q | (q | q) | q
  · exact .inr (.inr (.inl q))
  · exact .inl q
  · exact .inr (.inr (.inr q))
  · exact .inr (.inl q))
theorem news_drop1 (N : News g L h (es ++ ((new ++ R) ++ TB))) : News g L h (es ++ (R ++ TB)) := fun p hp => N p (by
  simp only [List.mem_append] at hp ⊢
  rcases hp with q | q | q
  · exact .inl q
  · exact .inr (.inl (.inr q))
  · exact .inr (.inr q))
end
theorem tab_ne {I : Addr} {TB : List (Addr × Obj)} (h : TabL TB) (o : Off I TB) : @Ne Nat I 58 := by
  rcases h with rfl | ⟨c', oc, rfl, _⟩
  · exact fun q => o.1 q.symm
  · exact fun q => o.1 q.symm
def EOff (es R TB : List (Addr × Obj)) : Prop := ∀ D o, (D, o) ∈ es → Off D (R ++ TB)
theorem EOff.cons {D : Addr} {o : Obj} {es R TB : List (Addr × Obj)} (h : EOff es R TB) (hD : Off D (R ++ TB)) : EOff ((D, o) :: es) R TB := fun A oA hm => by
  rcases List.mem_cons.mp hm with e | hm
  · cases e; exact hD
  · exact h A oA hm
theorem EOff.mono {es es' R TB : List (Addr × Obj)} (h : EOff es R TB) (sub : ∀ p ∈ es', ∃ o, (p.1, o) ∈ es) : EOff es' R TB := fun A oA hm => by
  obtain ⟨o, ho⟩ := sub _ hm
  exact h A o ho
theorem EOff.step {es R TB new TB' : List (Addr × Obj)} (h : EOff es R TB) (hoff : ∀ D o, (D, o) ∈ es ++ R → Off D TB → Off D (new ++ TB')) : EOff es (new ++ R) TB' := fun D o hm => by
  have h1 := h D o hm
  have h2 := hoff D o (List.mem_append_left _ hm) h1.right
  exact Off.app (Off.app h2.left h1.left) h2.right
theorem EOff.tab {es R TB : List (Addr × Obj)} (h : EOff es R TB) (hT : TabL TB) (hR : Off 58 R) : Off 58 (es ++ R) := by
  refine Off.app ?_ hR
  exact Off.of fun p hp => tab_ne hT (h p.1 p.2 hp).right
theorem EOff.drop {es R new TB : List (Addr × Obj)} (h : EOff es (new ++ R) TB) : EOff es R TB := fun D o hm => Off.app (h D o hm).left.right (h D o hm).right
theorem RuleE.mono {es es' : List (Addr × Obj)} {ln lg x dr : Addr} {p n : Int} (h : RuleE es ln lg p n x dr) (sub : ∀ p ∈ es, p ∈ es') : RuleE es' ln lg p n x dr := by
  obtain ⟨d, f, c', oc, o1, o2, o3, o4, cr, cp, cn, cl, P, Bd, doc, pm, ct, h1, h2, h3, h4, h5, h6, t1, t2, t3, t4, t5, t6, t7, ua, rl, n, tp, rs, k, m1, m2, m3, e0, m4, e1, m5, e2, m6, e3, m7, e4, m8, e5, m9, e6⟩ := h
  exact ⟨d, f, c', oc, o1, o2, o3, o4, cr, cp, cn, cl, P, Bd, doc, pm, ct, h1, h2, h3, h4, h5, h6, t1, t2, t3, t4, t5, t6, t7, ua, rl, n, tp, rs, k, sub _ m1, sub _ m2, sub _ m3, e0, sub _ m4, e1, sub _ m5, e2, sub _ m6, e3, sub _ m7, e4, sub _ m8, e5, sub _ m9, e6⟩
/-- a rule of the list -/
def RV (R : List (Addr × Obj)) (ln lg : Addr) (r : Int × Int) (v : Value) : Prop := ∃ x dr, v = .ref x ∧ RuleE R ln lg r.1 r.2 x dr
/-- a row of the table -/
def TV (R : List (Addr × Obj)) (r : Int × Int) (v : Value) : Prop := ∃ t dr rs k, v = .ref t ∧ (t, tup2 (.ref dr) (.bool (Int.fmod r.2 2 == 1))) ∈ R ∧ (dr, W.listOf rs k) ∈ R ∧ Pd IntV (reachesN r.2) rs.toList
theorem RV.mono {R R' : List (Addr × Obj)} {ln lg : Addr} {r : Int × Int} {v : Value} (h : RV R ln lg r v) (sub : ∀ p ∈ R, p ∈ R') : RV R' ln lg r v :=
  let ⟨x, dr, e, h⟩ := h; ⟨x, dr, e, h.mono sub⟩
theorem TV.mono {R R' : List (Addr × Obj)} {r : Int × Int} {v : Value} (h : TV R r v) (sub : ∀ p ∈ R, p ∈ R') : TV R' r v :=
  let ⟨t, dr, rs, k, e, h1, h2, h3⟩ := h; ⟨t, dr, rs, k, e, sub _ h1, sub _ h2, h3⟩
theorem RuleE.row {R : List (Addr × Obj)} {ln lg x dr : Addr} {p n : Int} (h : RuleE R ln lg p n x dr) : ∃ rs k, (dr, W.listOf rs k) ∈ R ∧ Pd IntV (reachesN n) rs.toList := by
  obtain ⟨d, f, c', oc, o1, o2, o3, o4, cr, cp, cn, cl, P, Bd, doc, pm, ct, h1, h2, h3, h4, h5, h6, t1, t2, t3, t4, t5, t6, t7, ua, rl, n, tp, rs, k, m1, m2, m3, e0, m4, e1, m5, e2, m6, e3, m7, e4, m8, e5, m9, e6⟩ := h
  exact ⟨rs, k, m9, e6⟩
theorem rs_len (sc : Nat → Int) (n : Nat) : (rsOf sc n).length = n := by unfold rsOf; rw [List.length_map, List.length_range]
theorem sc_at {ns : List Int} {i : Nat} (h : i < ns.length) : ns[i]? = some (ns.getD i 0) := by
  rw [List.getD_eq_getElem?_getD, List.getElem?_eq_getElem h]; rfl
theorem news_add {g h : Heap} {L : Addr} {l : List (Addr × Obj)} {p : Addr × Obj} (N : News g L h l) (hp : p ∈ l) : News g L h (p :: l) := fun q hq => by
  rcases List.mem_cons.mp hq with rfl | hq
  · exact N _ hp
  · exact N _ hq
/-- between the turns of the first loop -/
def J9 (l l1 lg ln : Addr) (p3 p4 p5 : Addr × Obj) (og on : Obj) (p8 p9 p10 p11 : Addr × Obj) (sc : Nat → Int) (i : Nat) (nw : List (Addr × Obj)) : Prop :=
  ∃ tz rz c1 c2 R TB, nw = [(l, W.listOf (List.toArray tz) c1), (l1, W.listOf (List.toArray rz) c2), p3, p4, p5, (lg, og), (ln, on), p8, p9, p10, p11] ++ (R ++ TB) ∧ TabL TB ∧ Off 58 R ∧
    EOff [(l, W.listOf (List.toArray tz) c1), (l1, W.listOf (List.toArray rz) c2), p3, p4, p5, (lg, og), (ln, on), p8, p9, p10, p11] R TB ∧ Pd (RV R ln lg) (rsOf sc i) rz ∧ Pd (TV R) (rsOf sc i) tz
theorem eoff_start {es : List (Addr × Obj)} (h : ∀ p ∈ es, @Ne Nat 58 p.1) : EOff es [] [(58, tabObj #[])] := fun D o hm => ⟨h _ hm, trivial⟩
theorem news_end9 {g h : Heap} {L : Addr} {T D I : Addr × Obj} {es R TB : List (Addr × Obj)} (N : News g L h (T :: D :: I :: (es ++ (R ++ TB)))) : News g L h (I :: (es ++ ((T :: R) ++ TB))) := fun p hp => N p (by
  simp only [List.mem_cons, List.mem_append] at hp ⊢
  rcases hp with q | q | (q | q) | q <;> simp [q])
theorem eoff_next {l l1 T : Addr} {o1 o2 o1' o2' oT : Obj} {es R TB : List (Addr × Obj)} (h : EOff ((l, o1) :: (l1, o2) :: es) R TB) (hT : ∀ p ∈ (l, o1) :: (l1, o2) :: es, @Ne Nat T p.1) : EOff ((l, o1') :: (l1, o2') :: es) ((T, oT) :: R) TB := fun D o hm => by
  have key : ∃ o', (D, o') ∈ (l, o1) :: (l1, o2) :: es := by
    rcases List.mem_cons.mp hm with e | hm
    · cases e; exact ⟨_, .head _⟩
    · rcases List.mem_cons.mp hm with e | hm
      · cases e; exact ⟨_, .tail _ (.head _)⟩
      · exact ⟨o, .tail _ (.tail _ hm)⟩
  obtain ⟨o', hm'⟩ := key
  exact ⟨hT _ hm', h _ _ hm'⟩
theorem EOff.tail1 {a : Addr × Obj} {l R TB : List (Addr × Obj)} (h : EOff (a :: l) R TB) : EOff l R TB := fun A oA hm => h A oA (.tail _ hm)
theorem rv_of {g h : Heap} {L : Addr} {ln lg : Addr} {R news : List (Addr × Obj)} {r : Int × Int} {v : Value} (N : News g L h news) (sub : ∀ p ∈ R, p ∈ news) (hne : Off lg R) (e : RV R ln lg r v) : RuleV (hideAll h [lg]) ln lg r v := by
  obtain ⟨x, dr, rfl, d, f, c', oc, o1, o2, o3, o4, cr, cp, cn, cl, P, Bd, doc, pm, ct, h1, h2, h3, h4, h5, h6, t1, t2, t3, t4, t5, t6, t7, ua, rl, n, tp, rs, k, m1, m2, m3, e0, m4, e1, m5, e2, m6, e3, m7, e4, m8, e5, m9, e6⟩ := e
  have at' : ∀ {a : Addr} {o : Obj}, (a, o) ∈ R → (hideAll h [lg]).get? a = some o := fun {a o} m => hide_get (N _ (sub _ m)).1 (fun q => hne.mem _ m q)
  exact ⟨x, d, f, h1, h2, h3, h4, h5, h6, t1, t2, t3, t4, t5, t6, t7, ua, rl, n, rfl, ⟨at' m1, rfl, rfl, at' m2⟩, c', oc, o1, o2, o3, o4, cr, cp, cn, cl, P, Bd, doc, pm, ct, tp, rs, dr, at' m3, e0, at' m4, e1, at' m5, e2, at' m6, e3, at' m7, e4, at' m8, e5, ⟨_, at' m9, rfl, _, rfl⟩, e6⟩
end Mine
end
section
namespace Mine
/-- every sign of the text is a sign -/
def Good (a : Str) : Prop := ∀ c ∈ a.cps.toList, c < 0x110000
theorem strs_layAll {ns : List Str} (ho : ∀ a ∈ ns, Good a) : PyData.canLayAll0 (ns.map PyData.str) = true := by
  rw [canLayAll_strs', List.all_eq_true]
  intro a ha
  unfold PyData.strOk
  rw [Array.all_eq_true']
  intro c hc
  simpa using ho a ha c (by simpa using hc)
theorem strs_depthAll : ∀ ns : List Str, PyData.depthAll (ns.map PyData.str) = 0
  | [] => rfl
  | _ :: r => by simp [PyData.depthAll, PyData.depth, strs_depthAll r]
theorem strs_shaped {ns : List Str} (ho : ∀ a ∈ ns, Good a) : PySem.SeqAt.shaped (.list (ns.map PyData.str)) = true := by
  simp [PySem.SeqAt.shaped, PyData.canLay0, PyData.depth, strs_layAll ho, strs_depthAll]
theorem strs_sameAll : ∀ ns ms : List Str, PySem.Spec.sameAll (ns.map PyData.str) (ms.map PyData.str) = decide (ns = ms)
  | [], [] => by simp [PySem.Spec.sameAll]
  | [], _ :: _ => by simp [PySem.Spec.sameAll]
  | _ :: _, [] => by simp [PySem.Spec.sameAll]
  | a :: r, b :: t => by
    simp only [List.map_cons, PySem.Spec.sameAll, PySem.Spec.same, strs_sameAll r t]
    by_cases h : a = b <;> by_cases h' : r = t <;> simp [h, h']
theorem strs_carried : ∀ {ns : List Str} {vs : List Value}, Pd StrV ns vs → PyProof.Rows.CarriedAll vs (ns.map PyData.str)
  | _, _, .nil => .nil
  | _, _, .cons ⟨t, e⟩ r => by subst e; exact .cons (.str _ t) (strs_carried r)
/-- == of two lists of texts -/
theorem eq_strs {prog : Program} {w : World} {A : Around} {E : Value → Shared → Prop} {s : Shared} {a b : Addr} {xs ys : List Value} {ns ms : List Str} {Q : Value → Shared → Prop}
    (ha : s.heap.IsList a xs.toArray) (hb : s.heap.IsList b ys.toArray) (hi : Pd StrV ns xs) (hj : Pd StrV ms ys) (ho : ∀ a ∈ ns, Good a) (ho' : ∀ a ∈ ms, Good a) (hu : A.units + 64 < cLine) (h : Q (.bool (decide (ns = ms))) s) :
    wpAny (model prog w) A (compareOp .Eq (.ref a) (.ref b)) Q E s :=
  PyProof.Rows.eq_dataH_same (PyProof.Rows.reads_newData ha (strs_carried hi)) (PyProof.Rows.reads_newData hb (strs_carried hj)) (strs_shaped ho) (strs_shaped ho') hu (PySem.SeqAt.noMix_of_shape (.list .str) rfl _ _ (list_map_has fun _ => rfl) (list_map_has fun _ => rfl)) (by simp only [PySem.Spec.same]; rw [strs_sameAll]; exact h)
/-- != of two lists of texts -/
theorem ne_strs {prog : Program} {w : World} {A : Around} {E : Value → Shared → Prop} {s : Shared} {a b : Addr} {xs ys : List Value} {ns ms : List Str} {Q : Value → Shared → Prop}
    (ha : s.heap.IsList a xs.toArray) (hb : s.heap.IsList b ys.toArray) (hi : Pd StrV ns xs) (hj : Pd StrV ms ys) (ho : ∀ a ∈ ns, Good a) (ho' : ∀ a ∈ ms, Good a) (hu : A.units + 64 < cLine) (h : Q (.bool (!decide (ns = ms))) s) :
    wpAny (model prog w) A (compareOp .NotEq (.ref a) (.ref b)) Q E s :=
  PyProof.Rows.ne_dataH_same (PyProof.Rows.reads_newData ha (strs_carried hi)) (PyProof.Rows.reads_newData hb (strs_carried hj)) (strs_shaped ho) (strs_shaped ho') hu (PySem.SeqAt.noMix_of_shape (.list .str) rfl _ _ (list_map_has fun _ => rfl) (list_map_has fun _ => rfl)) (by simp only [PySem.Spec.same]; rw [strs_sameAll]; exact h)
end Mine
end
section
namespace Mine
def names4 : List Str := [Str.ofString "/a", Str.ofString "", Str.ofString "/a/b", Str.ofString "/c"]
theorem names_all : ∀ k ∈ List.range 4, (match names4[k]? with | some nm => (List.range k).all (fun i => names4[i]? != some nm) && decide (nm.length ≤ 10) && nm.cps.toList.all (· < 128) | none => false) = true := by decide +kernel
theorem names_at {k : Nat} (hk : k < 4) : ∃ nm, names4[k]? = some nm ∧ (∀ i, i < k → names4[i]? ≠ some nm) ∧ nm.length ≤ 10 ∧ Good nm := by
  have h := names_all k (List.mem_range.mpr hk)
  cases e : names4[k]? with
  | none => rw [e] at h; cases h
  | some nm =>
    rw [e] at h
    simp only [Bool.and_eq_true, decide_eq_true_eq, List.all_eq_true, bne_iff_ne] at h
    exact ⟨nm, rfl, fun i hi => h.1.1 i (List.mem_range.mpr hi), h.1.2, fun c hc => by have := h.2 c hc; omega⟩
def tupD (nm : Str) (r : Int × Int) : PyData := .tuple [.int r.1, .str nm]
theorem tups_read {h : Heap} {es : List (Addr × Obj)} {nm : Str} (hes : ∀ p ∈ es, h.get? p.1 = some p.2) : ∀ {rs : List (Int × Int)} {zs : List Value}, Pd (TupV es nm) rs zs → ∃ as, ReadsAll h zs (rs.map (tupD nm)) as
  | _, _, .nil => ⟨_, .nil⟩
  | _, _, .cons ⟨t, tp, tn, e, m⟩ r => by
    obtain ⟨as, ha⟩ := tups_read hes r
    subst e
    exact ⟨_, .cons (.tuple (hes _ m) rfl rfl (.cons (.int _ _) (.cons (.str _ _) .nil))) ha⟩
theorem tups_lay {nm : Str} (hg : Good nm) : ∀ rs : List (Int × Int), PyData.canLayAll0 (rs.map (tupD nm)) = true ∧ PyData.depthAll (rs.map (tupD nm)) ≤ 1
  | [] => ⟨rfl, Nat.zero_le _⟩
  | r :: rs => by
    obtain ⟨h1, h2⟩ := tups_lay hg rs
    have hs := strs_layAll (ns := [nm]) (fun a ha => by rw [List.mem_singleton.mp ha]; exact hg)
    simp only [List.map_cons, List.map_nil, PyData.canLayAll0, PyData.canLay0, Bool.and_true] at hs
    constructor
    · simp only [List.map_cons, PyData.canLayAll0, tupD, PyData.canLay0, h1, hs, Bool.and_true, Bool.true_and]
    · simp only [List.map_cons, PyData.depthAll, tupD, PyData.depth] 
      omega
theorem tups_shaped {nm : Str} (hg : Good nm) (rs : List (Int × Int)) : PySem.SeqAt.shaped (.list (rs.map (tupD nm))) = true := by
  obtain ⟨h1, h2⟩ := tups_lay hg rs
  simp [PySem.SeqAt.shaped, PyData.canLay0, PyData.depth, h1]
  omega
/-- between the turns over the names -/
def J9b (p0 p1 p2 p3 p4 p5 : Addr × Obj) (lg : Addr) (p7 : Addr × Obj) (cF cJ : Addr) (p10 p11 : Addr × Obj) (RT : List (Addr × Obj)) (nw : List (Addr × Obj)) : Prop :=
  ∃ zl cl oF oJ vF vJ, nw = p0 :: p1 :: p2 :: p3 :: p4 :: p5 :: (lg, W.listOf (List.toArray zl) cl) :: p7 :: (cF, oF) :: (cJ, oJ) :: p10 :: p11 :: RT ∧ oF.data = .cell vF ∧ oJ.data = .cell vJ ∧ zl.length ≤ 64
theorem rs_b {sc : Nat → Int} {n : Nat} (h : n ≤ 63) : ∀ r ∈ rsOf sc n, 0 ≤ r.1 ∧ r.1 ≤ 100 := fun r hr => by
  obtain ⟨i, hi, rfl⟩ := List.mem_map.mp hr
  have := List.mem_range.mp hi
  constructor
  · show (0 : Int) ≤ (i : Int); omega
  · show (i : Int) ≤ 100; omega
theorem news_mv {g h : Heap} {L : Addr} {es l RT : List (Addr × Obj)} (N : News g L h (es ++ (l ++ RT))) : News g L h (l ++ (RT ++ es)) := fun p hp => N p (by
  simp only [List.mem_append] at hp ⊢
  rcases hp with q | q | q <;> simp [q])
theorem news_lt {g h : Heap} {L : Addr} {es l RT : List (Addr × Obj)} (N : News g L h (l ++ (RT ++ es))) : News g L h (l ++ RT) := fun p hp => N p (by
  simp only [List.mem_append] at hp ⊢
  rcases hp with q | q <;> simp [q])
/-- between the turns of the comprehension of pairs -/
def JT (nm : Str) (sc : Nat → Int) (l tl : List (Addr × Obj)) (i : Nat) (ys : List Value) (nw : List (Addr × Obj)) : Prop := ∃ ts, nw = l ++ (ts ++ tl) ∧ Pd (TupV ts nm) (rsOf sc i) ys
theorem news_ct {g h : Heap} {L : Addr} {T I C D : Addr × Obj} {l ts tl : List (Addr × Obj)} (N : News g L h (T :: I :: C :: D :: (l ++ (ts ++ tl)))) : News g L h (I :: C :: D :: (l ++ ((T :: ts) ++ tl))) := fun p hp => N p (by
  simp only [List.mem_cons, List.mem_append] at hp ⊢
  rcases hp with q | q | q | q | (q | q) | q <;> simp [q])
theorem off3_T {I C D T : Addr} {oT : Obj} {l ts tl : List (Addr × Obj)} (off : LCg.Off3 I C D (l ++ (ts ++ tl))) (h1 : @Ne Nat T I) (h2 : @Ne Nat T C) (h3 : @Ne Nat T D) : LCg.Off3 I C D (l ++ (((T, oT) :: ts) ++ tl)) := by
  obtain ⟨a, b, c⟩ := off3_I off
  exact off3_of (Off.app a.left ⟨h1, a.right⟩) (Off.app b.left ⟨h2, b.right⟩) (Off.app c.left ⟨h3, c.right⟩)
/-- between the turns over the distances -/
def J9c (p0 p1 p2 p3 p4 p5 p6 p7 p8 : Addr × Obj) (cF : Addr) (p10 p11 p12 : Addr × Obj) (RT : List (Addr × Obj)) (nw : List (Addr × Obj)) : Prop :=
  ∃ oF vF, nw = p0 :: p1 :: p2 :: p3 :: p4 :: p5 :: p6 :: p7 :: p8 :: (cF, oF) :: p10 :: p11 :: p12 :: RT ∧ oF.data = .cell vF
theorem news_dr {g h : Heap} {L : Addr} {D : Addr × Obj} {l ts RT es : List (Addr × Obj)} (N : News g L h (D :: (l ++ (ts ++ (RT ++ es))))) : News g L h (l ++ RT) := fun p hp => N p (by
  simp only [List.mem_cons, List.mem_append] at hp ⊢
  rcases hp with q | q <;> simp [q])
theorem rs_at (sc : Nat → Int) {n i : Nat} (h : i < n) : (rsOf sc n)[i]? = some ((i : Int), sc i) := by
  unfold rsOf
  rw [List.getElem?_map, List.getElem?_range h]; rfl
theorem reaches_at (n : Int) {k : Nat} (h : k < 4) : (reachesN n)[k]? = some (reachN n k) := by
  unfold reachesN
  rw [List.getElem?_map, List.getElem?_range h]; rfl
theorem kind_is (sc : Nat → Int) : ∀ G : List Nat, ((G.map fun i : Nat => (i : Int)).filter fun a => oddN sc a.toNat) = (G.filter (oddN sc)).map fun i : Nat => (i : Int)
  | [] => rfl
  | i :: G => by
    rw [List.map_cons, List.filter_cons, List.filter_cons, kind_is sc G]
    show (if oddN sc i = true then _ else _) = _
    split <;> rfl
theorem grp_lt {j : Nat} {sc : Nat → Int} {far : Int} {n i : Nat} (h : i ∈ grpN j sc far n) : i < n := List.mem_range.mp (List.mem_filter.mp h).1
theorem tups_noMix (nm : Str) (rs : List (Int × Int)) : PySem.SeqAt.noMix (.list (rs.map (tupD nm))) (.list (rs.map (tupD nm))) = true :=
  PySem.SeqAt.noMix_of_shape (.list (.tuple [.int, .str])) rfl _ _ (list_map_has fun _ => rfl) (list_map_has fun _ => rfl)
section
variable {prog : Program} {w : World} {A : Around} {E : Value → Shared → Prop} {s : Shared}
/-- != of two lists of the same pairs -/
theorem ne_tups {a b : Addr} {xs ys : List Value} {nm : Str} {rs : List (Int × Int)} {es es' : List (Addr × Obj)} {Q : Value → Shared → Prop}
    (ha : s.heap.IsList a xs.toArray) (hb : s.heap.IsList b ys.toArray) (hes : ∀ p ∈ es, s.heap.get? p.1 = some p.2) (hes' : ∀ p ∈ es', s.heap.get? p.1 = some p.2) (hi : Pd (TupV es nm) rs xs) (hj : Pd (TupV es' nm) rs ys) (hg : Good nm) (hu : A.units + 64 < cLine) (h : Q (.bool false) s) :
    wpAny (model prog w) A (compareOp .NotEq (.ref a) (.ref b)) Q E s := by
  obtain ⟨as, ra⟩ := tups_read hes hi
  obtain ⟨bs, rb⟩ := tups_read hes' hj
  obtain ⟨oa, ha1, ha2, na, ha3⟩ := ha
  obtain ⟨ob, hb1, hb2, nb, hb3⟩ := hb
  refine PyProof.Rows.ne_dataH_same (.list ha1 ha2 ha3 (by simpa using ra)) (.list hb1 hb2 hb3 (by simpa using rb)) (tups_shaped hg rs) (tups_shaped hg rs) hu (tups_noMix nm rs) ?_
  rw [PyProof.Rows.same_refl]; exact h
theorem ints_layAll : ∀ ns : List Int, PyData.canLayAll0 (ns.map PyData.int) = true ∧ PyData.depthAll (ns.map PyData.int) = 0
  | [] => ⟨rfl, rfl⟩
  | n :: r => by
    obtain ⟨h1, h2⟩ := ints_layAll r
    simp [PyData.canLayAll0, PyData.canLay0, PyData.depthAll, PyData.depth, h1, h2]
theorem ints_shaped (ns : List Int) : PySem.SeqAt.shaped (.list (ns.map PyData.int)) = true := by
  obtain ⟨h1, h2⟩ := ints_layAll ns
  simp [PySem.SeqAt.shaped, PyData.canLay0, PyData.depth, h1, h2]
theorem ints_carried : ∀ {ns : List Int} {vs : List Value}, Pd IntV ns vs → PyProof.Rows.CarriedAll vs (ns.map PyData.int)
  | _, _, .nil => .nil
  | _, _, .cons ⟨t, e⟩ r => by subst e; exact .cons (.int _ t) (ints_carried r)
/-- l != [] of a list of numbers -/
theorem ne_nil {a b : Addr} {xs : List Value} {ns : List Int} {Q : Value → Shared → Prop}
    (ha : s.heap.IsList a xs.toArray) (hb : s.heap.IsList b #[]) (hi : Pd IntV ns xs) (hu : A.units + 64 < cLine) (h : Q (.bool (!decide (ns = []))) s) :
    wpAny (model prog w) A (compareOp .NotEq (.ref a) (.ref b)) Q E s := by
  refine PyProof.Rows.ne_dataH_same (PyProof.Rows.reads_newData ha (ints_carried hi)) (PyProof.Rows.reads_newData (ys := []) hb (ints_carried (ns := []) .nil)) (ints_shaped ns) (ints_shaped []) hu (PySem.SeqAt.noMix_of_shape (.list .int) rfl _ _ (list_map_has fun _ => rfl) rfl) ?_
  have e : PySem.Spec.same (.list (ns.map PyData.int)) (.list (([] : List Int).map PyData.int)) = decide (ns = []) := by
    cases ns with
    | nil => rfl
    | cons n r => simp [PySem.Spec.same, PySem.Spec.sameAll]
  rw [e]; exact h
/-- == of two lists that hold the very same things -/
theorem eq_same {a b : Addr} {xs : List Value} {Q : Value → Shared → Prop} (ha : s.heap.IsList a xs.toArray) (hb : s.heap.IsList b xs.toArray) (hu : A.units < cLine) (h : Q (.bool true) s) :
    wpAny (model prog w) A (compareOp .Eq (.ref a) (.ref b)) Q E s :=
  PySem.SeqAt.eq_listAt (e := fun _ => true) ha hb rfl hu (fun j h1 h2 => PySem.SeqAt.EqAt.same _) (by rw [show ((List.range xs.toArray.size).all fun _ => true) = true by simp]; exact h)
/-- an item of a pair of the ledger -/
theorem tup_item {value slice : PySem.Expr} {h₀ : Heap} {L t : Addr} {news : List (Addr × Obj)} {a b x : Value} {k : Nat} {u : Tok} {Q : Value → Shared → Prop} (N : News h₀ L s.heap news) (hm : (t, tup2 a b) ∈ news) (hx : [a, b][k]? = some x) (h : Q x s)
    (hs : subscripted slice false (.ref t) (.int k u) = operate [.ref t, .int k u] (getItem (.ref t) (.int k u)) := by with_unfolding_all rfl) :
    wpAny (model prog w) A (subscriptTail value slice (.ref t) (.int k u)) Q E s := by
  have hk : k < 2 := by
    rcases Nat.lt_or_ge k 2 with q | q
    · exact q
    · rw [List.getElem?_eq_none (by simpa using q)] at hx; cases hx
  refine item_tupleT (l := [a, b]) (j := k) ?_ (by omega) (by omega) ?_ hx h hs
  · exact ⟨_, (N _ hm).1, rfl, _, rfl⟩
  · unfold seqIndex?
    have h1 : ¬ ((k : Int) < 0) := by omega
    simp only [h1, if_false]
    rw [if_pos (by simp; omega)]; simp
end
end Mine
end
section
local macro_rules | `(tactic| walk_at "subscriptTail") => `(tactic| (k_here; (with_reducible show wpAny _ _ (subscriptTail _ _ (Value.ref _) (Value.int _ _)) _ _ _); refine Mine.stop ?_))
local macro_rules | `(tactic| walk_at "pyIter ref") => `(tactic| (k_here; refine Mine.stop ?_))
local macro_rules | `(tactic| walk_at "call builtin:list.append") => `(tactic| (k_here; (with_reducible show wpAny _ _ (call (Value.builtin _) [Value.ref _, _]) _ _ _); k_dflt (refine' Mine.append_l ?k1 ?k2 ?k3 ?_ ?z; (case k1 => k_asm); (case k2 => k_asm); (case k3 => k_upd); (case z => (rw [PySem.sizeLine_eq]; omega)); k_whole); intro h' F' N'; (try k_sweep)))
local macro_rules | `(tactic| walk_at "call builtin:len") => `(tactic| (k_here; (with_reducible show wpAny _ _ (call (Value.builtin "len") [Value.ref _]) _ _ _); k_dflt (refine' Mine.len_l ?k1 ?k2 ?k3 ?_; (case k1 => k_asm); (case k2 => k_mem); (case k3 => (rw [PySem.sizeLine_eq]; (try simp only [List.length_append, List.length_cons, List.length_nil]); omega)); k_whole)))
local macro_rules | `(tactic| walk_at "binaryOp Add ref ref") => `(tactic| (k_here; k_dflt (refine' Mine.add_l ?k1 ?k2 ?k3 ?k4 ?k5 ?_; (case k1 => k_asm); (case k2 => k_asm); (case k3 => k_mem); (case k4 => k_mem); (case k5 => (rw [PySem.sizeLine_eq]; (try simp only [List.length_append, List.length_cons, List.length_nil, List.length_take, List.length_drop]); omega)); k_whole); intro D' h' F' N' l1; (try k_lt l1); (try k_sweep)))
local macro_rules | `(tactic| walk_at "call type:list") => `(tactic| (k_here; (with_reducible show wpAny _ _ (call (Value.type _) [Value.ref _]) _ _ _); k_dflt (refine' Mine.copy_l ?k1 ?k2 ?k3 ?k4 ?_; (case k1 => k_asm); (case k2 => k_asm); (case k3 => k_mem); (case k4 => (rw [PySem.sizeLine_eq]; (try simp only [List.length_append, List.length_cons, List.length_nil, List.length_take, List.length_drop]); omega)); k_whole); intro D' c' h' F' N' l1; (try k_lt l1); (try k_sweep)))
local macro_rules | `(tactic| walk_at "subscriptTail Name Slice ref ref") => `(tactic| (k_here; (with_reducible show wpAny _ _ (subscriptTail _ (PySem.Expr.Slice _ _ none _) (Value.ref _) (Value.ref _)) _ _ _); k_dflt ((first | refine' Mine.slice_to ?F ?N ?l ?p ?_ ?s ?t ?z | refine' Mine.slice_from ?F ?N ?l ?p ?_ ?s ?t ?z); (case F => k_asm); (case N => k_asm); (case l => k_mem); (case p => omega); (case s => with_unfolding_all rfl); (case t => kmk_pure); (case z => (rw [PySem.sizeLine_eq]; omega))); intro D' h' F' N' l1; (try k_lt l1); (try k_sweep)))
local macro_rules | `(tactic| walk_at "eval ListComp") => `(tactic| (k_here; first
  | (lcg_look; k_dflt (refine LCg.ListComp_U (F₀ := by k_asm) (by with_unfolding_all rfl) (by decide) (by rfl) (by decide) (by rfl) ?_))
  | (lcf_look; k_dflt (refine LCg.ListComp_U (F₀ := by k_asm) (by with_unfolding_all rfl) (by decide) (by rfl) (by decide) (by rfl) ?_))
  | (lct_look; k_dflt (refine LCt.ListComp_T (F₀ := by k_asm) (by with_unfolding_all rfl) (by decide) (by rfl) (by decide) (by rfl) ?_))))
local macro_rules | `(tactic| walk_at "exec Assign cons ListComp") => `(tactic| (k_here; first
  | (lcg_look; k_dflt (refine LCg.Assign_ListComp_U (F₀ := by k_asm) (by rfl) (by with_unfolding_all rfl) (by with_unfolding_all rfl) (by decide) (by rfl) (by decide) (by rfl) (by rfl) (by rfl) ?_))
  | (lcf_look; k_dflt (refine LCg.Assign_ListComp_U (F₀ := by k_asm) (by rfl) (by with_unfolding_all rfl) (by with_unfolding_all rfl) (by decide) (by rfl) (by decide) (by rfl) (by rfl) (by rfl) ?_))
  | (lct_look; k_dflt (refine LCt.Assign_ListComp_T (F₀ := by k_asm) (by rfl) (by with_unfolding_all rfl) (by with_unfolding_all rfl) (by decide) (by rfl) (by decide) (by rfl) (by rfl) (by rfl) ?_))))
local macro_rules | `(tactic| walk_at "CompSrc") => `(tactic| (k_here; k_dflt (first
  | (refine LCg.CompSrc.ledger (by rfl) (by k_asm) (by k_asm) (by k_mem) (by first | (simp only [List.size_toArray, List.length_append, List.length_cons, List.length_nil, List.length_take, List.length_drop, PySem.sizeLine_eq]; omega) | size_fits) ?_; intro g'; refine Mine.stop ?_)
  | (refine LCg.CompSrc.base (by rfl) (by k_asm) (by k_asm) (by assumption) (by first | (simp only [List.size_toArray, List.length_append, List.length_cons, List.length_nil, List.length_take, List.length_drop, PySem.sizeLine_eq]; omega) | size_fits) ?_; intro g'; refine Mine.stop ?_))))
local macro_rules | `(tactic| walk_at "CompSrcT") => `(tactic| (k_here; k_dflt (first
  | (refine LCt.CompSrcT.ledger (by rfl) (by k_asm) (by k_asm) (by k_mem) (by first | (simp only [List.size_toArray, List.length_append, List.length_cons, List.length_nil, List.length_take, List.length_drop, PySem.sizeLine_eq]; omega) | size_fits) ?_; intro g'; refine Mine.stop ?_)
  | (refine LCt.CompSrcT.base (by rfl) (by k_asm) (by k_asm) (by assumption) (by first | (simp only [List.size_toArray, List.length_append, List.length_cons, List.length_nil, List.length_take, List.length_drop, PySem.sizeLine_eq]; omega) | size_fits) ?_; intro g'; refine Mine.stop ?_))))
local macro_rules | `(tactic| walk_at "exec Assign") => `(tactic| (k_here; with_reducible refine plainObj_wpAny_Assign_Attribute ?_ ?_; rotate_left; with_unfolding_all rfl))
local macro_rules | `(tactic| walk_at "exec For Name Call cons nil") => `(tactic| (k_here; k_dflt (refine Mine.For_T (by k_asm) (by intro _ _; rfl) ?_)))
local macro_rules | `(tactic| walk_at "exec For Name Name cons nil") => `(tactic| (k_here; k_dflt (refine Mine.For_T (by k_asm) (by intro _ _; rfl) ?_)))
local macro_rules | `(tactic| walk_at "exec For Name Attribute cons nil") => `(tactic| (k_here; k_dflt (refine Mine.For_T (by k_asm) (by intro _ _; rfl) ?_)))
local macro_rules | `(tactic| walk_at "CompEnd") => `(tactic| (k_here; refine Mine.stop ?_))
local macro_rules | `(tactic| ktr_rel) => `(tactic| first
  | ((with_reducible show wpAny _ _ (subscriptTail _ _ (Value.ref _) (Value.int _ _)) _ _ _); refine Mine.stop ?_)
  | ((with_reducible show wpAny _ _ (call (Value.ref 61) _ _) _ _ _); refine Mine.stop ?_)
  | ((with_reducible show wpAny _ _ (call (Value.ref 49) _ _) _ _ _); refine Mine.stop ?_)
  | ((with_reducible show wpAny _ _ (delItem (Value.ref _) _) _ _ _); refine Mine.stop ?_)
  | ((with_reducible show wpAny _ _ (compareOp CmpOp.Eq (Value.ref _) (Value.ref _)) _ _ _); refine Mine.stop ?_)
  | ((with_reducible show wpAny _ _ (compareOp CmpOp.NotEq (Value.ref _) (Value.ref _)) _ _ _); refine Mine.stop ?_)
  | ((with_reducible show wpAny _ _ (eval (PySem.Expr.ListComp _ _ _ _) _) _ _ _); refine Mine.stop ?_)
  | ((with_reducible show wpAny _ _ (compareOp CmpOp.NotEq (Value.ref _) (Value.ref _)) _ _ _); refine Mine.stop ?_)
  | ((with_reducible show wpAny _ _ (compareOp CmpOp.In (Value.str _ _) (Value.ref _)) _ _ _); refine Mine.stop ?_)
  | fail "none")
local macro_rules | `(tactic| walk_at "compareOp In str ref") => `(tactic| (k_here; refine Mine.stop ?_))
local macro_rules | `(tactic| ktr_unf) => `(tactic| repeat' (first | (k_unfold; (try dsimp only)) | ktr_rel | walk1 | (dsimp only; walk1) | fail "no step"))
local macro_rules | `(tactic| walk_at "CompSrc") => `(tactic| (k_here; refine Mine.stop ?_))
local macro_rules | `(tactic| walk_at "CompSrcT") => `(tactic| (k_here; refine Mine.stop ?_))
local macro_rules | `(tactic| k_mem) => `(tactic| assumption)
local macro_rules | `(tactic| walk_at "GrownAll") => `(tactic| (k_here; refine Mine.stop ?_))
local macro_rules | `(tactic| walk_at "execs cons") => `(tactic| ((with_reducible refine wpAny_execs_cons ?_); try dsimp only))
local macro_rules | `(tactic| walk_at "execs cons Assign cons") => `(tactic| (k_here; walk_at "execs cons"))
local macro_rules | `(tactic| k_all) => `(tactic| exact Mine.Off.mem (by assumption))
local macro_rules | `(tactic| walk_at "newList") => `(tactic| (k_here; k_dflt (refine' newList_K ?k1 ?k2 ?_; (case k1 => k_asm); (case k2 => k_asm); k_whole); intro l' h' F' N' l1; (try k_lt l1); (try k_sweep)))
set_option maxRecDepth 100000 in
set_option maxHeartbeats 8000000 in
theorem PySem.Challenge.cw_kn0091_09_holds : PySem.Challenge.rw_kn0091_09.Holds := by
  refine Mine.hd09 (by
  k_go0
  (all_goals try k_fold)
  rename ¬ ((_ : Nat) : Int) < _ => hle
  rename IntsAre _ _ => hI
  have hlv := hI.length
  have hpi := Mine.pd_ints hI
  rename List Int => ns
  have hgl : List.length ns ≤ 63 := by omega
  ktr_unf
  rename Fr _ _ _ _ => F9
  rename News _ _ _ _ => N9
  rename IsRange _ _ _ _ _ _ _ _ => hrg
  refine Mine.unstop (Mine.forT_count [Str.ofString "place", Str.ofString "rule", Str.ofString "reaches"] ns.length
    (fun i u nw => Mine.J9 _ _ _ _ _ _ _ _ _ _ _ _ _ (fun k => ns.getD k 0) i nw) rfl hrg (by omega) (by omega) (by omega) F9 N9 ⟨[], [], _, _, [], _, rfl, .inl rfl, trivial, Mine.eoff_start ?_, .nil, .nil⟩ ?_ ?_)
  · simp only [List.forall_mem_cons, List.not_mem_nil, false_implies, implies_true, and_true]
    (repeat' apply And.intro) <;> (first | (refine PySem.W.neN ?_; omega) | skip)
  · intro i t5 u5 nw5 I5 oI5 h5 tk5 hi5 hJ5 hoff50 F N
    obtain ⟨tz, rz, c1, c2, R, TB, rfl, hTB, h58, hE, hrz, htz⟩ := hJ5
    simp only [Mine.over] at F
    have hoffI : Mine.Off I5 (R ++ TB) := Mine.Off.right (a := [_, _, _, _, _, _, _, _, _, _, _]) hoff50
    have hoffL := Mine.Off.left (a := [_, _, _, _, _, _, _, _, _, _, _]) hoff50
    have hoff5 := hoff50
    simp only [List.cons_append, List.nil_append] at N hoff50 hoff5
    simp only [Mine.Off] at hoff5
    clear F9 N9 hrg
    have hrl := Mine.pd_len hrz
    have htl := Mine.pd_len htz
    rw [Mine.rs_len] at hrl htl
    rw [Int.zero_add]
    ktr_unf
    have hat := Mine.sc_at hi5
    generalize hsc : List.getD ns i 0 = sci at hat
    obtain ⟨v5, hv5, tv5, rfl⟩ := Mine.pd_get hpi i sci hat
    rename Fr _ _ _ _ => F9
    refine Mine.unstop (Mine.tail_nat (j := i) (by assumption) F9 (by simpa using hv5) (by omega) (by omega) ?_)
    ktr_unf
    rename Fr _ _ _ _ => F5
    rename News _ _ _ _ => N5
    have hE5 := Mine.EOff.cons (o := oI5) hE hoffI
    have N6 := Mine.news_rot (es := [_, _, _, _, _, _, _, _, _, _, _, _]) (R := R) (TB := TB) N5
    refine Mine.unstop (Mine.rule09 rfl rfl (by assumption) F5 (by assumption) (by assumption) codeHd hTB N6 (Mine.EOff.tab hE5 hTB h58) ⟨by omega, by omega⟩ ?_)
    clear N5 N6
    intro h9 tk9 D9 x9 dr9 new TB9 hTB9 F9 N9 hD9 hru hof h589
    have N10 := Mine.news_back (es := [_, _, _, _, _, _, _, _, _, _, _, _]) N9
    have hE9 := Mine.EOff.step hE5 hof
    clear F5 N9 hof
    have q0 := hE9 _ _ (.head _)
    have q1 := hE9 _ _ (.tail _ (.head _))
    have q2 := hE9 _ _ (.tail _ (.tail _ (.head _)))
    have r1 : @Ne Nat _ _ := q1.left.left.mem _ hD9
    have r2 : @Ne Nat _ _ := q2.left.left.mem _ hD9
    have N11 := Mine.news_add N10 (p := (D9, Mine.tup2 (.ref x9) (.ref dr9))) (List.mem_append_right _ (List.mem_append_left _ (List.mem_append_left _ hD9)))
    clear N10
    simp only [List.cons_append, List.nil_append] at N11
    ktr_unf
    rename Fr _ _ _ _ => F5
    refine Mine.unstop (Mine.tail_nat (j := i) (by assumption) F5 (by simpa using hv5) (by omega) (by omega) ?_)
    ktr_unf
    obtain ⟨rs9, k9, hm9, hp9⟩ := hru.row
    rename Fr _ _ _ _ => F5
    rename News _ _ _ _ => N5
    (try dsimp only [Mine.TurnPost])
    refine Mine.TurnEnd.mk' [] F5 (Mine.news_end9 (es := [_, _, _, _, _, _, _, _, _, _, _]) N5) ?_ ⟨fun z1 q1 => ?_, _, _, _, _, _, _, rfl, hTB9, ?_, Mine.eoff_next (Mine.EOff.tail1 hE9) ?_, ?_, ?_⟩
    · refine Mine.Off.app (a := [_, _, _, _, _, _, _, _, _, _, _]) (by exact hoffL) ⟨?_, q0⟩
      refine PySem.W.neN ?_; omega
    · simp only [List.mem_cons, not_or, List.not_mem_nil, not_false_iff, and_true] at q1
      obtain ⟨n1, n2, n3⟩ := q1
      simp only [if_neg n1, if_neg n2, if_neg n3]
    · refine ⟨?_, Mine.Off.app h589 h58⟩
      refine PySem.W.neN ?_; omega
    · simp only [List.forall_mem_cons, List.not_mem_nil, false_implies, implies_true, and_true]
      (repeat' apply And.intro) <;> (first | (refine PySem.W.neN ?_; omega) | skip)
    · rw [Mine.rs_succ]
      refine PySem.Paired.snoc (Mine.pd_mono hrz fun _ _ _ h => h.mono fun p hp => .tail _ (List.mem_append_right _ hp)) ⟨x9, dr9, rfl, ?_⟩
      show Mine.RuleE _ _ _ (i : Int) (List.getD ns i 0) _ _
      rw [hsc]
      exact hru.mono fun p hp => .tail _ (List.mem_append_left _ hp)
    · rw [Mine.rs_succ]
      refine PySem.Paired.snoc (Mine.pd_mono htz fun _ _ _ h => h.mono fun p hp => .tail _ (List.mem_append_right _ hp)) ⟨_, dr9, rs9, k9, rfl, ?_, .tail _ (List.mem_append_left _ hm9), ?_⟩
      · show (_, Mine.tup2 (.ref dr9) (.bool (Int.fmod (List.getD ns i 0) 2 == 1))) ∈ _
        rw [hsc]
        exact .head _
      · show Mine.Pd Mine.IntV (Mine.reachesN (List.getD ns i 0)) _
        rw [hsc]; exact hp9
  · intro u5 nw5 h5 tk5 hJ5 F N
    obtain ⟨tz, rz, c1, c2, R, TB, rfl, hTB, h58, hE, hrz, htz⟩ := hJ5
    simp only [Mine.over] at F
    simp only [List.cons_append, List.nil_append] at N
    clear F9 N9 hrg
    have hrl := Mine.pd_len hrz
    have htl := Mine.pd_len htz
    rw [Mine.rs_len] at hrl htl
    have qlg := hE _ _ (.tail _ (.tail _ (.tail _ (.tail _ (.tail _ (.head _))))))
    have qF := hE _ _ (.tail _ (.tail _ (.tail _ (.tail _ (.tail _ (.tail _ (.tail _ (.head _))))))))
    have qJ := hE _ _ (.tail _ (.tail _ (.tail _ (.tail _ (.tail _ (.tail _ (.tail _ (.tail _ (.head _)))))))))
    have hrz := Mine.pd_mono hrz (fun _ _ _ h => h.mono (R' := R ++ TB) fun p hp => List.mem_append_left _ hp)
    have htz := Mine.pd_mono htz (fun _ _ _ h => h.mono (R' := R ++ TB) fun p hp => List.mem_append_left _ hp)
    have hgt : ∃ ps, (58, tabObj ps) ∈ R ++ TB := by
      rcases hTB with rfl | ⟨c', oc, rfl, _⟩
      · exact ⟨_, List.mem_append_right _ (.head _)⟩
      · exact ⟨_, List.mem_append_right _ (.head _)⟩
    clear hE hTB h58
    generalize R ++ TB = RT at *
    obtain ⟨ps58, hps58⟩ := hgt
    dsimp only
    ktr_unf
    rename Fr _ _ _ _ => F9
    rename News _ _ _ _ => N9
    rename IsRange _ _ _ _ _ _ _ _ => hrg
    refine Mine.unstop (Mine.forT_count [Str.ofString "told", Str.ofString "due", Str.ofString "group", Str.ofString "kind"] 4 (fun i u nw => Mine.J9b _ _ _ _ _ _ _ _ _ _ _ _ RT nw) rfl hrg (by decide) (by omega) (by omega) F9 N9 ⟨[], _, _, _, _, _, rfl, by assumption, by assumption, by simp⟩ ?_ ?_)
    · intro k t6 u6 nw6 I6 oI6 h6 tk6 hk6 hJ6 hoff60 F N
      obtain ⟨zl, cl, oF, oJ, vF, vJ, rfl, hoF, hoJ, hzl⟩ := hJ6
      simp only [Mine.over] at F
      clear F9 N9 hrg
      have hoff6 := hoff60
      simp only [Mine.Off] at hoff6
      obtain ⟨nm, hnm, hno, hnl, hng⟩ := Mine.names_at hk6
      rw [Int.zero_add]
      ktr_unf
      rename Fr _ _ _ _ => F5
      rename News _ _ _ _ => N5
      refine Mine.unstop (Mine.del_all (its := zl.toArray) F5 N5 (fun n' => .tail (by k_ne) (.tail (by k_ne) (.tail (by k_ne) (.tail (by k_ne) (.tail (by k_ne) (.tail (by k_ne) (.tail (by k_ne) (.head (List.forall_mem_cons.mpr ⟨by k_ne, List.forall_mem_cons.mpr ⟨by k_ne, List.forall_mem_cons.mpr ⟨by k_ne, List.forall_mem_cons.mpr ⟨by k_ne, List.forall_mem_cons.mpr ⟨by k_ne, Mine.Off.mem qlg⟩⟩⟩⟩⟩))))))))) (by rw [PySem.sizeLine_eq, List.size_toArray]; omega) ?_)
      intro h7 n7 F7 N7
      (try dsimp only [List.nil_append, List.cons_append] at N7)
      clear F5 N5
      ktr_unf
      refine Mine.unstop (Mine.tail_pd (j := k) (F := Mine.StrV) (as := Mine.names4) (by k_asm) (by k_mem) (by unfold Mine.names4; repeat (first | exact .nil | refine .cons ⟨_, rfl⟩ ?_)) hnm (by omega) (by omega) ?_)
      rintro v ⟨tn, rfl⟩
      ktr_unf
      rename Fr _ _ _ _ => F5
      rename News _ _ _ _ => N5
      have N6 : News _ _ _ [(_, W.listOf #[] n7)] := fun p hp => N5 p (by rw [List.mem_singleton.mp hp]; exact .tail _ (.tail _ (.tail _ (.tail _ (.tail _ (.tail _ (.tail _ (.head _))))))))
      refine Mine.unstop (Mine.allow09 (rs := Mine.rsOf (fun k => ns.getD k 0) ns.length) (ns := Mine.names4) (its := rz.toArray) (j := k) rfl rfl (by assumption) F5 (by assumption) (by assumption) N6
        ⟨Mine.hide_get (N5 _ (.tail _ (.tail _ (.tail _ (.tail _ (.tail _ (.head _))))))).1 (by refine PySem.W.neN ?_; omega), rfl, rfl, Mine.hide_get (N5 _ (.tail _ (.tail _ (.tail _ (.tail _ (.tail _ (.tail _ (.head _)))))))).1 (by refine PySem.W.neN ?_; omega)⟩ ⟨_, Mine.hide_get (N5 _ (.tail _ (.tail _ (.tail _ (.head _))))).1 (by refine PySem.W.neN ?_; omega), rfl, _, rfl⟩ (by exact Mine.pd_mono hrz fun _ _ _ h => Mine.rv_of N5 (fun p hp => .tail _ (.tail _ (.tail _ (.tail _ (.tail _ (.tail _ (.tail _ (.tail _ (.tail _ (.tail _ (.tail _ (.tail _ (.tail _ (hp)))))))))))))) qlg h)
        (Mine.hide_get (N5 _ (.tail _ (.tail _ (.tail _ (.tail _ (.tail _ (.tail _ (.tail _ (.tail _ (.head _)))))))))).1 (by refine PySem.W.neN ?_; omega)) (by unfold Mine.names4; repeat (first | exact .nil | refine .cons ⟨_, rfl⟩ ?_)) hnm hno hk6 (by decide) (by rw [Mine.rs_len]; omega) (Mine.rs_b hgl) ?_)
      intro h8 tk8 es zs8 k8 v8 keep8 hlg8 hes8 hzs8 hval8
      obtain ⟨F8, N8, hoff8⟩ := Mine.after_hide (pre := [_, _, _, _, _, _, _]) (post := _ :: _ :: _ :: _ :: _ :: RT) (es := es) F5 N5 (by
        simp only [List.forall_mem_cons, List.not_mem_nil, false_implies, implies_true, and_true]
        (repeat' apply And.intro) <;> (refine PySem.W.neN ?_; omega)) (List.forall_mem_cons.mpr ⟨by k_ne, List.forall_mem_cons.mpr ⟨by k_ne, List.forall_mem_cons.mpr ⟨by k_ne, List.forall_mem_cons.mpr ⟨by k_ne, List.forall_mem_cons.mpr ⟨by k_ne, Mine.Off.mem qlg⟩⟩⟩⟩⟩) keep8 hlg8 hes8
      clear F5 N5 N6 keep8 hlg8 hes8 hoff8
      have N9 := Mine.news_mv (l := [_, _, _, _, _, _, _, _, _, _, _, _, _]) N8
      clear N8
      simp only [List.cons_append, List.nil_append] at N9
      have hz8 := Mine.pd_len hzs8
      rw [Mine.rs_len] at hz8
      rw [Mine.due_is] at hval8
      ktr_unf
      refine Mine.unstop ?_
      (first | lcg_look | lcf_look)
      k_dflt (refine LCg.ListComp_U (F₀ := by k_asm) (by with_unfolding_all rfl) (by decide) (by rfl) (by decide) (by rfl) ?_)
      ktr_unf
      refine Mine.unstop (LCg.CompSrc.range (n := ns.length) rfl (by k_asm) (by k_asm) (by assumption) (small_one (by omega) (by omega) (by omega) (by omega)) (by rw [rangeSize_nat]; omega) (by rw [PySem.sizeLine_eq]; omega) ?_)
      intro g9
      refine Mine.comp_inv (fun i ys nw => Mine.JT nm (fun k => ns.getD k 0) [_, _, _, _, _, _, _, _, _, _, _, _, _] (RT ++ es) i ys nw) ⟨[], rfl, .nil⟩ ?_ ?_
      · intro i v ys nw I9 oI9 C9 oC9 D9 m9 h9 tk9 E9 hi9 hv9 hJ9 hC9 hx9 F9 N9 off9 ne9
        obtain ⟨ts, rfl, hts⟩ := hJ9
        obtain ⟨t9, rfl⟩ := hv9
        have off90 := off9
        simp only [List.cons_append, List.nil_append] at N9
        simp only [List.cons_append, List.nil_append, LCg.Off3] at off9
        rw [Int.zero_add] at hx9
        ktr_unf
        refine Mine.unstop (Mine.tail_pd (j := k) (F := Mine.StrV) (as := Mine.names4) (by k_asm) (by k_mem) (by unfold Mine.names4; repeat (first | exact .nil | refine .cons ⟨_, rfl⟩ ?_)) hnm (by omega) (by omega) ?_)
        rintro v ⟨tn9, rfl⟩
        ktr_unf
        rename Fr _ _ _ _ => F5
        rename News _ _ _ _ => N5
        refine Mine.unstop (Mine.cend [] F5 (Mine.news_ct (l := [_, _, _, _, _, _, _, _, _, _, _, _, _]) N5) (Mine.off3_T off90 (by refine PySem.W.neN ?_; omega) (by refine PySem.W.neN ?_; omega) (by refine PySem.W.neN ?_; omega)) True.intro ⟨_ :: ts, rfl, ?_⟩)
        rw [Mine.rs_succ]
        exact PySem.Paired.snoc (Mine.pd_mono hts fun _ _ _ h => h.mono fun p hp => .tail _ hp) ⟨_, t9, tn9, rfl, .head _⟩
      · rintro ys nw ⟨ts, rfl, hts⟩
        unfold LCg.FinE
        intro Dr hr9 tkr Fr9 Nr9 or9
        clear or9
        simp only [List.cons_append, List.nil_append] at Nr9
        dsimp only
        ktr_unf
        rename News _ _ _ _ => N5
        have hys := Mine.pd_len hts
        rw [Mine.rs_len] at hys
        refine Mine.unstop (Mine.ne_tups (Mine.is_l N5 (.tail _ (.tail _ (.tail _ (.tail _ (.tail _ (.tail _ (.tail _ (.tail _ (.head _)))))))))) (Mine.is_l N5 (.head _)) (fun p hp => (N5 p (.tail _ (.tail _ (.tail _ (.tail _ (.tail _ (.tail _ (.tail _ (.tail _ (.tail _ (.tail _ (.tail _ (.tail _ (.tail _ (.tail _ (List.mem_append_right _ (List.mem_append_right _ hp))))))))))))))))).1) (fun p hp => (N5 p (.tail _ (.tail _ (.tail _ (.tail _ (.tail _ (.tail _ (.tail _ (.tail _ (.tail _ (.tail _ (.tail _ (.tail _ (.tail _ (.tail _ (List.mem_append_left _ hp)))))))))))))))).1) hzs8 hts hng (by ke_room) ?_)
        ktr_unf
        rename Fr _ _ _ _ => F5
        rename News _ _ _ _ => N5
        rename IsRange _ _ _ _ _ _ _ _ => hrg
        have N6 := Mine.news_dr (l := [_, _, _, _, _, _, _, _, _, _, _, _, _]) N5
        simp only [List.cons_append, List.nil_append] at N6
        clear N5 hts hys hzs8
        refine Mine.unstop (Mine.forT_count [Str.ofString "due", Str.ofString "group", Str.ofString "kind"] 4 (fun i u nw => Mine.J9c _ _ _ _ _ _ _ _ _ _ _ _ _ RT nw ∧ ∃ v, u (Str.ofString "due") = some v ∧ Mine.ValS (Mine.dueTo k (fun k => ns.getD k 0) ns.length i) v) rfl hrg (by decide) (by omega) (by omega) F5 N6 ⟨⟨_, _, rfl, by assumption⟩, _, rfl, rfl⟩ ?_ ?_)
        · intro f t9 u9 nw9 I9 oI9 h9 tk9 hf9 hJ9 hoff90 F N
          obtain ⟨⟨oF9, vF9, rfl, hoF9⟩, vd, hvd, hdd⟩ := hJ9
          simp only [Mine.over, hvd] at F
          clear F5 N6 hrg
          have hoff9 := hoff90
          simp only [Mine.Off] at hoff9
          ktr_unf
          refine Mine.unstop (LCt.CompSrcT.range (n := ns.length) rfl (by k_asm) (by k_asm) (by assumption) (small_one (by omega) (by omega) (by omega) (by omega)) (by rw [rangeSize_nat]; omega) (by rw [PySem.sizeLine_eq]; omega) ?_)
          intro g9
          refine Mine.compT_count Mine.IntV (fun i => Mine.reachN (ns.getD i 0) k == (f : Int) + 1) (fun i => (i : Int)) ?_ ?_
          · intro i t10 I10 oI10 C10 oC10 D10 ys10 m10 h10 tk10 E10 hi10 hyl10 hC10 hx10 F10 N10 off100 ne10
            have off10 := off100
            simp only [LCg.Off3] at off10
            rw [Int.zero_add] at hx10
            ktr_unf
            rename News _ _ _ _ => N5
            refine Mine.unstop (Mine.tail_pd (j := i) N5 (by k_mem) htz (Mine.rs_at (fun k => ns.getD k 0) hi10) rfl (by omega) ?_)
            rintro v ⟨t11, dr11, rs11, k11, rfl, hm11, hm12, hp11⟩
            ktr_unf
            rename News _ _ _ _ => N5
            refine Mine.unstop (Mine.tup_item (k := 0) N5 (.tail _ (.tail _ (.tail _ (.tail _ (.tail _ (.tail _ (.tail _ (.tail _ (.tail _ (.tail _ (.tail _ (.tail _ (.tail _ (.tail _ (.tail _ (.tail _ (.tail _ (hm11)))))))))))))))))) rfl ?_)
            ktr_unf
            rename News _ _ _ _ => N5
            refine Mine.unstop (Mine.tail_pd (j := k) (vs := rs11.toList) (n := k11) N5 (.tail _ (.tail _ (.tail _ (.tail _ (.tail _ (.tail _ (.tail _ (.tail _ (.tail _ (.tail _ (.tail _ (.tail _ (.tail _ (.tail _ (.tail _ (.tail _ (.tail _ (hm12)))))))))))))))))) hp11 (Mine.reaches_at _ hk6) rfl (by omega) ?_)
            rintro v ⟨t12, rfl⟩
            ktr_unf
            · refine Mine.unstop (Mine.cend [] (by assumption) (by assumption) off100 True.intro ⟨rfl, ?_, t10, rfl⟩)
              rename Mine.reachN _ _ = _ => e10
              refine beq_iff_eq.mpr ?_
              dsimp only at e10
              omega
            · refine Mine.unstop (Mine.cend [] (by assumption) (by assumption) off100 True.intro ⟨rfl, ?_⟩)
              rename Mine.reachN _ _ ≠ _ => e10
              refine beq_eq_false_iff_ne.mpr ?_
              dsimp only at e10
              omega
          · intro ys10 hy10
            have hy10 : Mine.Pd Mine.IntV ((Mine.grpN k (fun k => ns.getD k 0) ((f : Int) + 1) ns.length).map fun i : Nat => (i : Int)) ys10 := hy10
            have hgm : ∀ i ∈ Mine.grpN k (fun k => ns.getD k 0) ((f : Int) + 1) ns.length, i < ns.length := fun i h => Mine.grp_lt h
            have hdu : Mine.dueTo k (fun k => ns.getD k 0) ns.length (f + 1) = if Mine.grpN k (fun k => ns.getD k 0) ((f : Int) + 1) ns.length = [] then Mine.dueTo k (fun k => ns.getD k 0) ns.length f else some (Mine.vOf ((Mine.grpN k (fun k => ns.getD k 0) ((f : Int) + 1) ns.length).filter (Mine.oddN (fun k => ns.getD k 0)))) := rfl
            have hyl10 := Mine.pd_len hy10
            rw [List.length_map] at hyl10
            have hgl10 : (Mine.grpN k (fun k => ns.getD k 0) ((f : Int) + 1) ns.length).length ≤ 63 := Nat.le_trans (List.length_filter_le _ _) (by rw [List.length_range]; exact hgl)
            generalize Mine.grpN k (fun k => ns.getD k 0) ((f : Int) + 1) ns.length = G at hy10 hgm hdu hyl10 hgl10
            unfold LCg.FinA
            intro Dg hg10 tkg Fg Ng og
            simp only [LCg.Off1] at og
            dsimp only
            ktr_unf
            rename News _ _ _ _ => N5
            refine Mine.unstop (Mine.ne_nil (Mine.is_l N5 (.tail _ (.head _))) (by exact Mine.is_l (xs := []) N5 (.head _)) hy10 (by ke_room) ?_)
            by_cases hG : G = []
            · rw [show (!decide ((G.map fun i : Nat => (i : Int)) = [])) = false by rw [hG]; rfl]
              ktr_unf
              (try dsimp only [Mine.TurnPost])
              exact Mine.TurnEnd.mk' [_, _] (by assumption) (by assumption) (by exact hoff90) ⟨fun z1 q1 => by
                  simp only [List.mem_cons, not_or, List.not_mem_nil, not_false_iff, and_true] at q1
                  obtain ⟨n1, n2, n3⟩ := q1
                  simp only [if_neg n1, if_neg n2, if_neg n3], ⟨_, _, rfl, by assumption⟩, vd, rfl, by rw [hdu, if_pos hG]; exact hdd⟩
            · rw [show (!decide ((G.map fun i : Nat => (i : Int)) = [])) = true by rw [decide_eq_false (by simpa using hG)]; rfl]
              ktr_unf
              rw [if_neg hG] at hdu
              refine Mine.unstop (LCt.CompSrcT.ledger (by rfl) (by k_asm) (by k_asm) (.tail _ (.head _)) (by simp only [List.size_toArray, PySem.sizeLine_eq]; omega) ?_)
              intro g12
              refine Mine.compT_pd Mine.IntV (fun a => Mine.oddN (fun k => ns.getD k 0) a.toNat) id hy10 ?_ ?_
              · intro a12 v I12 oI12 C12 oC12 D12 ys12 m12 h12 tk12 E12 ha12 hv12 hyl12 hC12 hx12 F12 N12 off120 ne12
                obtain ⟨i, hi12, rfl⟩ := List.mem_map.mp ha12
                obtain ⟨t13, rfl⟩ := hv12
                have hin := hgm i hi12
                have off12 := off120
                simp only [LCg.Off3] at off12
                ktr_unf
                rename News _ _ _ _ => N5
                refine Mine.unstop (Mine.tail_pd (j := i) N5 (by k_mem) htz (Mine.rs_at (fun k => ns.getD k 0) hin) rfl (by omega) ?_)
                rintro v ⟨t11, dr11, rs11, k11, rfl, hm11, hm12, hp11⟩
                ktr_unf
                rename News _ _ _ _ => N5
                refine Mine.unstop (Mine.tup_item (k := 1) N5 (.tail _ (.tail _ (.tail _ (.tail _ (.tail _ (.tail _ (.tail _ (.tail _ (.tail _ (.tail _ (.tail _ (.tail _ (.tail _ (.tail _ (.tail _ (.tail _ (.tail _ (.tail _ (.tail _ (hm11)))))))))))))))))))) rfl ?_)
                ktr_unf
                · refine Mine.unstop (Mine.cend [] (by assumption) (by assumption) off120 (.inr ⟨W.listOf _ _, .tail _ (.head _), rfl, _, rfl⟩) ⟨rfl, ?_, t13, rfl⟩)
                  rename Int.fmod _ 2 = 1 => e12
                  exact beq_iff_eq.mpr e12
                · refine Mine.unstop (Mine.cend [] (by assumption) (by assumption) off120 (.inr ⟨W.listOf _ _, .tail _ (.head _), rfl, _, rfl⟩) ⟨rfl, ?_⟩)
                  rename Int.fmod _ 2 ≠ 1 => e12
                  exact beq_eq_false_iff_ne.mpr e12
              · intro ys12 hy12
                rw [List.map_id, Mine.kind_is] at hy12
                have hyl12 := Mine.pd_len hy12
                rw [List.length_map] at hyl12
                have hkl : (G.filter (Mine.oddN (fun k => ns.getD k 0))).length ≤ 63 := Nat.le_trans (List.length_filter_le _ _) hgl10
                generalize hKK : G.filter (Mine.oddN (fun k => ns.getD k 0)) = KK at hy12 hdu hyl12 hkl
                unfold LCg.FinA
                intro Dk hk10 tkk Fk Nk ok
                simp only [LCg.Off1] at ok
                dsimp only
                ktr_unf
                rename News _ _ _ _ => N5
                refine Mine.unstop (Mine.ne_nil (Mine.is_l N5 (.tail _ (.head _))) (by exact Mine.is_l (xs := []) N5 (.head _)) hy12 (by ke_room) ?_)
                cases hKc : KK with
                | nil =>
                  subst hKc
                  rw [show (!decide ((([] : List Nat).map fun i : Nat => (i : Int)) = [])) = false from rfl]
                  ktr_unf
                  (try dsimp only [Mine.TurnPost])
                  exact Mine.TurnEnd.mk' [_, _, _, _] (by assumption) (by assumption) (by exact hoff90) ⟨fun z1 q1 => by
                      simp only [List.mem_cons, not_or, List.not_mem_nil, not_false_iff, and_true] at q1
                      obtain ⟨n1, n2, n3⟩ := q1
                      simp only [if_neg n1, if_neg n2, if_neg n3], ⟨_, _, rfl, by assumption⟩, _, rfl, by rw [hdu]; exact ⟨_, rfl⟩⟩
                | cons i0 KR =>
                  subst hKc
                  rw [show (!decide (((i0 :: KR).map fun i : Nat => (i : Int)) = [])) = true from rfl]
                  ktr_unf
                  have hi0 := hgm i0 (List.mem_filter.mp (by rw [hKK]; exact .head _)).1
                  rename News _ _ _ _ => N5
                  refine Mine.unstop (Mine.tail_pd (j := 0) N5 (.tail _ (.head _)) hy12 rfl rfl (by omega) ?_)
                  rintro v ⟨t14, rfl⟩
                  ktr_unf
                  (try dsimp only [Mine.TurnPost])
                  exact Mine.TurnEnd.mk' [_, _, _, _] (by assumption) (by assumption) (by exact hoff90) ⟨fun z1 q1 => by
                      simp only [List.mem_cons, not_or, List.not_mem_nil, not_false_iff, and_true] at q1
                      obtain ⟨n1, n2, n3⟩ := q1
                      simp only [if_neg n1, if_neg n2, if_neg n3], ⟨_, _, rfl, by assumption⟩, _, rfl, by rw [hdu]; exact ⟨_, rfl⟩⟩
        · intro u9 nw9 h9 tk9 hJ9 F N
          obtain ⟨⟨oF9, vF9, rfl, hoF9⟩, vd, hvd, hdd⟩ := hJ9
          simp only [Mine.over, hvd] at F
          clear F5 N6 hrg hoF
          dsimp only
          cases hdv : Mine.dueTo k (fun k => ns.getD k 0) ns.length 4 with
          | none =>
            rw [hdv] at hdd hval8
            obtain rfl : vd = .bool true := hdd
            obtain rfl : v8 = .bool true := hval8
            ktr_unf
            (try dsimp only [Mine.TurnPost])
            exact Mine.TurnEnd.mk' [] (by assumption) (by assumption) (by exact hoff60) ⟨fun z1 q1 => by
                simp only [List.mem_cons, not_or, List.not_mem_nil, not_false_iff, and_true] at q1
                obtain ⟨n1, n2, n3, n4⟩ := q1
                simp only [if_neg n1, if_neg n2, if_neg n3, if_neg n4], zs8, _, _, _, _, _, rfl, hoF9, by assumption, by omega⟩
          | some xd =>
            rw [hdv] at hdd hval8
            obtain ⟨td, rfl⟩ := hdd
            obtain ⟨t8, rfl⟩ := hval8
            ktr_unf
            · rename ((_ != _) = true) => e7
              rw [bne_self_eq_false] at e7
              cases e7
            · (try dsimp only [Mine.TurnPost])
              exact Mine.TurnEnd.mk' [] (by assumption) (by assumption) (by exact hoff60) ⟨fun z1 q1 => by
                    simp only [List.mem_cons, not_or, List.not_mem_nil, not_false_iff, and_true] at q1
                    obtain ⟨n1, n2, n3, n4⟩ := q1
                    simp only [if_neg n1, if_neg n2, if_neg n3, if_neg n4], zs8, _, _, _, _, _, rfl, hoF9, by assumption, by omega⟩
    · intro u6 nw6 h6 tk6 hJ6 F N
      obtain ⟨zl, cl, oF, oJ, vF, vJ, rfl, hoF, hoJ, hzl⟩ := hJ6
      simp only [Mine.over] at F
      clear F9 N9 hrg
      dsimp only
      ktr_unf
      rename News _ _ _ _ => N5
      refine Mine.unstop (Mine.eq_same (xs := rz) (Mine.is_l N5 (.tail _ (.tail _ (.head _)))) (Mine.is_l N5 (.head _)) (by ke_room) ?_)
      ktr_unf
      rename News _ _ _ _ => N5
      refine Mine.unstop (Mine.eq_same (xs := []) (by exact Mine.is_l (xs := []) N5 (.tail _ (.tail _ (.tail _ (.tail _ (.head _)))))) (by exact Mine.is_l (xs := []) N5 (.head _)) (by ke_room) ?_)
      ktr_unf
      · k_end; kc_close
      · rename News _ _ _ _ => N5
        exact Mine.unstop ⟨GrownAt.of N5 (.tail _ (.tail _ (.tail _ (.tail _ (.tail _ (.tail _ (.tail _ (.tail _ (.tail _ (.tail _ (.tail _ (.tail _ (.tail _ (hps58)))))))))))))), True.intro⟩
)
end
