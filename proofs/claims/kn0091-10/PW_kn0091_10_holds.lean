import PyProof.Rows.All
import Wide.All
import OpenK.AllK
import Wide.FinOn
import PySem.Challenge.RW_kn0091_10
open PySem PySem.W PyProof.Rows
set_option Elab.async false
section
set_option maxRecDepth 100000 in
set_option maxHeartbeats 8000000 in
open_top Mine.hd10 for PySem.Challenge.rw_kn0091_10
end
section
namespace Mine
open PySem.Calls PySem.Spec

def Stop (P : Prop) : Prop := P
theorem stop {P : Prop} (h : Stop P) : P := h
theorem unstop {P : Prop} (h : P) : Stop P := h

/-- no entry of the ledger stands at I -/
def Off (I : Addr) : List (Addr × Obj) → Prop
  | [] => True
  | p :: r => (@Ne Nat p.1 I) ∧ Off I r
theorem Off.mem {I : Addr} : ∀ {l : List (Addr × Obj)}, Off I l → ∀ p ∈ l, p.1 ≠ I
  | [], _, _, h => nomatch h
  | _ :: _, x, p, h => by
    rcases List.mem_cons.mp h with rfl | h
    · exact x.1
    · exact Off.mem x.2 p h
theorem Off.of {I : Addr} : ∀ {l : List (Addr × Obj)}, (∀ p ∈ l, p.1 ≠ I) → Off I l
  | [], _ => trivial
  | _ :: _, h => ⟨h _ List.mem_cons_self, Off.of fun p hp => h p (List.mem_cons_of_mem _ hp)⟩

section
variable {prog : Program} {w : World} {A : Around} {E : Value → Shared → Prop} {s : Shared} {env : Env} {h₀ : Heap} {x : Str} {body : List Stmt} {Q : Flow → Shared → Prop}

def TurnEnd (h₀ : Heap) (L I : Addr) (oI : Obj) (J : (Str → Option Value) → List (Addr × Obj) → Prop) (s₁ s₂ : Shared) : Prop :=
  ∃ h' tk m' nx, s₂ = { s₁ with heap := h', toks := tk } ∧ Fr h₀ L h' m' ∧ News h₀ L h' ((I, oI) :: nx) ∧ Off I nx ∧ J m' nx
def TurnPost (h₀ : Heap) (L I : Addr) (oI : Obj) (J : (Str → Option Value) → List (Addr × Obj) → Prop) (s₁ : Shared) (Q : Flow → Shared → Prop) (f : Flow) (s₂ : Shared) : Prop :=
  match f with
  | .ret v => Q (.ret v) s₂
  | .brk => Q .next s₂
  | .next => TurnEnd h₀ L I oI J s₁ s₂
  | .cont => TurnEnd h₀ L I oI J s₁ s₂

end

section
open LCg
variable {prog : Program} {w : World} {A : Around} {h₀ : Heap} {L : Addr} {m : Str → Option Value} {env : Env} {ct elt : Expr} {x : Str} {scope : Scope} {cl : List (Str × Addr)} {s : Shared} {S : List (Addr × Obj) → Prop} {P : Nat → Value → Prop} {Fin : List Value → List (Addr × Obj) → Prop} {news : List (Addr × Obj)}

/-- a comprehension without a test, by an invariant -/
theorem comp_inv {n : Nat} (J : Nat → List Value → List (Addr × Obj) → Prop) (h0 : J 0 [] news)
    (turn : ∀ i v ys nw I oI C oC D m₂ h tk (E' : Value → Shared → Prop), i < n → P i v → J i ys nw → NsObj oC m₂ → m₂ x = some v → Fr h₀ L h m → News h₀ L h ((I, oI) :: (C, oC) :: (D, lst ys) :: nw) → Off3 I C D nw → ((@Ne Nat I C) ∧ (@Ne Nat I D) ∧ (@Ne Nat C D)) →
      wpAny (model prog w) A (eval elt (compEnvC scope cl C env)) (CompEnd h₀ L m { s with heap := h, toks := tk } I oI C oC D (lst ys) S (fun y nw' => J (i + 1) (ys ++ [y]) nw')) E' { s with heap := h, toks := tk })
    (fin : ∀ ys nw, J n ys nw → Fin ys nw) : CompRest prog w A h₀ L m env elt x scope cl s S P Fin n 0 [] news := by
  have key : ∀ (j i : Nat) (ys : List Value) (nw : List (Addr × Obj)), i + j = n → J i ys nw → CompRest prog w A h₀ L m env elt x scope cl s S P Fin j i ys nw := by
    intro j
    induction j with
    | zero => intro i ys nw e hj; obtain rfl : i = n := by omega
              exact fin ys nw hj
    | succ j ih =>
      intro i ys nw e hj v I oI C oC D m₂ h tk E' hP hC hx F N off ne
      refine wpAny_mono (turn i v ys nw I oI C oC D m₂ h tk E' (by omega) hP hj hC hx F N off ne) (fun y s₂ hq => ?_) fun _ _ e => e
      obtain ⟨h', tk', nw', e', F', N', off', hS, hj'⟩ := hq
      exact ⟨h', tk', nw', e', F', N', off', hS, ih (i + 1) _ _ (by omega) hj'⟩
  exact key n 0 [] news (by omega) h0

/-- a comprehension with a test, by an invariant -/
theorem compT_inv {n : Nat} (J : Nat → List Value → List (Addr × Obj) → Prop) (h0 : J 0 [] news)
    (turn : ∀ i v ys nw I oI C oC D m₂ h tk (E' : Value → Shared → Prop), i < n → P i v → J i ys nw → NsObj oC m₂ → m₂ x = some v → Fr h₀ L h m → News h₀ L h ((I, oI) :: (C, oC) :: (D, lst ys) :: nw) → Off3 I C D nw → ((@Ne Nat I C) ∧ (@Ne Nat I D) ∧ (@Ne Nat C D)) →
      wpAny (model prog w) A (isTrue ct (compEnvC scope cl C env) (eval ct (compEnvC scope cl C env))) (fun ok s' => if ok = true then
        wpAny (model prog w) A (eval elt (compEnvC scope cl C env)) (CompEnd h₀ L m { s with heap := h, toks := tk } I oI C oC D (lst ys) S (fun y nw' => J (i + 1) (ys ++ [y]) nw')) E' s'
        else CompEnd h₀ L m { s with heap := h, toks := tk } I oI C oC D (lst ys) S (fun _ nw' => J (i + 1) ys nw') Value.none s') E' { s with heap := h, toks := tk })
    (fin : ∀ ys nw, J n ys nw → Fin ys nw) : LCt.CompRestT prog w A h₀ L m env ct elt x scope cl s S P Fin n 0 [] news := by
  have key : ∀ (j i : Nat) (ys : List Value) (nw : List (Addr × Obj)), i + j = n → J i ys nw → LCt.CompRestT prog w A h₀ L m env ct elt x scope cl s S P Fin j i ys nw := by
    intro j
    induction j with
    | zero => intro i ys nw e hj; obtain rfl : i = n := by omega
              exact fin ys nw hj
    | succ j ih =>
      intro i ys nw e hj v I oI C oC D m₂ h tk E' hP hC hx F N off ne
      refine wpAny_mono (turn i v ys nw I oI C oC D m₂ h tk E' (by omega) hP hj hC hx F N off ne) (fun ok s₂ hq => ?_) fun _ _ e => e
      cases ok with
      | true =>
        simp only [if_true] at hq ⊢
        refine wpAny_mono hq (fun y s₃ hr => ?_) fun _ _ e => e
        obtain ⟨h', tk', nw', e', F', N', off', hS, hj'⟩ := hr
        exact ⟨h', tk', nw', e', F', N', off', hS, ih (i + 1) _ _ (by omega) hj'⟩
      | false =>
        simp only [Bool.false_eq_true, if_false] at hq ⊢
        obtain ⟨h', tk', nw', e', F', N', off', hS, hj'⟩ := hq
        exact ⟨h', tk', nw', e', F', N', off', hS, ih (i + 1) _ _ (by omega) hj'⟩
  exact key n 0 [] news (by omega) h0
end

/-! lists of values by what they stand for -/
abbrev Pd {α : Type} (F : α → Value → Prop) (as : List α) (vs : List Value) : Prop := PySem.Paired F as vs
theorem pd_len {α : Type} {F : α → Value → Prop} {as : List α} {vs : List Value} (h : Pd F as vs) : as.length = vs.length := PySem.Paired.length h
theorem pd_at {α : Type} {F : α → Value → Prop} : ∀ {as : List α} {vs : List Value}, Pd F as vs → ∀ (i : Nat) (v : Value), vs[i]? = some v → ∃ a, as[i]? = some a ∧ F a v
  | _, _, .nil, i, v, h => by simp at h
  | _, _, .cons h₁ t, 0, v, h => by simp at h; subst h; exact ⟨_, by simp, h₁⟩
  | _, _, .cons h₁ t, i + 1, v, h => by simp at h; obtain ⟨a, e, f⟩ := pd_at t i v h; exact ⟨a, by simpa using e, f⟩
theorem pd_mono {α : Type} {F G : α → Value → Prop} : ∀ {as : List α} {vs : List Value}, Pd F as vs → (∀ a v, a ∈ as → F a v → G a v) → Pd G as vs
  | _, _, .nil, _ => .nil
  | _, _, .cons h₁ t, k => .cons (k _ _ List.mem_cons_self h₁) (pd_mono t fun a v ha => k a v (List.mem_cons_of_mem _ ha))
def IntV (n : Int) (v : Value) : Prop := ∃ t, v = .int n t
theorem pd_ints : ∀ {vs : List Value} {ns : List Int}, IntsAre vs ns → Pd IntV ns vs
  | _, _, .nil => .nil
  | _, _, .cons n t h => .cons ⟨t, rfl⟩ (pd_ints h)
theorem ints_pd : ∀ {vs : List Value} {ns : List Int}, Pd IntV ns vs → IntsAre vs ns
  | _, _, .nil => .nil
  | _, _, .cons ⟨_, e⟩ h => by rw [e]; exact .cons _ _ (ints_pd h)

section
open LCg
variable {prog : Program} {w : World} {A : Around} {h₀ : Heap} {L : Addr} {m : Str → Option Value} {env : Env} {ct elt : Expr} {x : Str} {scope : Scope} {cl : List (Str × Addr)} {s : Shared} {S : List (Addr × Obj) → Prop} {Fin : List Value → List (Addr × Obj) → Prop} {news : List (Addr × Obj)}

/-- the same with a test -/
theorem compT_pd {α β : Type} {F : α → Value → Prop} (G : β → Value → Prop) (p : α → Bool) (f : α → β) {as : List α} {its : Array Value} (hi : Pd F as its.toList)
    (turn : ∀ a v I oI C oC D ys m₂ h tk (E' : Value → Shared → Prop), a ∈ as → F a v → ys.length ≤ as.length → NsObj oC m₂ → m₂ x = some v → Fr h₀ L h m → News h₀ L h ((I, oI) :: (C, oC) :: (D, lst ys) :: news) → Off3 I C D news → ((@Ne Nat I C) ∧ (@Ne Nat I D) ∧ (@Ne Nat C D)) →
      wpAny (model prog w) A (isTrue ct (compEnvC scope cl C env) (eval ct (compEnvC scope cl C env))) (fun ok s' => if ok = true then
        wpAny (model prog w) A (eval elt (compEnvC scope cl C env)) (CompEnd h₀ L m { s with heap := h, toks := tk } I oI C oC D (lst ys) S (fun y nw' => nw' = news ∧ p a = true ∧ G (f a) y)) E' s'
        else CompEnd h₀ L m { s with heap := h, toks := tk } I oI C oC D (lst ys) S (fun _ nw' => nw' = news ∧ p a = false) Value.none s') E' { s with heap := h, toks := tk })
    (fin : ∀ ys, Pd G ((as.filter p).map f) ys → Fin ys news) : LCt.CompRestT prog w A h₀ L m env ct elt x scope cl s S (fun i v => its[i]? = some v) Fin its.size 0 [] news := by
  have hl := pd_len hi
  refine compT_inv (fun i ys nw => nw = news ∧ Pd G (((as.take i).filter p).map f) ys) ⟨rfl, by simp; exact .nil⟩ ?_ ?_
  · intro i v ys nw I oI C oC D m₂ h tk E' hin hP hJ hC hx F' N off ne
    obtain ⟨rfl, hy⟩ := hJ
    obtain ⟨a, ha, hF⟩ := pd_at hi i v (by simpa using hP)
    have hyl := pd_len hy
    have hle : ys.length ≤ as.length := by
      rw [← hyl, List.length_map]
      exact Nat.le_trans (List.length_filter_le _ _) (by simp; omega)
    refine wpAny_mono (turn a v I oI C oC D ys m₂ h tk E' (List.mem_of_getElem? ha) hF hle hC hx F' N off ne) (fun ok s₂ hq => ?_) fun _ _ e => e
    cases ok with
    | true =>
      simp only [if_true] at hq ⊢
      refine wpAny_mono hq (fun y s₃ hr => ?_) fun _ _ e => e
      obtain ⟨h', tk', nw', e', F₂, N₂, off', hS, hn, hp, hg⟩ := hr
      refine ⟨h', tk', nw', e', F₂, N₂, off', hS, hn, ?_⟩
      rw [PySem.take_succ_filter p as i a ha, List.map_append, hp]
      exact PySem.Paired.snoc hy hg
    | false =>
      simp only [Bool.false_eq_true, if_false] at hq ⊢
      obtain ⟨h', tk', nw', e', F₂, N₂, off', hS, hn, hp⟩ := hq
      refine ⟨h', tk', nw', e', F₂, N₂, off', hS, hn, ?_⟩
      rw [PySem.take_succ_filter p as i a ha, List.map_append, hp]
      simpa using hy
  · rintro ys nw ⟨rfl, hy⟩
    refine fin ys ?_
    have : as.take its.size = as := by rw [List.take_of_length_le]; simp at hl; omega
    rwa [this] at hy
end

/-! a call whose body leaves all that stood as it stood: the whole heap is its ground -/
def LeaveB (g : Heap) (R : Result → Shared → Prop) (v : Value) (s' : Shared) : Prop := ∃ L' m', Fr g L' s'.heap m' ∧ R (.ok (.ret v)) s'
theorem LeaveB.intro {g : Heap} {R : Result → Shared → Prop} {v : Value} {s' : Shared} {L' : Addr} {m' : Str → Option Value} (F : Fr g L' s'.heap m') (h : R (.ok (.ret v)) s') : LeaveB g R v s' := ⟨L', m', F, h⟩
section
variable {prog : Program} {w : World} {A A₀ : Around} {s : Shared} {K : Frag} {L : Addr} {h₀ base : Heap} {m mg mb : Str → Option Value} {p : Program} {loose : List Str} {mean : ExcName → Option Value}

theorem code_base {env : Env} {outer : List Env} {R : Result → Shared → Prop} {name qual : Str} {params : Arguments} {body : List Stmt} {scope : Scope} {dV kV doc pm cdv ct oc : Value} {an od : Option Addr} {osl : Array (Option Value)} {f : Addr} {args : Args} {binds : List (Str × Value)}
    (B : Below A₀ base outer h₀) (F : Fr h₀ L s.heap m) (X₀ : K.In h₀) (T : Top p loose mean mg mb h₀) (hA : A.frames = some (env :: outer)) (hf : env.frame = some L) (hke : env.scope.kind = .function)
    (ho : K.lookup f = some ⟨oc, od, .func (fnOf name qual params body scope dV kV doc pm an cdv ct), osl⟩) (hcd : codeIn K cdv qual = true) (hroom : A.depth < recursionLimit)
    (hbind : BindsTo s (fnOf name qual params body scope dV kV doc pm an cdv ct) args binds) (hloc : ∀ y ∈ binds, scope.names.lookup y.1 = some .local)
    (h : ∀ L' h₁, Fr s.heap L' h₁ (fun y => binds.reverse.lookup y) → News s.heap L' h₁ [] → Below A base (env :: outer) s.heap → K.In s.heap → Top p loose mean mg mb s.heap →
      wpAny (model prog w) (A.deeper (envOf qual scope L' f cdv)) (execs body (envOf qual scope L' f cdv))
        (fun fl s' => LeaveB s.heap R (match fl with | .ret v => v | _ => .none) s')
        (fun e s' => wpAny (model prog w) (A.deeper (envOf qual scope L' f cdv)) (leaving (envOf qual scope L' f cdv) e) (fun _ s'' => R (.error e) s'') (fun e' s'' => R (.error e') s'') s')
        { s with heap := h₁, toks := s.toks + binds.length })
    (hco : scope.isCoroutine = false := by rfl) (hgen : scope.isGenerator = false := by rfl) (hk : scope.kind = .function := by rfl)
    (hcell : ∀ x ∈ scope.names, x.2 ≠ .cell := by decide) : codeAny (model prog w) A (.call (.ref f) args) R s := by
  obtain ⟨FG, BG, st, lv⟩ := groundX (R := R) B F (News.nil (h₀ := h₀) (L := L) (h := s.heap)) hA hf hke
  refine codeAny_call_def (fd := fnOf name qual params body scope dV kV doc pm an cdv ct) (body := body) (binds := binds) hroom ((X₀.keeps F.keep) _ _ ho) rfl (T.nolimit.keeps F.keep) (codeRec_of (X₀.keeps F.keep) hcd) rfl hbind hcell hloc (fun h₁ hns hk₁ => ?_) hco hgen hk
  exact wpAny_mono (h s.heap.objs.size h₁ ⟨hns, hk₁, Nat.le_refl _⟩ News.nil BG (X₀.keeps F.keep) (T.keeps F.keep)) (fun fl s' ⟨_, _, _, hr⟩ => hr) fun _ _ y => y
end

/-! the frame's map between turns: the stored names by u, all else by m₀ -/
def over (u m₀ : Str → Option Value) : List Str → Str → Option Value
  | [], y => m₀ y
  | a :: r, y => if y = a then u a else over u m₀ r y
theorem over_in {u m₀ : Str → Option Value} : ∀ {l : List Str} {y : Str}, (y ∉ l → u y = m₀ y) → over u m₀ l y = u y
  | [], y, h => (h List.not_mem_nil).symm
  | a :: r, y, h => by
    unfold over
    by_cases e : y = a
    · rw [if_pos e, e]
    · rw [if_neg e]
      exact over_in fun hn => h fun hm => (List.mem_cons.mp hm).elim e hn
section
variable {prog : Program} {w : World} {A : Around} {E : Value → Shared → Prop} {s : Shared} {env : Env} {h₀ : Heap} {x : Str} {body : List Stmt} {Q : Flow → Shared → Prop}
end

/-- a turn's end: what the turn has made and dropped stands ahead (ext) -/
theorem TurnEnd.mk' {h₀ : Heap} {L I : Addr} {oI : Obj} {J : (Str → Option Value) → List (Addr × Obj) → Prop} {s₁ : Shared} {h' : Heap} {tk : Nat} {m' : Str → Option Value} (ext : List (Addr × Obj)) {nx : List (Addr × Obj)}
    (F : Fr h₀ L h' m') (N : News h₀ L h' (ext ++ (I, oI) :: nx)) (off : Off I nx) (hj : J m' nx) :
    TurnEnd h₀ L I oI J s₁ { s₁ with heap := h', toks := tk } := ⟨h', tk, m', nx, rfl, F, fun p hp => N p (List.mem_append_right _ hp), off, hj⟩

section
variable {prog : Program} {w : World} {A : Around} {E : Value → Shared → Prop} {s : Shared} {env : Env} {h₀ : Heap} {x : Str} {body : List Stmt} {Q : Flow → Shared → Prop}
theorem take_split {α : Type} {as : List α} {i : Nat} {a : α} (h : as[i]? = some a) : as = as.take i ++ a :: as.drop (i + 1) := by
  have hi : i < as.length := by
    rcases Nat.lt_or_ge i as.length with q | q
    · exact q
    · rw [List.getElem?_eq_none q] at h; cases h
  have : as[i] = a := by rw [List.getElem?_eq_getElem hi] at h; exact Option.some.inj h
  rw [← this, ← List.drop_eq_getElem_cons hi, List.take_append_drop]
theorem take_next {α : Type} {as : List α} {i : Nat} {a : α} (h : as[i]? = some a) : as.take (i + 1) = as.take i ++ [a] := by rw [List.take_add_one, h]; rfl

end

section
variable {prog : Program} {w : World} {A : Around} {E : Value → Shared → Prop} {s : Shared} {h₀ : Heap} {L D : Addr} {m : Str → Option Value} {news news' : List (Addr × Obj)} {n : Nat} {k : Int} {t : Tok}
end

section
variable {prog : Program} {w : World} {A : Around} {E : Value → Shared → Prop} {s : Shared} {h₀ : Heap} {L D : Addr} {m : Str → Option Value} {news news' : List (Addr × Obj)} {n : Nat}
end

section
variable {prog : Program} {w : World} {A : Around} {E : Value → Shared → Prop} {s : Shared} {h₀ : Heap} {L D a b l : Addr} {m : Str → Option Value} {news news' : List (Addr × Obj)} {n k : Nat} {xs zs : List Value} {Q : Value → Shared → Prop}
theorem is_l (N : News h₀ L s.heap news) (ha : (a, listOf xs.toArray n) ∈ news) : s.heap.IsList a xs.toArray := PySem.IsL.isList (n := n) (N _ ha).1
theorem len_l (N : News h₀ L s.heap news) (ha : (a, listOf xs.toArray n) ∈ news) (hz : xs.length ≤ sizeLine) (h : Q (.int xs.length (s.toks + 1)) { s with toks := s.toks + 1 + 1 }) :
    wpAny (model prog w) A (call (.builtin "len") [.ref a]) Q E s := by
  have e : xs.toArray.size = xs.length := List.size_toArray ..
  refine len_list (is_l N ha) ?_ (by rw [e]; exact h)
  rw [e]; rw [sizeLine_eq] at hz; omega
theorem add_l (F : Fr h₀ L s.heap m) (N : News h₀ L s.heap news) (ha : (a, listOf xs.toArray n) ∈ news) (hb : (b, listOf zs.toArray k) ∈ news) (hz : xs.length + zs.length ≤ sizeLine)
    (h : ∀ D h', Fr h₀ L h' m → News h₀ L h' ((D, listOf (xs ++ zs).toArray 0) :: news) → (∀ p ∈ news, p.1 < D) → Q (.ref D) { s with heap := h' }) : wpAny (model prog w) A (binaryOp .Add (.ref a) (.ref b)) Q E s :=
  kmk_add_lit F N (is_l N ha) (is_l N hb) rfl h hz
end

section
variable {prog : Program} {w : World} {A : Around} {E : Value → Shared → Prop} {s : Shared} {env : Env} {h₀ : Heap} {x : Str} {body : List Stmt} {Q : Flow → Shared → Prop}
end

section
open LCg
variable {prog : Program} {w : World} {A : Around} {E : Value → Shared → Prop} {s : Shared} {h₀ : Heap} {L : Addr} {m : Str → Option Value} {env : Env}
end
section
open LCg
variable {prog : Program} {w : World} {A : Around} {h₀ : Heap} {L : Addr} {m : Str → Option Value} {env : Env} {elt : Expr} {x : Str} {scope : Scope} {cl : List (Str × Addr)} {s : Shared} {S : List (Addr × Obj) → Prop} {Fin : List Value → List (Addr × Obj) → Prop} {news : List (Addr × Obj)}
end

theorem cend {h₀ : Heap} {L I C D : Addr} {m : Str → Option Value} {s₁ : Shared} {oI oC oD : Obj} {S : List (Addr × Obj) → Prop} {rest : Value → List (Addr × Obj) → Prop} {y : Value} {h' : Heap} {tk : Nat} (ext : List (Addr × Obj)) {news' : List (Addr × Obj)}
    (F : Fr h₀ L h' m) (N : News h₀ L h' (ext ++ (I, oI) :: (C, oC) :: (D, oD) :: news')) (off : LCg.Off3 I C D news') (hS : S news') (r : rest y news') :
    LCg.CompEnd h₀ L m s₁ I oI C oC D oD S rest y { s₁ with heap := h', toks := tk } := ⟨h', tk, news', rfl, F, fun p hp => N p (List.mem_append_right _ hp), off, hS, r⟩

section
variable {prog : Program} {w : World} {A A₀ : Around} {s : Shared} {K : Frag} {L : Addr} {h₀ base : Heap} {m mg mb : Str → Option Value} {p : Program} {loose : List Str} {mean : ExcName → Option Value}
end

section
open LCg
variable {prog : Program} {w : World} {A : Around} {h₀ : Heap} {L : Addr} {m : Str → Option Value} {env : Env} {ct elt : Expr} {x : Str} {scope : Scope} {cl : List (Str × Addr)} {s : Shared} {S : List (Addr × Obj) → Prop} {Fin : List Value → List (Addr × Obj) → Prop} {news : List (Addr × Obj)}
end
section
variable {prog : Program} {w : World} {A : Around} {E : Value → Shared → Prop} {s : Shared} {g : Heap} {L D : Addr} {m : Str → Option Value} {its : Array Value} {k : Int} {j : Nat} {t : Tok} {v : Value} {Q : Value → Shared → Prop}
theorem at_up (hl : g.IsList D its) (F : Fr g L s.heap m) : s.heap.IsList D its := hl.at fun o e => F.keep _ _ e
end

/-! a for with any target (a local, a captured name, a tuple) -/
section
variable {prog : Program} {w : World} {A : Around} {s : Shared} {env : Env} {h₀ : Heap} {L : Addr}

theorem codeAny_forT {R : Result → Shared → Prop} {target : Expr} {body : List Stmt} {I : Addr} {fp wr : List Addr} {n : Nat} {P : Nat → Value → Prop} {St : Nat → Heap → Prop} {m : Str → Option Value}
    {news : List (Addr × Obj)} (W : Walks prog w A I fp wr n P St) (hLf : L ∉ fp) (hwr : ∀ b ∈ wr, h₀.get? b = none) (hnw : ∀ p ∈ news, p.1 ∉ wr)
    (hst : St 0 s.heap) (F : Fr h₀ L s.heap m) (N : News h₀ L s.heap news)
    (J : Nat → (Str → Option Value) → List (Addr × Obj) → Prop) (h0 : J 0 m news)
    (step : ∀ i v m₁ news₁ s₁ own, (∃ h tk, s₁ = { s with heap := h, toks := tk }) → i < n → P i v → J i m₁ news₁ → (∀ p ∈ news₁, p.1 ∉ wr) → (∀ p ∈ own, p.1 ∈ fp) → (∀ p ∈ own, s₁.heap.get? p.1 = some p.2) → (∀ b ∈ fp, h₀.get? b = none → ∀ o, s₁.heap.get? b = some o → (b, o) ∈ own) → St (i + 1) s₁.heap →
      Fr h₀ L s₁.heap m₁ → News h₀ L s₁.heap (own ++ news₁) →
      wpAny (model prog w) A (assign target env v) (fun _ s₂ => wpAny (model prog w) A (execs body env) (LoopStepV h₀ L wr own (J (i + 1)) s₁ (fun v s' => R (.ok (.ret v)) s') fun s' => R (.ok .next) s') (notedBy (model prog w) A env fun e s' => R (.error e) s') s₂) (notedBy (model prog w) A env fun e s' => R (.error e) s') s₁)
    (hR : ∀ h' tk m' news', Fr h₀ L h' m' → News h₀ L h' news' → (∀ p ∈ news', p.1 ∉ wr) → J n m' news' → R (.ok .next) { s with heap := h', toks := tk })
    (ht : ∀ v, letOwnedTupleGo target (.ref I) v = pure ()) :
    codeAny (model prog w) A (.forLoop target (.ref I) body [] env) R s := by
  have hLw : L ∉ wr := fun h => hLf (W.sub _ h)
  have old : ∀ b o, h₀.get? b = some o → b ∉ wr := fun b o e hb => by rw [hwr b hb] at e; cases e
  refine codeAny_forLoop
    (fun k s' => ∃ h' tk m' news' i, s' = { s with heap := h', toks := tk } ∧ St i h' ∧ Fr h₀ L h' m' ∧ News h₀ L h' news' ∧ (∀ p ∈ news', p.1 ∉ wr) ∧ J i m' news' ∧ i ≤ n ∧ k = n + 1 - i) ?_ (n + 1)
    ⟨s.heap, s.toks, m, news, 0, rfl, hst, F, N, hnw, h0, Nat.zero_le _, rfl⟩ ht
  rintro k s' ⟨h', tk, m', news', i, rfl, hst', F', N', hnw', hJ, hi, rfl⟩
  have next : ∀ h₁ : Heap, (∀ b o, b ∉ wr → h'.get? b = some o → h₁.get? b = some o) → Fr h₀ L h₁ m' ∧ News h₀ L h₁ news' := fun h₁ hk₁ =>
    ⟨⟨F'.ns.at' fun o e => hk₁ _ o hLw e, fun b o e => hk₁ b o (old b o e) (F'.keep b o e), F'.above⟩, fun p hp => ⟨hk₁ _ _ (hnw' p hp) (N' p hp).1, (N' p hp).2⟩⟩
  by_cases hlt : i < n
  · refine W.item i _ _ _ hlt hst' fun v h₁ tk₁ hP hst₁ hk₁ => ?_
    obtain ⟨F₁, N₁⟩ := next h₁ hk₁
    have Nown : News h₀ L h₁ (ownOf h₀ fp h₁) := news_ownOf hLf
    refine wpAny_mono (step i v m' news' _ (ownOf h₀ fp h₁) ⟨_, _, rfl⟩ hlt hP hJ hnw' ownOf_sub (fun p hp => (Nown p hp).1) (fun b hb hn o e => mem_ownOf hb hn e) hst₁ F₁ (Nown.append N₁)) (fun _ s₂ h₂ => wpAny_mono h₂ (fun f s₃ h₃ => ?_) fun _ _ e => e) fun _ _ e => e
    have fin : LoopStepU h₀ L wr (ownOf h₀ fp h₁) (J (i + 1)) { s with heap := h₁, toks := tk₁ } .next s₃ → ∃ m, m < n + 1 - i ∧ ∃ h' tk m' news' i, s₃ = { s with heap := h', toks := tk } ∧ St i h' ∧ Fr h₀ L h' m' ∧ News h₀ L h' news' ∧ (∀ p ∈ news', p.1 ∉ wr) ∧ J i m' news' ∧ i ≤ n ∧ m = n + 1 - i := by
      rintro ⟨_, h₃', tk₃, m₂, news₂, rfl, F₃, N₃, ha₃, hJ₃⟩
      refine ⟨n + 1 - (i + 1), by omega, h₃', tk₃, m₂, news₂, i + 1, rfl, ?_, F₃, N₃.right, ha₃, hJ₃, hlt, rfl⟩
      refine W.frame _ _ _ hst₁ fun b hb o e => ?_
      cases hn : h₀.get? b with
      | some o₀ =>
        have : o₀ = o := by have := F₁.keep b o₀ hn; rw [e] at this; exact (Option.some.inj this).symm
        exact this ▸ F₃.keep b o₀ hn
      | none => exact (N₃ _ (List.mem_append_left _ (mem_ownOf hb hn e))).1
    cases f with
    | ret v => exact h₃
    | brk => exact h₃
    | cont => exact fin h₃
    | next => exact fin h₃
  · have hin : i = n := by omega
    subst hin
    refine W.done _ _ _ hst' fun h₁ tk₁ hk₁ => wpAny_execs_nil ?_
    obtain ⟨F₁, N₁⟩ := next h₁ hk₁
    exact hR h₁ tk₁ m' news' F₁ N₁ hnw' hJ

def LoopAtT (prog : Program) (w : World) (A : Around) (h₀ : Heap) (L : Addr) (env : Env) (target : Expr) (body : List Stmt) (Q : Flow → Shared → Prop) (E : Value → Shared → Prop) (it : Value) (s₂ : Shared) : Prop :=
  ∃ (I : Addr) (fp wr : List Addr) (n : Nat) (P : Nat → Value → Prop) (St : Nat → Heap → Prop) (m : Str → Option Value) (news : List (Addr × Obj)) (J : Nat → (Str → Option Value) → List (Addr × Obj) → Prop),
    it = .ref I ∧ Walks prog w A I fp wr n P St ∧ L ∉ fp ∧ (∀ b ∈ wr, h₀.get? b = none) ∧ (∀ p ∈ news, p.1 ∉ wr) ∧ St 0 s₂.heap ∧ Fr h₀ L s₂.heap m ∧ News h₀ L s₂.heap news ∧ J 0 m news ∧
    (∀ i v m₁ news₁ s₁ own, (∃ h tk, s₁ = { s₂ with heap := h, toks := tk }) → i < n → P i v → J i m₁ news₁ → (∀ p ∈ news₁, p.1 ∉ wr) → (∀ p ∈ own, p.1 ∈ fp) → (∀ p ∈ own, s₁.heap.get? p.1 = some p.2) → (∀ b ∈ fp, h₀.get? b = none → ∀ o, s₁.heap.get? b = some o → (b, o) ∈ own) → St (i + 1) s₁.heap →
      Fr h₀ L s₁.heap m₁ → News h₀ L s₁.heap (own ++ news₁) →
      wpAny (model prog w) A (assign target env v) (fun _ s₃ => wpAny (model prog w) A (execs body env) (LoopStepV h₀ L wr own (J (i + 1)) s₁ (fun v s' => Q (.ret v) s') fun s' => Q .next s') E s₃) E s₁) ∧
    ∀ h' tk m' news', Fr h₀ L h' m' → News h₀ L h' news' → (∀ p ∈ news', p.1 ∉ wr) → J n m' news' → Q .next { s₂ with heap := h', toks := tk }

theorem For_T {E : Value → Shared → Prop} {Q : Flow → Shared → Prop} {target : Expr} {pos : Pos} {iter : Expr} {body : List Stmt} {m : Str → Option Value} (_F : Fr h₀ L s.heap m)
    (ht : ∀ it v, letOwnedTupleGo target it v = pure ())
    (h : wpAny (model prog w) A (eval iter env) (fun xv s₁ => wpAny (model prog w) A (pyIter xv) (fun it s₂ => LoopAtT prog w A h₀ L env target body Q E it s₂) E s₁) E s)
    (hs : ∀ x, foldedSetIterable iter env x = pure x := by intro _; rfl)
    (hE : PassesOwn (model prog w) A env E := by passes_own) :
    wpAny (model prog w) A (exec (.For target iter body [] pos) env) Q E s := by
  refine wpAny_For (wpAny_mono h (fun xv s₁ h₁ => wpAny_mono h₁ (fun it s₂ h₂ => ?_) fun _ _ e => e) fun _ _ e => e) hs
  obtain ⟨I, fp, wr, n, P, St, m, news, J, rfl, W, hLf, hwr, hnw, hst, F, N, h0, step, hQ⟩ := h₂
  refine codeAny_forT (R := fun r s' => match r with | .ok f => Q f s' | .error e => cameBackBy (model prog w) A env E e s') W hLf hwr hnw hst F N J h0 ?_ hQ (ht _)
  intro i v m₁ news₁ s₁ own a b c d e f g k st F₁ N₁
  exact wpAny_passesOwn hE (wpAny_mono (step i v m₁ news₁ s₁ own a b c d e f g k st F₁ N₁) (fun _ s₃ h₃ => wpAny_passesOwn hE h₃) fun _ _ e => e)
end

section
variable {prog : Program} {w : World} {A : Around} {E : Value → Shared → Prop} {s : Shared} {env : Env} {h₀ : Heap} {L : Addr} {target : Expr} {body : List Stmt} {Q : Flow → Shared → Prop}
def SameT (stored : List Str) (m₀ m' : Str → Option Value) : Prop := ∀ z, z ∉ stored → m' z = m₀ z
theorem over_T {u m₀ : Str → Option Value} {l : List Str} (h : SameT l m₀ u) : u = over u m₀ l := funext fun y => (over_in fun hn => h y hn).symm

/-- over a list's items -/
theorem forT_list (stored : List Str) {l : Addr} {its : Array Value} {m₀ : Str → Option Value} {news : List (Addr × Obj)} (J : Nat → (Str → Option Value) → List (Addr × Obj) → Prop)
    (hh : A.handled = none) (src : h₀.IsList l its ∨ ∃ ol k, ol.cls = .type "list" ∧ ol.data = .seq its k ∧ ∀ i m nx, J i m nx → (l, ol) ∈ nx)
    (F : Fr h₀ L s.heap m₀) (N : News h₀ L s.heap news) (hj : J 0 m₀ news)
    (turn : ∀ i v u nw I oI h tk, its[i]? = some v → J i u nw → Off I nw → Fr h₀ L h (over u m₀ stored) → News h₀ L h ((I, oI) :: nw) →
      wpAny (model prog w) A (assign target env v) (fun _ s₂ => wpAny (model prog w) A (execs body env) (TurnPost h₀ L I oI (fun m' nx => SameT stored m₀ m' ∧ J (i + 1) m' nx) { s with heap := h, toks := tk } Q) E s₂) E { s with heap := h, toks := tk })
    (done : ∀ u nw h tk, J its.size u nw → Fr h₀ L h (over u m₀ stored) → News h₀ L h nw → Q .next { s with heap := h, toks := tk }) :
    wpAny (model prog w) A (pyIter (.ref l)) (fun it s₂ => LoopAtT prog w A h₀ L env target body Q E it s₂) E s := by
  have hls : s.heap.IsList l its := by
    rcases src with hl | ⟨ol, k, hc, hd, hm⟩
    · exact hl.at fun o e => F.keep l o e
    · exact ⟨ol, (N _ (hm _ _ _ hj)).1, hc, k, hd⟩
  obtain ⟨ol', hol, _⟩ := id hls
  have hlt : l < s.heap.objs.size := Heap.lt_size hol
  have hne : l ≠ s.heap.objs.size := Nat.ne_of_lt hlt
  have hLl : L ≠ l := by
    rcases src with hl | ⟨ol, k, hc, hd, hm⟩
    · obtain ⟨o, e, _⟩ := hl
      exact fun q => absurd (Nat.lt_of_lt_of_le (Heap.lt_size e) F.above) (q ▸ Nat.lt_irrefl _)
    · exact fun q => (N _ (hm _ _ _ hj)).2.1 q.symm
  refine wpAny_pyIter_list hls ?_
  have W := Walks.list (prog := prog) (w := w) hh s.heap.objs.size l hne its
  refine ⟨_, _, _, its.size, _, _, m₀, news, (fun i m nx => SameT stored m₀ m ∧ J i m nx), rfl, W, ?_, ?_, ?_, ⟨⟨_, Heap.get?_push_size _ rfl, rfl, rfl⟩, hls.at fun o e => Heap.get?_push_of_some _ e⟩, F.push _, (fun p hp => ⟨Heap.get?_push_of_some _ (N p hp).1, (N p hp).2⟩), ⟨fun _ _ => rfl, hj⟩, ?_, ?_⟩
  · intro hm
    rcases List.mem_cons.mp hm with e | hm
    · exact absurd F.ns.lt (e ▸ Nat.lt_irrefl _)
    · exact hLl (List.mem_singleton.mp hm)
  · intro b hb
    rw [List.mem_singleton.mp hb]
    exact next_is_new F
  · intro p hp hI
    exact absurd (Heap.lt_size (N p hp).1) ((List.mem_singleton.mp hI) ▸ Nat.lt_irrefl _)
  · rintro i v m₁ news₁ s₁ own ⟨hh', tk', rfl⟩ hin hP ⟨hs, hJ⟩ hoff hown hget hin' hst F₁ N₁
    obtain ⟨oI, heI, _⟩ := hst.1
    have hIown : (s.heap.objs.size, oI) ∈ own := hin' _ (by simp) (next_is_new F) oI heI
    have hoffI : Off s.heap.objs.size news₁ := Off.of fun p hp q => hoff p hp (List.mem_singleton.mpr q)
    rw [over_T hs] at F₁
    refine wpAny_mono (turn i v m₁ news₁ _ oI hh' tk' hP hJ hoffI F₁ (fun p hp => by
      rcases List.mem_cons.mp hp with rfl | hp
      · exact N₁ _ (List.mem_append_left _ hIown)
      · exact N₁ _ (List.mem_append_right _ hp))) (fun _ s₂ h₂ => wpAny_mono h₂ (fun f s₃ p => ?_) fun _ _ e => e) fun _ _ e => e
    have fin : TurnEnd h₀ L s.heap.objs.size oI (fun m' nx => SameT stored m₀ m' ∧ J (i + 1) m' nx) { s with heap := hh', toks := tk' } s₃ → LoopStepU h₀ L [s.heap.objs.size] own (fun m nx => SameT stored m₀ m ∧ J (i + 1) m nx) { s with heap := hh', toks := tk' } .next s₃ := by
      rintro ⟨h', tk, m', nx, e, F', N', hoff', hj'⟩
      refine ⟨rfl, h', tk, m', nx, e, F', fun p hp => ?_, fun p hp q => hoff'.mem p hp (List.mem_singleton.mp q), hj'⟩
      rcases List.mem_append.mp hp with hp | hp
      · have hg := hget p hp
        have h0 := (N₁ p (List.mem_append_left _ hp)).2.2
        rcases List.mem_cons.mp (hown p hp) with h1 | h1
        · have e1 : p = (s.heap.objs.size, oI) := by
            obtain ⟨a, o⟩ := p
            dsimp only at h1 hg
            subst h1
            have := heI.symm.trans hg
            rw [Option.some.inj this]
          rw [e1]; exact N' _ List.mem_cons_self
        · have h2 : p.1 = l := List.mem_singleton.mp h1
          rcases src with hl | ⟨ol, k, hc, hd, hm⟩
          · obtain ⟨o, e, _⟩ := hl
            rw [h2, e] at h0; cases h0
          · have e1 : p = (l, ol) := by
              obtain ⟨a, o⟩ := p
              dsimp only at h2 hg
              subst h2
              have := (N₁ _ (List.mem_append_right _ (hm _ _ _ hJ))).1
              have := hg.symm.trans this
              rw [Option.some.inj this]
            rw [e1]; exact N' _ (List.mem_cons_of_mem _ (hm _ _ _ hj'.2))
      · exact N' p (List.mem_cons_of_mem _ hp)
    cases f with
    | ret v => exact .ret p
    | brk => exact .brk p
    | next => exact .next (fin p)
    | cont => exact .cont (fin p)
  · rintro h' tk m' news' F' N' _ ⟨hs, hJ⟩
    rw [over_T hs] at F'
    exact done m' news' h' tk hJ F' N'

/-- over range(a, b) -/
theorem forT_count (stored : List Str) {r : Addr} {a b : Int} {t u v : Tok} (n : Nat) {m₀ : Str → Option Value} {news : List (Addr × Obj)} (J : Nat → (Str → Option Value) → List (Addr × Obj) → Prop)
    (hh : A.handled = none) (hr : IsRange s.heap r a b 1 t u v) (hn : (b - a).toNat = n) (ha : -1000000 ≤ a ∧ a ≤ 1000000) (hb : -1000000 ≤ b ∧ b ≤ 1000000)
    (F : Fr h₀ L s.heap m₀) (N : News h₀ L s.heap news) (hj : J 0 m₀ news)
    (turn : ∀ (i : Nat) (t : Tok) u nw I oI h tk, i < n → J i u nw → Off I nw → Fr h₀ L h (over u m₀ stored) → News h₀ L h ((I, oI) :: nw) →
      wpAny (model prog w) A (assign target env (.int (a + (i : Int)) t)) (fun _ s₂ => wpAny (model prog w) A (execs body env) (TurnPost h₀ L I oI (fun m' nx => SameT stored m₀ m' ∧ J (i + 1) m' nx) { s with heap := h, toks := tk } Q) E s₂) E { s with heap := h, toks := tk })
    (done : ∀ u nw h tk, J n u nw → Fr h₀ L h (over u m₀ stored) → News h₀ L h nw → Q .next { s with heap := h, toks := tk }) :
    wpAny (model prog w) A (pyIter (.ref r)) (fun it s₂ => LoopAtT prog w A h₀ L env target body Q E it s₂) E s := by
  have hsm := small_one (a := a) (b := b) (by omega) (by omega) (by omega) (by omega)
  have hn' : Builtin.Range.rangeSize a b 1 = ((n : Nat) : Int) := by rw [rangeSize_nat, hn]
  refine wpAny_pyIter_range hr hsm ?_
  have W := Walks.range (prog := prog) (w := w) hh s.heap.objs.size a 1 n
  refine ⟨_, _, _, n, _, _, m₀, news, (fun i m nx => SameT stored m₀ m ∧ J i m nx), rfl, W, ?_, ?_, ?_, (by show IsRangeIter _ _ _ _ _; rw [hn']; simpa using Heap.get?_push_size _ rfl), F.push _, (fun p hp => ⟨Heap.get?_push_of_some _ (N p hp).1, (N p hp).2⟩), ⟨fun _ _ => rfl, hj⟩, ?_, ?_⟩
  · intro hm
    exact absurd F.ns.lt ((List.mem_singleton.mp hm) ▸ Nat.lt_irrefl _)
  · intro b hb
    rw [List.mem_singleton.mp hb]
    exact next_is_new F
  · intro p hp hI
    exact absurd (Heap.lt_size (N p hp).1) ((List.mem_singleton.mp hI) ▸ Nat.lt_irrefl _)
  · rintro i v m₁ news₁ s₁ own ⟨hh', tk', rfl⟩ hin hP ⟨hs, hJ⟩ hoff hown hget hin' hst F₁ N₁
    obtain ⟨t, rfl⟩ := hP
    have heI : hh'.get? s.heap.objs.size = some _ := hst
    have hIown := hin' _ (by simp) (next_is_new F) _ heI
    have hoffI : Off s.heap.objs.size news₁ := Off.of fun p hp q => hoff p hp (List.mem_singleton.mpr q)
    generalize hoI : ({ cls := .type "range_iterator", data := .fields #[rawInt (a + ((i + 1 : Nat) : Int) * 1), rawInt ((n : Int) - ((i + 1 : Nat) : Int)), rawInt 1] } : Obj) = oI at heI hIown
    rw [over_T hs] at F₁
    rw [Int.mul_one]
    refine wpAny_mono (turn i t m₁ news₁ s.heap.objs.size oI hh' tk' hin hJ hoffI F₁ (fun p hp => by
      rcases List.mem_cons.mp hp with rfl | hp
      · exact N₁ _ (List.mem_append_left _ hIown)
      · exact N₁ _ (List.mem_append_right _ hp))) (fun _ s₂ h₂ => wpAny_mono h₂ (fun f s₃ p => ?_) fun _ _ e => e) fun _ _ e => e
    have fin : TurnEnd h₀ L s.heap.objs.size oI (fun m' nx => SameT stored m₀ m' ∧ J (i + 1) m' nx) { s with heap := hh', toks := tk' } s₃ → LoopStepU h₀ L [s.heap.objs.size] own (fun m nx => SameT stored m₀ m ∧ J (i + 1) m nx) { s with heap := hh', toks := tk' } .next s₃ := by
      rintro ⟨h', tk, m', nx, e, F', N', hoff', hj'⟩
      refine ⟨rfl, h', tk, m', nx, e, F', fun p hp => ?_, fun p hp q => hoff'.mem p hp (List.mem_singleton.mp q), hj'⟩
      rcases List.mem_append.mp hp with hp | hp
      · have hg := hget p hp
        have h1 := List.mem_singleton.mp (hown p hp)
        obtain ⟨a, o⟩ := p
        dsimp only at h1 hg
        subst h1
        have e9 : o = oI := by
          have := heI.symm.trans hg
          exact (Option.some.inj this).symm
        rw [e9]
        exact N' _ List.mem_cons_self
      · exact N' p (List.mem_cons_of_mem _ hp)
    cases f with
    | ret v => exact .ret p
    | brk => exact .brk p
    | next => exact .next (fin p)
    | cont => exact .cont (fin p)
  · rintro h' tk m' news' F' N' _ ⟨hs, hJ⟩
    rw [over_T hs] at F'
    exact done m' news' h' tk hJ F' N'

theorem forT_pd {α : Type} {G : α → Value → Prop} {as : List α} {its : Array Value} (hi : Pd G as its.toList) (stored : List Str) {l : Addr} {m₀ : Str → Option Value} {news : List (Addr × Obj)} (J : List α → (Str → Option Value) → List (Addr × Obj) → Prop)
    (hh : A.handled = none) (src : h₀.IsList l its ∨ ∃ ol k, ol.cls = .type "list" ∧ ol.data = .seq its k ∧ ∀ pre m nx, J pre m nx → (l, ol) ∈ nx)
    (F : Fr h₀ L s.heap m₀) (N : News h₀ L s.heap news) (hj : J [] m₀ news)
    (turn : ∀ pre a post v u nw I oI h tk, as = pre ++ a :: post → G a v → J pre u nw → Off I nw → Fr h₀ L h (over u m₀ stored) → News h₀ L h ((I, oI) :: nw) →
      wpAny (model prog w) A (assign target env v) (fun _ s₂ => wpAny (model prog w) A (execs body env) (TurnPost h₀ L I oI (fun m' nx => SameT stored m₀ m' ∧ J (pre ++ [a]) m' nx) { s with heap := h, toks := tk } Q) E s₂) E { s with heap := h, toks := tk })
    (done : ∀ u nw h tk, J as u nw → Fr h₀ L h (over u m₀ stored) → News h₀ L h nw → Q .next { s with heap := h, toks := tk }) :
    wpAny (model prog w) A (pyIter (.ref l)) (fun it s₂ => LoopAtT prog w A h₀ L env target body Q E it s₂) E s := by
  have hl := pd_len hi
  refine forT_list stored (its := its) (fun i m nx => J (as.take i) m nx) hh (src.imp id fun ⟨ol, k, a, b, c⟩ => ⟨ol, k, a, b, fun i m nx h => c _ m nx h⟩) F N (by simpa using hj) ?_ ?_
  · intro i v u nw I oI h tk hv hJ hoff F₁ N₁
    obtain ⟨a, ha, hF⟩ := pd_at hi i v (by simpa using hv)
    rw [take_next ha]
    exact turn _ a _ v u nw I oI h tk (take_split ha) hF hJ hoff F₁ N₁
  · intro u nw h tk hJ F₁ N₁
    refine done u nw h tk ?_ F₁ N₁
    have e : as.take its.size = as := List.take_of_length_le (by rw [hl]; simp)
    rwa [e] at hJ
end

section
variable {prog : Program} {w : World} {A : Around} {E : Value → Shared → Prop} {s : Shared} {g : Heap} {L D : Addr} {m : Str → Option Value} {its : Array Value} {xs : List Str} {k : Str} {t : Tok} {Q : Value → Shared → Prop}
end

section
variable {h₀ h h' : Heap} {L D : Addr} {m : Str → Option Value} {news : List (Addr × Obj)} {o : Obj}
theorem after_keep (F : Fr h₀ L h m) (N : News h₀ L h news) (k : ∀ b o, h.get? b = some o → h'.get? b = some o) : Fr h₀ L h' m ∧ News h₀ L h' news := ⟨F.keeps k, N.grown k⟩
end
section
variable {prog : Program} {w : World} {A : Around} {E : Value → Shared → Prop} {s : Shared} {env : Env} {h₀ : Heap} {L : Addr} {target : Expr} {body : List Stmt} {Q : Flow → Shared → Prop}
theorem forT_pd_s {α : Type} {G : α → Value → Prop} {as : List α} {its : Array Value} (hi : Pd G as its.toList) (stored : List Str) {l : Addr} {m₀ : Str → Option Value} {news : List (Addr × Obj)} (J : List α → (Str → Option Value) → Prop)
    (hh : A.handled = none) (src : h₀.IsList l its ∨ ∃ ol k, ol.cls = .type "list" ∧ ol.data = .seq its k ∧ (l, ol) ∈ news)
    (F : Fr h₀ L s.heap m₀) (N : News h₀ L s.heap news) (hj : J [] m₀)
    (turn : ∀ pre a post v u I oI h tk, as = pre ++ a :: post → G a v → J pre u → Off I news → Fr h₀ L h (over u m₀ stored) → News h₀ L h ((I, oI) :: news) →
      wpAny (model prog w) A (assign target env v) (fun _ s₂ => wpAny (model prog w) A (execs body env) (TurnPost h₀ L I oI (fun m' nx => nx = news ∧ SameT stored m₀ m' ∧ J (pre ++ [a]) m') { s with heap := h, toks := tk } Q) E s₂) E { s with heap := h, toks := tk })
    (done : ∀ u h tk, J as u → Fr h₀ L h (over u m₀ stored) → News h₀ L h news → Q .next { s with heap := h, toks := tk }) :
    wpAny (model prog w) A (pyIter (.ref l)) (fun it s₂ => LoopAtT prog w A h₀ L env target body Q E it s₂) E s := by
  refine forT_pd hi stored (fun pre m nx => nx = news ∧ J pre m) hh (src.imp id fun ⟨ol, k, a, b, c⟩ => ⟨ol, k, a, b, fun _ _ nx h => h.1 ▸ c⟩) F N ⟨rfl, hj⟩ ?_ ?_
  · rintro pre a post v u nw I oI h tk e hG ⟨rfl, hJ⟩ hoff F₁ N₁
    refine wpAny_mono (turn pre a post v u I oI h tk e hG hJ hoff F₁ N₁) (fun _ s₂ h₂ => wpAny_mono h₂ (fun f s₃ h₃ => ?_) fun _ _ e => e) fun _ _ e => e
    have fin : TurnEnd h₀ L I oI (fun m' nx => nx = nw ∧ SameT stored m₀ m' ∧ J (pre ++ [a]) m') { s with heap := h, toks := tk } s₃ → TurnEnd h₀ L I oI (fun m' nx => SameT stored m₀ m' ∧ nx = nw ∧ J (pre ++ [a]) m') { s with heap := h, toks := tk } s₃ := fun ⟨h', tk, m', nx, e, a, b, c, d1, d2, d3⟩ => ⟨h', tk, m', nx, e, a, b, c, d2, d1, d3⟩
    cases f with
    | ret v => exact h₃
    | brk => exact h₃
    | next => exact fin h₃
    | cont => exact fin h₃
  · rintro u nw h tk ⟨rfl, hJ⟩ F₁ N₁
    exact done u h tk hJ F₁ N₁
end
theorem news_tail {h₀ h : Heap} {L : Addr} {p : Addr × Obj} {news : List (Addr × Obj)} (N : News h₀ L h (p :: news)) : News h₀ L h news := fun q hq => N q (List.mem_cons_of_mem _ hq)
section
variable {prog : Program} {w : World} {A : Around} {E : Value → Shared → Prop} {s : Shared} {h₀ : Heap} {L D : Addr} {m : Str → Option Value} {news : List (Addr × Obj)} {vs : List Value} {n : Nat} {k : Int} {j : Nat} {t : Tok} {v : Value} {Q : Value → Shared → Prop}
end

section
variable {prog : Program} {w : World} {A : Around} {E : Value → Shared → Prop} {s : Shared} {h₀ : Heap} {L l : Addr} {m : Str → Option Value} {news : List (Addr × Obj)} {n : Nat} {xs : List Value} {Q : Value → Shared → Prop} {value slice : PySem.Expr} {k : Int} {t : Tok}
end

theorem pd_take {α : Type} {F : α → Value → Prop} : ∀ {as : List α} {vs : List Value}, Pd F as vs → ∀ n, Pd F (as.take n) (vs.take n)
  | _, _, .nil, n => by simp; exact .nil
  | _, _, .cons h t, 0 => by simp; exact .nil
  | _, _, .cons h t, n + 1 => .cons h (pd_take t n)
theorem pd_drop {α : Type} {F : α → Value → Prop} : ∀ {as : List α} {vs : List Value}, Pd F as vs → ∀ n, Pd F (as.drop n) (vs.drop n)
  | _, _, .nil, n => by simp; exact .nil
  | _, _, .cons h t, 0 => .cons h t
  | _, _, .cons h t, n + 1 => pd_drop t n
theorem pd_app {α : Type} {F : α → Value → Prop} : ∀ {as bs : List α} {vs ws : List Value}, Pd F as vs → Pd F bs ws → Pd F (as ++ bs) (vs ++ ws)
  | _, _, _, _, .nil, h => h
  | _, _, _, _, .cons h t, k => .cons h (pd_app t k)
section
variable {prog : Program} {w : World} {A : Around} {E : Value → Shared → Prop} {s : Shared} {env : Env} {h₀ : Heap} {L : Addr} {target : Expr} {body : List Stmt} {Q Q' : Flow → Shared → Prop}
end

section
variable {prog : Program} {w : World} {A : Around} {E : Value → Shared → Prop} {s : Shared} {env : Env} {h₀ : Heap} {L : Addr} {target : Expr} {body : List Stmt} {Q : Flow → Shared → Prop}
end
section
variable {prog : Program} {w : World} {A : Around} {E : Value → Shared → Prop} {s : Shared} {env : Env} {h₀ : Heap} {L : Addr} {target : Expr} {body : List Stmt} {Q : Flow → Shared → Prop}
end
end Mine
end
section
namespace Mine
open PySem.Calls PySem.Spec
section
variable {prog : Program} {w : World} {A : Around} {E : Value → Shared → Prop} {s : Shared} {env : Env} {h₀ : Heap} {L : Addr} {target : Expr} {body : List Stmt} {Q : Flow → Shared → Prop}
/-- over a range by a written step -/
theorem forT_step (stored : List Str) {r : Addr} {a b c : Int} {t u v : Tok} (n : Nat) {m₀ : Str → Option Value} {news : List (Addr × Obj)} (J : Nat → (Str → Option Value) → List (Addr × Obj) → Prop)
    (hh : A.handled = none) (hr : IsRange s.heap r a b c t u v) (hsm : Builtin.Range.small a b c = true) (hn' : Builtin.Range.rangeSize a b c = ((n : Nat) : Int))
    (F : Fr h₀ L s.heap m₀) (N : News h₀ L s.heap news) (hj : J 0 m₀ news)
    (turn : ∀ (i : Nat) (t : Tok) u nw I oI h tk, i < n → J i u nw → Off I nw → Fr h₀ L h (over u m₀ stored) → News h₀ L h ((I, oI) :: nw) →
      wpAny (model prog w) A (assign target env (.int (a + (i : Int) * c) t)) (fun _ s₂ => wpAny (model prog w) A (execs body env) (TurnPost h₀ L I oI (fun m' nx => SameT stored m₀ m' ∧ J (i + 1) m' nx) { s with heap := h, toks := tk } Q) E s₂) E { s with heap := h, toks := tk })
    (done : ∀ u nw h tk, J n u nw → Fr h₀ L h (over u m₀ stored) → News h₀ L h nw → Q .next { s with heap := h, toks := tk }) :
    wpAny (model prog w) A (pyIter (.ref r)) (fun it s₂ => LoopAtT prog w A h₀ L env target body Q E it s₂) E s := by
  refine wpAny_pyIter_range hr hsm ?_
  have W := Walks.range (prog := prog) (w := w) hh s.heap.objs.size a c n
  refine ⟨_, _, _, n, _, _, m₀, news, (fun i m nx => SameT stored m₀ m ∧ J i m nx), rfl, W, ?_, ?_, ?_, (by show IsRangeIter _ _ _ _ _; rw [hn']; simpa using Heap.get?_push_size _ rfl), F.push _, (fun p hp => ⟨Heap.get?_push_of_some _ (N p hp).1, (N p hp).2⟩), ⟨fun _ _ => rfl, hj⟩, ?_, ?_⟩
  · intro hm
    exact absurd F.ns.lt ((List.mem_singleton.mp hm) ▸ Nat.lt_irrefl _)
  · intro b hb
    rw [List.mem_singleton.mp hb]
    exact next_is_new F
  · intro p hp hI
    exact absurd (Heap.lt_size (N p hp).1) ((List.mem_singleton.mp hI) ▸ Nat.lt_irrefl _)
  · rintro i v m₁ news₁ s₁ own ⟨hh', tk', rfl⟩ hin hP ⟨hs, hJ⟩ hoff hown hget hin' hst F₁ N₁
    obtain ⟨t, rfl⟩ := hP
    have heI : hh'.get? s.heap.objs.size = some _ := hst
    have hIown := hin' _ (by simp) (next_is_new F) _ heI
    have hoffI : Off s.heap.objs.size news₁ := Off.of fun p hp q => hoff p hp (List.mem_singleton.mpr q)
    generalize hoI : ({ cls := .type "range_iterator", data := .fields #[rawInt (a + ((i + 1 : Nat) : Int) * c), rawInt ((n : Int) - ((i + 1 : Nat) : Int)), rawInt c] } : Obj) = oI at heI hIown
    rw [over_T hs] at F₁
    refine wpAny_mono (turn i t m₁ news₁ s.heap.objs.size oI hh' tk' hin hJ hoffI F₁ (fun p hp => by
      rcases List.mem_cons.mp hp with rfl | hp
      · exact N₁ _ (List.mem_append_left _ hIown)
      · exact N₁ _ (List.mem_append_right _ hp))) (fun _ s₂ h₂ => wpAny_mono h₂ (fun f s₃ p => ?_) fun _ _ e => e) fun _ _ e => e
    have fin : TurnEnd h₀ L s.heap.objs.size oI (fun m' nx => SameT stored m₀ m' ∧ J (i + 1) m' nx) { s with heap := hh', toks := tk' } s₃ → LoopStepU h₀ L [s.heap.objs.size] own (fun m nx => SameT stored m₀ m ∧ J (i + 1) m nx) { s with heap := hh', toks := tk' } .next s₃ := by
      rintro ⟨h', tk, m', nx, e, F', N', hoff', hj'⟩
      refine ⟨rfl, h', tk, m', nx, e, F', fun p hp => ?_, fun p hp q => hoff'.mem p hp (List.mem_singleton.mp q), hj'⟩
      rcases List.mem_append.mp hp with hp | hp
      · have hg := hget p hp
        have h1 := List.mem_singleton.mp (hown p hp)
        obtain ⟨a, o⟩ := p
        dsimp only at h1 hg
        subst h1
        have e9 : o = oI := by
          have := heI.symm.trans hg
          exact (Option.some.inj this).symm
        rw [e9]
        exact N' _ List.mem_cons_self
      · exact N' p (List.mem_cons_of_mem _ hp)
    cases f with
    | ret v => exact .ret p
    | brk => exact .brk p
    | next => exact .next (fin p)
    | cont => exact .cont (fin p)
  · rintro h' tk m' news' F' N' _ ⟨hs, hJ⟩
    rw [over_T hs] at F'
    exact done m' news' h' tk hJ F' N'

/-- over range(a, b): a turn's number by its bounds -/
theorem forT_rng (stored : List Str) {r : Addr} {a b : Int} {t u v : Tok} {m₀ : Str → Option Value} {news : List (Addr × Obj)} (J : Nat → (Str → Option Value) → List (Addr × Obj) → Prop)
    (hh : A.handled = none) (hr : IsRange s.heap r a b 1 t u v) (ha : -1000000 ≤ a ∧ a ≤ 1000000) (hb : -1000000 ≤ b ∧ b ≤ 1000000)
    (F : Fr h₀ L s.heap m₀) (N : News h₀ L s.heap news) (hj : J 0 m₀ news)
    (turn : ∀ (i : Nat) (k : Int) (t : Tok) u nw I oI h tk, k = a + (i : Int) → a ≤ k → k < b → J i u nw → Off I nw → Fr h₀ L h (over u m₀ stored) → News h₀ L h ((I, oI) :: nw) →
      wpAny (model prog w) A (assign target env (.int k t)) (fun _ s₂ => wpAny (model prog w) A (execs body env) (TurnPost h₀ L I oI (fun m' nx => SameT stored m₀ m' ∧ J (i + 1) m' nx) { s with heap := h, toks := tk } Q) E s₂) E { s with heap := h, toks := tk })
    (done : ∀ u nw h tk, J (b - a).toNat u nw → Fr h₀ L h (over u m₀ stored) → News h₀ L h nw → Q .next { s with heap := h, toks := tk }) :
    wpAny (model prog w) A (pyIter (.ref r)) (fun it s₂ => LoopAtT prog w A h₀ L env target body Q E it s₂) E s :=
  forT_count stored _ J hh hr rfl ha hb F N hj (fun i t u nw I oI h tk hi hJ ho F₁ N₁ => turn i _ t u nw I oI h tk rfl (by omega) (by omega) hJ ho F₁ N₁) done
end
section
variable {prog : Program} {w : World} {A : Around} {E : Value → Shared → Prop} {s : Shared} {h₀ : Heap} {L l : Addr} {m : Str → Option Value} {news : List (Addr × Obj)} {Q : Value → Shared → Prop} {value slice : PySem.Expr} {a b : Int} {t u : Tok} {its : Array Value}
theorem pick_part (xs : List Value) (ha : 0 ≤ a) (hab : a ≤ b) : kms_pick xs (some a) (some b) = (xs.drop a.toNat).take (b - a).toNat := by
  unfold kms_pick kms_lo kms_hi
  have h1 : ¬ (a < 0) := by omega
  have h2 : ¬ (b < 0) := by omega
  simp only [h1, h2, if_false]
  rcases Nat.le_total a.toNat xs.length with q | q
  · rw [Nat.min_eq_left q]
    rcases Nat.le_total b.toNat xs.length with r | r
    · rw [Nat.min_eq_left r]; congr 1; omega
    · rw [Nat.min_eq_right r, List.take_of_length_le (by rw [List.length_drop]; omega), List.take_of_length_le (by rw [List.length_drop]; omega)]
  · rw [Nat.min_eq_right q, List.drop_eq_nil_of_le (Nat.le_refl _), List.drop_eq_nil_of_le q]; simp
/-- l[a:b] of a list of the ground -/
theorem slice_p (F : Fr h₀ L s.heap m) (N : News h₀ L s.heap news) (hl : h₀.IsList l its) (h0 : 0 ≤ a) (hab : a ≤ b)
    (h : ∀ D h', Fr h₀ L h' m → News h₀ L h' ((D, W.listOf ((its.toList.drop a.toNat).take (b - a).toNat).toArray 0) :: news) → (∀ p ∈ news, p.1 < D) → Q (.ref D) { s with heap := h' })
    (hs : subscripted slice false (.ref l) (.ref s.heap.objs.size) = operate [.ref s.heap.objs.size, .ref l] (getItem (.ref l) (.ref s.heap.objs.size))) (ht : ∀ r, letTemporaryGo value (.ref l) r = pure ()) (hz : its.size ≤ sizeLine) :
    wpAny (model prog w) A (subscriptTail value slice (.ref l) (.ref s.heap.objs.size)) Q E { s with heap := s.heap.push { cls := .type "slice", data := .fields #[.int a t, .int b u, .none] } } :=
  kms_slice_lit (its := its) F N (at_up hl F) (.int _ _) (.int _ _) rfl (fun D h' F' N' l1 => h D h' F' (by rw [← pick_part _ h0 hab]; exact N') l1) hs ht hz
end
def insAt {α : Type} (l : List α) (p : Nat) (y : α) : List α := l.take p ++ y :: l.drop p
def delAt {α : Type} (l : List α) (p : Nat) : List α := l.take p ++ l.drop (p + 1)
theorem ins_len {α : Type} (l : List α) (p : Nat) (y : α) : (insAt l p y).length = l.length + 1 := by
  unfold insAt; rw [List.length_append, List.length_cons, List.length_take, List.length_drop]; omega
theorem pd_ins {α : Type} {F : α → Value → Prop} {as : List α} {vs : List Value} (h : Pd F as vs) (p : Nat) {a : α} {v : Value} (hv : F a v) : Pd F (insAt as p a) (insAt vs p v) :=
  pd_app (pd_take h p) (.cons hv (pd_drop h p))
theorem ins_mem {α : Type} {l : List α} {p : Nat} {y x : α} (h : x ∈ insAt l p y) : x = y ∨ x ∈ l := by
  unfold insAt at h
  rcases List.mem_append.mp h with h | h
  · exact .inr (List.mem_of_mem_take h)
  · rcases List.mem_cons.mp h with h | h
    · exact .inl h
    · exact .inr (List.mem_of_mem_drop h)
section
variable {prog : Program} {w : World} {A : Around} {E : Value → Shared → Prop} {s : Shared} {h₀ : Heap} {L D : Addr} {m : Str → Option Value} {news news' : List (Addr × Obj)} {n : Nat} {zs : List Value}
theorem insert_l {x : Int} {p : Nat} {u : Tok} {y : Value} {Q : Value → Shared → Prop} (F : Fr h₀ L s.heap m) (N : News h₀ L s.heap news) (U : Upd D (W.listOf zs.toArray n) (W.listOf (insAt zs p y).toArray (n + 1)) news news')
    (hx : x = (p : Int)) (hp : p ≤ zs.length) (hz : zs.length ≤ 1000)
    (h : ∀ h', Fr h₀ L h' m → News h₀ L h' news' → Q .none { s with heap := h' }) : wpAny (model prog w) A (call (.builtin "list.insert") [.ref D, .int x u, y]) Q E s := by
  subst hx
  refine kl_insert F N ?_ ?_ U (by rw [PySem.sizeLine_eq]; show zs.length ≤ _; omega) h
  · unfold Builtin.List.listFitsIndex
    simp only [Bool.and_eq_true, decide_eq_true_eq]; omega
  · show kl_ins zs _ y = _
    unfold kl_ins insAt
    rw [if_neg (by omega), Int.toNat_natCast, Nat.min_eq_left hp]
theorem del_is (zs : List Value) : ∀ (p : Nat), p < zs.length → ki_delL zs p = some (delAt zs p) := by
  induction zs with
  | nil => intro p h; simp at h
  | cons a r ih =>
    intro p h
    cases p with
    | zero => simp [ki_delL, delAt]
    | succ p =>
      have := ih p (by simpa using h)
      unfold ki_delL
      rw [this]
      simp [delAt]
theorem del_l {x : Int} {p : Nat} {u : Tok} {Q : Unit → Shared → Prop} (F : Fr h₀ L s.heap m) (N : News h₀ L s.heap news) (U : Upd D (W.listOf zs.toArray n) (W.listOf (delAt zs p).toArray (n + 1)) news news')
    (hx : x = (p : Int)) (hp : p < zs.length) (hz : zs.length ≤ 1000)
    (h : ∀ h', Fr h₀ L h' m → News h₀ L h' news' → Q () { s with heap := h' }) : wpAny (model prog w) A (delItem (.ref D) (.int x u)) Q E s := by
  subst hx
  refine ki_del F N ?_ (k := p) ?_ (del_is zs p hp) U (by rw [PySem.sizeLine_eq]; show zs.length ≤ _; omega) h
  · unfold Builtin.List.listFitsIndex
    simp only [Bool.and_eq_true, decide_eq_true_eq]; omega
  · unfold seqIndex?
    have h1 : ¬ ((p : Int) < 0) := by omega
    simp only [h1, if_false]
    rw [if_pos (by simp; omega)]; simp
end

section
variable {prog : Program} {w : World} {A : Around} {E : Value → Shared → Prop} {s : Shared} {h₀ : Heap} {L D : Addr} {m : Str → Option Value} {news news' : List (Addr × Obj)} {n : Nat} {zs : List Value}
theorem setL_is (v : Value) : ∀ (l : List Value) (p : Nat), p < l.length → ki_setL l p v = some (l.set p v)
  | [], p, h => by simp at h
  | x :: r, 0, _ => rfl
  | x :: r, p + 1, h => by
    have := setL_is v r p (by simpa using h)
    unfold ki_setL
    rw [this]; rfl
theorem set_l {x : Int} {p : Nat} {u : Tok} {y : Value} {Q : Unit → Shared → Prop} (F : Fr h₀ L s.heap m) (N : News h₀ L s.heap news) (U : Upd D (W.listOf zs.toArray n) (W.listOf (zs.set p y).toArray n) news news')
    (hx : x = (p : Int)) (hp : p < zs.length) (hz : zs.length ≤ 1000)
    (h : ∀ h', Fr h₀ L h' m → News h₀ L h' news' → Q () { s with heap := h' }) : wpAny (model prog w) A (setItem (.ref D) (.int x u) y) Q E s := by
  subst hx
  exact ki_set F N (by omega) (by omega) (by rw [Int.toNat_natCast]; exact setL_is y zs p hp) U h
end
end Mine
end
section
namespace Mine
abbrev lamQ : Str := (Str.ofString "_law_rule" ++ Str.ofString ".<locals>.") ++ Str.ofString "<lambda>"
abbrev lamS : Scope := { kind := .function, names := [(Str.ofString "name", .local), (Str.ofString "reach", .free)], isGenerator := false, isCoroutine := false }
abbrev lamP (p1 : Pos) : Arguments := { posonlyargs := [], args := [{ arg := Str.ofString "name", annotation := none, pos := p1 }], vararg := none, kwonlyargs := [], kw_defaults := [], kwarg := none, defaults := [] }
abbrev lamObj (p1 p2 : Pos) (pm : Value) (cc c' : Addr) (ctv : Value) : Obj := kla_obj (Str.ofString "<lambda>") lamQ (lamP p1) (.Name (Str.ofString "reach") p2) lamS [(Str.ofString "reach", cc)] pm c' ctv
def CodeOk (oc : Obj) : Prop := ∃ vs t, oc.data = .fields vs ∧ vs[1]? = some (.str lamQ t)
abbrev tabF (c' : Addr) : Obj := tabObj (#[] ++ #[rawInt 54, rawInt 22, .ref c'])
def TabL (TB : List (Addr × Obj)) : Prop := TB = [(58, tabObj #[])] ∨ ∃ c' oc, TB = [(58, tabF c'), (c', oc)] ∧ (@Ne Nat c' 58) ∧ CodeOk oc
abbrev ruleDict (h1 h2 h3 h4 h5 h6 : Int) (t1 t2 t3 t4 t5 t6 : Tok) (ua rl : Value) (b : Bool) (f : Addr) (n : Nat) : Obj :=
  dictOf [⟨h1, .str (Str.ofString "useragents") t1, ua⟩, ⟨h2, .str (Str.ofString "rulelines") t2, rl⟩, ⟨h3, .str (Str.ofString "delay") t3, .none⟩, ⟨h4, .str (Str.ofString "req_rate") t4, .none⟩, ⟨h5, .str (Str.ofString "allowance") t5, .bool b⟩, ⟨h6, .str (Str.ofString "applies_to") t6, .ref f⟩] n
def RuleE (es : List (Addr × Obj)) (r : Int × Bool) (v : Value) : Prop :=
  ∃ x d f cc c' o oc p1 p2 pm ctv h1 h2 h3 h4 h5 h6 t1 t2 t3 t4 t5 t6 ua rl n tr, v = .ref x ∧ (x, instObj 52 d) ∈ es ∧ (d, ruleDict h1 h2 h3 h4 h5 h6 t1 t2 t3 t4 t5 t6 ua rl r.2 f n) ∈ es ∧ (f, lamObj p1 p2 pm cc c' ctv) ∈ es ∧ (cc, o) ∈ es ∧ o.data = .cell (some (.int r.1 tr)) ∧ (c', oc) ∈ es ∧ CodeOk oc
theorem RuleE.mono {es es' : List (Addr × Obj)} {r : Int × Bool} {v : Value} (h : RuleE es r v) (sub : ∀ p ∈ es, p ∈ es') : RuleE es' r v := by
  obtain ⟨x, d, f, cc, c', o, oc, p1, p2, pm, ctv, h1, h2, h3, h4, h5, h6, t1, t2, t3, t4, t5, t6, ua, rl, n, tr, e, m1, m2, m3, m4, e2, m5, e3⟩ := h
  exact ⟨x, d, f, cc, c', o, oc, p1, p2, pm, ctv, h1, h2, h3, h4, h5, h6, t1, t2, t3, t4, t5, t6, ua, rl, n, tr, e, sub _ m1, sub _ m2, sub _ m3, sub _ m4, e2, sub _ m5, e3⟩
theorem allLt_lt {d : Nat} : ∀ {l : List (Addr × Obj)}, AllLt d l → ∀ p ∈ l, @LT.lt Nat _ p.1 d
  | [], _, _, h => nomatch h
  | _ :: _, x, p, h => by
    rcases List.mem_cons.mp h with rfl | h
    · exact x.1
    · exact allLt_lt x.2 p h
theorem news_r1 {g h : Heap} {L : Addr} {f c l k x d cc tb : Addr × Obj} {es : List (Addr × Obj)} (N : News g L h (f :: c :: l :: k :: x :: d :: cc :: tb :: es)) : News g L h ([x, d, f, cc, c] ++ ([tb, c] ++ es)) := fun p hp => N p (by
  simp only [List.mem_cons, List.mem_append, List.not_mem_nil, or_false] at hp ⊢
  rcases hp with (q | q | q | q | q) | (q | q) | q <;> simp [q])
theorem news_r2 {g h : Heap} {L : Addr} {f c l k x d cc tb : Addr × Obj} {es : List (Addr × Obj)} (N : News g L h (f :: l :: k :: x :: d :: cc :: tb :: c :: es)) : News g L h ([x, d, f, cc, c] ++ ([tb, c] ++ es)) := fun p hp => N p (by
  simp only [List.mem_cons, List.mem_append, List.not_mem_nil, or_false] at hp ⊢
  rcases hp with (q | q | q | q | q) | (q | q) | q <;> simp [q])
end Mine
local macro_rules | `(tactic| k_all) => `(tactic| exact Mine.Off.mem (by assumption))
local macro_rules | `(tactic| walk_at "exec Assign") => `(tactic| (k_here; with_reducible refine plainObj_wpAny_Assign_Attribute ?_ ?_; rotate_left; with_unfolding_all rfl))
local macro_rules | `(tactic| walk_at "newList") => `(tactic| (k_here; k_dflt (refine' newList_K ?k1 ?k2 ?_; (case k1 => k_asm); (case k2 => k_asm); k_whole); intro l' h' F' N' l1; (try k_lt l1); (try k_sweep)))
set_option maxRecDepth 100000 in
set_option maxHeartbeats 8000000 in
theorem Mine.rule10 {w : World} {p : Program} {loose : List Str} {mean : ExcName → Option Value} {mg mb : Str → Option Value} {base h₀ : Heap} {L : Addr} {m : Str → Option Value} {env : Env} {s : Shared} {Q : Value → Shared → Prop} {E : Value → Shared → Prop}
  (hf : env.frame = some L) (hke : env.scope.kind = .function) (B : Below callerA base [] h₀) (F : Fr h₀ L s.heap m) (X : (Mine.hd10.heap_39 w.params).In h₀) (T : Top p loose mean mg mb h₀)
  (codeHd : CodeHd h₀ 62 58) {TB es : List (Addr × Obj)} (hTB : Mine.TabL TB) (N : News h₀ L s.heap (TB ++ es)) (off : Mine.Off 58 es) {reach : Int} {t : Tok} {b : Bool}
  (hpost : ∀ h' tk x new TB', Mine.TabL TB' → Fr h₀ L h' m → News h₀ L h' (new ++ (TB' ++ es)) → Mine.RuleE new (reach, b) (.ref x) → (∀ D o, (D, o) ∈ es → Mine.Off D TB → Mine.Off D (new ++ TB')) → (∀ D o, (D, o) ∈ es → @Ne Nat x D) → Mine.Off 58 new → Q (.ref x) { s with heap := h', toks := tk }) :
  wpAny (model PySem.Challenge.rw_kn0091_10.row.prog w) (callerA.deeper env) (call (.ref 63) [.int reach t, .bool b] []) Q E s := by
  w_top off
  revert X; k_fill; intro X
  rcases hTB with rfl | ⟨c', oc, rfl, hcn, hoc⟩
  · dsimp only [List.cons_append, List.nil_append] at N
    refine wpAny_call (code_defC B F X N T rfl hf hke (by k_is) (by k_is) (by k_room) (BindsTo.of_eq rfl) rfl (by decide +kernel) ?_ rfl rfl rfl)
    intro g' L' h' tk' cells' FG' F' N' Y' B' X' T' hL1
    (try k_lt hL1)
    k_cells Y'
    (try simp only [List.cons_append, List.nil_append] at N')
    (try dsimp only)
    (try k_lift B')
    (try k_fold)
    have codeHd' := codeHd.keeps FG'.keep
    repeat' (first | (k_unfold; (try dsimp only)) | walk1 | (dsimp only; walk1) | fail "no step")
    rename Fr h₀ L _ _ => kF9
    rename News h₀ L _ _ => kN9
    refine hpost _ _ _ [_, _, _, _, _] [_, _] (.inr ⟨_, _, rfl, (by refine PySem.W.neN ?_; omega), ⟨_, _, (by assumption), (by assumption)⟩⟩) kF9 (Mine.news_r1 kN9) ⟨_, _, _, _, _, _, _, _, _, _, _, _, _, _, _, _, _, _, _, _, _, _, _, _, _, _, _, rfl, .head _, .tail _ (.head _), .tail _ (.tail _ (.head _)), .tail _ (.tail _ (.tail _ (.head _))), by assumption, .tail _ (.tail _ (.tail _ (.tail _ (.head _)))), ⟨_, _, (by assumption), (by assumption)⟩⟩ ?_ ?_ ?_
    · intro D o hm hoD
      have hD := Mine.allLt_lt hL1.2 _ hm
      simp only [Mine.Off, and_true] at hoD
      simp only [List.cons_append, List.nil_append, Mine.Off, and_true]
      dsimp only at hD
      omega
    · intro D o hm
      have hD := Mine.allLt_lt hL1.2 _ hm
      dsimp only at hD
      refine PySem.W.neN ?_
      omega
    · simp only [Mine.Off, and_true]
      omega
  · dsimp only [List.cons_append, List.nil_append] at N
    obtain ⟨vs, tq, hoc1, hoc2⟩ := hoc
    refine wpAny_call (code_defC B F X N T rfl hf hke (by k_is) (by k_is) (by k_room) (BindsTo.of_eq rfl) rfl (by decide +kernel) ?_ rfl rfl rfl)
    intro g' L' h' tk' cells' FG' F' N' Y' B' X' T' hL1
    (try k_lt hL1)
    k_cells Y'
    (try simp only [List.cons_append, List.nil_append] at N')
    (try dsimp only)
    (try k_lift B')
    (try k_fold)
    have codeHd' := codeHd.keeps FG'.keep
    repeat' (first | (k_unfold; (try dsimp only)) | walk1 | (dsimp only; walk1) | fail "no step")
    rename Fr h₀ L _ _ => kF9
    rename News h₀ L _ _ => kN9
    refine hpost _ _ _ [_, _, _, _, _] [_, _] (.inr ⟨_, _, rfl, hcn, ⟨_, _, hoc1, hoc2⟩⟩) kF9 (Mine.news_r2 kN9) ⟨_, _, _, _, _, _, _, _, _, _, _, _, _, _, _, _, _, _, _, _, _, _, _, _, _, _, _, rfl, .head _, .tail _ (.head _), .tail _ (.tail _ (.head _)), .tail _ (.tail _ (.tail _ (.head _))), by assumption, .tail _ (.tail _ (.tail _ (.tail _ (.head _)))), ⟨_, _, hoc1, hoc2⟩⟩ ?_ ?_ ?_
    · intro D o hm hoD
      have hD := Mine.allLt_lt hL1.2.2 _ hm
      simp only [Mine.Off, and_true] at hoD
      simp only [List.cons_append, List.nil_append, Mine.Off, and_true]
      dsimp only at hD
      omega
    · intro D o hm
      have hD := Mine.allLt_lt hL1.2.2 _ hm
      dsimp only at hD
      refine PySem.W.neN ?_
      omega
    · simp only [Mine.Off, and_true]
      omega
end
section
namespace Mine
theorem inst_up {g h : Heap} {L : Addr} {m : Str → Option Value} {x C : Addr} {ox : Obj} {od : Option Obj} (I : InstAt g x ox C od) (F : Fr g L h m) : InstAt h x ox C od :=
  ⟨F.keep _ _ I.at_, I.cls, I.no, by
    have := I.dict
    revert this
    cases ox.dict with
    | none => cases od with
      | none => exact id
      | some o => exact id
    | some a => cases od with
      | none => exact id
      | some o => exact fun e => F.keep _ _ e⟩
/-- an Entry's own dict, as __init__ leaves it -/
abbrev entryDict (h1 h2 h3 h4 : Int) (t1 t2 t3 t4 : Tok) (ua rl dl rr : Value) (n : Nat) : Obj :=
  dictOf [⟨h1, .str (Str.ofString "useragents") t1, ua⟩, ⟨h2, .str (Str.ofString "rulelines") t2, rl⟩, ⟨h3, .str (Str.ofString "delay") t3, dl⟩, ⟨h4, .str (Str.ofString "req_rate") t4, rr⟩] n
section
variable {prog : Program} {w : World} {A : Around} {E : Value → Shared → Prop} {s : Shared} {K : Frag} {x C f L : Addr} {ox od : Obj} {name : Str} {h₀ : Heap} {m : Str → Option Value} {es : List DictEntry} {n : Nat} {v g : Value}
/-- an object's own entry wins over a def of its class -/
theorem findObj_ownF (hh : hasDictIn K C = true) (ha : findIn K (.ref C) name = some (some (.ref f))) (hg : specialIn K (.ref f) "__get__" = some (some g)) (ht : takesIn K (.ref f) = some false) (hl : lookIn name od = some (some v)) :
    findObj K C (some od) name = some (.value v) := by
  obtain ⟨cd, hc', hd⟩ := any_some hh
  unfold findObj
  have ho : PySem.W.ownOf cd (some od) name = some (some v) := by unfold PySem.W.ownOf; rw [if_pos hd]; exact hl
  rw [hc', Option.bind_some, ha, Option.bind_some]
  simp only [hg, ht, Option.bind_some, ho]
theorem get_ownF {expr : Bool} {Q : Value → Shared → Prop} (F : Fr h₀ L s.heap m) (X₀ : K.In h₀) (I : InstAt s.heap x ox C (some (dictOf es n))) (hp : plainGet K C name = true) (hh : hasDictIn K C = true)
    (ha : findIn K (.ref C) name = some (some (.ref f))) (hg : specialIn K (.ref f) "__get__" = some (some g)) (ht : takesIn K (.ref f) = some false) (hl : getL name es = some (some v)) (hv : handedIn v = true) (h : Q v { s with toks := s.toks + 1 }) :
    wpAny (model prog w) A (getAttr (.ref x) name expr) Q E s :=
  get_value (X₀.keeps F.keep) I (plainGet_of hp).1 (findObj_ownF hh ha hg ht (by show lookIn name (dictOf es n) = _; rw [lookIn_dict, hl])) hv h
theorem method_ownF {pl : Sem Bool} {Q : Value × List Value → Shared → Prop} (F : Fr h₀ L s.heap m) (X₀ : K.In h₀) (I : InstAt s.heap x ox C (some (dictOf es n))) (hp : plainGet K C name = true) (hh : hasDictIn K C = true)
    (ha : findIn K (.ref C) name = some (some (.ref f))) (hfn : typeIn K (.ref f) = some (.type "function")) (hg : specialIn K (.ref f) "__get__" = some (some g)) (ht : takesIn K (.ref f) = some false) (hl : getL name es = some (some v)) (hv : handedIn v = true) (h : Q (v, []) { s with toks := s.toks + 1 }) :
    wpAny (model prog w) A (getMethod (.ref x) name pl) Q E s := by
  have hcan := PySem.F.canon_object_ga
  have X := X₀.keeps F.keep
  have hu : wpAny (model prog w) A (getAttr (.ref x) name) (fun v => Q (v, [])) E s := get_ownF F X₀ I hp hh ha hg ht hl hv h
  unfold getMethod specialOf
  refine wpAny_bind (wpAny_bind (I.type.here ((looks_findIn X (plainGet_of hp).1).here ?_)))
  dsimp only
  rw [hcan, if_neg (by decide)]
  refine wpAny_bind (wpAny_bind (I.type.here ((looks_findIn X (plainGet_of hp).2).here ?_)))
  refine wpAny_bind (wpAny_bind (I.type.here ((looks_findIn X ha).here (wpAny_bind ((looks_typeIn X hfn).here ?_)))))
  rw [if_neg (by decide +kernel)]
  refine wpAny_bind (wpAny_loadPart I.at_ ?_)
  have hd := I.dict
  cases e : ox.dict with
  | none => rw [e] at hd; exact hd.elim
  | some dx =>
    rw [e] at hd
    refine wpAny_bind (wpAny_bind (wpAny_loadPart hd ?_))
    rw [nsLook_of (r := some v) (by rw [lookIn_dict, hl])]
    refine wpAny_pure ?_
    exact wpAny_bind (wpAny_mono hu (fun _ _ z => wpAny_pure z) fun _ _ z => z)
end
def LamAt (h : Heap) (f : Addr) (v : Value) : Prop := ∃ cc c' o oc p1 p2 pm ctv, h.get? f = some (lamObj p1 p2 pm cc c' ctv) ∧ h.get? cc = some o ∧ o.data = .cell (some v) ∧ h.get? c' = some oc ∧ CodeOk oc
theorem LamAt.keeps {h h' : Heap} {f : Addr} {v : Value} (x : LamAt h f v) (k : ∀ b o, h.get? b = some o → h'.get? b = some o) : LamAt h' f v :=
  let ⟨cc, c', o, oc, p1, p2, pm, ctv, e1, e2, e3, e4, e5⟩ := x; ⟨cc, c', o, oc, p1, p2, pm, ctv, k _ _ e1, k _ _ e2, e3, k _ _ e4, e5⟩
theorem fn_up {g h : Heap} {L f : Addr} {m : Str → Option Value} {v : Value} (x : LamAt g f v) (F : Fr g L h m) : FnAt f h :=
  let ⟨_, _, _, _, _, _, _, _, e1, _⟩ := x; ⟨_, _, _, _, F.keep _ _ e1⟩
def RuleV (h : Heap) (r : Int × Bool) (v : Value) : Prop :=
  ∃ x d f h1 h2 h3 h4 h5 h6 t1 t2 t3 t4 t5 t6 ua rl n tr, v = .ref x ∧ InstAt h x (instObj 52 d) 52 (some (ruleDict h1 h2 h3 h4 h5 h6 t1 t2 t3 t4 t5 t6 ua rl r.2 f n)) ∧ LamAt h f (.int r.1 tr)
theorem rule_of {g h : Heap} {L : Addr} {es news : List (Addr × Obj)} {v : Value} {r : Int × Bool} (N : News g L h news) (sub : ∀ p ∈ es, p ∈ news) (e : RuleE es r v) : RuleV h r v := by
  obtain ⟨x, d, f, cc, c', o, oc, p1, p2, pm, ctv, h1, h2, h3, h4, h5, h6, t1, t2, t3, t4, t5, t6, ua, rl, n, tr, e, m1, m2, m3, m4, e2, m5, e3⟩ := e
  exact ⟨x, d, f, h1, h2, h3, h4, h5, h6, t1, t2, t3, t4, t5, t6, ua, rl, n, tr, e, InstAt.of_news N (sub _ m1) (sub _ m2), cc, c', o, oc, p1, p2, pm, ctv, (N _ (sub _ m3)).1, (N _ (sub _ m4)).1, e2, (N _ (sub _ m5)).1, e3⟩
section
variable {prog : Program} {w : World} {A : Around} {E : Value → Shared → Prop} {s : Shared} {Q : Value → Shared → Prop}
theorem lam_call {f : Addr} {v a : Value} (hroom : A.depth < recursionLimit) (hlim : s.heap.NoLimit) (x : LamAt s.heap f v) (h : ∀ h' tk, (∀ b o, s.heap.get? b = some o → h'.get? b = some o) → Q v { s with heap := h', toks := tk }) :
    wpAny (model prog w) A (call (.ref f) [a] []) Q E s := by
  obtain ⟨cc, c', o, oc, p1, p2, pm, ctv, e1, e2, e3, e4, ⟨vs, t, e5, e6⟩⟩ := x
  refine wpAny_call (kla_callFunE hroom e1 rfl rfl rfl rfl ⟨c', oc, vs, t, rfl, e4, e5, e6⟩ ?_)
  rw [show bindArgs (kla_fn (Str.ofString "<lambda>") lamQ (lamP p1) (.Name (Str.ofString "reach") p2) lamS [(Str.ofString "reach", cc)] pm (.ref c') ctv) ⟨[a], []⟩ = pure [(Str.ofString "name", a)] from rfl]
  refine wpAny_pure (wpAny_newFunctionEnv (show ∀ x ∈ lamS.names, x.2 ≠ .cell by decide) (fun x hx => by rw [List.mem_singleton.mp hx]; rfl) (fun h₁ hns hsb => ?_) rfl)
  have hk₁ : ∀ b o, s.heap.get? b = some o → h₁.get? b = some o := fun b o e => hsb.extBut b o (Nat.ne_of_lt (Heap.lt_size e)) (Heap.get?_push_of_some _ e)
  refine ⟨hlim.keeps hk₁, kla_codeExpr ?_⟩
  exact wpAny_Name (wpAny_loadName_free rfl rfl rfl ⟨o, hk₁ _ _ e2, e3⟩ (h _ _ hk₁)) (by decide)
end
/-- what allowance does at one rule -/
def stepA (st : Int × Bool) (r : Int × Bool) : Int × Bool :=
  if r.1 = 0 then st else if r.1 > st.1 then (r.1, r.2) else if r.1 = st.1 ∧ st.2 = false then (st.1, r.2) else st
def allowF (rs : List (Int × Bool)) : Bool := (rs.foldl stepA (-1, true)).2
theorem step_gt {st r : Int × Bool} (h0 : r.1 ≠ 0) (h : st.1 < r.1) : stepA st r = (r.1, r.2) := by unfold stepA; rw [if_neg h0, if_pos h]
theorem step_eqT {st r : Int × Bool} (h0 : r.1 ≠ 0) (h : ¬ st.1 < r.1) (_h1 : r.1 = st.1) (h2 : st.2 = true) : stepA st r = st := by unfold stepA; rw [if_neg h0, if_neg h, if_neg (fun q => by rw [h2] at q; exact absurd q.2 (by decide))]
theorem step_eqF {st r : Int × Bool} (h0 : r.1 ≠ 0) (h : ¬ st.1 < r.1) (h1 : r.1 = st.1) (h2 : st.2 = false) : stepA st r = (st.1, r.2) := by unfold stepA; rw [if_neg h0, if_neg h, if_pos ⟨h1, h2⟩]
theorem step_lt {st r : Int × Bool} (h0 : r.1 ≠ 0) (h : ¬ st.1 < r.1) (h1 : r.1 ≠ st.1) : stepA st r = st := by unfold stepA; rw [if_neg h0, if_neg h, if_neg (fun q => h1 q.1)]
theorem step_0 {st r : Int × Bool} (h0 : r.1 = 0) : stepA st r = st := by unfold stepA; rw [if_pos h0]
theorem stepJ {pre : List (Int × Bool)} {r st' : Int × Bool} {u : Str → Option Value} {t : Tok} (h : stepA (pre.foldl stepA (-1, true)) r = st') (h1 : u (Str.ofString "best_match") = some (.int st'.1 t)) (h2 : u (Str.ofString "allowance") = some (.bool st'.2)) :
    ∃ t, u (Str.ofString "best_match") = some (.int ((pre ++ [r]).foldl stepA (-1, true)).1 t) ∧ u (Str.ofString "allowance") = some (.bool ((pre ++ [r]).foldl stepA (-1, true)).2) := by
  rw [List.foldl_append]
  show ∃ t, u _ = some (.int (stepA (pre.foldl stepA (-1, true)) r).1 t) ∧ u _ = some (.bool (stepA (pre.foldl stepA (-1, true)) r).2)
  rw [h]
  exact ⟨t, h1, h2⟩
theorem step_bound {st r : Int × Bool} (h : -1 ≤ st.1 ∧ st.1 ≤ 100) (hr : 0 ≤ r.1 ∧ r.1 ≤ 100) : -1 ≤ (stepA st r).1 ∧ (stepA st r).1 ≤ 100 := by
  unfold stepA
  split
  · exact h
  · split
    · exact ⟨by show -1 ≤ r.1; omega, hr.2⟩
    · split
      · exact h
      · exact h
theorem fold_bound : ∀ {rs : List (Int × Bool)} {st : Int × Bool}, (-1 ≤ st.1 ∧ st.1 ≤ 100) → (∀ r ∈ rs, 0 ≤ r.1 ∧ r.1 ≤ 100) → -1 ≤ (rs.foldl stepA st).1 ∧ (rs.foldl stepA st).1 ≤ 100
  | [], _, h, _ => h
  | r :: rs, st, h, hr => fold_bound (rs := rs) (st := stepA st r) (step_bound h (hr _ List.mem_cons_self)) fun r' h' => hr r' (List.mem_cons_of_mem _ h')
end Mine
local macro_rules | `(tactic| k_inst) => `(tactic| first | exact Mine.inst_up (by assumption) (by assumption) | exact Mine.inst_up (Mine.inst_up (by assumption) (by assumption)) (by assumption))
local macro_rules | `(tactic| walk_at "getMethod ref") => `(tactic| (k_here; (with_reducible show wpAny _ _ (getMethod (Value.ref _) (PySem.Str.ofString "applies_to") _) _ _ _); k_dflt (refine' Mine.method_ownF ?k1 ?k2 ?k3 ?k4 ?k5 ?k6 ?k7 ?k8 ?k9 ?k10 ?k11 ?_; (case k1 => k_asm); (case k2 => k_asm); (case k3 => k_inst); (case k4 => k_is); (case k5 => k_is); (case k6 => k_is); (case k7 => k_is); (case k8 => k_is); (case k9 => k_is); (case k10 => k_get); (case k11 => k_handed); k_whole); (try dsimp only)))
local macro_rules | `(tactic| walk_at "getAttr ref") => `(tactic| (k_here; (with_reducible show wpAny _ _ (getAttr (Value.ref _) (PySem.Str.ofString "allowance") _) _ _ _); k_dflt (refine' Mine.get_ownF ?k1 ?k2 ?k3 ?k4 ?k5 ?k6 ?k8 ?k9 ?k10 ?k11 ?_; (case k1 => k_asm); (case k2 => k_asm); (case k3 => k_inst); (case k4 => k_is); (case k5 => k_is); (case k6 => k_is); (case k8 => k_is); (case k9 => k_is); (case k10 => k_get); (case k11 => k_handed); k_whole)))
local macro_rules | `(tactic| walk_at "callWith ref") => `(tactic| (k_here; k_dflt (refine' callWith_F ?k1 ?_; (case k1 => exact Mine.fn_up (by assumption) (by assumption)); k_whole)))
local macro_rules | `(tactic| walk_at "FnAt") => `(tactic| (k_dflt (exact Mine.fn_up (by assumption) (by assumption))))
local macro_rules | `(tactic| walk_at "pyIter ref") => `(tactic| (k_here; refine Mine.stop ?_))
local macro_rules | `(tactic| walk_at "call ref") => `(tactic| (k_here; refine Mine.stop ?_))
local macro_rules | `(tactic| walk_at "exec For Name Attribute cons nil") => `(tactic| (k_here; k_dflt (refine Mine.For_T (by k_asm) (by intro _ _; rfl) ?_)))
local macro_rules | `(tactic| walk_at "execs cons") => `(tactic| ((with_reducible refine wpAny_execs_cons ?_); try dsimp only))
local macro_rules | `(tactic| walk_at "execs cons Assign cons") => `(tactic| (k_here; walk_at "execs cons"))
set_option maxRecDepth 100000 in
set_option maxHeartbeats 8000000 in
theorem Mine.allow10 {w : World} {p : Program} {loose : List Str} {mean : ExcName → Option Value} {mg mb : Str → Option Value} {base h₀ : Heap} {L : Addr} {m : Str → Option Value} {env : Env} {s : Shared} {Q : Value → Shared → Prop} {E : Value → Shared → Prop}
  (hf : env.frame = some L) (hke : env.scope.kind = .function) (B : Below callerA base [] h₀) (F : Fr h₀ L s.heap m) (X : (Mine.hd10.heap_39 w.params).In h₀) (T : Top p loose mean mg mb h₀)
  {x d l : Addr} {h1 h2 h3 h4 : Int} {t1 t2 t3 t4 : Tok} {ua dl rr : Value} {n : Nat} {its : Array Value} {rs : List (Int × Bool)} {name : Str} {tn : Tok}
  (I : InstAt s.heap x (instObj 52 d) 52 (some (Mine.entryDict h1 h2 h3 h4 t1 t2 t3 t4 ua (.ref l) dl rr n))) (hl : s.heap.IsList l its) (hv : Mine.Pd (Mine.RuleV s.heap) rs its.toList)
  (hb : ∀ r ∈ rs, 0 ≤ r.1 ∧ r.1 ≤ 100)
  (hpost : ∀ h' tk, (∀ b o, s.heap.get? b = some o → h'.get? b = some o) → Q (.bool (Mine.allowF rs)) { s with heap := h', toks := tk }) :
  wpAny (model PySem.Challenge.rw_kn0091_10.row.prog w) (callerA.deeper env) (call (.ref 49) [.ref x, .str name tn] []) Q E s := by
  w_top off
  revert X; k_fill; intro X
  refine wpAny_call (Mine.code_base (K := Mine.hd10.heap_39 w.params) B F X T rfl hf hke (by k_is) (by k_is) (by k_room) (BindsTo.of_eq rfl) (locs rfl) ?_ rfl rfl rfl (by decide))
  intro L' h₁ F' N' B' X' T'
  dsimp only
  clear F B X T
  repeat' (first | (k_unfold; (try dsimp only)) | walk1 | (dsimp only; walk1) | fail "no step")
  rename Fr _ _ _ _ => F9
  rename News _ _ _ _ => N9
  refine Mine.unstop (Mine.forT_pd_s hv [Str.ofString "line", Str.ofString "m", Str.ofString "best_match", Str.ofString "allowance"] (fun pre u => ∃ t, u (Str.ofString "best_match") = some (.int (pre.foldl Mine.stepA (-1, true)).1 t) ∧ u (Str.ofString "allowance") = some (.bool (pre.foldl Mine.stepA (-1, true)).2)) rfl (.inl hl) F9 N9 ⟨_, rfl, rfl⟩ ?_ ?_)
  · intro pre r post v u I' oI' h tk hsp hr hJ hoff0 F N
    obtain ⟨t, e1, e2⟩ := hJ
    have hoff := hoff0
    simp only [Mine.Off] at hoff
    simp only [Mine.over, e1, e2] at F
    have hb0 := hb r (by rw [hsp]; simp)
    have hb1 := Mine.fold_bound (rs := pre) (st := (-1, true)) (by decide) (fun r' h' => hb r' (by rw [hsp]; simp [h']))
    obtain ⟨y, dy, f, g1, g2, g3, g4, g5, g6, s1, s2, s3, s4, s5, s6, ua', rl', n', tr, rfl, hi, hlam⟩ := hr
    repeat' (first | (k_unfold; (try dsimp only)) | walk1 | (dsimp only; walk1) | fail "no step")
    rename Fr s.heap L' _ _ => F5
    rename News s.heap L' _ _ => N5
    refine Mine.unstop (Mine.lam_call (by k_room) (Top.nolimit (Top.keeps (by assumption) F5.keep)) (Mine.LamAt.keeps hlam F5.keep) ?_)
    intro h9 tk9 k9
    obtain ⟨F6, N6⟩ := Mine.after_keep F5 N5 k9
    clear F5 N5
    repeat' (first | (k_unfold; (try dsimp only)) | walk1 | (dsimp only; walk1) | fail "no step")
    all_goals (try dsimp only [Mine.TurnPost])
    · refine Mine.TurnEnd.mk' [] (by assumption) (by assumption) hoff0 ⟨rfl, fun z1 q1 => ?_, Mine.stepJ (Mine.step_gt (by assumption) (by assumption)) rfl rfl⟩
      simp only [List.mem_cons, not_or, List.not_mem_nil, not_false_iff, and_true] at q1
      obtain ⟨n1, n2, n3, n4⟩ := q1
      simp only [if_neg n1, if_neg n2, if_neg n3, if_neg n4]
    · refine Mine.TurnEnd.mk' [] (by assumption) (by assumption) hoff0 ⟨rfl, fun z1 q1 => ?_, Mine.stepJ (Mine.step_eqT (by assumption) (by assumption) (by assumption) (by assumption)) rfl rfl⟩
      simp only [List.mem_cons, not_or, List.not_mem_nil, not_false_iff, and_true] at q1
      obtain ⟨n1, n2, n3, n4⟩ := q1
      simp only [if_neg n1, if_neg n2, if_neg n3, if_neg n4]
    · refine Mine.TurnEnd.mk' [] (by assumption) (by assumption) hoff0 ⟨rfl, fun z1 q1 => ?_, Mine.stepJ (Mine.step_eqF (by assumption) (by assumption) (by assumption) (by assumption)) rfl rfl⟩
      simp only [List.mem_cons, not_or, List.not_mem_nil, not_false_iff, and_true] at q1
      obtain ⟨n1, n2, n3, n4⟩ := q1
      simp only [if_neg n1, if_neg n2, if_neg n3, if_neg n4]
    · refine Mine.TurnEnd.mk' [] (by assumption) (by assumption) hoff0 ⟨rfl, fun z1 q1 => ?_, Mine.stepJ (Mine.step_lt (by assumption) (by assumption) (by assumption)) rfl rfl⟩
      simp only [List.mem_cons, not_or, List.not_mem_nil, not_false_iff, and_true] at q1
      obtain ⟨n1, n2, n3, n4⟩ := q1
      simp only [if_neg n1, if_neg n2, if_neg n3, if_neg n4]
    · refine Mine.TurnEnd.mk' [] (by assumption) (by assumption) hoff0 ⟨rfl, fun z1 q1 => ?_, Mine.stepJ (Mine.step_0 (by assumption)) rfl rfl⟩
      simp only [List.mem_cons, not_or, List.not_mem_nil, not_false_iff, and_true] at q1
      obtain ⟨n1, n2, n3, n4⟩ := q1
      simp only [if_neg n1, if_neg n2, if_neg n3, if_neg n4]
  · intro u h tk hJ F N
    obtain ⟨t, e1, e2⟩ := hJ
    simp only [Mine.over, e1, e2] at F
    dsimp only
    repeat' (first | (k_unfold; (try dsimp only)) | walk1 | (dsimp only; walk1) | fail "no step")
    refine Mine.LeaveB.intro F ?_
    exact hpost _ _ F.keep
end
section
namespace Mine
def b2i (b : Bool) : Int := if b then 1 else 0
def wOf (r : Int × Bool) : Int := if r.1 > 0 then 2 * r.1 + b2i r.2 else 1
def maxW (rs : List (Int × Bool)) : Int := rs.foldl (fun M r => max M (wOf r)) 1
def IsM (rs : List (Int × Bool)) (M : Int) : Prop := 1 ≤ M ∧ (∀ r ∈ rs, wOf r ≤ M) ∧ (M = 1 ∨ ∃ r ∈ rs, wOf r = M)
theorem isM_fold : ∀ (rs : List (Int × Bool)) (pre : List (Int × Bool)) (M : Int), IsM pre M → IsM (pre ++ rs) (rs.foldl (fun M r => max M (wOf r)) M)
  | [], pre, M, h => by simpa using h
  | r :: rs, pre, M, ⟨h1, h2, h3⟩ => by
    have := isM_fold rs (pre ++ [r]) (max M (wOf r)) ⟨by omega, fun q hq => by
      rcases List.mem_append.mp hq with hq | hq
      · have := h2 q hq; omega
      · rw [List.mem_singleton.mp hq]; omega, by
      rcases Int.le_total M (wOf r) with h | h
      · exact .inr ⟨r, by simp, by omega⟩
      · rcases h3 with h3 | ⟨q, hq, h3⟩
        · exact .inl (by omega)
        · exact .inr ⟨q, by simp [hq], by omega⟩⟩
    simpa using this
theorem maxW_is (rs : List (Int × Bool)) : IsM rs (maxW rs) := by
  have := isM_fold rs [] 1 ⟨by omega, fun _ h => absurd h List.not_mem_nil, .inl rfl⟩
  rw [List.nil_append] at this
  exact this
theorem isM_uniq {rs : List (Int × Bool)} {M N : Int} (h : IsM rs M) (k : IsM rs N) : M = N := by
  obtain ⟨h1, h2, h3⟩ := h
  obtain ⟨k1, k2, k3⟩ := k
  have a : M ≤ N := by
    rcases h3 with h3 | ⟨q, hq, h3⟩
    · omega
    · have := k2 q hq; omega
  have b : N ≤ M := by
    rcases k3 with k3 | ⟨q, hq, k3⟩
    · omega
    · have := h2 q hq; omega
  omega
theorem mem_ins {α : Type} {l : List α} {p : Nat} {y x : α} (h : x = y ∨ x ∈ l) : x ∈ insAt l p y := by
  unfold insAt
  rcases h with h | h
  · simp [h]
  · rw [← List.take_append_drop p l] at h
    rcases List.mem_append.mp h with h | h
    · exact List.mem_append_left _ h
    · exact List.mem_append_right _ (List.mem_cons_of_mem _ h)
theorem maxW_ins (rs : List (Int × Bool)) (p : Nat) (r : Int × Bool) : maxW (insAt rs p r) = max (maxW rs) (wOf r) := by
  refine isM_uniq (maxW_is _) ?_
  obtain ⟨h1, h2, h3⟩ := maxW_is rs
  refine ⟨by omega, fun q hq => ?_, ?_⟩
  · rcases ins_mem hq with rfl | hq
    · omega
    · have := h2 q hq; omega
  · rcases Int.le_total (maxW rs) (wOf r) with h | h
    · exact .inr ⟨r, mem_ins (.inl rfl), by omega⟩
    · rcases h3 with h3 | ⟨q, hq, h3⟩
      · exact .inl (by omega)
      · exact .inr ⟨q, mem_ins (.inr hq), by omega⟩
def InvA (st : Int × Bool) (M : Int) : Prop := (st = (-1, true) ∧ M = 1) ∨ (1 ≤ st.1 ∧ M = 2 * st.1 + b2i st.2)
theorem b2i_b (b : Bool) : 0 ≤ b2i b ∧ b2i b ≤ 1 := by cases b <;> decide
theorem inv_step {st r : Int × Bool} {M : Int} (h : InvA st M) (hr : 0 ≤ r.1) : InvA (stepA st r) (max M (wOf r)) := by
  have hb := b2i_b r.2
  unfold stepA wOf
  rcases h with ⟨rfl, rfl⟩ | ⟨h1, h2⟩
  · by_cases h0 : r.1 = 0
    · rw [if_pos h0, if_neg (by omega)]; exact .inl ⟨rfl, by decide⟩
    · rw [if_neg h0, if_pos (by show r.1 > -1; omega), if_pos (by omega)]
      exact .inr ⟨by show 1 ≤ r.1; omega, by show _ = 2 * r.1 + b2i r.2; omega⟩
  · have hb2 := b2i_b st.2
    by_cases h0 : r.1 = 0
    · rw [if_pos h0, if_neg (by omega)]; exact .inr ⟨h1, by omega⟩
    · rw [if_neg h0, if_pos (show r.1 > 0 by omega)]
      by_cases h3 : r.1 > st.1
      · rw [if_pos h3]; exact .inr ⟨by show 1 ≤ r.1; omega, by show _ = 2 * r.1 + b2i r.2; omega⟩
      · rw [if_neg h3]
        by_cases h4 : r.1 = st.1 ∧ st.2 = false
        · rw [if_pos h4]
          obtain ⟨h4, h5⟩ := h4
          have : b2i st.2 = 0 := by rw [h5]; rfl
          exact .inr ⟨h1, by show _ = 2 * st.1 + b2i r.2; omega⟩
        · rw [if_neg h4]
          refine .inr ⟨h1, ?_⟩
          by_cases h5 : r.1 = st.1
          · have : st.2 = true := by cases e : st.2 with
              | true => rfl
              | false => exact absurd ⟨h5, e⟩ h4
            have : b2i st.2 = 1 := by rw [this]; rfl
            omega
          · omega
theorem inv_fold : ∀ {rs : List (Int × Bool)} {st : Int × Bool} {M : Int}, InvA st M → (∀ r ∈ rs, 0 ≤ r.1) → InvA (rs.foldl stepA st) (rs.foldl (fun M r => max M (wOf r)) M)
  | [], _, _, h, _ => h
  | r :: rs, _, _, h, hr => inv_fold (rs := rs) (inv_step h (hr r List.mem_cons_self)) fun q hq => hr q (List.mem_cons_of_mem _ hq)
theorem allow_max {rs : List (Int × Bool)} (hr : ∀ r ∈ rs, 0 ≤ r.1) : allowF rs = decide (maxW rs % 2 = 1) := by
  have h : InvA (rs.foldl stepA (-1, true)) (maxW rs) := inv_fold (.inl ⟨rfl, rfl⟩) hr
  unfold allowF
  rcases h with ⟨e, e2⟩ | ⟨_, e2⟩
  · rw [e, e2]; rfl
  · rw [e2]
    generalize (rs.foldl stepA (-1, true)).2 = b
    generalize (rs.foldl stepA (-1, true)).1 = x
    have hb : b2i b = if b = true then 1 else 0 := rfl
    cases b
    · have : b2i false = 0 := rfl
      rw [this]
      exact (decide_eq_false (by omega)).symm
    · have : b2i true = 1 := rfl
      rw [this]
      exact (decide_eq_true (by omega)).symm
theorem allow_insF {rs : List (Int × Bool)} {p : Nat} {k : Int} (hr : ∀ r ∈ rs, 0 ≤ r.1) (hk : 1 ≤ k) : allowF (insAt rs p (k, false)) = (decide (maxW rs % 2 = 1) && decide (maxW rs / 2 ≥ k)) := by
  rw [allow_max (fun r h => (ins_mem h).elim (fun e => by rw [e]; show 0 ≤ k; omega) (hr r)), maxW_ins]
  have h1 := (maxW_is rs).1
  have : wOf (k, false) = 2 * k := by show (if k > 0 then 2 * k + b2i false else 1) = _; rw [if_pos (by omega)]; show 2 * k + 0 = _; omega
  rw [this, ← Bool.decide_and]
  congr 1
  refine propext ⟨fun h => ⟨by omega, by omega⟩, fun h => by omega⟩
theorem allow_insT {rs : List (Int × Bool)} {p : Nat} {k : Int} (hr : ∀ r ∈ rs, 0 ≤ r.1) (hk : 1 ≤ k) : allowF (insAt rs p (k, true)) = (decide (maxW rs % 2 = 1) || decide (maxW rs / 2 ≤ k)) := by
  rw [allow_max (fun r h => (ins_mem h).elim (fun e => by rw [e]; show 0 ≤ k; omega) (hr r)), maxW_ins]
  have h1 := (maxW_is rs).1
  have : wOf (k, true) = 2 * k + 1 := by show (if k > 0 then 2 * k + b2i true else 1) = _; rw [if_pos (by omega)]; rfl
  rw [this, ← Bool.decide_or]
  congr 1
  refine propext ⟨fun h => by omega, fun h => by omega⟩
theorem ins_set {α : Type} (l : List α) (p : Nat) (hp : p ≤ l.length) (y z : α) : (insAt l p y).set p z = insAt l p z := by
  unfold insAt
  rw [List.set_append_right _ _ (by simp; omega)]
  simp [List.length_take, Nat.min_eq_left hp]
theorem ins_del {α : Type} (l : List α) (p : Nat) (hp : p ≤ l.length) (y : α) : delAt (insAt l p y) p = l := by
  unfold insAt delAt
  have e : (l.take p).length = p := by rw [List.length_take]; omega
  rw [List.take_append_of_le_length (by omega), List.take_of_length_le (by omega), List.drop_append, List.drop_eq_nil_of_le (by omega), e]
  simp
theorem Off.app {D : Addr} : ∀ {a b : List (Addr × Obj)}, Off D a → Off D b → Off D (a ++ b)
  | [], _, _, h => h
  | _ :: _, _, x, h => ⟨x.1, Off.app x.2 h⟩
theorem Off.left {D : Addr} : ∀ {a b : List (Addr × Obj)}, Off D (a ++ b) → Off D a
  | [], _, _ => trivial
  | _ :: _, _, x => ⟨x.1, Off.left x.2⟩
theorem Off.right {D : Addr} : ∀ {a b : List (Addr × Obj)}, Off D (a ++ b) → Off D b
  | [], _, h => h
  | _ :: _, _, x => Off.right (a := _) x.2
theorem off3_of {I C D : Addr} : ∀ {l : List (Addr × Obj)}, Off I l → Off C l → Off D l → LCg.Off3 I C D l
  | [], _, _, _ => trivial
  | _ :: _, a, b, c => ⟨⟨a.1, b.1, c.1⟩, off3_of a.2 b.2 c.2⟩
theorem off3_I {I C D : Addr} : ∀ {l : List (Addr × Obj)}, LCg.Off3 I C D l → Off I l ∧ Off C l ∧ Off D l
  | [], _ => ⟨trivial, trivial, trivial⟩
  | _ :: _, h => let ⟨a, b, c⟩ := off3_I h.2; ⟨⟨h.1.1, a⟩, ⟨h.1.2.1, b⟩, ⟨h.1.2.2, c⟩⟩
section
variable {g h : Heap} {L : Addr} {es new R TB : List (Addr × Obj)}
theorem news_rot (N : News g L h (es ++ (R ++ TB))) : News g L h (TB ++ (es ++ R)) := fun p hp => N p (by
  simp only [List.mem_append] at hp ⊢
  rcases hp with q | q | q
  · exact .inr (.inr q)
  · exact .inl q
  · exact .inr (.inl q))
theorem news_back (N : News g L h (new ++ (TB ++ (es ++ R)))) : News g L h (es ++ ((new ++ R) ++ TB)) := fun p hp => N p (by
  simp only [List.mem_append] at hp ⊢
  rcases hp with q | (q | q) | q
  · exact .inr (.inr (.inl q))
  · exact .inl q
  · exact .inr (.inr (.inr q))
  · exact .inr (.inl q))
theorem news_drop1 (N : News g L h (es ++ ((new ++ R) ++ TB))) : News g L h (es ++ (R ++ TB)) := fun p hp => N p (by
  simp only [List.mem_append] at hp ⊢
  rcases hp with q | q | q
  · exact .inl q
  · exact .inr (.inl (.inr q))
  · exact .inr (.inr q))
end
def spec (x : Int) : Int × Bool := (Int.fmod (Int.fdiv x 2) 5, Int.fmod x 2 == 1)
def wgt (x : Int) : Int := 2 * Int.fmod (Int.fdiv x 2) 5 + Int.fmod x 2
theorem spec_nn (x : Int) : 0 ≤ (spec x).1 ∧ (spec x).1 ≤ 4 := by
  have h1 := Int.fmod_nonneg_of_pos (Int.fdiv x 2) (b := 5) (by decide)
  have h2 := Int.fmod_lt_of_pos (Int.fdiv x 2) (b := 5) (by decide)
  exact ⟨h1, by show Int.fmod (Int.fdiv x 2) 5 ≤ 4; omega⟩
theorem wgt_is {x : Int} (h : Int.fmod (Int.fdiv x 2) 5 > 0) : wOf (spec x) = wgt x := by
  unfold wOf
  rw [if_pos (show (spec x).1 > 0 from h)]
  show 2 * Int.fmod (Int.fdiv x 2) 5 + b2i (Int.fmod x 2 == 1) = 2 * Int.fmod (Int.fdiv x 2) 5 + Int.fmod x 2
  have h1 := Int.fmod_nonneg_of_pos x (b := 2) (by decide)
  have h2 := Int.fmod_lt_of_pos x (b := 2) (by decide)
  rcases (by omega : Int.fmod x 2 = 0 ∨ Int.fmod x 2 = 1) with e | e <;> rw [e] <;> rfl
theorem max_of {part : List Int} {M : Int} (hm : M ∈ (part.filter (fun x => decide (Int.fmod (Int.fdiv x 2) 5 > 0))).map wgt ++ [1]) (ha : ∀ a ∈ (part.filter (fun x => decide (Int.fmod (Int.fdiv x 2) 5 > 0))).map wgt ++ [1], a ≤ M) : maxW (part.map spec) = M := by
  refine isM_uniq (maxW_is _) ⟨ha 1 (by simp), fun r hr => ?_, ?_⟩
  · obtain ⟨x, hx, rfl⟩ := List.mem_map.mp hr
    by_cases h : Int.fmod (Int.fdiv x 2) 5 > 0
    · rw [wgt_is h]
      exact ha _ (List.mem_append_left _ (List.mem_map.mpr ⟨x, List.mem_filter.mpr ⟨hx, by simpa using h⟩, rfl⟩))
    · have : wOf (spec x) = 1 := by unfold wOf; exact if_neg h
      rw [this]; exact ha 1 (by simp)
  · rcases List.mem_append.mp hm with hm | hm
    · obtain ⟨x, hx, e⟩ := List.mem_map.mp hm
      obtain ⟨hx, h⟩ := List.mem_filter.mp hx
      exact .inr ⟨_, List.mem_map.mpr ⟨x, hx, rfl⟩, by rw [wgt_is (by simpa using h), e]⟩
    · exact .inl (List.mem_singleton.mp hm)
theorem small_four {e : Int} (h0 : 1 ≤ e) (h1 : e ≤ 32) : Builtin.Range.small 0 e 4 = true ∧ Builtin.Range.rangeSize 0 e 4 = (((e.toNat + 3) / 4 : Nat) : Int) := by
  have h2 : Builtin.Range.rangeSize 0 e 4 = (((e.toNat + 3) / 4 : Nat) : Int) := by
    unfold Builtin.Range.rangeSize
    rw [if_pos (by decide), if_pos (by omega)]
    omega
  refine ⟨?_, h2⟩
  unfold Builtin.Range.small
  rw [h2]
  simp only [Builtin.Range.rangeFitsLong, Bool.and_eq_true, Bool.or_eq_true, decide_eq_true_eq, beq_iff_eq, show (4 : Int) > 0 by decide, if_true]
  omega
theorem e_bounds (n : Nat) : 1 ≤ (if (if (n : Int) < 32 then (n : Int) else 32) > 1 then if (n : Int) < 32 then (n : Int) else 32 else 1) ∧ (if (if (n : Int) < 32 then (n : Int) else 32) > 1 then if (n : Int) < 32 then (n : Int) else 32 else 1) ≤ 32 := by
  constructor <;> (repeat' split) <;> omega
theorem off_lt {D9 D : Addr} {TB : List (Addr × Obj)} (h : ∀ p ∈ TB, @LT.lt Nat _ p.1 D9) (hle : @LE.le Nat _ D9 D) : Off D TB := Off.of fun p hp q => by
  have h1 := h p hp
  have h2 : @Eq Nat p.1 D := q
  exact absurd (Nat.lt_of_lt_of_le h1 hle) (by rw [h2]; exact Nat.lt_irrefl _)
theorem tab_ne {I : Addr} {TB : List (Addr × Obj)} (h : TabL TB) (o : Off I TB) : @Ne Nat I 58 := by
  rcases h with rfl | ⟨c', oc, rfl, _⟩
  · exact fun q => o.1 q.symm
  · exact fun q => o.1 q.symm
/-- between the turns of the rules' comprehension -/
def JC10 (es : List (Addr × Obj)) (part : List Int) (i : Nat) (ys : List Value) (nw : List (Addr × Obj)) : Prop :=
  ∃ R TB, nw = es ++ (R ++ TB) ∧ TabL TB ∧ Pd (RuleE R) ((part.take i).map spec) ys ∧ Off 58 R ∧ (∀ D o, (D, o) ∈ es → Off D (R ++ TB))
theorem jc_step {es R TB new TB' : List (Addr × Obj)} {part : List Int} {i : Nat} {ys : List Value} {a : Int} {x : Addr} (ha : part[i]? = some a) (hR : Pd (RuleE R) ((part.take i).map spec) ys) (h58 : Off 58 R) (hE : ∀ D o, (D, o) ∈ es → Off D (R ++ TB))
    (hTB : TabL TB') (hr : RuleE new (spec a) (.ref x)) (hoff : ∀ D o, (D, o) ∈ es → Off D TB → Off D (new ++ TB')) (hn58 : Off 58 new) : JC10 es part (i + 1) (ys ++ [.ref x]) (es ++ ((new ++ R) ++ TB')) := by
  refine ⟨new ++ R, TB', rfl, hTB, ?_, Off.app hn58 h58, fun D o hm => ?_⟩
  · rw [List.take_add_one, ha, List.map_append]
    exact PySem.Paired.snoc (pd_mono hR fun _ _ _ h => h.mono fun p hp => List.mem_append_right _ hp) (hr.mono fun p hp => List.mem_append_left _ hp)
  · have h1 := hE D o hm
    have h2 := hoff D o hm h1.right
    exact Off.app (Off.app h2.left h1.left) h2.right
theorem part_of {ns : List Int} {vs : List Value} (h : Pd IntV ns vs) (k n : Nat) (hn : n = 4) : ∃ part, Pd IntV part ((vs.drop k).take n) ∧ part.length ≤ 4 :=
  ⟨(ns.drop k).take n, pd_take (pd_drop h k) n, by rw [List.length_take]; omega⟩
theorem es_pack {g h : Heap} {L x d D9 I : Addr} {ox od oD oI : Obj} {a b : Addr × Obj} {TB : List (Addr × Obj)} (N : News g L h (a :: b :: (x, ox) :: (d, od) :: (D9, oD) :: (I, oI) :: TB)) (h9 : ∀ p ∈ (I, oI) :: TB, p.1 < D9) (hx : @LT.lt Nat _ D9 x) (hd : @LT.lt Nat _ D9 d) (hI : Off I TB) (hT : TabL TB) :
    ∃ es, es = [(x, ox), (d, od), (D9, oD), (I, oI)] ∧ News g L h (es ++ ([] ++ TB)) ∧ (∀ D o, (D, o) ∈ es → Off D ([] ++ TB)) ∧ Off 58 es ∧ (D9, oD) ∈ es := by
  have hE : ∀ D o, (D, o) ∈ [(x, ox), (d, od), (D9, oD), (I, oI)] → Off D ([] ++ TB) := by
    intro D o hm
    have h9' : ∀ p ∈ TB, @LT.lt Nat _ p.1 D9 := fun p hp => h9 p (.tail _ hp)
    simp only [List.mem_cons, List.not_mem_nil, or_false, Prod.mk.injEq] at hm
    rcases hm with ⟨rfl, _⟩ | ⟨rfl, _⟩ | ⟨rfl, _⟩ | ⟨rfl, _⟩
    · exact off_lt h9' (Nat.le_of_lt hx)
    · exact off_lt h9' (Nat.le_of_lt hd)
    · exact off_lt h9' (Nat.le_refl _)
    · exact hI
  refine ⟨_, rfl, news_tail (news_tail N), hE, ?_, by simp⟩
  have k : ∀ D o, (D, o) ∈ [(x, ox), (d, od), (D9, oD), (I, oI)] → @Ne Nat D 58 := fun D o hm => tab_ne hT (hE D o hm)
  exact ⟨k _ _ (.head _), k _ _ (.tail _ (.head _)), k _ _ (.tail _ (.tail _ (.head _))), k _ _ (.tail _ (.tail _ (.tail _ (.head _)))), trivial⟩
theorem off1_off {D : Addr} : ∀ {l : List (Addr × Obj)}, LCg.Off1 D l → Off D l
  | [], _ => trivial
  | _ :: _, h => ⟨h.1, off1_off h.2⟩
theorem rule_comp {I C D : Addr} {oI oC oD : Obj} {es R TB new TB' : List (Addr × Obj)} (off : LCg.Off3 I C D (es ++ (R ++ TB))) (hoff : ∀ A o, (A, o) ∈ ((I, oI) :: (C, oC) :: (D, oD) :: es) ++ R → Off A TB → Off A (new ++ TB')) : LCg.Off3 I C D (es ++ ((new ++ R) ++ TB')) := by
  obtain ⟨a, b, c⟩ := off3_I off
  have k : ∀ A o, (A, o) ∈ ((I, oI) :: (C, oC) :: (D, oD) :: es) ++ R → Off A (es ++ (R ++ TB)) → Off A (es ++ ((new ++ R) ++ TB')) := fun A o hm h => by
    have h2 := hoff A o hm h.right.right
    exact Off.app h.left (Off.app (Off.app h2.left h.right.left) h2.right)
  exact off3_of (k _ _ (.head _) a) (k _ _ (.tail _ (.head _)) b) (k _ _ (.tail _ (.tail _ (.head _))) c)
theorem off58_comp {I C D : Addr} {oI oC oD : Obj} {es R TB : List (Addr × Obj)} (off : LCg.Off3 I C D (es ++ (R ++ TB))) (hT : TabL TB) (he : Off 58 es) (hR : Off 58 R) : Off 58 (((I, oI) :: (C, oC) :: (D, oD) :: es) ++ R) := by
  obtain ⟨a, b, c⟩ := off3_I off
  exact ⟨tab_ne hT a.right.right, tab_ne hT b.right.right, tab_ne hT c.right.right, Off.app he hR⟩
theorem fm_odd (M : Int) : (Int.fmod M 2 == 1) = decide (M % 2 = 1) := by
  rw [Int.fmod_eq_emod_of_nonneg _ (by decide)]
  by_cases h : M % 2 = 1
  · rw [h]; rfl
  · rw [decide_eq_false h]; simpa using h
theorem fd2 (M : Int) : Int.fdiv M 2 = M / 2 := Int.fdiv_eq_ediv_of_nonneg _ (by decide)
theorem maxW_le {rs : List (Int × Bool)} (h : ∀ r ∈ rs, 0 ≤ r.1 ∧ r.1 ≤ 4) : 1 ≤ maxW rs ∧ maxW rs ≤ 9 := by
  obtain ⟨h1, _, h3⟩ := maxW_is rs
  refine ⟨h1, ?_⟩
  rcases h3 with h3 | ⟨r, hr, h3⟩
  · omega
  · have := h r hr
    have := b2i_b r.2
    rw [← h3]; unfold wOf
    split <;> omega
def EOff (es R TB : List (Addr × Obj)) : Prop := ∀ D o, (D, o) ∈ es → Off D (R ++ TB)
theorem EOff.cons {D : Addr} {o : Obj} {es R TB : List (Addr × Obj)} (h : EOff es R TB) (hD : Off D (R ++ TB)) : EOff ((D, o) :: es) R TB := fun A oA hm => by
  rcases List.mem_cons.mp hm with e | hm
  · cases e; exact hD
  · exact h A oA hm
theorem EOff.step {es R TB new TB' : List (Addr × Obj)} (h : EOff es R TB) (hoff : ∀ D o, (D, o) ∈ es ++ R → Off D TB → Off D (new ++ TB')) : EOff es (new ++ R) TB' := fun D o hm => by
  have h1 := h D o hm
  have h2 := hoff D o (List.mem_append_left _ hm) h1.right
  exact Off.app (Off.app h2.left h1.left) h2.right
theorem EOff.tab {es R TB : List (Addr × Obj)} (h : EOff es R TB) (hT : TabL TB) (hR : Off 58 R) : Off 58 (es ++ R) := by
  refine Off.app ?_ hR
  exact Off.of fun p hp => tab_ne hT (h p.1 p.2 hp).right
theorem EOff.drop {es R new TB : List (Addr × Obj)} (h : EOff es (new ++ R) TB) : EOff es R TB := fun D o hm => Off.app (h D o hm).left.right (h D o hm).right
/-- between the turns of the two inner loops -/
def JR10 (es : List (Addr × Obj)) (Dr : Addr) (ys : List Value) (R : List (Addr × Obj)) (nw : List (Addr × Obj)) : Prop :=
  ∃ TB c, nw = (Dr, W.listOf ys.toArray c) :: (es ++ (R ++ TB)) ∧ TabL TB ∧ EOff es R TB ∧ Off Dr (R ++ TB)
theorem news_swap {g h : Heap} {L : Addr} {a b : Addr × Obj} {l : List (Addr × Obj)} (N : News g L h (a :: b :: l)) : News g L h (b :: a :: l) := fun p hp => N p (by
  simp only [List.mem_cons] at hp ⊢
  rcases hp with q | q | q
  · exact .inr (.inl q)
  · exact .inl q
  · exact .inr (.inr q))
theorem EOff.set2 {a : Addr × Obj} {D : Addr} {o o' : Obj} {l R TB : List (Addr × Obj)} (h : EOff (a :: (D, o) :: l) R TB) : EOff (a :: (D, o') :: l) R TB := fun A oA hm => by
  rcases List.mem_cons.mp hm with e | hm
  · exact h A oA (by rw [e]; exact .head _)
  · rcases List.mem_cons.mp hm with e | hm
    · cases e; exact h D o (.tail _ (.head _))
    · exact h A oA (.tail _ (.tail _ hm))
theorem EOff.tail1 {a : Addr × Obj} {l R TB : List (Addr × Obj)} (h : EOff (a :: l) R TB) : EOff l R TB := fun A oA hm => h A oA (.tail _ hm)
theorem ins_bound {rs : List (Int × Bool)} {p : Nat} {k : Int} {b : Bool} (h : ∀ r ∈ rs, 0 ≤ r.1 ∧ r.1 ≤ 4) (h0 : 1 ≤ k) (h1 : k ≤ 100) : ∀ r ∈ insAt rs p (k, b), 0 ≤ r.1 ∧ r.1 ≤ 100 := fun r hr => by
  rcases ins_mem hr with rfl | hr
  · exact ⟨by show 0 ≤ k; omega, h1⟩
  · have := h r hr; omega
theorem pd_ruleI {R new : List (Addr × Obj)} {rs : List (Int × Bool)} {ys : List Value} {p : Nat} {r : Int × Bool} {v : Value} (h : Pd (RuleE R) rs ys) (hv : RuleE new r v) : Pd (RuleE (new ++ R)) (insAt rs p r) (insAt ys p v) :=
  pd_ins (pd_mono h fun _ _ _ h => h.mono fun q hq => List.mem_append_right _ hq) p (hv.mono fun q hq => List.mem_append_left _ hq)
theorem pd_ruleW {R new : List (Addr × Obj)} {rs : List (Int × Bool)} {ys : List Value} (h : Pd (RuleE R) rs ys) : Pd (RuleE (new ++ R)) rs ys := pd_mono h fun _ _ _ h => h.mono fun q hq => List.mem_append_right _ hq
theorem news_dropR {g h : Heap} {L : Addr} {es R TB : List (Addr × Obj)} (N : News g L h (es ++ (R ++ TB))) : News g L h (es ++ TB) := fun p hp => N p (by
  simp only [List.mem_append] at hp ⊢
  rcases hp with q | q
  · exact .inl q
  · exact .inr (.inr q))
end Mine
end
section
local macro_rules | `(tactic| walk_at "subscriptTail") => `(tactic| (k_here; (with_reducible show wpAny _ _ (subscriptTail _ _ (Value.ref _) (Value.int _ _)) _ _ _); refine Mine.stop ?_))
local macro_rules | `(tactic| walk_at "pyIter ref") => `(tactic| (k_here; refine Mine.stop ?_))
local macro_rules | `(tactic| walk_at "call builtin:list.append") => `(tactic| (k_here; (with_reducible show wpAny _ _ (call (Value.builtin _) [Value.ref _, _]) _ _ _); k_dflt (refine' Mine.append_l ?k1 ?k2 ?k3 ?_ ?z; (case k1 => k_asm); (case k2 => k_asm); (case k3 => k_upd); (case z => (rw [PySem.sizeLine_eq]; omega)); k_whole); intro h' F' N'; (try k_sweep)))
local macro_rules | `(tactic| walk_at "call builtin:len") => `(tactic| (k_here; (with_reducible show wpAny _ _ (call (Value.builtin "len") [Value.ref _]) _ _ _); k_dflt (refine' Mine.len_l ?k1 ?k2 ?k3 ?_; (case k1 => k_asm); (case k2 => k_mem); (case k3 => (rw [PySem.sizeLine_eq]; (try simp only [List.length_append, List.length_cons, List.length_nil]); omega)); k_whole)))
local macro_rules | `(tactic| walk_at "binaryOp Add ref ref") => `(tactic| (k_here; k_dflt (refine' Mine.add_l ?k1 ?k2 ?k3 ?k4 ?k5 ?_; (case k1 => k_asm); (case k2 => k_asm); (case k3 => k_mem); (case k4 => k_mem); (case k5 => (rw [PySem.sizeLine_eq]; (try simp only [List.length_append, List.length_cons, List.length_nil, List.length_take, List.length_drop]); omega)); k_whole); intro D' h' F' N' l1; (try k_lt l1); (try k_sweep)))
local macro_rules | `(tactic| walk_at "call type:list") => `(tactic| (k_here; (with_reducible show wpAny _ _ (call (Value.type _) [Value.ref _]) _ _ _); k_dflt (refine' Mine.copy_l ?k1 ?k2 ?k3 ?k4 ?_; (case k1 => k_asm); (case k2 => k_asm); (case k3 => k_mem); (case k4 => (rw [PySem.sizeLine_eq]; (try simp only [List.length_append, List.length_cons, List.length_nil, List.length_take, List.length_drop]); omega)); k_whole); intro D' c' h' F' N' l1; (try k_lt l1); (try k_sweep)))
local macro_rules | `(tactic| walk_at "subscriptTail Name Slice ref ref") => `(tactic| (k_here; (with_reducible show wpAny _ _ (subscriptTail _ (PySem.Expr.Slice _ _ none _) (Value.ref _) (Value.ref _)) _ _ _); k_dflt ((first | refine' Mine.slice_to ?F ?N ?l ?p ?_ ?s ?t ?z | refine' Mine.slice_from ?F ?N ?l ?p ?_ ?s ?t ?z); (case F => k_asm); (case N => k_asm); (case l => k_mem); (case p => omega); (case s => with_unfolding_all rfl); (case t => kmk_pure); (case z => (rw [PySem.sizeLine_eq]; omega))); intro D' h' F' N' l1; (try k_lt l1); (try k_sweep)))
local macro_rules | `(tactic| walk_at "eval ListComp") => `(tactic| (k_here; first
  | (lcg_look; k_dflt (refine LCg.ListComp_U (F₀ := by k_asm) (by with_unfolding_all rfl) (by decide) (by rfl) (by decide) (by rfl) ?_))
  | (lcf_look; k_dflt (refine LCg.ListComp_U (F₀ := by k_asm) (by with_unfolding_all rfl) (by decide) (by rfl) (by decide) (by rfl) ?_))
  | (lct_look; k_dflt (refine LCt.ListComp_T (F₀ := by k_asm) (by with_unfolding_all rfl) (by decide) (by rfl) (by decide) (by rfl) ?_))))
local macro_rules | `(tactic| walk_at "exec Assign cons ListComp") => `(tactic| (k_here; first
  | (lcg_look; k_dflt (refine LCg.Assign_ListComp_U (F₀ := by k_asm) (by rfl) (by with_unfolding_all rfl) (by with_unfolding_all rfl) (by decide) (by rfl) (by decide) (by rfl) (by rfl) (by rfl) ?_))
  | (lcf_look; k_dflt (refine LCg.Assign_ListComp_U (F₀ := by k_asm) (by rfl) (by with_unfolding_all rfl) (by with_unfolding_all rfl) (by decide) (by rfl) (by decide) (by rfl) (by rfl) (by rfl) ?_))
  | (lct_look; k_dflt (refine LCt.Assign_ListComp_T (F₀ := by k_asm) (by rfl) (by with_unfolding_all rfl) (by with_unfolding_all rfl) (by decide) (by rfl) (by decide) (by rfl) (by rfl) (by rfl) ?_))))
local macro_rules | `(tactic| walk_at "CompSrc") => `(tactic| (k_here; k_dflt (first
  | (refine LCg.CompSrc.ledger (by rfl) (by k_asm) (by k_asm) (by k_mem) (by first | (simp only [List.size_toArray, List.length_append, List.length_cons, List.length_nil, List.length_take, List.length_drop, PySem.sizeLine_eq]; omega) | size_fits) ?_; intro g'; refine Mine.stop ?_)
  | (refine LCg.CompSrc.base (by rfl) (by k_asm) (by k_asm) (by assumption) (by first | (simp only [List.size_toArray, List.length_append, List.length_cons, List.length_nil, List.length_take, List.length_drop, PySem.sizeLine_eq]; omega) | size_fits) ?_; intro g'; refine Mine.stop ?_))))
local macro_rules | `(tactic| walk_at "CompSrcT") => `(tactic| (k_here; k_dflt (first
  | (refine LCt.CompSrcT.ledger (by rfl) (by k_asm) (by k_asm) (by k_mem) (by first | (simp only [List.size_toArray, List.length_append, List.length_cons, List.length_nil, List.length_take, List.length_drop, PySem.sizeLine_eq]; omega) | size_fits) ?_; intro g'; refine Mine.stop ?_)
  | (refine LCt.CompSrcT.base (by rfl) (by k_asm) (by k_asm) (by assumption) (by first | (simp only [List.size_toArray, List.length_append, List.length_cons, List.length_nil, List.length_take, List.length_drop, PySem.sizeLine_eq]; omega) | size_fits) ?_; intro g'; refine Mine.stop ?_))))
local macro_rules | `(tactic| walk_at "exec Assign") => `(tactic| (k_here; with_reducible refine plainObj_wpAny_Assign_Attribute ?_ ?_; rotate_left; with_unfolding_all rfl))
local macro_rules | `(tactic| walk_at "exec For Name Call cons nil") => `(tactic| (k_here; k_dflt (refine Mine.For_T (by k_asm) (by intro _ _; rfl) ?_)))
local macro_rules | `(tactic| walk_at "exec For Name Name cons nil") => `(tactic| (k_here; k_dflt (refine Mine.For_T (by k_asm) (by intro _ _; rfl) ?_)))
local macro_rules | `(tactic| walk_at "exec For Name Attribute cons nil") => `(tactic| (k_here; k_dflt (refine Mine.For_T (by k_asm) (by intro _ _; rfl) ?_)))
local macro_rules | `(tactic| walk_at "CompEnd") => `(tactic| (k_here; refine Mine.stop ?_))
local macro_rules | `(tactic| ktr_rel) => `(tactic| first
  | ((with_reducible show wpAny _ _ (subscriptTail _ _ (Value.ref _) (Value.int _ _)) _ _ _); refine Mine.stop ?_)
  | ((with_reducible show wpAny _ _ (call (Value.ref 63) _ _) _ _ _); refine Mine.stop ?_)
  | ((with_reducible show wpAny _ _ (subscriptTail _ (PySem.Expr.Slice _ _ _ _) (Value.ref _) (Value.ref _)) _ _ _); refine Mine.stop ?_)
  | ((with_reducible show wpAny _ _ (call (Value.ref 49) _ _) _ _ _); refine Mine.stop ?_)
  | ((with_reducible show wpAny _ _ (call (Value.builtin "list.insert") _ _) _ _ _); refine Mine.stop ?_)
  | ((with_reducible show wpAny _ _ (call (Value.builtin "max") [Value.ref _] _) _ _ _); refine Mine.stop ?_)
  | ((with_reducible show wpAny _ _ (delItem (Value.ref _) (Value.int _ _)) _ _ _); refine Mine.stop ?_)
  | ((with_reducible show wpAny _ _ (setItem (Value.ref _) (Value.int _ _) _) _ _ _); refine Mine.stop ?_)
  | ((with_reducible show wpAny _ _ (eval (PySem.Expr.ListComp _ _ _ _) _) _ _ _); refine Mine.stop ?_)
  | ((with_reducible show wpAny _ _ (compareOp CmpOp.NotEq (Value.ref _) (Value.ref _)) _ _ _); refine Mine.stop ?_)
  | ((with_reducible show wpAny _ _ (compareOp CmpOp.In (Value.str _ _) (Value.ref _)) _ _ _); refine Mine.stop ?_)
  | fail "none")
local macro_rules | `(tactic| walk_at "compareOp In str ref") => `(tactic| (k_here; refine Mine.stop ?_))
local macro_rules | `(tactic| ktr_unf) => `(tactic| repeat' (first | (k_unfold; (try dsimp only)) | ktr_rel | walk1 | (dsimp only; walk1) | fail "no step"))
local macro_rules | `(tactic| walk_at "subscriptTail Name Slice ref ref") => `(tactic| (k_here; (with_reducible show wpAny _ _ (subscriptTail _ (PySem.Expr.Slice _ _ none _) (Value.ref _) (Value.ref _)) _ _ _); k_dflt (refine' Mine.slice_p ?F ?N ?l ?p ?q ?_ ?s ?t ?z; (case F => k_asm); (case N => k_asm); (case l => assumption); (case p => omega); (case q => omega); (case s => with_unfolding_all rfl); (case t => kmk_pure); (case z => (rw [PySem.sizeLine_eq]; omega))); intro D' h' F' N' l1; (try k_lt l1); (try k_sweep)))
local macro_rules | `(tactic| walk_at "CompSrc") => `(tactic| (k_here; refine Mine.stop ?_))
local macro_rules | `(tactic| walk_at "CompSrcT") => `(tactic| (k_here; refine Mine.stop ?_))
local macro_rules | `(tactic| k_mem) => `(tactic| assumption)
local macro_rules | `(tactic| walk_at "execs cons") => `(tactic| ((with_reducible refine wpAny_execs_cons ?_); try dsimp only))
local macro_rules | `(tactic| walk_at "execs cons Assign cons") => `(tactic| (k_here; walk_at "execs cons"))
local macro_rules | `(tactic| k_all) => `(tactic| exact Mine.Off.mem (by assumption))
local macro_rules | `(tactic| walk_at "newList") => `(tactic| (k_here; k_dflt (refine' newList_K ?k1 ?k2 ?_; (case k1 => k_asm); (case k2 => k_asm); k_whole); intro l' h' F' N' l1; (try k_lt l1); (try k_sweep)))
set_option maxRecDepth 100000 in
set_option maxHeartbeats 8000000 in
theorem PySem.Challenge.cw_kn0091_10_holds : PySem.Challenge.rw_kn0091_10.Holds := by
  refine Mine.hd10 (by
  k_go0
  (all_goals try k_fold)
  rename ¬ ((_ : Nat) : Int) < _ => hle
  rename IntsAre _ _ => hI
  have hlv := hI.length
  have hpi := Mine.pd_ints hI
  have hl58 : 58 < 59 := by decide
  ktr_unf
  rename Fr _ _ _ _ => F9
  rename News _ _ _ _ => N9
  rename IsRange _ _ _ _ _ _ _ _ => hrg
  refine Mine.unstop (Mine.forT_step [Str.ofString "start", Str.ofString "part", Str.ofString "one", Str.ofString "weights", Str.ofString "farthest", Str.ofString "allowed", Str.ofString "reach", Str.ofString "place"] _
    (fun i u nw => Mine.TabL nw) rfl hrg (Mine.small_four (Mine.e_bounds _).1 (Mine.e_bounds _).2).1 (Mine.small_four (Mine.e_bounds _).1 (Mine.e_bounds _).2).2 F9 N9 (.inl rfl) ?_ ?_)
  · intro i t u TB I oI h tk hi hTB hoff0 F N
    simp only [Mine.over] at F
    clear F9 N9
    ktr_unf
    rename Fr _ _ _ _ => F5
    rename News _ _ _ _ => N5
    refine Mine.unstop (Mine.slice_p F5 N5 (by assumption) (by omega) (by omega) ?_ (by with_unfolding_all rfl) (by kmk_pure) (by rw [PySem.sizeLine_eq, List.size_toArray]; omega))
    intro D9 h9 F9 N9 l9
    have l9' := l9
    (try k_lt l9)
    clear F5 N5
    obtain ⟨part, hpp, hplen⟩ := Mine.part_of hpi (0 + (i : Int) * 4).toNat (0 + (i : Int) * 4 + 4 - (0 + (i : Int) * 4)).toNat (by omega)
    generalize (List.take _ (List.drop _ _) : List Value) = pvs at hpp N9
    have hpvl := Mine.pd_len hpp
    ktr_unf
    rename Fr _ _ _ _ => F5
    rename News _ _ _ _ => N5
    refine Mine.unstop (LCg.ListComp_U (F₀ := F5) (by with_unfolding_all rfl) (by decide) (by rfl) (by decide) (by rfl) ?_)
    ktr_unf
    obtain ⟨es, hes, N6, hE0, h58e, hm9⟩ := Mine.es_pack N5 l9' (by omega) (by omega) hoff0 hTB
    clear N5
    refine Mine.unstop (LCg.CompSrc.ledger rfl F5 N6 (List.mem_append_left _ hm9) (by rw [PySem.sizeLine_eq, List.size_toArray]; omega) ?_)
    intro g9
    refine Mine.comp_inv (fun i ys nw => Mine.JC10 es part i ys nw) ⟨[], TB, rfl, hTB, .nil, trivial, hE0⟩ ?_ ?_
    · intro j v ys nw I' oI' C oC D m₂ h tk E' hjn hv hJ hC hx F7 N7 off ne
      obtain ⟨R, TB', rfl, hTB', hR, h58, hE⟩ := hJ
      obtain ⟨a, ha, t, rfl⟩ := Mine.pd_at hpp j v (by simpa using hv)
      clear F5 N6
      ktr_unf
      rename Fr _ _ _ _ => F5
      rename News _ _ _ _ => N5
      have N6 := Mine.news_rot (es := (_ :: _ :: _ :: es)) N5
      refine Mine.unstop (Mine.rule10 rfl rfl (by assumption) F5 (by assumption) (by assumption) codeHd hTB' N6 (Mine.off58_comp off hTB' h58e h58) ?_)
      clear N5 N6
      intro h9 tk9 x9 new TB9 hTB9 F9 N9 hrule hoff hne ho58
      have N10 := Mine.news_back (es := (_ :: _ :: _ :: es)) N9
      ktr_unf
      refine Mine.unstop (Mine.cend [] F9 N10 (Mine.rule_comp off hoff) (.inr ⟨W.listOf _ _, List.mem_append_left _ hm9, rfl, _, rfl⟩) (Mine.jc_step ha hR h58 hE hTB9 hrule (fun A o hm => hoff A o (.tail _ (.tail _ (.tail _ (List.mem_append_left _ hm))))) ho58))
    · rintro ys nw ⟨R, TB', rfl, hTB', hR, h58, hE⟩
      subst hes
      clear F5 N6
      have hR' : Mine.Pd (Mine.RuleE R) (part.map Mine.spec) ys := by
        have e : part.take pvs.toArray.size = part := List.take_of_length_le (by rw [List.size_toArray]; omega)
        rw [e] at hR; exact hR
      clear hR
      have hyl := Mine.pd_len hR'
      rw [List.length_map] at hyl
      have ox := hE _ _ (.head _)
      have od := hE _ _ (.tail _ (.head _))
      have oD := hE _ _ (.tail _ (.tail _ (.head _)))
      have oI' := hE _ _ (.tail _ (.tail _ (.tail _ (.head _))))
      unfold LCg.FinE
      intro Dr hr8 tk8 F8 N8 o8
      have o8' := Mine.off1_off o8
      have oDr := Mine.Off.right (a := [_, _, _, _]) o8'
      simp only [LCg.Off1, List.cons_append, List.nil_append] at o8
      simp only [List.cons_append, List.nil_append] at N8
      dsimp only
      ktr_unf
      clear o8' hE hE0 h58e hm9
      rename Fr _ _ _ _ => F5
      rename News _ _ _ _ => N5
      refine Mine.unstop (LCt.ListComp_T (F₀ := F5) (by with_unfolding_all rfl) (by decide) (by rfl) (by decide) (by rfl) ?_)
      ktr_unf
      refine Mine.unstop (LCt.CompSrcT.ledger rfl F5 N5 (by k_mem) (by rw [PySem.sizeLine_eq, List.size_toArray]; omega) ?_)
      intro g8
      refine Mine.compT_pd Mine.IntV (fun x => decide (Int.fmod (Int.fdiv x 2) 5 > 0)) Mine.wgt hpp ?_ ?_
      · intro a v I9 oI9 C9 oC9 D8 yr9 m₂ h9 tk9 E' ha hF hyl9 hC hx F7 N7 off ne
        clear F5 N5
        obtain ⟨t, rfl⟩ := hF
        have off0 := off
        simp only [LCg.Off3] at off
        ktr_unf
        · refine Mine.unstop (Mine.cend [] (by assumption) (by assumption) off0 (.inr ⟨W.listOf _ _, by k_mem, rfl, _, rfl⟩) ⟨rfl, decide_eq_true (by assumption), _, rfl⟩)
        · refine Mine.unstop (Mine.cend [] (by assumption) (by assumption) off0 (.inr ⟨W.listOf _ _, by k_mem, rfl, _, rfl⟩) ⟨rfl, decide_eq_false (by assumption)⟩)
      · intro zs hz
        clear F5 N5
        have hzl := Mine.pd_len hz
        have hzl4 : zs.length ≤ 4 := by
          rw [← hzl, List.length_map]
          exact Nat.le_trans (List.length_filter_le _ _) hplen
        ktr_unf
        rename Fr _ _ _ _ => F5
        rename News _ _ _ _ => N5
        refine Mine.unstop (kso_max F5 N5 (Mine.is_l N5 (by k_mem)) (Mine.ints_pd (Mine.pd_app hz (.cons ⟨_, rfl⟩ .nil))) (by simp) rfl ?_)
        intro h7 M tM tk7 F7 N7 hM1 hM2
        clear F5 N5
        have hMw := Mine.max_of hM1 hM2
        clear hM1 hM2
        ktr_unf
        rename Fr _ _ _ _ => F5
        rename News _ _ _ _ => N5
        refine Mine.unstop (kso_max F5 N5 (Mine.is_l N5 (by k_mem)) (Mine.ints_pd (Mine.pd_app hz (.cons ⟨_, rfl⟩ .nil))) (by simp) rfl ?_)
        intro h7 M2 tM tk7 F7 N7 hM1 hM2
        clear F5 N5
        have hMw2 := Mine.max_of hM1 hM2
        clear hM1 hM2
        rw [hMw] at hMw2
        subst hMw2
        have N8 := Mine.news_tail (Mine.news_tail (Mine.news_tail N7))
        clear N7
        ktr_unf
        have hspn : ∀ r ∈ part.map Mine.spec, 0 ≤ r.1 ∧ r.1 ≤ 4 := fun r hr => by
          obtain ⟨x, _, rfl⟩ := List.mem_map.mp hr
          exact Mine.spec_nn x
        have hal := Mine.allow_max fun r hr => (hspn r hr).1
        rw [hMw] at hal
        obtain ⟨hM0, hM9⟩ := Mine.maxW_le hspn
        rw [hMw] at hM0 hM9
        rename Fr _ _ _ _ => F5
        rw [Mine.fm_odd, Mine.fd2] at F5
        by_cases hodd : M % 2 = 1
        · rw [decide_eq_true hodd] at hal F5
          rename News _ _ _ _ => N5
          refine Mine.unstop (Mine.allow10 (rs := part.map Mine.spec) rfl rfl (by assumption) F5 (by assumption) (by assumption) (InstAt.of_news N5 (by k_mem) (by k_mem)) (Mine.is_l N5 (by k_mem)) (Mine.pd_mono hR' fun _ _ _ h => Mine.rule_of N5 (fun p hp => .tail _ (.tail _ (.tail _ (.tail _ (.tail _ (List.mem_append_left _ hp)))))) h) (fun r hr => by have := hspn r hr; omega) ?_)
          intro h6 tk6 keep6
          obtain ⟨F6, N6⟩ := Mine.after_keep F5 N5 keep6
          clear F5 N5 keep6
          rw [hal]
          ktr_unf
          rename Fr _ _ _ _ => F5
          rename News _ _ _ _ => N5
          rename IsRange _ _ _ _ _ _ _ _ => hrg
          have hrlo : 1 ≤ (if M / 2 - 1 > 1 then M / 2 - 1 else 1) ∧ (if M / 2 - 1 > 1 then M / 2 - 1 else 1) ≤ 201 := by split <;> omega
          refine Mine.unstop (Mine.forT_rng [Str.ofString "reach", Str.ofString "place"] (fun _ u nw => Mine.JR10 [_, _, _, _] Dr ys R nw) rfl hrg (by omega) (by omega) F5 N5 ⟨TB', _, rfl, hTB', Mine.EOff.cons (Mine.EOff.cons (Mine.EOff.cons (Mine.EOff.cons (fun _ _ h => absurd h List.not_mem_nil) oI') oD) od) ox, oDr⟩ ?_ ?_)
          · intro j k t2 u2 nw I2 oI2 hh2 tk2 hk hk0 hk1 hJ hoff2 F N
            obtain ⟨TB2, c2, rfl, hTB2, hE2, oDr2⟩ := hJ
            have hk2 : 1 ≤ k := Int.le_trans hrlo.1 hk0
            clear hk0 hk
            simp only [Mine.over] at F
            have hoff2' := hoff2
            simp only [List.cons_append, List.nil_append] at N hoff2
            simp only [Mine.Off] at hoff2
            clear F5 N5 hrg
            ktr_unf
            rename Fr _ _ _ _ => F5
            rename News _ _ _ _ => N5
            rename IsRange _ _ _ _ _ _ _ _ => hrg
            have N6 := Mine.news_swap N5
            have fI2 := Mine.Off.right (a := [_, _, _, _, _]) hoff2'
            refine Mine.unstop (Mine.forT_rng [Str.ofString "place"] (fun _ u nw => Mine.JR10 [_, _, _, _, _] Dr ys R nw) rfl hrg (by omega) (by omega) F5 N6 ⟨TB2, c2, rfl, hTB2, Mine.EOff.cons hE2 fI2, oDr2⟩ ?_ ?_)
            · intro j3 q t3 u3 nw I3 oI3 hh3 tk3 hq hq0 hq1 hJ hoff3 F N
              obtain ⟨TB3, c3, rfl, hTB3, hE3, oDr3⟩ := hJ
              obtain ⟨pl, rfl⟩ : ∃ pl : Nat, q = (pl : Int) := ⟨q.toNat, by omega⟩
              have hpl : pl ≤ ys.length := by omega
              have hpl9 : ys.length ≤ 4 := by omega
              clear hq hq0 hq1
              simp only [Mine.over] at F
              have hoff3' := hoff3
              simp only [List.cons_append, List.nil_append] at N hoff3
              simp only [Mine.Off] at hoff3
              clear F5 N5 N6 hrg
              have fI3 := Mine.Off.right (a := [_, _, _, _, _, _]) hoff3'
              have hE4 := Mine.EOff.cons (o := oI3) (Mine.EOff.cons (o := W.listOf ys.toArray c3) hE3 oDr3) fI3
              ktr_unf
              rename Fr _ _ _ _ => F5
              rename News _ _ _ _ => N5
              have N6 := Mine.news_rot (es := [_, _, _, _, _, _, _]) (R := R) (TB := TB3) N5
              refine Mine.unstop (Mine.rule10 rfl rfl (by assumption) F5 (by assumption) (by assumption) codeHd hTB3 N6 (Mine.EOff.tab hE4 hTB3 h58) ?_)
              clear N5 N6
              intro h9 tk9 x1 new1 TB1 hTB1 F9 N9 hru1 hof1 hne1 h581
              have N10 := Mine.news_back (es := [_, _, _, _, _, _, _]) N9
              have hE1 := Mine.EOff.step hE4 hof1
              simp only [List.cons_append, List.nil_append] at N10
              clear F5 N9 hof1
              have oA := hE1 _ _ (.tail _ (.head _))
              clear hne1 hE4
              ktr_unf
              rename Fr _ _ _ _ => F5
              rename News _ _ _ _ => N5
              have hil := Mine.ins_len ys pl (.ref x1)
              refine Mine.unstop (Mine.insert_l (p := pl) F5 N5 (by k_upd) (by omega) hpl (by omega) ?_)
              intro h5 F4 N4
              clear F5 N5
              ktr_unf
              rename Fr _ _ _ _ => F5
              rename News _ _ _ _ => N5
              refine Mine.unstop (Mine.allow10 (rs := Mine.insAt (part.map Mine.spec) pl (k, false)) rfl rfl (by assumption) F5 (by assumption) (by assumption) (InstAt.of_news N5 (by k_mem) (by k_mem)) (Mine.is_l N5 (by k_mem)) (Mine.pd_mono (Mine.pd_ruleI hR' hru1) fun _ _ _ h => Mine.rule_of N5 (fun p hp => .tail _ (.tail _ (.tail _ (.tail _ (.tail _ (.tail _ (.tail _ (List.mem_append_left _ hp)))))))) h) (Mine.ins_bound hspn hk2 (by omega)) ?_)
              intro h6 tk6 keep6
              obtain ⟨F6, N6⟩ := Mine.after_keep F5 N5 keep6
              clear F5 N5 keep6
              rw [Mine.allow_insF (fun r hr => (hspn r hr).1) hk2, hMw, decide_eq_true hodd, Bool.true_and]
              ktr_unf
              · rename ((_ != _) = true) => e7
                exact absurd e7 (by simp)
              · have hE5 := Mine.EOff.set2 (o' := W.listOf (Mine.insAt ys pl (.ref x1)).toArray (c3 + 1)) hE1
                rename Fr _ _ _ _ => F5
                rename News _ _ _ _ => N5
                have N6 := Mine.news_rot (es := [_, _, _, _, _, _, _]) (R := new1 ++ R) (TB := TB1) N5
                refine Mine.unstop (Mine.rule10 rfl rfl (by assumption) F5 (by assumption) (by assumption) codeHd hTB1 N6 (Mine.EOff.tab hE5 hTB1 (Mine.Off.app h581 h58)) ?_)
                clear N5 N6
                intro h9 tk9 x2 new2 TB2 hTB2 F9 N9 hru2 hof2 hne2 h582
                have N10 := Mine.news_back (es := [_, _, _, _, _, _, _]) N9
                have hE2 := Mine.EOff.step hE5 hof2
                simp only [List.cons_append, List.nil_append] at N10
                clear F5 N9 hof2
                have oB := hE2 _ _ (.tail _ (.head _))
                clear hne2 hE5 hE1
                ktr_unf
                rename Fr _ _ _ _ => F5
                rename News _ _ _ _ => N5
                refine Mine.unstop (Mine.set_l (p := pl) F5 N5 (by k_upd) (by omega) (by omega) (by omega) ?_)
                rw [Mine.ins_set ys pl hpl]
                intro h5 F4 N4
                clear F5 N5
                ktr_unf
                rename Fr _ _ _ _ => F5
                rename News _ _ _ _ => N5
                refine Mine.unstop (Mine.allow10 (rs := Mine.insAt (part.map Mine.spec) pl (k, true)) rfl rfl (by assumption) F5 (by assumption) (by assumption) (InstAt.of_news N5 (by k_mem) (by k_mem)) (Mine.is_l N5 (by k_mem)) (Mine.pd_mono (Mine.pd_ruleI (Mine.pd_ruleW hR') hru2) fun _ _ _ h => Mine.rule_of N5 (fun p hp => .tail _ (.tail _ (.tail _ (.tail _ (.tail _ (.tail _ (.tail _ (List.mem_append_left _ hp)))))))) h) (Mine.ins_bound hspn hk2 (by omega)) ?_)
                intro h6 tk6 keep6
                obtain ⟨F6, N6⟩ := Mine.after_keep F5 N5 keep6
                clear F5 N5 keep6
                rw [Mine.allow_insT (fun r hr => (hspn r hr).1) hk2, hMw, decide_eq_true hodd, Bool.true_or]
                ktr_unf
                rename Fr _ _ _ _ => F5
                rename News _ _ _ _ => N5
                have hil2 := Mine.ins_len ys pl (.ref x2)
                refine Mine.unstop (Mine.del_l (p := pl) F5 N5 (by k_upd) (by omega) (by omega) (by omega) ?_)
                rw [Mine.ins_del ys pl hpl]
                intro h5 F4 N4
                clear F5 N5
                ktr_unf
                (try dsimp only [Mine.TurnPost])
                rename News _ _ _ _ => N7
                have N8 := Mine.news_drop1 (es := [_, _, _, _, _, _, _]) (Mine.news_drop1 (es := [_, _, _, _, _, _, _]) N7)
                have hE6 := Mine.EOff.drop (Mine.EOff.drop hE2)
                have fI4 := hE6 _ _ (.head _)
                refine Mine.TurnEnd.mk' [] (by assumption) N8 (And.intro hoff3.1 (And.intro hoff3.2.1 (And.intro hoff3.2.2.1 (And.intro hoff3.2.2.2.1 (And.intro hoff3.2.2.2.2.1 (And.intro hoff3.2.2.2.2.2.1 fI4)))))) ⟨fun z1 q1 => by
                  simp only [List.mem_cons, not_or, List.not_mem_nil, not_false_iff, and_true] at q1
                  have n1 := q1
                  simp only [if_neg n1], TB2, _, rfl, hTB2, hE6.tail1.tail1, hE6 _ _ (.tail _ (.head _))⟩
            · intro u3 nw3 h3 tk3 hJ F N
              obtain ⟨TB3, c3, rfl, hTB3, hE3, oDr3⟩ := hJ
              simp only [Mine.over] at F
              clear F5 N5 N6 hrg
              simp only [List.cons_append, List.nil_append] at N
              have N7 := Mine.news_swap N
              clear N
              dsimp only
              ktr_unf
              (try dsimp only [Mine.TurnPost])
              refine Mine.TurnEnd.mk' [] (by assumption) N7 ?_ ⟨fun z1 q1 => by
                simp only [List.mem_cons, not_or, List.not_mem_nil, not_false_iff, and_true] at q1
                obtain ⟨n1, n2⟩ := q1
                simp only [if_neg n1, if_neg n2], TB3, c3, rfl, hTB3, hE3.tail1, oDr3⟩
              have fI3 := hE3 _ _ (.head _)
              simp only [Mine.Off]
              exact ⟨hoff2.1, hoff2.2.1, hoff2.2.2.1, hoff2.2.2.2.1, hoff2.2.2.2.2.1, fI3⟩
          · intro u3 nw3 h3 tk3 hJ F N
            obtain ⟨TB3, c3, rfl, hTB3, hE3, oDr3⟩ := hJ
            simp only [Mine.over] at F
            clear F5 N5 hrg
            simp only [List.cons_append, List.nil_append] at N
            dsimp only
            ktr_unf
            rename Fr _ _ _ _ => F5
            rename News _ _ _ _ => N5
            refine Mine.unstop (Mine.allow10 (rs := part.map Mine.spec) rfl rfl (by assumption) F5 (by assumption) (by assumption) (InstAt.of_news N5 (by k_mem) (by k_mem)) (Mine.is_l N5 (by k_mem)) (Mine.pd_mono hR' fun _ _ _ h => Mine.rule_of N5 (fun p hp => .tail _ (.tail _ (.tail _ (.tail _ (.tail _ (List.mem_append_left _ hp)))))) h) (fun r hr => by have := hspn r hr; omega) ?_)
            intro h6 tk6 keep6
            obtain ⟨F6, N6⟩ := Mine.after_keep F5 N5 keep6
            clear F5 N5 keep6
            rw [hal]
            ktr_unf
            (try dsimp only [Mine.TurnPost])
            rename News _ _ _ _ => N7
            have N8 := Mine.news_dropR (es := [_, _, _, _, _]) N7
            refine Mine.TurnEnd.mk' [_, _, _, _] (by assumption) N8 (hE3 _ _ (.tail _ (.tail _ (.tail _ (.head _))))).right ⟨fun z1 q1 => by
              simp only [List.mem_cons, not_or, List.not_mem_nil, not_false_iff, and_true] at q1
              obtain ⟨n1, n2, n3, n4, n5, n6, n7, n8⟩ := q1
              simp only [if_neg n1, if_neg n2, if_neg n3, if_neg n4, if_neg n5, if_neg n6, if_neg n7, if_neg n8], hTB3⟩
        · rw [decide_eq_false hodd] at hal F5
          rename News _ _ _ _ => N5
          refine Mine.unstop (Mine.allow10 (rs := part.map Mine.spec) rfl rfl (by assumption) F5 (by assumption) (by assumption) (InstAt.of_news N5 (by k_mem) (by k_mem)) (Mine.is_l N5 (by k_mem)) (Mine.pd_mono hR' fun _ _ _ h => Mine.rule_of N5 (fun p hp => .tail _ (.tail _ (.tail _ (.tail _ (.tail _ (List.mem_append_left _ hp)))))) h) (fun r hr => by have := hspn r hr; omega) ?_)
          intro h6 tk6 keep6
          obtain ⟨F6, N6⟩ := Mine.after_keep F5 N5 keep6
          clear F5 N5 keep6
          rw [hal]
          ktr_unf
          rename Fr _ _ _ _ => F5
          rename News _ _ _ _ => N5
          rename IsRange _ _ _ _ _ _ _ _ => hrg
          have hrlo : 1 ≤ (if M / 2 - 1 > 1 then M / 2 - 1 else 1) ∧ (if M / 2 - 1 > 1 then M / 2 - 1 else 1) ≤ 201 := by split <;> omega
          refine Mine.unstop (Mine.forT_rng [Str.ofString "reach", Str.ofString "place"] (fun _ u nw => Mine.JR10 [_, _, _, _] Dr ys R nw) rfl hrg (by omega) (by omega) F5 N5 ⟨TB', _, rfl, hTB', Mine.EOff.cons (Mine.EOff.cons (Mine.EOff.cons (Mine.EOff.cons (fun _ _ h => absurd h List.not_mem_nil) oI') oD) od) ox, oDr⟩ ?_ ?_)
          · intro j k t2 u2 nw I2 oI2 hh2 tk2 hk hk0 hk1 hJ hoff2 F N
            obtain ⟨TB2, c2, rfl, hTB2, hE2, oDr2⟩ := hJ
            have hk2 : 1 ≤ k := Int.le_trans hrlo.1 hk0
            clear hk0 hk
            simp only [Mine.over] at F
            have hoff2' := hoff2
            simp only [List.cons_append, List.nil_append] at N hoff2
            simp only [Mine.Off] at hoff2
            clear F5 N5 hrg
            ktr_unf
            rename Fr _ _ _ _ => F5
            rename News _ _ _ _ => N5
            rename IsRange _ _ _ _ _ _ _ _ => hrg
            have N6 := Mine.news_swap N5
            have fI2 := Mine.Off.right (a := [_, _, _, _, _]) hoff2'
            refine Mine.unstop (Mine.forT_rng [Str.ofString "place"] (fun _ u nw => Mine.JR10 [_, _, _, _, _] Dr ys R nw) rfl hrg (by omega) (by omega) F5 N6 ⟨TB2, c2, rfl, hTB2, Mine.EOff.cons hE2 fI2, oDr2⟩ ?_ ?_)
            · intro j3 q t3 u3 nw I3 oI3 hh3 tk3 hq hq0 hq1 hJ hoff3 F N
              obtain ⟨TB3, c3, rfl, hTB3, hE3, oDr3⟩ := hJ
              obtain ⟨pl, rfl⟩ : ∃ pl : Nat, q = (pl : Int) := ⟨q.toNat, by omega⟩
              have hpl : pl ≤ ys.length := by omega
              have hpl9 : ys.length ≤ 4 := by omega
              clear hq hq0 hq1
              simp only [Mine.over] at F
              have hoff3' := hoff3
              simp only [List.cons_append, List.nil_append] at N hoff3
              simp only [Mine.Off] at hoff3
              clear F5 N5 N6 hrg
              have fI3 := Mine.Off.right (a := [_, _, _, _, _, _]) hoff3'
              have hE4 := Mine.EOff.cons (o := oI3) (Mine.EOff.cons (o := W.listOf ys.toArray c3) hE3 oDr3) fI3
              ktr_unf
              rename Fr _ _ _ _ => F5
              rename News _ _ _ _ => N5
              have N6 := Mine.news_rot (es := [_, _, _, _, _, _, _]) (R := R) (TB := TB3) N5
              refine Mine.unstop (Mine.rule10 rfl rfl (by assumption) F5 (by assumption) (by assumption) codeHd hTB3 N6 (Mine.EOff.tab hE4 hTB3 h58) ?_)
              clear N5 N6
              intro h9 tk9 x1 new1 TB1 hTB1 F9 N9 hru1 hof1 hne1 h581
              have N10 := Mine.news_back (es := [_, _, _, _, _, _, _]) N9
              have hE1 := Mine.EOff.step hE4 hof1
              simp only [List.cons_append, List.nil_append] at N10
              clear F5 N9 hof1
              have oA := hE1 _ _ (.tail _ (.head _))
              clear hne1 hE4
              ktr_unf
              rename Fr _ _ _ _ => F5
              rename News _ _ _ _ => N5
              have hil := Mine.ins_len ys pl (.ref x1)
              refine Mine.unstop (Mine.insert_l (p := pl) F5 N5 (by k_upd) (by omega) hpl (by omega) ?_)
              intro h5 F4 N4
              clear F5 N5
              ktr_unf
              rename Fr _ _ _ _ => F5
              rename News _ _ _ _ => N5
              refine Mine.unstop (Mine.allow10 (rs := Mine.insAt (part.map Mine.spec) pl (k, false)) rfl rfl (by assumption) F5 (by assumption) (by assumption) (InstAt.of_news N5 (by k_mem) (by k_mem)) (Mine.is_l N5 (by k_mem)) (Mine.pd_mono (Mine.pd_ruleI hR' hru1) fun _ _ _ h => Mine.rule_of N5 (fun p hp => .tail _ (.tail _ (.tail _ (.tail _ (.tail _ (.tail _ (.tail _ (List.mem_append_left _ hp)))))))) h) (Mine.ins_bound hspn hk2 (by omega)) ?_)
              intro h6 tk6 keep6
              obtain ⟨F6, N6⟩ := Mine.after_keep F5 N5 keep6
              clear F5 N5 keep6
              rw [Mine.allow_insF (fun r hr => (hspn r hr).1) hk2, hMw, decide_eq_false hodd, Bool.false_and]
              ktr_unf
              have hE5 := Mine.EOff.set2 (o' := W.listOf (Mine.insAt ys pl (.ref x1)).toArray (c3 + 1)) hE1
              rename Fr _ _ _ _ => F5
              rename News _ _ _ _ => N5
              have N6 := Mine.news_rot (es := [_, _, _, _, _, _, _]) (R := new1 ++ R) (TB := TB1) N5
              refine Mine.unstop (Mine.rule10 rfl rfl (by assumption) F5 (by assumption) (by assumption) codeHd hTB1 N6 (Mine.EOff.tab hE5 hTB1 (Mine.Off.app h581 h58)) ?_)
              clear N5 N6
              intro h9 tk9 x2 new2 TB2 hTB2 F9 N9 hru2 hof2 hne2 h582
              have N10 := Mine.news_back (es := [_, _, _, _, _, _, _]) N9
              have hE2 := Mine.EOff.step hE5 hof2
              simp only [List.cons_append, List.nil_append] at N10
              clear F5 N9 hof2
              have oB := hE2 _ _ (.tail _ (.head _))
              clear hne2 hE5 hE1
              ktr_unf
              rename Fr _ _ _ _ => F5
              rename News _ _ _ _ => N5
              refine Mine.unstop (Mine.set_l (p := pl) F5 N5 (by k_upd) (by omega) (by omega) (by omega) ?_)
              rw [Mine.ins_set ys pl hpl]
              intro h5 F4 N4
              clear F5 N5
              ktr_unf
              rename Fr _ _ _ _ => F5
              rename News _ _ _ _ => N5
              refine Mine.unstop (Mine.allow10 (rs := Mine.insAt (part.map Mine.spec) pl (k, true)) rfl rfl (by assumption) F5 (by assumption) (by assumption) (InstAt.of_news N5 (by k_mem) (by k_mem)) (Mine.is_l N5 (by k_mem)) (Mine.pd_mono (Mine.pd_ruleI (Mine.pd_ruleW hR') hru2) fun _ _ _ h => Mine.rule_of N5 (fun p hp => .tail _ (.tail _ (.tail _ (.tail _ (.tail _ (.tail _ (.tail _ (List.mem_append_left _ hp)))))))) h) (Mine.ins_bound hspn hk2 (by omega)) ?_)
              intro h6 tk6 keep6
              obtain ⟨F6, N6⟩ := Mine.after_keep F5 N5 keep6
              clear F5 N5 keep6
              rw [Mine.allow_insT (fun r hr => (hspn r hr).1) hk2, hMw, decide_eq_false hodd, Bool.false_or]
              ktr_unf
              · rename ((_ != _) = true) => e7
                exact absurd e7 (by simp)
              · rename Fr _ _ _ _ => F5
                rename News _ _ _ _ => N5
                have hil2 := Mine.ins_len ys pl (.ref x2)
                refine Mine.unstop (Mine.del_l (p := pl) F5 N5 (by k_upd) (by omega) (by omega) (by omega) ?_)
                rw [Mine.ins_del ys pl hpl]
                intro h5 F4 N4
                clear F5 N5
                ktr_unf
                (try dsimp only [Mine.TurnPost])
                rename News _ _ _ _ => N7
                have N8 := Mine.news_drop1 (es := [_, _, _, _, _, _, _]) (Mine.news_drop1 (es := [_, _, _, _, _, _, _]) N7)
                have hE6 := Mine.EOff.drop (Mine.EOff.drop hE2)
                have fI4 := hE6 _ _ (.head _)
                refine Mine.TurnEnd.mk' [] (by assumption) N8 (And.intro hoff3.1 (And.intro hoff3.2.1 (And.intro hoff3.2.2.1 (And.intro hoff3.2.2.2.1 (And.intro hoff3.2.2.2.2.1 (And.intro hoff3.2.2.2.2.2.1 fI4)))))) ⟨fun z1 q1 => by
                  simp only [List.mem_cons, not_or, List.not_mem_nil, not_false_iff, and_true] at q1
                  have n1 := q1
                  simp only [if_neg n1], TB2, _, rfl, hTB2, hE6.tail1.tail1, hE6 _ _ (.tail _ (.head _))⟩
            · intro u3 nw3 h3 tk3 hJ F N
              obtain ⟨TB3, c3, rfl, hTB3, hE3, oDr3⟩ := hJ
              simp only [Mine.over] at F
              clear F5 N5 N6 hrg
              simp only [List.cons_append, List.nil_append] at N
              have N7 := Mine.news_swap N
              clear N
              dsimp only
              ktr_unf
              (try dsimp only [Mine.TurnPost])
              refine Mine.TurnEnd.mk' [] (by assumption) N7 ?_ ⟨fun z1 q1 => by
                simp only [List.mem_cons, not_or, List.not_mem_nil, not_false_iff, and_true] at q1
                obtain ⟨n1, n2⟩ := q1
                simp only [if_neg n1, if_neg n2], TB3, c3, rfl, hTB3, hE3.tail1, oDr3⟩
              have fI3 := hE3 _ _ (.head _)
              simp only [Mine.Off]
              exact ⟨hoff2.1, hoff2.2.1, hoff2.2.2.1, hoff2.2.2.2.1, hoff2.2.2.2.2.1, fI3⟩
          · intro u3 nw3 h3 tk3 hJ F N
            obtain ⟨TB3, c3, rfl, hTB3, hE3, oDr3⟩ := hJ
            simp only [Mine.over] at F
            clear F5 N5 hrg
            simp only [List.cons_append, List.nil_append] at N
            dsimp only
            ktr_unf
            rename Fr _ _ _ _ => F5
            rename News _ _ _ _ => N5
            refine Mine.unstop (Mine.allow10 (rs := part.map Mine.spec) rfl rfl (by assumption) F5 (by assumption) (by assumption) (InstAt.of_news N5 (by k_mem) (by k_mem)) (Mine.is_l N5 (by k_mem)) (Mine.pd_mono hR' fun _ _ _ h => Mine.rule_of N5 (fun p hp => .tail _ (.tail _ (.tail _ (.tail _ (.tail _ (List.mem_append_left _ hp)))))) h) (fun r hr => by have := hspn r hr; omega) ?_)
            intro h6 tk6 keep6
            obtain ⟨F6, N6⟩ := Mine.after_keep F5 N5 keep6
            clear F5 N5 keep6
            rw [hal]
            ktr_unf
            (try dsimp only [Mine.TurnPost])
            rename News _ _ _ _ => N7
            have N8 := Mine.news_dropR (es := [_, _, _, _, _]) N7
            refine Mine.TurnEnd.mk' [_, _, _, _] (by assumption) N8 (hE3 _ _ (.tail _ (.tail _ (.tail _ (.head _))))).right ⟨fun z1 q1 => by
              simp only [List.mem_cons, not_or, List.not_mem_nil, not_false_iff, and_true] at q1
              obtain ⟨n1, n2, n3, n4, n5, n6, n7, n8⟩ := q1
              simp only [if_neg n1, if_neg n2, if_neg n3, if_neg n4, if_neg n5, if_neg n6, if_neg n7, if_neg n8], hTB3⟩
  · intro u TB h tk hTB F N
    simp only [Mine.over] at F
    dsimp only
    rcases hTB with rfl | ⟨c', oc, rfl, hcn, hoc⟩
    · ktr_unf
      all_goals (k_end; kc_close)
    · ktr_unf
      all_goals (k_end; kc_close)
)
end
