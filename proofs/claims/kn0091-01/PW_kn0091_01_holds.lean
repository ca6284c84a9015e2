import PyProof.Rows.All
import Wide.All
import OpenK.AllK
import Wide.FinOn
import PySem.Challenge.RW_kn0091_01
open PySem PySem.W PyProof.Rows
set_option Elab.async false
section
set_option maxRecDepth 100000 in
set_option maxHeartbeats 8000000 in
open_top Mine.hd01 for PySem.Challenge.rw_kn0091_01
end
section
namespace Mine
open PySem.Calls PySem.Spec

def Stop (P : Prop) : Prop := P
theorem stop {P : Prop} (h : Stop P) : P := h
theorem unstop {P : Prop} (h : P) : Stop P := h

/-- no entry of the ledger stands at I -/
def Off (I : Addr) : List (Addr × Obj) → Prop
  | [] => True
  | p :: r => (@Ne Nat p.1 I) ∧ Off I r
theorem Off.mem {I : Addr} : ∀ {l : List (Addr × Obj)}, Off I l → ∀ p ∈ l, p.1 ≠ I
  | [], _, _, h => nomatch h
  | _ :: _, x, p, h => by
    rcases List.mem_cons.mp h with rfl | h
    · exact x.1
    · exact Off.mem x.2 p h
theorem Off.of {I : Addr} : ∀ {l : List (Addr × Obj)}, (∀ p ∈ l, p.1 ≠ I) → Off I l
  | [], _ => trivial
  | _ :: _, h => ⟨h _ List.mem_cons_self, Off.of fun p hp => h p (List.mem_cons_of_mem _ hp)⟩

section
variable {prog : Program} {w : World} {A : Around} {E : Value → Shared → Prop} {s : Shared} {env : Env} {h₀ : Heap} {x : Str} {body : List Stmt} {Q : Flow → Shared → Prop}

def TurnEnd (h₀ : Heap) (L I : Addr) (oI : Obj) (J : (Str → Option Value) → List (Addr × Obj) → Prop) (s₁ s₂ : Shared) : Prop :=
  ∃ h' tk m' nx, s₂ = { s₁ with heap := h', toks := tk } ∧ Fr h₀ L h' m' ∧ News h₀ L h' ((I, oI) :: nx) ∧ Off I nx ∧ J m' nx
def TurnPost (h₀ : Heap) (L I : Addr) (oI : Obj) (J : (Str → Option Value) → List (Addr × Obj) → Prop) (s₁ : Shared) (Q : Flow → Shared → Prop) (f : Flow) (s₂ : Shared) : Prop :=
  match f with
  | .ret v => Q (.ret v) s₂
  | .brk => Q .next s₂
  | .next => TurnEnd h₀ L I oI J s₁ s₂
  | .cont => TurnEnd h₀ L I oI J s₁ s₂

end

section
open LCg
variable {prog : Program} {w : World} {A : Around} {h₀ : Heap} {L : Addr} {m : Str → Option Value} {env : Env} {ct elt : Expr} {x : Str} {scope : Scope} {cl : List (Str × Addr)} {s : Shared} {S : List (Addr × Obj) → Prop} {P : Nat → Value → Prop} {Fin : List Value → List (Addr × Obj) → Prop} {news : List (Addr × Obj)}

/-- a comprehension without a test, by an invariant -/
theorem comp_inv {n : Nat} (J : Nat → List Value → List (Addr × Obj) → Prop) (h0 : J 0 [] news)
    (turn : ∀ i v ys nw I oI C oC D m₂ h tk (E' : Value → Shared → Prop), i < n → P i v → J i ys nw → NsObj oC m₂ → m₂ x = some v → Fr h₀ L h m → News h₀ L h ((I, oI) :: (C, oC) :: (D, lst ys) :: nw) → Off3 I C D nw → ((@Ne Nat I C) ∧ (@Ne Nat I D) ∧ (@Ne Nat C D)) →
      wpAny (model prog w) A (eval elt (compEnvC scope cl C env)) (CompEnd h₀ L m { s with heap := h, toks := tk } I oI C oC D (lst ys) S (fun y nw' => J (i + 1) (ys ++ [y]) nw')) E' { s with heap := h, toks := tk })
    (fin : ∀ ys nw, J n ys nw → Fin ys nw) : CompRest prog w A h₀ L m env elt x scope cl s S P Fin n 0 [] news := by
  have key : ∀ (j i : Nat) (ys : List Value) (nw : List (Addr × Obj)), i + j = n → J i ys nw → CompRest prog w A h₀ L m env elt x scope cl s S P Fin j i ys nw := by
    intro j
    induction j with
    | zero => intro i ys nw e hj; obtain rfl : i = n := by omega
              exact fin ys nw hj
    | succ j ih =>
      intro i ys nw e hj v I oI C oC D m₂ h tk E' hP hC hx F N off ne
      refine wpAny_mono (turn i v ys nw I oI C oC D m₂ h tk E' (by omega) hP hj hC hx F N off ne) (fun y s₂ hq => ?_) fun _ _ e => e
      obtain ⟨h', tk', nw', e', F', N', off', hS, hj'⟩ := hq
      exact ⟨h', tk', nw', e', F', N', off', hS, ih (i + 1) _ _ (by omega) hj'⟩
  exact key n 0 [] news (by omega) h0

end

/-! lists of values by what they stand for -/
abbrev Pd {α : Type} (F : α → Value → Prop) (as : List α) (vs : List Value) : Prop := PySem.Paired F as vs
theorem pd_len {α : Type} {F : α → Value → Prop} {as : List α} {vs : List Value} (h : Pd F as vs) : as.length = vs.length := PySem.Paired.length h
theorem pd_at {α : Type} {F : α → Value → Prop} : ∀ {as : List α} {vs : List Value}, Pd F as vs → ∀ (i : Nat) (v : Value), vs[i]? = some v → ∃ a, as[i]? = some a ∧ F a v
  | _, _, .nil, i, v, h => by simp at h
  | _, _, .cons h₁ t, 0, v, h => by simp at h; subst h; exact ⟨_, by simp, h₁⟩
  | _, _, .cons h₁ t, i + 1, v, h => by simp at h; obtain ⟨a, e, f⟩ := pd_at t i v h; exact ⟨a, by simpa using e, f⟩
theorem pd_get {α : Type} {F : α → Value → Prop} : ∀ {as : List α} {vs : List Value}, Pd F as vs → ∀ (i : Nat) (a : α), as[i]? = some a → ∃ v, vs[i]? = some v ∧ F a v
  | _, _, .nil, i, v, h => by simp at h
  | _, _, .cons h₁ t, 0, v, h => by simp at h; subst h; exact ⟨_, by simp, h₁⟩
  | _, _, .cons h₁ t, i + 1, v, h => by simp at h; obtain ⟨a, e, f⟩ := pd_get t i v h; exact ⟨a, by simpa using e, f⟩
def IntV (n : Int) (v : Value) : Prop := ∃ t, v = .int n t
def StrV (x : Str) (v : Value) : Prop := ∃ t, v = .str x t
theorem pd_ints : ∀ {vs : List Value} {ns : List Int}, IntsAre vs ns → Pd IntV ns vs
  | _, _, .nil => .nil
  | _, _, .cons n t h => .cons ⟨t, rfl⟩ (pd_ints h)
section
open LCg
variable {prog : Program} {w : World} {A : Around} {h₀ : Heap} {L : Addr} {m : Str → Option Value} {env : Env} {ct elt : Expr} {x : Str} {scope : Scope} {cl : List (Str × Addr)} {s : Shared} {S : List (Addr × Obj) → Prop} {Fin : List Value → List (Addr × Obj) → Prop} {news : List (Addr × Obj)}

/-- a comprehension over a list that leaves the ledger as it was, item by item -/
theorem comp_pd {α β : Type} {F : α → Value → Prop} (G : β → Value → Prop) (f : α → β) {as : List α} {its : Array Value} (hi : Pd F as its.toList)
    (turn : ∀ a v I oI C oC D ys m₂ h tk (E' : Value → Shared → Prop), a ∈ as → F a v → ys.length ≤ as.length → NsObj oC m₂ → m₂ x = some v → Fr h₀ L h m → News h₀ L h ((I, oI) :: (C, oC) :: (D, lst ys) :: news) → Off3 I C D news → ((@Ne Nat I C) ∧ (@Ne Nat I D) ∧ (@Ne Nat C D)) →
      wpAny (model prog w) A (eval elt (compEnvC scope cl C env)) (CompEnd h₀ L m { s with heap := h, toks := tk } I oI C oC D (lst ys) S (fun y nw' => nw' = news ∧ G (f a) y)) E' { s with heap := h, toks := tk })
    (fin : ∀ ys, Pd G (as.map f) ys → Fin ys news) : CompRest prog w A h₀ L m env elt x scope cl s S (fun i v => its[i]? = some v) Fin its.size 0 [] news := by
  have hl := pd_len hi
  refine comp_inv (fun i ys nw => nw = news ∧ Pd G ((as.take i).map f) ys) ⟨rfl, by simp; exact .nil⟩ ?_ ?_
  · intro i v ys nw I oI C oC D m₂ h tk E' hin hP hJ hC hx F' N off ne
    obtain ⟨rfl, hy⟩ := hJ
    obtain ⟨a, ha, hF⟩ := pd_at hi i v (by simpa using hP)
    have hyl := pd_len hy
    refine wpAny_mono (turn a v I oI C oC D ys m₂ h tk E' (List.mem_of_getElem? ha) hF (by rw [← hyl]; simp; omega) hC hx F' N off ne) (fun y s₂ hq => ?_) fun _ _ e => e
    obtain ⟨h', tk', nw', e', F₂, N₂, off', hS, hn, hg⟩ := hq
    refine ⟨h', tk', nw', e', F₂, N₂, off', hS, hn, ?_⟩
    rw [List.take_add_one, ha, List.map_append]
    exact PySem.Paired.snoc hy hg
  · rintro ys nw ⟨rfl, hy⟩
    refine fin ys ?_
    have : as.take its.size = as := by rw [List.take_of_length_le]; simp at hl; omega
    rwa [this] at hy

end

/-! a call whose body leaves all that stood as it stood: the whole heap is its ground -/
def LeaveB (g : Heap) (R : Result → Shared → Prop) (v : Value) (s' : Shared) : Prop := ∃ L' m', Fr g L' s'.heap m' ∧ R (.ok (.ret v)) s'
theorem LeaveB.intro {g : Heap} {R : Result → Shared → Prop} {v : Value} {s' : Shared} {L' : Addr} {m' : Str → Option Value} (F : Fr g L' s'.heap m') (h : R (.ok (.ret v)) s') : LeaveB g R v s' := ⟨L', m', F, h⟩
section
variable {prog : Program} {w : World} {A A₀ : Around} {s : Shared} {K : Frag} {L : Addr} {h₀ base : Heap} {m mg mb : Str → Option Value} {p : Program} {loose : List Str} {mean : ExcName → Option Value}

theorem code_base {env : Env} {outer : List Env} {R : Result → Shared → Prop} {name qual : Str} {params : Arguments} {body : List Stmt} {scope : Scope} {dV kV doc pm cdv ct oc : Value} {an od : Option Addr} {osl : Array (Option Value)} {f : Addr} {args : Args} {binds : List (Str × Value)}
    (B : Below A₀ base outer h₀) (F : Fr h₀ L s.heap m) (X₀ : K.In h₀) (T : Top p loose mean mg mb h₀) (hA : A.frames = some (env :: outer)) (hf : env.frame = some L) (hke : env.scope.kind = .function)
    (ho : K.lookup f = some ⟨oc, od, .func (fnOf name qual params body scope dV kV doc pm an cdv ct), osl⟩) (hcd : codeIn K cdv qual = true) (hroom : A.depth < recursionLimit)
    (hbind : BindsTo s (fnOf name qual params body scope dV kV doc pm an cdv ct) args binds) (hloc : ∀ y ∈ binds, scope.names.lookup y.1 = some .local)
    (h : ∀ L' h₁, Fr s.heap L' h₁ (fun y => binds.reverse.lookup y) → News s.heap L' h₁ [] → Below A base (env :: outer) s.heap → K.In s.heap → Top p loose mean mg mb s.heap →
      wpAny (model prog w) (A.deeper (envOf qual scope L' f cdv)) (execs body (envOf qual scope L' f cdv))
        (fun fl s' => LeaveB s.heap R (match fl with | .ret v => v | _ => .none) s')
        (fun e s' => wpAny (model prog w) (A.deeper (envOf qual scope L' f cdv)) (leaving (envOf qual scope L' f cdv) e) (fun _ s'' => R (.error e) s'') (fun e' s'' => R (.error e') s'') s')
        { s with heap := h₁, toks := s.toks + binds.length })
    (hco : scope.isCoroutine = false := by rfl) (hgen : scope.isGenerator = false := by rfl) (hk : scope.kind = .function := by rfl)
    (hcell : ∀ x ∈ scope.names, x.2 ≠ .cell := by decide) : codeAny (model prog w) A (.call (.ref f) args) R s := by
  obtain ⟨FG, BG, st, lv⟩ := groundX (R := R) B F (News.nil (h₀ := h₀) (L := L) (h := s.heap)) hA hf hke
  refine codeAny_call_def (fd := fnOf name qual params body scope dV kV doc pm an cdv ct) (body := body) (binds := binds) hroom ((X₀.keeps F.keep) _ _ ho) rfl (T.nolimit.keeps F.keep) (codeRec_of (X₀.keeps F.keep) hcd) rfl hbind hcell hloc (fun h₁ hns hk₁ => ?_) hco hgen hk
  exact wpAny_mono (h s.heap.objs.size h₁ ⟨hns, hk₁, Nat.le_refl _⟩ News.nil BG (X₀.keeps F.keep) (T.keeps F.keep)) (fun fl s' ⟨_, _, _, hr⟩ => hr) fun _ _ y => y
end

/-! the frame's map between turns: the stored names by u, all else by m₀ -/
def over (u m₀ : Str → Option Value) : List Str → Str → Option Value
  | [], y => m₀ y
  | a :: r, y => if y = a then u a else over u m₀ r y
theorem over_in {u m₀ : Str → Option Value} : ∀ {l : List Str} {y : Str}, (y ∉ l → u y = m₀ y) → over u m₀ l y = u y
  | [], y, h => (h List.not_mem_nil).symm
  | a :: r, y, h => by
    unfold over
    by_cases e : y = a
    · rw [if_pos e, e]
    · rw [if_neg e]
      exact over_in fun hn => h fun hm => (List.mem_cons.mp hm).elim e hn
section
variable {prog : Program} {w : World} {A : Around} {E : Value → Shared → Prop} {s : Shared} {env : Env} {h₀ : Heap} {x : Str} {body : List Stmt} {Q : Flow → Shared → Prop}
end

/-- a turn's end: what the turn has made and dropped stands ahead (ext) -/
theorem TurnEnd.mk' {h₀ : Heap} {L I : Addr} {oI : Obj} {J : (Str → Option Value) → List (Addr × Obj) → Prop} {s₁ : Shared} {h' : Heap} {tk : Nat} {m' : Str → Option Value} (ext : List (Addr × Obj)) {nx : List (Addr × Obj)}
    (F : Fr h₀ L h' m') (N : News h₀ L h' (ext ++ (I, oI) :: nx)) (off : Off I nx) (hj : J m' nx) :
    TurnEnd h₀ L I oI J s₁ { s₁ with heap := h', toks := tk } := ⟨h', tk, m', nx, rfl, F, fun p hp => N p (List.mem_append_right _ hp), off, hj⟩

section
variable {prog : Program} {w : World} {A : Around} {E : Value → Shared → Prop} {s : Shared} {env : Env} {h₀ : Heap} {x : Str} {body : List Stmt} {Q : Flow → Shared → Prop}
theorem take_split {α : Type} {as : List α} {i : Nat} {a : α} (h : as[i]? = some a) : as = as.take i ++ a :: as.drop (i + 1) := by
  have hi : i < as.length := by
    rcases Nat.lt_or_ge i as.length with q | q
    · exact q
    · rw [List.getElem?_eq_none q] at h; cases h
  have : as[i] = a := by rw [List.getElem?_eq_getElem hi] at h; exact Option.some.inj h
  rw [← this, ← List.drop_eq_getElem_cons hi, List.take_append_drop]
theorem take_next {α : Type} {as : List α} {i : Nat} {a : α} (h : as[i]? = some a) : as.take (i + 1) = as.take i ++ [a] := by rw [List.take_add_one, h]; rfl

end

section
variable {prog : Program} {w : World} {A : Around} {E : Value → Shared → Prop} {s : Shared} {h₀ : Heap} {L D : Addr} {m : Str → Option Value} {news news' : List (Addr × Obj)} {n : Nat} {k : Int} {t : Tok}
theorem get_at {its : Array Value} {v : Value} {Q : Value → Shared → Prop} (hl : s.heap.IsList D its) (h0 : 0 ≤ k) (hfit : k < 2 ^ 63) (hx : its[k.toNat]? = some v) (h : Q v s) :
    wpAny (model prog w) A (getItem (.ref D) (.int k t)) Q E s := wpAny_getItem_list hl h0 hfit hx h
theorem tail_at {value slice : PySem.Expr} {its : Array Value} {v : Value} {Q : Value → Shared → Prop} (hl : s.heap.IsList D its) (h0 : 0 ≤ k) (hfit : k < 2 ^ 63) (hx : its[k.toNat]? = some v) (h : Q v s)
    (hs : subscripted slice false (.ref D) (.int k t) = operate [.ref D, .int k t] (getItem (.ref D) (.int k t)) := by with_unfolding_all rfl) :
    wpAny (model prog w) A (subscriptTail value slice (.ref D) (.int k t)) Q E s :=
  tail_any hl.typeIs slot_list_getitem.lookup (get_at hl h0 hfit hx h) hs
end

section
variable {prog : Program} {w : World} {A : Around} {E : Value → Shared → Prop} {s : Shared} {h₀ : Heap} {L D : Addr} {m : Str → Option Value} {news news' : List (Addr × Obj)} {n : Nat}
theorem append_l {zs : List Value} {x : Value} {Q : Value → Shared → Prop} (F : Fr h₀ L s.heap m) (N : News h₀ L s.heap news) (U : Upd D (listOf zs.toArray n) (listOf (zs ++ [x]).toArray (n + 1)) news news')
    (h : ∀ h', Fr h₀ L h' m → News h₀ L h' news' → Q .none { s with heap := h' }) (hsz : zs.length ≤ sizeLine) : wpAny (model prog w) A (call (.builtin "list.append") [.ref D, x]) Q E s :=
  append_K F N (by rw [List.push_toArray]; exact U) h (by rw [List.size_toArray]; exact hsz)
end

section
variable {prog : Program} {w : World} {A : Around} {E : Value → Shared → Prop} {s : Shared} {h₀ : Heap} {L D a b l : Addr} {m : Str → Option Value} {news news' : List (Addr × Obj)} {n k : Nat} {xs zs : List Value} {Q : Value → Shared → Prop}
theorem is_l (N : News h₀ L s.heap news) (ha : (a, listOf xs.toArray n) ∈ news) : s.heap.IsList a xs.toArray := PySem.IsL.isList (n := n) (N _ ha).1
theorem pick_from (xs : List Value) (j : Nat) : kms_pick xs (some (j : Int)) none = xs.drop j := by
  unfold kms_pick kms_lo kms_hi
  have : ¬ ((j : Int) < 0) := by omega
  simp only [this, if_false, Int.toNat_natCast]
  rcases Nat.le_total j xs.length with q | q
  · rw [Nat.min_eq_left q, List.take_of_length_le (by simp)]
  · rw [Nat.min_eq_right q, List.drop_eq_nil_of_le (Nat.le_refl _), List.drop_eq_nil_of_le q]; simp
end

section
variable {prog : Program} {w : World} {A : Around} {E : Value → Shared → Prop} {s : Shared} {env : Env} {h₀ : Heap} {x : Str} {body : List Stmt} {Q : Flow → Shared → Prop}
end

section
open LCg
variable {prog : Program} {w : World} {A : Around} {E : Value → Shared → Prop} {s : Shared} {h₀ : Heap} {L : Addr} {m : Str → Option Value} {env : Env}
theorem pyIter_str {x : Str} {t : Tok} {Q : Value → Shared → Prop}
    (hQ : ∀ (o : Obj) (St : Nat → Heap → Prop), (∀ A' : Around, A'.handled = none → Walks prog w A' s.heap.objs.size [s.heap.objs.size] [s.heap.objs.size] x.cps.size (SignAt x) St) → St 0 (s.heap.push o) → o.isFreed = false → (∀ i h, St i h → ∃ o, h.get? s.heap.objs.size = some o) →
      Q (.ref s.heap.objs.size) { s with heap := s.heap.push o }) : wpAny (model prog w) A (pyIter (.str x t)) Q E s := by
  cases ha : x.cps.all (· < 128)
  · exact wpAny_pyIter_wide ha (hQ _ _ (fun A' hA => Walks.strWide hA _ x t) ⟨_, Heap.get?_push_size _ rfl, rfl, rfl⟩ rfl fun i h ⟨o, e, _⟩ => ⟨o, e⟩)
  · exact wpAny_pyIter_ascii ha (hQ _ _ (fun A' hA => Walks.strAscii hA _ x t) ⟨_, Heap.get?_push_size _ rfl, rfl, rfl⟩ rfl fun i h ⟨o, e, _⟩ => ⟨o, e⟩)

end
section
open LCg
variable {prog : Program} {w : World} {A : Around} {h₀ : Heap} {L : Addr} {m : Str → Option Value} {env : Env} {elt : Expr} {x : Str} {scope : Scope} {cl : List (Str × Addr)} {s : Shared} {S : List (Addr × Obj) → Prop} {Fin : List Value → List (Addr × Obj) → Prop} {news : List (Addr × Obj)}
end

theorem cend {h₀ : Heap} {L I C D : Addr} {m : Str → Option Value} {s₁ : Shared} {oI oC oD : Obj} {S : List (Addr × Obj) → Prop} {rest : Value → List (Addr × Obj) → Prop} {y : Value} {h' : Heap} {tk : Nat} (ext : List (Addr × Obj)) {news' : List (Addr × Obj)}
    (F : Fr h₀ L h' m) (N : News h₀ L h' (ext ++ (I, oI) :: (C, oC) :: (D, oD) :: news')) (off : LCg.Off3 I C D news') (hS : S news') (r : rest y news') :
    LCg.CompEnd h₀ L m s₁ I oI C oC D oD S rest y { s₁ with heap := h', toks := tk } := ⟨h', tk, news', rfl, F, fun p hp => N p (List.mem_append_right _ hp), off, hS, r⟩

section
variable {prog : Program} {w : World} {A A₀ : Around} {s : Shared} {K : Frag} {L : Addr} {h₀ base : Heap} {m mg mb : Str → Option Value} {p : Program} {loose : List Str} {mean : ExcName → Option Value}
end

section
open LCg
variable {prog : Program} {w : World} {A : Around} {h₀ : Heap} {L : Addr} {m : Str → Option Value} {env : Env} {ct elt : Expr} {x : Str} {scope : Scope} {cl : List (Str × Addr)} {s : Shared} {S : List (Addr × Obj) → Prop} {Fin : List Value → List (Addr × Obj) → Prop} {news : List (Addr × Obj)}
end
section
variable {prog : Program} {w : World} {A : Around} {E : Value → Shared → Prop} {s : Shared} {g : Heap} {L D : Addr} {m : Str → Option Value} {its : Array Value} {k : Int} {j : Nat} {t : Tok} {v : Value} {Q : Value → Shared → Prop}
theorem at_up (hl : g.IsList D its) (F : Fr g L s.heap m) : s.heap.IsList D its := hl.at fun o e => F.keep _ _ e
theorem tail_nat {value slice : PySem.Expr} (hl : g.IsList D its) (F : Fr g L s.heap m) (hx : its[j]? = some v) (hk : k = (j : Int)) (hj : (j : Int) < 1000000) (h : Q v s)
    (hs : subscripted slice false (.ref D) (.int k t) = operate [.ref D, .int k t] (getItem (.ref D) (.int k t)) := by with_unfolding_all rfl) :
    wpAny (model prog w) A (subscriptTail value slice (.ref D) (.int k t)) Q E s :=
  tail_at (at_up hl F) (by omega) (by omega) (by rw [hk, Int.toNat_natCast]; exact hx) h hs
theorem len_b (hl : g.IsList D its) (F : Fr g L s.heap m) (hz : its.size ≤ sizeLine) (h : Q (.int its.size (s.toks + 1)) { s with toks := s.toks + 1 + 1 }) :
    wpAny (model prog w) A (call (.builtin "len") [.ref D]) Q E s :=
  len_list (at_up hl F) (by rw [sizeLine_eq] at hz; omega) h
end

/-! a for with any target (a local, a captured name, a tuple) -/
section
variable {prog : Program} {w : World} {A : Around} {s : Shared} {env : Env} {h₀ : Heap} {L : Addr}

theorem codeAny_forT {R : Result → Shared → Prop} {target : Expr} {body : List Stmt} {I : Addr} {fp wr : List Addr} {n : Nat} {P : Nat → Value → Prop} {St : Nat → Heap → Prop} {m : Str → Option Value}
    {news : List (Addr × Obj)} (W : Walks prog w A I fp wr n P St) (hLf : L ∉ fp) (hwr : ∀ b ∈ wr, h₀.get? b = none) (hnw : ∀ p ∈ news, p.1 ∉ wr)
    (hst : St 0 s.heap) (F : Fr h₀ L s.heap m) (N : News h₀ L s.heap news)
    (J : Nat → (Str → Option Value) → List (Addr × Obj) → Prop) (h0 : J 0 m news)
    (step : ∀ i v m₁ news₁ s₁ own, (∃ h tk, s₁ = { s with heap := h, toks := tk }) → i < n → P i v → J i m₁ news₁ → (∀ p ∈ news₁, p.1 ∉ wr) → (∀ p ∈ own, p.1 ∈ fp) → (∀ p ∈ own, s₁.heap.get? p.1 = some p.2) → (∀ b ∈ fp, h₀.get? b = none → ∀ o, s₁.heap.get? b = some o → (b, o) ∈ own) → St (i + 1) s₁.heap →
      Fr h₀ L s₁.heap m₁ → News h₀ L s₁.heap (own ++ news₁) →
      wpAny (model prog w) A (assign target env v) (fun _ s₂ => wpAny (model prog w) A (execs body env) (LoopStepV h₀ L wr own (J (i + 1)) s₁ (fun v s' => R (.ok (.ret v)) s') fun s' => R (.ok .next) s') (notedBy (model prog w) A env fun e s' => R (.error e) s') s₂) (notedBy (model prog w) A env fun e s' => R (.error e) s') s₁)
    (hR : ∀ h' tk m' news', Fr h₀ L h' m' → News h₀ L h' news' → (∀ p ∈ news', p.1 ∉ wr) → J n m' news' → R (.ok .next) { s with heap := h', toks := tk })
    (ht : ∀ v, letOwnedTupleGo target (.ref I) v = pure ()) :
    codeAny (model prog w) A (.forLoop target (.ref I) body [] env) R s := by
  have hLw : L ∉ wr := fun h => hLf (W.sub _ h)
  have old : ∀ b o, h₀.get? b = some o → b ∉ wr := fun b o e hb => by rw [hwr b hb] at e; cases e
  refine codeAny_forLoop
    (fun k s' => ∃ h' tk m' news' i, s' = { s with heap := h', toks := tk } ∧ St i h' ∧ Fr h₀ L h' m' ∧ News h₀ L h' news' ∧ (∀ p ∈ news', p.1 ∉ wr) ∧ J i m' news' ∧ i ≤ n ∧ k = n + 1 - i) ?_ (n + 1)
    ⟨s.heap, s.toks, m, news, 0, rfl, hst, F, N, hnw, h0, Nat.zero_le _, rfl⟩ ht
  rintro k s' ⟨h', tk, m', news', i, rfl, hst', F', N', hnw', hJ, hi, rfl⟩
  have next : ∀ h₁ : Heap, (∀ b o, b ∉ wr → h'.get? b = some o → h₁.get? b = some o) → Fr h₀ L h₁ m' ∧ News h₀ L h₁ news' := fun h₁ hk₁ =>
    ⟨⟨F'.ns.at' fun o e => hk₁ _ o hLw e, fun b o e => hk₁ b o (old b o e) (F'.keep b o e), F'.above⟩, fun p hp => ⟨hk₁ _ _ (hnw' p hp) (N' p hp).1, (N' p hp).2⟩⟩
  by_cases hlt : i < n
  · refine W.item i _ _ _ hlt hst' fun v h₁ tk₁ hP hst₁ hk₁ => ?_
    obtain ⟨F₁, N₁⟩ := next h₁ hk₁
    have Nown : News h₀ L h₁ (ownOf h₀ fp h₁) := news_ownOf hLf
    refine wpAny_mono (step i v m' news' _ (ownOf h₀ fp h₁) ⟨_, _, rfl⟩ hlt hP hJ hnw' ownOf_sub (fun p hp => (Nown p hp).1) (fun b hb hn o e => mem_ownOf hb hn e) hst₁ F₁ (Nown.append N₁)) (fun _ s₂ h₂ => wpAny_mono h₂ (fun f s₃ h₃ => ?_) fun _ _ e => e) fun _ _ e => e
    have fin : LoopStepU h₀ L wr (ownOf h₀ fp h₁) (J (i + 1)) { s with heap := h₁, toks := tk₁ } .next s₃ → ∃ m, m < n + 1 - i ∧ ∃ h' tk m' news' i, s₃ = { s with heap := h', toks := tk } ∧ St i h' ∧ Fr h₀ L h' m' ∧ News h₀ L h' news' ∧ (∀ p ∈ news', p.1 ∉ wr) ∧ J i m' news' ∧ i ≤ n ∧ m = n + 1 - i := by
      rintro ⟨_, h₃', tk₃, m₂, news₂, rfl, F₃, N₃, ha₃, hJ₃⟩
      refine ⟨n + 1 - (i + 1), by omega, h₃', tk₃, m₂, news₂, i + 1, rfl, ?_, F₃, N₃.right, ha₃, hJ₃, hlt, rfl⟩
      refine W.frame _ _ _ hst₁ fun b hb o e => ?_
      cases hn : h₀.get? b with
      | some o₀ =>
        have : o₀ = o := by have := F₁.keep b o₀ hn; rw [e] at this; exact (Option.some.inj this).symm
        exact this ▸ F₃.keep b o₀ hn
      | none => exact (N₃ _ (List.mem_append_left _ (mem_ownOf hb hn e))).1
    cases f with
    | ret v => exact h₃
    | brk => exact h₃
    | cont => exact fin h₃
    | next => exact fin h₃
  · have hin : i = n := by omega
    subst hin
    refine W.done _ _ _ hst' fun h₁ tk₁ hk₁ => wpAny_execs_nil ?_
    obtain ⟨F₁, N₁⟩ := next h₁ hk₁
    exact hR h₁ tk₁ m' news' F₁ N₁ hnw' hJ

def LoopAtT (prog : Program) (w : World) (A : Around) (h₀ : Heap) (L : Addr) (env : Env) (target : Expr) (body : List Stmt) (Q : Flow → Shared → Prop) (E : Value → Shared → Prop) (it : Value) (s₂ : Shared) : Prop :=
  ∃ (I : Addr) (fp wr : List Addr) (n : Nat) (P : Nat → Value → Prop) (St : Nat → Heap → Prop) (m : Str → Option Value) (news : List (Addr × Obj)) (J : Nat → (Str → Option Value) → List (Addr × Obj) → Prop),
    it = .ref I ∧ Walks prog w A I fp wr n P St ∧ L ∉ fp ∧ (∀ b ∈ wr, h₀.get? b = none) ∧ (∀ p ∈ news, p.1 ∉ wr) ∧ St 0 s₂.heap ∧ Fr h₀ L s₂.heap m ∧ News h₀ L s₂.heap news ∧ J 0 m news ∧
    (∀ i v m₁ news₁ s₁ own, (∃ h tk, s₁ = { s₂ with heap := h, toks := tk }) → i < n → P i v → J i m₁ news₁ → (∀ p ∈ news₁, p.1 ∉ wr) → (∀ p ∈ own, p.1 ∈ fp) → (∀ p ∈ own, s₁.heap.get? p.1 = some p.2) → (∀ b ∈ fp, h₀.get? b = none → ∀ o, s₁.heap.get? b = some o → (b, o) ∈ own) → St (i + 1) s₁.heap →
      Fr h₀ L s₁.heap m₁ → News h₀ L s₁.heap (own ++ news₁) →
      wpAny (model prog w) A (assign target env v) (fun _ s₃ => wpAny (model prog w) A (execs body env) (LoopStepV h₀ L wr own (J (i + 1)) s₁ (fun v s' => Q (.ret v) s') fun s' => Q .next s') E s₃) E s₁) ∧
    ∀ h' tk m' news', Fr h₀ L h' m' → News h₀ L h' news' → (∀ p ∈ news', p.1 ∉ wr) → J n m' news' → Q .next { s₂ with heap := h', toks := tk }

theorem For_T {E : Value → Shared → Prop} {Q : Flow → Shared → Prop} {target : Expr} {pos : Pos} {iter : Expr} {body : List Stmt} {m : Str → Option Value} (_F : Fr h₀ L s.heap m)
    (ht : ∀ it v, letOwnedTupleGo target it v = pure ())
    (h : wpAny (model prog w) A (eval iter env) (fun xv s₁ => wpAny (model prog w) A (pyIter xv) (fun it s₂ => LoopAtT prog w A h₀ L env target body Q E it s₂) E s₁) E s)
    (hs : ∀ x, foldedSetIterable iter env x = pure x := by intro _; rfl)
    (hE : PassesOwn (model prog w) A env E := by passes_own) :
    wpAny (model prog w) A (exec (.For target iter body [] pos) env) Q E s := by
  refine wpAny_For (wpAny_mono h (fun xv s₁ h₁ => wpAny_mono h₁ (fun it s₂ h₂ => ?_) fun _ _ e => e) fun _ _ e => e) hs
  obtain ⟨I, fp, wr, n, P, St, m, news, J, rfl, W, hLf, hwr, hnw, hst, F, N, h0, step, hQ⟩ := h₂
  refine codeAny_forT (R := fun r s' => match r with | .ok f => Q f s' | .error e => cameBackBy (model prog w) A env E e s') W hLf hwr hnw hst F N J h0 ?_ hQ (ht _)
  intro i v m₁ news₁ s₁ own a b c d e f g k st F₁ N₁
  exact wpAny_passesOwn hE (wpAny_mono (step i v m₁ news₁ s₁ own a b c d e f g k st F₁ N₁) (fun _ s₃ h₃ => wpAny_passesOwn hE h₃) fun _ _ e => e)
end

section
variable {prog : Program} {w : World} {A : Around} {E : Value → Shared → Prop} {s : Shared} {env : Env} {h₀ : Heap} {L : Addr} {target : Expr} {body : List Stmt} {Q : Flow → Shared → Prop}
def SameT (stored : List Str) (m₀ m' : Str → Option Value) : Prop := ∀ z, z ∉ stored → m' z = m₀ z
theorem over_T {u m₀ : Str → Option Value} {l : List Str} (h : SameT l m₀ u) : u = over u m₀ l := funext fun y => (over_in fun hn => h y hn).symm

/-- over a list's items -/
theorem forT_list (stored : List Str) {l : Addr} {its : Array Value} {m₀ : Str → Option Value} {news : List (Addr × Obj)} (J : Nat → (Str → Option Value) → List (Addr × Obj) → Prop)
    (hh : A.handled = none) (src : h₀.IsList l its ∨ ∃ ol k, ol.cls = .type "list" ∧ ol.data = .seq its k ∧ ∀ i m nx, J i m nx → (l, ol) ∈ nx)
    (F : Fr h₀ L s.heap m₀) (N : News h₀ L s.heap news) (hj : J 0 m₀ news)
    (turn : ∀ i v u nw I oI h tk, its[i]? = some v → J i u nw → Off I nw → Fr h₀ L h (over u m₀ stored) → News h₀ L h ((I, oI) :: nw) →
      wpAny (model prog w) A (assign target env v) (fun _ s₂ => wpAny (model prog w) A (execs body env) (TurnPost h₀ L I oI (fun m' nx => SameT stored m₀ m' ∧ J (i + 1) m' nx) { s with heap := h, toks := tk } Q) E s₂) E { s with heap := h, toks := tk })
    (done : ∀ u nw h tk, J its.size u nw → Fr h₀ L h (over u m₀ stored) → News h₀ L h nw → Q .next { s with heap := h, toks := tk }) :
    wpAny (model prog w) A (pyIter (.ref l)) (fun it s₂ => LoopAtT prog w A h₀ L env target body Q E it s₂) E s := by
  have hls : s.heap.IsList l its := by
    rcases src with hl | ⟨ol, k, hc, hd, hm⟩
    · exact hl.at fun o e => F.keep l o e
    · exact ⟨ol, (N _ (hm _ _ _ hj)).1, hc, k, hd⟩
  obtain ⟨ol', hol, _⟩ := id hls
  have hlt : l < s.heap.objs.size := Heap.lt_size hol
  have hne : l ≠ s.heap.objs.size := Nat.ne_of_lt hlt
  have hLl : L ≠ l := by
    rcases src with hl | ⟨ol, k, hc, hd, hm⟩
    · obtain ⟨o, e, _⟩ := hl
      exact fun q => absurd (Nat.lt_of_lt_of_le (Heap.lt_size e) F.above) (q ▸ Nat.lt_irrefl _)
    · exact fun q => (N _ (hm _ _ _ hj)).2.1 q.symm
  refine wpAny_pyIter_list hls ?_
  have W := Walks.list (prog := prog) (w := w) hh s.heap.objs.size l hne its
  refine ⟨_, _, _, its.size, _, _, m₀, news, (fun i m nx => SameT stored m₀ m ∧ J i m nx), rfl, W, ?_, ?_, ?_, ⟨⟨_, Heap.get?_push_size _ rfl, rfl, rfl⟩, hls.at fun o e => Heap.get?_push_of_some _ e⟩, F.push _, (fun p hp => ⟨Heap.get?_push_of_some _ (N p hp).1, (N p hp).2⟩), ⟨fun _ _ => rfl, hj⟩, ?_, ?_⟩
  · intro hm
    rcases List.mem_cons.mp hm with e | hm
    · exact absurd F.ns.lt (e ▸ Nat.lt_irrefl _)
    · exact hLl (List.mem_singleton.mp hm)
  · intro b hb
    rw [List.mem_singleton.mp hb]
    exact next_is_new F
  · intro p hp hI
    exact absurd (Heap.lt_size (N p hp).1) ((List.mem_singleton.mp hI) ▸ Nat.lt_irrefl _)
  · rintro i v m₁ news₁ s₁ own ⟨hh', tk', rfl⟩ hin hP ⟨hs, hJ⟩ hoff hown hget hin' hst F₁ N₁
    obtain ⟨oI, heI, _⟩ := hst.1
    have hIown : (s.heap.objs.size, oI) ∈ own := hin' _ (by simp) (next_is_new F) oI heI
    have hoffI : Off s.heap.objs.size news₁ := Off.of fun p hp q => hoff p hp (List.mem_singleton.mpr q)
    rw [over_T hs] at F₁
    refine wpAny_mono (turn i v m₁ news₁ _ oI hh' tk' hP hJ hoffI F₁ (fun p hp => by
      rcases List.mem_cons.mp hp with rfl | hp
      · exact N₁ _ (List.mem_append_left _ hIown)
      · exact N₁ _ (List.mem_append_right _ hp))) (fun _ s₂ h₂ => wpAny_mono h₂ (fun f s₃ p => ?_) fun _ _ e => e) fun _ _ e => e
    have fin : TurnEnd h₀ L s.heap.objs.size oI (fun m' nx => SameT stored m₀ m' ∧ J (i + 1) m' nx) { s with heap := hh', toks := tk' } s₃ → LoopStepU h₀ L [s.heap.objs.size] own (fun m nx => SameT stored m₀ m ∧ J (i + 1) m nx) { s with heap := hh', toks := tk' } .next s₃ := by
      rintro ⟨h', tk, m', nx, e, F', N', hoff', hj'⟩
      refine ⟨rfl, h', tk, m', nx, e, F', fun p hp => ?_, fun p hp q => hoff'.mem p hp (List.mem_singleton.mp q), hj'⟩
      rcases List.mem_append.mp hp with hp | hp
      · have hg := hget p hp
        have h0 := (N₁ p (List.mem_append_left _ hp)).2.2
        rcases List.mem_cons.mp (hown p hp) with h1 | h1
        · have e1 : p = (s.heap.objs.size, oI) := by
            obtain ⟨a, o⟩ := p
            dsimp only at h1 hg
            subst h1
            have := heI.symm.trans hg
            rw [Option.some.inj this]
          rw [e1]; exact N' _ List.mem_cons_self
        · have h2 : p.1 = l := List.mem_singleton.mp h1
          rcases src with hl | ⟨ol, k, hc, hd, hm⟩
          · obtain ⟨o, e, _⟩ := hl
            rw [h2, e] at h0; cases h0
          · have e1 : p = (l, ol) := by
              obtain ⟨a, o⟩ := p
              dsimp only at h2 hg
              subst h2
              have := (N₁ _ (List.mem_append_right _ (hm _ _ _ hJ))).1
              have := hg.symm.trans this
              rw [Option.some.inj this]
            rw [e1]; exact N' _ (List.mem_cons_of_mem _ (hm _ _ _ hj'.2))
      · exact N' p (List.mem_cons_of_mem _ hp)
    cases f with
    | ret v => exact .ret p
    | brk => exact .brk p
    | next => exact .next (fin p)
    | cont => exact .cont (fin p)
  · rintro h' tk m' news' F' N' _ ⟨hs, hJ⟩
    rw [over_T hs] at F'
    exact done m' news' h' tk hJ F' N'

theorem forT_pd {α : Type} {G : α → Value → Prop} {as : List α} {its : Array Value} (hi : Pd G as its.toList) (stored : List Str) {l : Addr} {m₀ : Str → Option Value} {news : List (Addr × Obj)} (J : List α → (Str → Option Value) → List (Addr × Obj) → Prop)
    (hh : A.handled = none) (src : h₀.IsList l its ∨ ∃ ol k, ol.cls = .type "list" ∧ ol.data = .seq its k ∧ ∀ pre m nx, J pre m nx → (l, ol) ∈ nx)
    (F : Fr h₀ L s.heap m₀) (N : News h₀ L s.heap news) (hj : J [] m₀ news)
    (turn : ∀ pre a post v u nw I oI h tk, as = pre ++ a :: post → G a v → J pre u nw → Off I nw → Fr h₀ L h (over u m₀ stored) → News h₀ L h ((I, oI) :: nw) →
      wpAny (model prog w) A (assign target env v) (fun _ s₂ => wpAny (model prog w) A (execs body env) (TurnPost h₀ L I oI (fun m' nx => SameT stored m₀ m' ∧ J (pre ++ [a]) m' nx) { s with heap := h, toks := tk } Q) E s₂) E { s with heap := h, toks := tk })
    (done : ∀ u nw h tk, J as u nw → Fr h₀ L h (over u m₀ stored) → News h₀ L h nw → Q .next { s with heap := h, toks := tk }) :
    wpAny (model prog w) A (pyIter (.ref l)) (fun it s₂ => LoopAtT prog w A h₀ L env target body Q E it s₂) E s := by
  have hl := pd_len hi
  refine forT_list stored (its := its) (fun i m nx => J (as.take i) m nx) hh (src.imp id fun ⟨ol, k, a, b, c⟩ => ⟨ol, k, a, b, fun i m nx h => c _ m nx h⟩) F N (by simpa using hj) ?_ ?_
  · intro i v u nw I oI h tk hv hJ hoff F₁ N₁
    obtain ⟨a, ha, hF⟩ := pd_at hi i v (by simpa using hv)
    rw [take_next ha]
    exact turn _ a _ v u nw I oI h tk (take_split ha) hF hJ hoff F₁ N₁
  · intro u nw h tk hJ F₁ N₁
    refine done u nw h tk ?_ F₁ N₁
    have e : as.take its.size = as := List.take_of_length_le (by rw [hl]; simp)
    rwa [e] at hJ
end

theorem strs_pd : ∀ {xs : List Str} {vs : List Value}, Pd StrV xs vs → StrsAre vs xs
  | _, _, .nil => .nil
  | _, _, .cons ⟨_, e⟩ h => by rw [e]; exact .cons _ _ (strs_pd h)
theorem pd_strs : ∀ {vs : List Value} {xs : List Str}, StrsAre vs xs → Pd StrV xs vs
  | _, _, .nil => .nil
  | _, _, .cons _ t h => .cons ⟨t, rfl⟩ (pd_strs h)
section
variable {prog : Program} {w : World} {A : Around} {E : Value → Shared → Prop} {s : Shared} {g : Heap} {L D : Addr} {m : Str → Option Value} {its : Array Value} {xs : List Str} {k : Str} {t : Tok} {Q : Value → Shared → Prop}
end

section
variable {h₀ h h' : Heap} {L D : Addr} {m : Str → Option Value} {news : List (Addr × Obj)} {o : Obj}
theorem after_keep (F : Fr h₀ L h m) (N : News h₀ L h news) (k : ∀ b o, h.get? b = some o → h'.get? b = some o) : Fr h₀ L h' m ∧ News h₀ L h' news := ⟨F.keeps k, N.grown k⟩
end
theorem off1 {a z : Str} (h : z ∉ [a]) : z ≠ a := fun e => h (by rw [e]; exact List.mem_cons_self)

section
variable {prog : Program} {w : World} {A : Around} {E : Value → Shared → Prop} {s : Shared} {env : Env} {h₀ : Heap} {L : Addr} {target : Expr} {body : List Stmt} {Q : Flow → Shared → Prop}
end
section
variable {prog : Program} {w : World} {A : Around} {E : Value → Shared → Prop} {s : Shared} {h₀ : Heap} {L D : Addr} {m : Str → Option Value} {news : List (Addr × Obj)} {vs : List Value} {n : Nat} {k : Int} {j : Nat} {t : Tok} {v : Value} {Q : Value → Shared → Prop}
theorem tail_l {value slice : PySem.Expr} (N : News h₀ L s.heap news) (hm : (D, listOf vs.toArray n) ∈ news) (hx : vs[j]? = some v) (hk : k = (j : Int)) (hj : (j : Int) < 1000000) (h : Q v s)
    (hs : subscripted slice false (.ref D) (.int k t) = operate [.ref D, .int k t] (getItem (.ref D) (.int k t)) := by with_unfolding_all rfl) :
    wpAny (model prog w) A (subscriptTail value slice (.ref D) (.int k t)) Q E s :=
  tail_at (is_l N hm) (by omega) (by omega) (by rw [hk, Int.toNat_natCast]; simpa using hx) h hs
theorem tail_pd {value slice : PySem.Expr} {α : Type} {F : α → Value → Prop} {as : List α} {a : α} (N : News h₀ L s.heap news) (hm : (D, listOf vs.toArray n) ∈ news) (hp : Pd F as vs) (ha : as[j]? = some a) (hk : k = (j : Int)) (hj : (j : Int) < 1000000) (h : ∀ v, F a v → Q v s)
    (hs : subscripted slice false (.ref D) (.int k t) = operate [.ref D, .int k t] (getItem (.ref D) (.int k t)) := by with_unfolding_all rfl) :
    wpAny (model prog w) A (subscriptTail value slice (.ref D) (.int k t)) Q E s := by
  obtain ⟨v, hv, hF⟩ := pd_get hp j a ha
  exact tail_l N hm hv hk hj (h v hF) hs
end

section
variable {prog : Program} {w : World} {A : Around} {E : Value → Shared → Prop} {s : Shared} {h₀ : Heap} {L l : Addr} {m : Str → Option Value} {news : List (Addr × Obj)} {n : Nat} {xs : List Value} {Q : Value → Shared → Prop} {value slice : PySem.Expr} {k : Int} {t : Tok}
theorem pick_from' (xs : List Value) (h : 0 ≤ k) : kms_pick xs (some k) none = xs.drop k.toNat := by
  have := pick_from xs k.toNat
  rwa [Int.toNat_of_nonneg h] at this
end

theorem pd_app {α : Type} {F : α → Value → Prop} : ∀ {as bs : List α} {vs ws : List Value}, Pd F as vs → Pd F bs ws → Pd F (as ++ bs) (vs ++ ws)
  | _, _, _, _, .nil, h => h
  | _, _, _, _, .cons h t, k => .cons h (pd_app t k)
section
variable {prog : Program} {w : World} {A : Around} {E : Value → Shared → Prop} {s : Shared} {env : Env} {h₀ : Heap} {L : Addr} {target : Expr} {body : List Stmt} {Q Q' : Flow → Shared → Prop}
end

section
variable {prog : Program} {w : World} {A : Around} {E : Value → Shared → Prop} {s : Shared} {env : Env} {h₀ : Heap} {L : Addr} {target : Expr} {body : List Stmt} {Q : Flow → Shared → Prop}
/-- a for over a list that turns one other list of the ledger -/
theorem forT_pd_l {α : Type} {G : α → Value → Prop} {as : List α} {its : Array Value} (hi : Pd G as its.toList) (stored : List Str) (lead : List (Addr × Obj)) {rest : List (Addr × Obj)} {lt : Addr} {zs₀ : List Value} {c₀ : Nat} {l : Addr} {m₀ : Str → Option Value} (J : List α → (Str → Option Value) → List Value → Prop)
    (hh : A.handled = none) (src : h₀.IsList l its ∨ ∃ ol k, ol.cls = .type "list" ∧ ol.data = .seq its k ∧ ((l, ol) ∈ lead ∨ (l, ol) ∈ rest))
    (F : Fr h₀ L s.heap m₀) (N : News h₀ L s.heap (lead ++ (lt, W.listOf zs₀.toArray c₀) :: rest)) (hj : J [] m₀ zs₀)
    (turn : ∀ pre a post v u zs c I oI h tk, as = pre ++ a :: post → G a v → J pre u zs → Off I (lead ++ (lt, W.listOf zs.toArray c) :: rest) → Fr h₀ L h (over u m₀ stored) → News h₀ L h ((I, oI) :: (lead ++ (lt, W.listOf zs.toArray c) :: rest)) →
      wpAny (model prog w) A (assign target env v) (fun _ s₂ => wpAny (model prog w) A (execs body env) (TurnPost h₀ L I oI (fun m' nx => SameT stored m₀ m' ∧ ∃ zs' c', nx = lead ++ (lt, W.listOf zs'.toArray c') :: rest ∧ J (pre ++ [a]) m' zs') { s with heap := h, toks := tk } Q) E s₂) E { s with heap := h, toks := tk })
    (done : ∀ u zs c h tk, J as u zs → Fr h₀ L h (over u m₀ stored) → News h₀ L h (lead ++ (lt, W.listOf zs.toArray c) :: rest) → Q .next { s with heap := h, toks := tk }) :
    wpAny (model prog w) A (pyIter (.ref l)) (fun it s₂ => LoopAtT prog w A h₀ L env target body Q E it s₂) E s := by
  refine forT_pd hi stored (fun pre m nx => ∃ zs c, nx = lead ++ (lt, W.listOf zs.toArray c) :: rest ∧ J pre m zs) hh (src.imp id fun ⟨ol, k, a, b, c⟩ => ⟨ol, k, a, b, fun _ _ nx ⟨zs, c1, e, _⟩ => by
    rw [e]
    exact c.elim (fun q => List.mem_append_left _ q) fun q => List.mem_append_right _ (List.mem_cons_of_mem _ q)⟩) F N ⟨_, _, rfl, hj⟩ ?_ ?_
  · rintro pre a post v u nw I oI h tk e hG ⟨zs, c, rfl, hJ⟩ hoff F₁ N₁
    exact turn pre a post v u zs c I oI h tk e hG hJ hoff F₁ N₁
  · rintro u nw h tk ⟨zs, c, rfl, hJ⟩ F₁ N₁
    exact done u zs c h tk hJ F₁ N₁
end
section
variable {prog : Program} {w : World} {A : Around} {E : Value → Shared → Prop} {s : Shared} {env : Env} {h₀ : Heap} {L : Addr} {target : Expr} {body : List Stmt} {Q : Flow → Shared → Prop}
end
end Mine
end
section
namespace Mine
open PySem.Calls PySem.Spec
section
variable {prog : Program} {w : World} {A : Around} {E : Value → Shared → Prop} {s : Shared} {env : Env} {h₀ : Heap} {L : Addr} {target : Expr} {body : List Stmt} {Q : Flow → Shared → Prop}
end
end Mine
end
section
namespace Mine
open PySem.Calls PySem.Spec
section
variable {prog : Program} {w : World} {A : Around} {E : Value → Shared → Prop} {s : Shared} {env : Env} {h₀ : Heap} {L : Addr} {target : Expr} {body : List Stmt} {Q : Flow → Shared → Prop}
/-- a for over a text's signs -/
theorem forT_str (stored : List Str) {x : Str} {t : Tok} {m₀ : Str → Option Value} {news : List (Addr × Obj)} (J : Nat → (Str → Option Value) → List (Addr × Obj) → Prop)
    (hh : A.handled = none) (F : Fr h₀ L s.heap m₀) (N : News h₀ L s.heap news) (hj : J 0 m₀ news)
    (turn : ∀ (i c : Nat) (t : Tok) u nw I oI h tk, x.cps.toList[i]? = some c → J i u nw → Off I nw → Fr h₀ L h (over u m₀ stored) → News h₀ L h ((I, oI) :: nw) →
      wpAny (model prog w) A (assign target env (.str ⟨#[c]⟩ t)) (fun _ s₂ => wpAny (model prog w) A (execs body env) (TurnPost h₀ L I oI (fun m' nx => SameT stored m₀ m' ∧ J (i + 1) m' nx) { s with heap := h, toks := tk } Q) E s₂) E { s with heap := h, toks := tk })
    (done : ∀ u nw h tk, J x.cps.size u nw → Fr h₀ L h (over u m₀ stored) → News h₀ L h nw → Q .next { s with heap := h, toks := tk }) :
    wpAny (model prog w) A (pyIter (.str x t)) (fun it s₂ => LoopAtT prog w A h₀ L env target body Q E it s₂) E s := by
  refine pyIter_str fun o St hW hst hfr hIo => ?_
  have Wk := hW A hh
  refine ⟨_, _, _, x.cps.size, _, _, m₀, news, (fun i m nx => SameT stored m₀ m ∧ J i m nx), rfl, Wk, ?_, ?_, ?_, hst, F.push _, (fun p hp => ⟨Heap.get?_push_of_some _ (N p hp).1, (N p hp).2⟩), ⟨fun _ _ => rfl, hj⟩, ?_, ?_⟩
  · intro hm
    exact absurd F.ns.lt ((List.mem_singleton.mp hm) ▸ Nat.lt_irrefl _)
  · intro b hb
    rw [List.mem_singleton.mp hb]
    exact next_is_new F
  · intro p hp hI
    exact absurd (Heap.lt_size (N p hp).1) ((List.mem_singleton.mp hI) ▸ Nat.lt_irrefl _)
  · rintro i v m₁ news₁ s₁ own ⟨hh', tk', rfl⟩ hin hP ⟨hs, hJ⟩ hoff hown hget hin' hst' F₁ N₁
    obtain ⟨c, u, hc, rfl⟩ := hP
    obtain ⟨oI, heI⟩ := hIo _ _ hst'
    have hIown := hin' _ (List.mem_singleton.mpr rfl) (next_is_new F) _ heI
    have hoffI : Off s.heap.objs.size news₁ := Off.of fun p hp q => hoff p hp (List.mem_singleton.mpr q)
    rw [over_T hs] at F₁
    refine wpAny_mono (turn i c u m₁ news₁ s.heap.objs.size oI hh' tk' (by simpa using hc) hJ hoffI F₁ (fun p hp => by
      rcases List.mem_cons.mp hp with rfl | hp
      · exact N₁ _ (List.mem_append_left _ hIown)
      · exact N₁ _ (List.mem_append_right _ hp))) (fun _ s₂ h₂ => wpAny_mono h₂ (fun f s₃ p => ?_) fun _ _ e => e) fun _ _ e => e
    have fin : TurnEnd h₀ L s.heap.objs.size oI (fun m' nx => SameT stored m₀ m' ∧ J (i + 1) m' nx) { s with heap := hh', toks := tk' } s₃ → LoopStepU h₀ L [s.heap.objs.size] own (fun m nx => SameT stored m₀ m ∧ J (i + 1) m nx) { s with heap := hh', toks := tk' } .next s₃ := by
      rintro ⟨h', tk, m', nx, e, F', N', hoff', hj'⟩
      refine ⟨rfl, h', tk, m', nx, e, F', fun p hp => ?_, fun p hp q => hoff'.mem p hp (List.mem_singleton.mp q), hj'⟩
      rcases List.mem_append.mp hp with hp | hp
      · have hg := hget p hp
        have h1 := List.mem_singleton.mp (hown p hp)
        obtain ⟨a, o⟩ := p
        dsimp only at h1 hg
        subst h1
        have e9 : o = oI := by
          have := heI.symm.trans hg
          exact (Option.some.inj this).symm
        rw [e9]
        exact N' _ List.mem_cons_self
      · exact N' p (List.mem_cons_of_mem _ hp)
    cases f with
    | ret v => exact .ret p
    | brk => exact .brk p
    | next => exact .next (fin p)
    | cont => exact .cont (fin p)
  · rintro h' tk m' news' F' N' _ ⟨hs, hJ⟩
    rw [over_T hs] at F'
    exact done m' news' h' tk hJ F' N'
/-- a while by an invariant J (measure, names' map, ledger); only the stored names turn -/
theorem while_T (stored : List Str) {test : Expr} {pos : Pos} {m₀ : Str → Option Value} {news : List (Addr × Obj)} (J : Nat → (Str → Option Value) → List (Addr × Obj) → Prop) {n₀ : Nat}
    (F : Fr h₀ L s.heap m₀) (N : News h₀ L s.heap news) (hJ : J n₀ m₀ news)
    (turn : ∀ n u nw h tk, J n u nw → Fr h₀ L h (over u m₀ stored) → News h₀ L h nw →
      wpAny (model prog w) A (isTrue test env (eval test env)) (fun b s₂ =>
        if b = true then wpAny (model prog w) A (execs body env) (WhileStep2 h₀ L s (fun n' m' nx => SameT stored m₀ m' ∧ J n' m' nx) Q n) E s₂ else Q .next s₂) E { s with heap := h, toks := tk })
    (hE : PassesOwn (model prog w) A env E := by passes_own) :
    wpAny (model prog w) A (exec (.While test body [] pos) env) Q E s := by
  refine While_inv2 (fun n m nx => SameT stored m₀ m ∧ J n m nx) F N ⟨fun _ _ => rfl, hJ⟩ ?_ hE
  rintro n u nw h tk F₁ N₁ ⟨hs, hJ'⟩
  rw [over_T hs] at F₁
  exact turn n u nw h tk hJ' F₁ N₁
end
section
variable {prog : Program} {w : World} {A : Around} {E : Value → Shared → Prop} {s : Shared} {h₀ : Heap} {L l : Addr} {m : Str → Option Value} {news : List (Addr × Obj)} {Q : Value → Shared → Prop} {value slice : PySem.Expr} {k : Int} {t : Tok} {its : Array Value}
/-- l[k:] of a list of the ground -/
theorem slice_b (F : Fr h₀ L s.heap m) (N : News h₀ L s.heap news) (hl : h₀.IsList l its) (h0 : 0 ≤ k)
    (h : ∀ D h', Fr h₀ L h' m → News h₀ L h' ((D, W.listOf (its.toList.drop k.toNat).toArray 0) :: news) → (∀ p ∈ news, p.1 < D) → Q (.ref D) { s with heap := h' })
    (hs : subscripted slice false (.ref l) (.ref s.heap.objs.size) = operate [.ref s.heap.objs.size, .ref l] (getItem (.ref l) (.ref s.heap.objs.size))) (ht : ∀ r, letTemporaryGo value (.ref l) r = pure ()) (hz : its.size ≤ sizeLine) :
    wpAny (model prog w) A (subscriptTail value slice (.ref l) (.ref s.heap.objs.size)) Q E { s with heap := s.heap.push { cls := .type "slice", data := .fields #[.int k t, .none, .none] } } :=
  kms_slice_lit (its := its) F N (at_up hl F) (.int _ _) .none rfl (fun D h' F' N' l1 => h D h' F' (by rw [← pick_from' _ h0]; exact N') l1) hs ht hz
end
end Mine
end
section
namespace Mine
/-- the name's part ahead of its first slash, in small letters -/
def token (name : Str) : Str := Txt.lower (((Txt.split name (Str.ofString "/"))[0]?).getD Str.empty)
theorem token_of {name y : Str} (e : (Txt.split name (Str.ofString "/"))[0]? = some y) : token name = Txt.lower y := by unfold token; rw [e]; rfl
def fitsOne (name a : Str) : Bool := a != Str.ofString "*" && !(Builtin.Str.occurrences (token name) (Txt.lower a) 0 (token name).length 1).isEmpty

/-- p lies in r -/
def Lies (p r : List Nat) : Prop := ∃ i, i + p.length ≤ r.length ∧ (r.drop i).take p.length = p
theorem occ_lies (x y : Str) : (!(Builtin.Str.occurrences x y 0 x.length 1).isEmpty) = true ↔ Lies y.cps.toList x.cps.toList := by
  rw [StrLaws.found_iff]
  unfold Lies
  constructor
  · rintro ⟨i, h1, h2⟩
    rw [StrLaws.subAt_eq, beq_iff_eq] at h2
    exact ⟨i, h1, h2⟩
  · rintro ⟨i, h1, h2⟩
    exact ⟨i, h1, by rw [StrLaws.subAt_eq, beq_iff_eq]; exact h2⟩
theorem slash_is : Str.ofString "/" = ⟨#[47]⟩ := by decide +kernel
theorem star_is : Str.ofString "*" = ⟨#[42]⟩ := by decide +kernel

theorem takeWhile_at {l : List Nat} {c i : Nat} (h : l[i]? = some c) (hn : ∀ k, k < i → l[k]? ≠ some c) : l.takeWhile (· != c) = l.take i := by
  induction l generalizing i with
  | nil => simp at h
  | cons a r ih =>
    cases i with
    | zero =>
      simp at h; subst h
      simp
    | succ i =>
      have ha : a ≠ c := fun e => hn 0 (by omega) (by simp [e])
      rw [List.takeWhile_cons_of_pos (by simpa using ha), List.take_succ_cons]
      rw [ih (by simpa using h) fun k hk => by have := hn (k + 1) (by omega); simpa using this]
theorem takeWhile_none {l : List Nat} {c : Nat} (hn : c ∉ l) : l.takeWhile (· != c) = l := by
  induction l with
  | nil => rfl
  | cons a r ih =>
    simp only [List.mem_cons, not_or] at hn
    rw [List.takeWhile_cons_of_pos (by simpa using Ne.symm hn.1), ih hn.2]

theorem split_head (x : Str) : (Txt.split x (Str.ofString "/"))[0]? = some ⟨(x.cps.toList.takeWhile (· != 47)).toArray⟩ := by
  rw [slash_is]
  have whole : 47 ∉ x.cps.toList → some x = some (⟨(x.cps.toList.takeWhile (· != 47)).toArray⟩ : Str) := fun h => by
    rw [takeWhile_none h]
  have hk : ¬ (Builtin.Str.strKind x < Builtin.Str.strKind ⟨#[47]⟩) := by
    have h1 : Builtin.Str.strKind ⟨#[47]⟩ = 1 := by decide +kernel
    rw [h1]
    unfold Builtin.Str.strKind
    split
    · omega
    · split <;> omega
  unfold Txt.split
  by_cases hl : x.length < 1
  · have : x.cps.toList = [] := by
      have h : x.cps.size = 0 := by unfold Str.length at hl; omega
      apply List.eq_nil_of_length_eq_zero; simpa using h
    rw [if_pos (by simp only [Bool.or_eq_true, decide_eq_true_eq]; left; exact hl)]
    simpa using whole (by rw [this]; simp)
  · rw [if_neg (by
      simp only [Bool.or_eq_true, decide_eq_true_eq]
      rintro (h | h)
      · exact hl h
      · exact hk h)]
    have hat : ∀ i, StrLaws.At x ⟨#[47]⟩ x.length i ↔ x.cps.toList[i]? = some 47 := fun i => StrLaws.subAt_one x 47 i
    rcases StrLaws.occ_head x ⟨#[47]⟩ (x.length + 1) (by omega) with ⟨h0, hn⟩ | ⟨i, r, h0, ha, hn⟩
    · rw [if_pos (by rw [h0]; rfl)]
      refine whole fun hm => ?_
      obtain ⟨i, hi⟩ := List.mem_iff_getElem?.mp hm
      exact hn i ((hat i).mpr hi)
    · rw [if_neg (by rw [h0]; simp), h0, StrLaws.partsBetween_eq]
      show some (Builtin.Str.strSub x 0 i) = _
      refine congrArg some (Str.ext' ?_)
      have h1 := StrLaws.strSub_toList x 0 i
      rw [takeWhile_at ((hat i).mp ha) fun k hk q => hn k hk ((hat k).mpr q)]
      have h2 : (Builtin.Str.strSub x 0 i).cps.toList = x.cps.toList.take i := by rw [h1]; simp
      rw [← h2]

theorem placed_map (x : Str) (f : Nat → Nat → List Nat) (g : Nat → Nat) (h : ∀ i c, x.cps.toList[i]? = some c → f i c = [g c]) : (placed x f).toList = x.cps.toList.map g := by
  unfold placed
  have e : x.cps.mapIdx (fun i c => (f i c).toArray) = x.cps.map fun c => #[g c] := by
    apply Array.ext
    · simp
    · intro i h1 h2
      simp only [Array.getElem_mapIdx, Array.getElem_map]
      have hi : i < x.cps.size := by simpa using h1
      rw [h i x.cps[i] (by simp [hi])]
  rw [e]
  have : ∀ l : List Nat, ((l.map fun c => #[g c]).toArray.flatten).toList = l.map g := by
    intro l
    induction l with
    | nil => rfl
    | cons a r ih => simp at ih ⊢; exact ih
  have h3 := this x.cps.toList
  rw [← h3]
  simp

/-- a letter whose small form is one sign -/
theorem lower_map (x : Str) (g : Nat → Nat) (h : ∀ c ∈ x.cps.toList, c ≠ 0x3A3 ∧ Unicode.lowerOf c = [g c]) : (Txt.lower x).cps.toList = x.cps.toList.map g := by
  refine placed_map x _ g fun i c hc => ?_
  unfold Unicode.lowerAt
  have h1 : x.cps[i]? = some c := by simpa using hc
  rw [h1]
  obtain ⟨h2, h3⟩ := h c (List.mem_of_getElem? hc)
  have : (c == 0x3A3) = false := by simpa using h2
  simp [this, h3]

theorem token_cps (name : Str) (g : Nat → Nat) (h : ∀ c ∈ name.cps.toList, c ≠ 0x3A3 ∧ Unicode.lowerOf c = [g c]) : (token name).cps.toList = (name.cps.toList.takeWhile (· != 47)).map g := by
  rw [token_of (split_head name)]
  exact lower_map ⟨_⟩ g fun c hc => h c ((List.takeWhile_sublist _).subset (by simpa using hc))

theorem fits_iff (name a : Str) (g : Nat → Nat) (hn : ∀ c ∈ name.cps.toList, c ≠ 0x3A3 ∧ Unicode.lowerOf c = [g c]) (ha : ∀ c ∈ a.cps.toList, c ≠ 0x3A3 ∧ Unicode.lowerOf c = [g c]) :
    fitsOne name a = true ↔ a.cps.toList ≠ [42] ∧ Lies (a.cps.toList.map g) ((name.cps.toList.takeWhile (· != 47)).map g) := by
  unfold fitsOne
  rw [Bool.and_eq_true, occ_lies, token_cps name g hn, lower_map a g ha]
  refine and_congr_left fun _ => ?_
  rw [star_is, bne_iff_ne]
  refine not_congr ⟨fun e => by rw [e], fun e => Str.ext' (by show a.cps = #[42]; rw [← Array.toArray_toList (xs := a.cps), e])⟩
theorem sign_eq (a b : Nat) : (({ cps := #[a] } : Str) == { cps := #[b] }) = (a == b) := by
  by_cases h : a = b
  · simp [h]
  · have h1 : ({ cps := #[a] } : Str) ≠ { cps := #[b] } := fun e => h (by injection e with e; simpa using e)
    rw [beq_eq_false_iff_ne.mpr h1, beq_eq_false_iff_ne.mpr h]
theorem sign_slash (a : Nat) : (({ cps := #[a] } : Str) == Str.ofString "/") = (a == 47) := by rw [slash_is]; exact sign_eq a 47
end Mine
end
section
namespace Mine
def numF (ds : List Nat) : Int := List.foldl (fun (n : Int) (c : Nat) => n * 10 + ((c : Int) - 48)) 0 ds
theorem numF_snoc (l : List Nat) (c : Nat) : numF (l ++ [c]) = numF l * 10 + ((c : Int) - 48) := by simp [numF, List.foldl_append]
theorem numF_bound : ∀ (n : Nat) (l : List Nat), l.length = n → (∀ c ∈ l, 48 ≤ c ∧ c ≤ 57) → 0 ≤ numF l ∧ numF l < 10 ^ n := by
  intro n
  induction n with
  | zero => intro l h _; rw [List.eq_nil_of_length_eq_zero h]; simp [numF]
  | succ n ih =>
    intro l h hc
    obtain ⟨q, x, rfl⟩ : ∃ q x, l = q ++ [x] := ⟨l.dropLast, l.getLast (by intro e; simp [e] at h), (List.dropLast_concat_getLast _).symm⟩
    have h1 := ih q (by simpa using h) fun c hq => hc c (List.mem_append_left _ hq)
    have h2 := hc x (by simp)
    rw [numF_snoc, Int.pow_succ]
    omega
theorem empty9 : Str.ofString "" = ⟨#[]⟩ := by decide +kernel
def dig (l : List Nat) : Str := ⟨l.toArray⟩
theorem ten_codes {c : Nat} (h : 48 ≤ c ∧ c ≤ 57) : c = 48 ∨ c = 49 ∨ c = 50 ∨ c = 51 ∨ c = 52 ∨ c = 53 ∨ c = 54 ∨ c = 55 ∨ c = 56 ∨ c = 57 := by omega
theorem sign_in {c : Nat} (h : 48 ≤ c ∧ c ≤ 57) : (Builtin.Str.occurrences (Str.ofString "0123456789") ⟨#[c]⟩ 0 (Str.ofString "0123456789").length 1).isEmpty = false ∧ Txt.find (Str.ofString "0123456789") ⟨#[c]⟩ = (c : Int) - 48 := by
  rcases ten_codes h with rfl | rfl | rfl | rfl | rfl | rfl | rfl | rfl | rfl | rfl <;> decide +kernel
end Mine
local macro_rules | `(tactic| walk_at "exec For Name Name cons nil") => `(tactic| (k_here; k_dflt (refine Mine.For_T (by k_asm) (by intro _ _; rfl) ?_)))
local macro_rules | `(tactic| walk_at "pyIter str") => `(tactic| (k_here; refine Mine.stop ?_))
local macro_rules | `(tactic| walk_at "execs cons") => `(tactic| ((with_reducible refine wpAny_execs_cons ?_); try dsimp only))
set_option maxRecDepth 100000 in
set_option maxHeartbeats 8000000 in
theorem Mine.number01 {w : World} {p : Program} {loose : List Str} {mean : ExcName → Option Value} {mg mb : Str → Option Value} {base h₀ : Heap} {L : Addr} {m : Str → Option Value} {env0 env : Env} {s : Shared} {Q : Value → Shared → Prop} {E : Value → Shared → Prop}
  (hf : env.frame = some L) (hke : env.scope.kind = .function) (B : Below (callerA.deeper env0) base [env0] h₀) (F : Fr h₀ L s.heap m) (X : (Mine.hd01.heap_39 w.params).In h₀) (T : Top p loose mean mg mb h₀)
  {ds : List Nat} {tn : Tok} (hlen : ds.length ≤ 4) (hds : ∀ c ∈ ds, 48 ≤ c ∧ c ≤ 57) (hne : ds ≠ []) (hz : ds = [48] ∨ ds.head? ≠ some 48)
  (hpost : ∀ h' tk t', (∀ b o, s.heap.get? b = some o → h'.get? b = some o) → Q (.int (Mine.numF ds) t') { s with heap := h', toks := tk }) :
  wpAny (model PySem.Challenge.rw_kn0091_01.row.prog w) ((callerA.deeper env0).deeper env) (call (.ref 70) [.str (Mine.dig ds) tn] []) Q E s := by
  w_top off
  revert X; k_fill; intro X
  refine wpAny_call (Mine.code_base (K := Mine.hd01.heap_39 w.params) B F X T rfl hf hke (by k_is) (by k_is) (by k_room) (BindsTo.of_eq rfl) (locs rfl) ?_ rfl rfl rfl (by decide))
  intro L' h₁ F' N' B' X' T'
  dsimp only
  clear F B X T
  have hdl : (Mine.dig ds).length = ds.length := rfl
  repeat' (first | (k_unfold; (try dsimp only)) | walk1 | (dsimp only; walk1) | fail "no step")
  case' _ => skip
  · exfalso
    rename ((Mine.dig ds == Str.ofString "") = true) => e1
    have e2 := congrArg (fun x : Str => x.cps.toList) (eq_of_beq e1)
    dsimp only [Mine.dig] at e2
    rw [Mine.empty9] at e2
    exact hne e2
  · exfalso
    rename ((Txt.item (Mine.dig ds) 0 == Str.ofString "0") = true) => e1
    rename ((Mine.dig ds != Str.ofString "0") = true) => e2
    rcases hz with rfl | hz
    · exact absurd e2 (by decide +kernel)
    · refine hz ?_
      cases ds with
      | nil => exact absurd rfl hne
      | cons a r =>
        have e3 := eq_of_beq e1
        have e4 : Txt.item (Mine.dig (a :: r)) 0 = ⟨#[a]⟩ := by
          have := item_zero_left a r Str.empty
          rw [Str.append_empty] at this
          exact this
        rw [e4] at e3
        have e5 : Str.ofString "0" = ⟨#[48]⟩ := by decide +kernel
        rw [e5] at e3
        cases e3; rfl
  all_goals (
    rename Fr s.heap L' _ _ => F9
    rename News s.heap L' _ _ => N9
    refine Mine.unstop (Mine.forT_str [Str.ofString "sign", Str.ofString "number"] (fun i u nw => nw = [] ∧ ∃ t, u (Str.ofString "number") = some (.int (Mine.numF (ds.take i)) t)) rfl F9 N9 ⟨rfl, _, rfl⟩ ?_ ?_)
    · intro i c t u nw I oI h tk hc hJ hoff0 F N
      obtain ⟨rfl, t0, hu⟩ := hJ
      have hoff := hoff0
      simp only [Mine.Off, and_true] at hoff
      simp only [Mine.over] at F
      have hc' : ds[i]? = some c := hc
      have htake : ds.take (i + 1) = ds.take i ++ [c] := by rw [List.take_add_one, hc']; rfl
      have hcr := hds c (List.mem_of_getElem? hc')
      have hil : i < ds.length := (List.getElem?_eq_some_iff.mp hc').1
      have hb := Mine.numF_bound _ (ds.take i) rfl fun c h => hds c (List.mem_of_mem_take h)
      have hb4 : (10 : Int) ^ (ds.take i).length ≤ 1000 := by
        have : (ds.take i).length ≤ 3 := by rw [List.length_take]; omega
        generalize (ds.take i).length = q at this
        rcases q with _ | _ | _ | _ | q
        · decide
        · decide
        · decide
        · decide
        · omega
      rw [hu] at F
      have hstep := Mine.numF_snoc (ds.take i) c
      rw [← htake] at hstep
      generalize Mine.numF (ds.take i) = nn at *
      obtain ⟨hin, hfd⟩ := Mine.sign_in hcr
      (repeat' (first | (k_unfold; (try dsimp only)) | walk1 | (dsimp only; walk1) | fail "no step"))
      · exfalso; omega
      · rename Fr s.heap L' _ _ => F8
        rename News s.heap L' _ _ => N8
        (try dsimp only [Mine.TurnPost])
        rw [hfd] at F8
        refine Mine.TurnEnd.mk' [] F8 N8 hoff0 ⟨fun z z1 => by simp only [List.mem_cons, List.not_mem_nil, or_false, not_or] at z1; simp only [if_neg z1.1, if_neg z1.2], rfl, _, by rw [hstep]; rfl⟩
    · intro u nw h tk hJ F N
      obtain ⟨rfl, t0, hu⟩ := hJ
      simp only [Mine.over] at F
      rw [hu] at F
      have hb := Mine.numF_bound _ ds rfl hds
      have htake : ds.take ((Mine.dig ds).cps.size) = ds := List.take_length
      rw [htake] at F
      (repeat' (first | (k_unfold; (try dsimp only)) | walk1 | (dsimp only; walk1) | fail "no step"))
      refine Mine.LeaveB.intro F ?_
      exact hpost _ _ _ F.keep)
end
section
namespace Mine
def Free (c : Nat) (x : Str) : Prop := c ∉ x.cps.toList
theorem cps_append (x y : Str) : (x ++ y).cps.toList = x.cps.toList ++ y.cps.toList := by
  show (x.cps ++ y.cps).toList = _
  exact Array.toList_append
theorem str_ext {x y : Str} (h : x.cps.toList = y.cps.toList) : x = y := by
  cases x; cases y; congr 1; exact Array.ext' h
theorem app_free {c : Nat} : ∀ {a b x y : List Nat}, c ∉ a → c ∉ b → a ++ c :: x = b ++ c :: y → a = b ∧ x = y
  | [], [], _, _, _, _, h => ⟨rfl, by cases h; rfl⟩
  | [], b :: bs, _, _, _, hb, h => by cases h; exact absurd List.mem_cons_self hb
  | a :: as, [], _, _, ha, _, h => by cases h; exact absurd List.mem_cons_self ha
  | a :: as, b :: bs, _, _, ha, hb, h => by
    rw [List.cons_append, List.cons_append] at h
    injection h with h1 h2
    have := app_free (fun q => ha (List.mem_cons_of_mem _ q)) (fun q => hb (List.mem_cons_of_mem _ q)) h2
    exact ⟨by rw [h1, this.1], this.2⟩
theorem join_cons2 (sep a b : Str) (r : List Str) : Str.join sep (a :: b :: r) = a ++ sep ++ Str.join sep (b :: r) := rfl
theorem join_inj {c : Nat} : ∀ (xs ys : List Str), xs ≠ [] → ys ≠ [] → (∀ x ∈ xs, Free c x) → (∀ y ∈ ys, Free c y) → Str.join ⟨#[c]⟩ xs = Str.join ⟨#[c]⟩ ys → xs = ys
  | [], _, h, _, _, _, _ => absurd rfl h
  | _, [], _, h, _, _, _ => absurd rfl h
  | [a], [b], _, _, _, _, h => by rw [show a = b from h]
  | [a], b :: b2 :: bs, _, _, hx, _, h => by
    have h' := congrArg (fun z : Str => z.cps.toList) h
    rw [join_cons2] at h'
    simp only [cps_append] at h'
    have := hx a List.mem_cons_self
    exact absurd (show c ∈ a.cps.toList by
      have h2 : a.cps.toList = b.cps.toList ++ [c] ++ (Str.join ⟨#[c]⟩ (b2 :: bs)).cps.toList := h'
      rw [h2]; simp) this
  | a :: a2 :: as, [b], _, _, _, hy, h => by
    have h' := congrArg (fun z : Str => z.cps.toList) h
    rw [join_cons2] at h'
    simp only [cps_append] at h'
    have := hy b List.mem_cons_self
    exact absurd (show c ∈ b.cps.toList by
      have h2 : a.cps.toList ++ [c] ++ (Str.join ⟨#[c]⟩ (a2 :: as)).cps.toList = b.cps.toList := h'
      rw [← h2]; simp) this
  | a :: a2 :: as, b :: b2 :: bs, _, _, hx, hy, h => by
    have h' := congrArg (fun z : Str => z.cps.toList) h
    rw [join_cons2, join_cons2] at h'
    simp only [cps_append, List.append_assoc] at h'
    have h3 := app_free (c := c) (hx a List.mem_cons_self) (hy b List.mem_cons_self) h'
    have ih := join_inj (a2 :: as) (b2 :: bs) (by simp) (by simp) (fun x q => hx x (List.mem_cons_of_mem _ q)) (fun x q => hy x (List.mem_cons_of_mem _ q)) (str_ext h3.2)
    rw [str_ext h3.1, ih]
theorem split_join {c : Nat} {xs : List Str} (hne : xs ≠ []) (hf : ∀ x ∈ xs, Free c x) : Txt.split (Str.join ⟨#[c]⟩ xs) ⟨#[c]⟩ = xs := by
  refine join_inj _ _ (fun e => ?_) hne (fun p hp => StrLaws.split_free _ c p hp) hf (StrLaws.join_split _ _)
  have := PyProof.Rows.split_pos (Str.join ⟨#[c]⟩ xs) ⟨#[c]⟩
  rw [e] at this
  simp at this
/-- the digits of a number below 1000 -/
def digs (k : Nat) : List Nat := (Str.ofString (toString (k : Int))).cps.toList
def digOk (k : Nat) : Bool := (digs k).length ≤ 4 && (digs k).all (fun c => 48 ≤ c && c ≤ 57) && (digs k) != [] && (digs k == [48] || (digs k).head? != some 48) && numF (digs k) == (k : Int) && (Str.ofString (toString (k : Int))) == dig (digs k)
set_option maxRecDepth 100000 in
theorem digs_all : (List.range 1000).all digOk = true := by decide +kernel
theorem digs_ok {k : Int} (h0 : 0 ≤ k) (h1 : k < 1000) : ∃ ds : List Nat, Str.ofString (toString k) = dig ds ∧ ds.length ≤ 4 ∧ (∀ c ∈ ds, 48 ≤ c ∧ c ≤ 57) ∧ ds ≠ [] ∧ (ds = [48] ∨ ds.head? ≠ some 48) ∧ numF ds = k := by
  obtain ⟨n, rfl⟩ := Int.eq_ofNat_of_zero_le h0
  have h := List.all_eq_true.mp digs_all n (List.mem_range.mpr (by omega))
  simp only [digOk, Bool.and_eq_true, decide_eq_true_eq, List.all_eq_true, bne_iff_ne, Bool.or_eq_true, beq_iff_eq] at h
  obtain ⟨⟨⟨⟨⟨h1, h2⟩, h3⟩, h4⟩, h5⟩, h6⟩ := h
  exact ⟨digs n, h6, h1, h2, h3, h4, h5⟩
theorem slice_to_app {p x : Str} {n : Int} (hn : n = (p.length : Int)) : Txt.slice (p ++ x) none (some n) = p := by
  have h1 : (p ++ x).length = p.length + x.length := Str.length_append ..
  rw [eq_of_beq (slice_closes_toL (x := p ++ x) (j := n) (by omega) (by omega))]
  refine str_ext ?_
  have e1 : ((n - 0).toNat) = p.cps.toList.length := by
    have : p.length = p.cps.toList.length := by unfold Str.length; simp
    omega
  show List.take _ (List.drop _ _) = _
  rw [e1, cps_append]
  show List.take _ (p.cps.toList ++ x.cps.toList) = _
  exact List.take_left
theorem slice_from_app {p x : Str} {n : Int} (hn : n = (p.length : Int)) : Txt.slice (p ++ x) (some n) none = x := by
  have h1 : (p ++ x).length = p.length + x.length := Str.length_append ..
  rw [slice_from_eq (x := p ++ x) (i := n) (b := ((p ++ x).length : Int)) (by omega) (by omega) rfl]
  refine str_ext ?_
  have e1 : n.toNat = p.cps.toList.length := by
    have : p.length = p.cps.toList.length := by unfold Str.length; simp
    omega
  have e2 : (((p ++ x).length : Int) - n).toNat = x.cps.toList.length := by
    have : x.length = x.cps.toList.length := by unfold Str.length; simp
    omega
  show List.take _ (List.drop _ _) = _
  rw [e2, e1, cps_append, List.drop_left]
  exact List.take_length
theorem slice_to_take {x : Str} {n : Int} (hn : 1 ≤ n) (hx : 1 ≤ x.length) : ∃ k, 1 ≤ k ∧ Txt.slice x none (some n) = ⟨(x.cps.toList.take k).toArray⟩ := by
  have base : ∀ j : Int, 1 ≤ j → j ≤ x.length → ∃ k, 1 ≤ k ∧ Txt.slice x none (some j) = ⟨(x.cps.toList.take k).toArray⟩ := fun j h0 h1 =>
    ⟨(j - 0).toNat, by omega, eq_of_beq (slice_closes_toL (x := x) (j := j) (by omega) h1)⟩
  rcases Int.le_total n x.length with h | h
  · exact base n hn h
  · rw [slice_to_beyond h]
    exact base _ (by omega) (Int.le_refl _)
theorem slice_ne {x p : Str} {n : Int} {c d : Nat} (hn : 1 ≤ n) (hx : x.cps.toList.head? = some c) (hp : p.cps.toList.head? = some d) (hcd : c ≠ d) : (Txt.slice x none (some n) == p) = false := by
  have hl : 1 ≤ x.length := by
    have : x.length = x.cps.toList.length := by unfold Str.length; simp
    cases e : x.cps.toList with
    | nil => rw [e] at hx; cases hx
    | cons a r => rw [this, e]; simp
  obtain ⟨k, hk, e⟩ := slice_to_take hn hl
  rw [e]
  refine Bool.eq_false_iff.mpr fun q => hcd ?_
  have e2 := eq_of_beq q
  rw [← e2] at hp
  obtain ⟨k', rfl⟩ : ∃ k', k = k' + 1 := ⟨k - 1, by omega⟩
  have e3 : (x.cps.toList.take (k' + 1)).head? = some d := hp
  cases e4 : x.cps.toList with
  | nil => rw [e4] at hx; cases hx
  | cons a r =>
    rw [e4] at hx e3
    simp at hx e3
    omega
theorem head_app {p x : Str} {c : Nat} (h : p.cps.toList.head? = some c) : (p ++ x).cps.toList.head? = some c := by
  rw [cps_append]
  cases e : p.cps.toList with
  | nil => rw [e] at h; cases h
  | cons a r => rw [e] at h; simpa using h
end Mine
end
section
set_option maxRecDepth 100000
namespace Mine
open PySem.Calls PySem.Spec
open PySem.AutoSeq1 (wpAny_loadPart')
theorem owner_map : Manifest.owners.lookup (String.ofList ['p', 'a', 'm'].reverse) = some Manifest.sig_map := by kernel_rfl
theorem slot_map_iter : Slot "map" "__iter__" "map.__iter__" :=
  .of (owner := "map") (n := "__iter__") (by rw [typeLookup_type, builtinLookup_eq_fast]; kernel_rfl) (by decide +kernel) (by decide +kernel) (by decide +kernel)
    (by first | exact .inl (by decide +kernel) | exact .inr (by decide +kernel)) (by rw [isSubtype_type]; kernel_rfl)
theorem slot_map_next : Slot "map" "__next__" "map.__next__" :=
  .of (owner := "map") (n := "__next__") (by rw [typeLookup_type, builtinLookup_eq_fast]; kernel_rfl) (by decide +kernel) (by decide +kernel) (by decide +kernel)
    (by first | exact .inl (by decide +kernel) | exact .inr (by decide +kernel)) (by rw [isSubtype_type]; kernel_rfl)
theorem slot_map_init : Slot "map" "__init__" "object.__init__" :=
  .of (owner := "object") (n := "__init__") (by rw [typeLookup_type, builtinLookup_eq_fast]; kernel_rfl) (by decide +kernel) (by decide +kernel) (by decide +kernel)
    (by first | exact .inl (by decide +kernel) | exact .inr (by decide +kernel)) (by rw [isSubtype_type]; kernel_rfl)
theorem args_map_iter_1 (a : Value) : argsOk "map.__iter__" ⟨[a], []⟩ := by
  unfold argsOk; rw [signature?_of (id := "map.__iter__") (n := ['_', '_', 'r', 'e', 't', 'i', '_', '_']) (o := ['p', 'a', 'm']) (by kernel_rfl) owner_map]; kernel_rfl
theorem args_map_next_1 (a : Value) : argsOk "map.__next__" ⟨[a], []⟩ := by
  unfold argsOk; rw [signature?_of (id := "map.__next__") (n := ['_', '_', 't', 'x', 'e', 'n', '_', '_']) (o := ['p', 'a', 'm']) (by kernel_rfl) owner_map]; kernel_rfl
theorem entry_map_iter : entryFor table "map.__iter__" = some Builtin.«dict_keyiterator.__iter__» :=
  entryFor_alias (id' := "dict_keyiterator.__iter__") (by kernel_rfl) (by first | rfl | decide +kernel | (unfold String.splitOn; simp +decide [String.splitOnAux])) (by decide +kernel) (by kernel_rfl)
theorem entry_map_next : entryFor table "map.__next__" = some Builtin.«map.__next__» := entryFor_of_tree (by kernel_rfl)
theorem entry_map_new : entryFor table "map.__new__" = some Builtin.«map.__new__» := entryFor_of_tree (by kernel_rfl)
theorem mro_map : mroOf (.type "map") = pure [.type "map", .type "object"] := by rw [mroOf_type]; kernel_rfl
theorem lookup_map_new : typeLookup (.type "map") "__new__" = pure (some (.builtin "map.__new__")) := by rw [typeLookup_type, builtinLookup_eq_fast]; kernel_rfl
theorem called_map : TypeCalled "map" "map.__new__" "object.__init__" :=
  ⟨by decide +kernel, by decide +kernel, ⟨_, _, mro_map⟩, madeBy_type mro_map lookup_map_new (by decide +kernel), by decide +kernel, by rw [isSubtype_type]; kernel_rfl, slot_map_init⟩
theorem typeCall_map_2 (a b : Value) : checkTypeCall "map" ⟨[a, b], []⟩ = pure () := by kernel_rfl
theorem newCall_map_2 (a b : Value) : checkBuiltinCall "map.__new__" ⟨[.type "map", a, b], []⟩ = pure () := by kernel_rfl
theorem sub_map : isSubtype (.type "map") (.type "map") = pure true := by rw [isSubtype_type]; kernel_rfl
theorem nolen_map : typeLookup (.type "map") "__len__" = pure none := by rw [typeLookup_type, builtinLookup_eq_fast]; kernel_rfl
theorem nohint_map : typeLookup (.type "map") "__length_hint__" = pure none := by rw [typeLookup_type, builtinLookup_eq_fast]; kernel_rfl
end Mine
end
section
set_option maxRecDepth 100000
namespace Mine
open PySem.Calls PySem.Spec
open PySem.AutoSeq1 (wpAny_loadPart')
abbrev IsMap (h : Heap) (M T : Addr) : Prop := h.get? M = some { cls := .type "map", dict := none, data := .fields #[.ref T, .type "str"], slots := #[] }
abbrev IsOne (h : Heap) (T : Addr) (a : Value) : Prop := h.get? T = some { cls := .type "tuple", dict := none, data := .seq #[a], slots := #[] }
section
variable {prog : Program} {w : World} {A : Around} {E : Value → Shared → Prop} {s : Shared}
theorem map_next_item {M T it l : Addr} {i : Nat} {items : Array Value} {x : Str} {t : Tok} {Q : Value → Shared → Prop}
    (hM : IsMap s.heap M T) (hT : IsOne s.heap T (.ref it)) (hit : s.heap.IsListIter it l i) (hl : s.heap.IsList l items) (hx : items[i]? = some (.str x t)) (hMi : M ≠ it)
    (hQ : ∀ h', h'.IsListIter it l (i + 1) → Heap.SameBut it s.heap h' → Q (.str x t) { s with heap := h' }) :
    wpAny (model prog w) A (Builtin.«map.__next__» ⟨[.ref M], []⟩) (fun fin s' => ∃ v, fin = .done (.ret v) ∧ Q v s') E s := by
  show wpAny _ _ (field (.ref M) 0 >>= _) _ _ _
  refine wpAny_bind (wpAny_field hM rfl (x := .ref T) rfl ?_)
  refine wpAny_bind (wpAny_seqItems hT rfl ?_)
  simp only [List.forIn_toArray, List.forIn_cons, List.forIn_nil]
  refine wpAny_bind (wpAny_bind (wpAny_bind (wpAny_holding (wpAny_nextOf_list_item hit hl hx fun h₁ hit₁ hs₁ => ?_))))
  refine wpAny_pure (wpAny_pure ?_)
  have hM₁ : IsMap h₁ M T := (hs₁.2 M hMi).trans hM
  refine wpAny_bind (wpAny_field hM₁ rfl (x := .type "str") rfl ?_)
  refine wpAny_bind (wpAny_holding (PySem.P.str_of_str ?_))
  refine wpAny_bind (wpAny_letGo ?_)
  exact wpAny_pure ⟨_, rfl, hQ _ hit₁ hs₁⟩
theorem map_next_end {M T it l : Addr} {i : Nat} {items : Array Value} {Q : Fin → Shared → Prop} (hh : A.handled = none)
    (hM : IsMap s.heap M T) (hT : IsOne s.heap T (.ref it)) (hit : s.heap.IsListIter it l i) (hl : s.heap.IsList l items) (hx : items[i]? = none)
    (hE : ∀ h' e, Heap.ExtBut it s.heap h' → (∃ o, h'.get? e = some o ∧ o.cls = .type "StopIteration") → E (.ref e) { s with heap := h' }) :
    wpAny (model prog w) A (Builtin.«map.__next__» ⟨[.ref M], []⟩) Q E s := by
  show wpAny _ _ (field (.ref M) 0 >>= _) _ _ _
  refine wpAny_bind (wpAny_field hM rfl (x := .ref T) rfl ?_)
  refine wpAny_bind (wpAny_seqItems hT rfl ?_)
  simp only [List.forIn_toArray, List.forIn_cons, List.forIn_nil]
  exact wpAny_bind (wpAny_bind (wpAny_bind (wpAny_holding (wpAny_nextOf_list_end hh hit hl hx hE))))
theorem pyIter_map {M T : Addr} {Q : Value → Shared → Prop} (hM : IsMap s.heap M T) (h : Q (.ref M) s) : wpAny (model prog w) A (pyIter (.ref M)) Q E s := by
  have hT : s.TypeIs (.ref M) "map" := ⟨_, hM, rfl⟩
  refine wpAny_pyIter_slot hT slot_map_iter (wpAny_call_entry slot_map_iter hT entry_map_iter ?_ (args_map_iter_1 _))
  show wpAny _ _ (ret (.ref M)) _ _ s
  exact wpAny_pure ⟨_, rfl, "map", _, hT, slot_map_next.lookup, h⟩
theorem pyNext_map_item {M T it l : Addr} {i : Nat} {items : Array Value} {x : Str} {t : Tok} {Q : Option Value → Shared → Prop}
    (hM : IsMap s.heap M T) (hT : IsOne s.heap T (.ref it)) (hit : s.heap.IsListIter it l i) (hl : s.heap.IsList l items) (hx : items[i]? = some (.str x t)) (hMi : M ≠ it)
    (hQ : ∀ h', h'.IsListIter it l (i + 1) → Heap.SameBut it s.heap h' → Q (some (.str x t)) { s with heap := h' }) :
    wpAny (model prog w) A (pyNext (.ref M)) Q E s := by
  have hy : s.TypeIs (.ref M) "map" := ⟨_, hM, rfl⟩
  unfold pyNext
  exact wpAny_bind (wpAny_attempt (wpAny_callSpecial?_slot (name := Str.ofString "__next__") hy slot_map_next
    (wpAny_call_entry slot_map_next hy entry_map_next
      (map_next_item hM hT hit hl hx hMi fun h' a b => wpAny_pure (hQ h' a b)) (args_map_next_1 _))))
theorem pyNext_map_end {M T it l : Addr} {i : Nat} {items : Array Value} {Q : Option Value → Shared → Prop} (hh : A.handled = none)
    (hM : IsMap s.heap M T) (hT : IsOne s.heap T (.ref it)) (hit : s.heap.IsListIter it l i) (hl : s.heap.IsList l items) (hx : items[i]? = none)
    (hQ : ∀ h', Heap.ExtBut it s.heap h' → Q none { s with heap := h' }) : wpAny (model prog w) A (pyNext (.ref M)) Q E s := by
  have hy : s.TypeIs (.ref M) "map" := ⟨_, hM, rfl⟩
  unfold pyNext
  refine wpAny_bind (wpAny_attempt (wpAny_callSpecial?_slot (name := Str.ofString "__next__") hy slot_map_next
    (wpAny_call_entry slot_map_next hy entry_map_next ?_ (args_map_next_1 _))))
  refine map_next_end hh hM hT hit hl hx fun h' x he' hx' => ?_
  obtain ⟨o, ho, hc⟩ := hx'
  refine wpAny_bind (wpAny_isInstance (T := "StopIteration") (b := true) ⟨o, ho, hc⟩ isSubtype_stop ?_)
  exact wpAny_pure (hQ _ he')
end
/-- map(str, list of texts) as a walk -/
theorem Walks.map {prog : Program} {w : World} {A : Around} (hh : A.handled = none) {M T it l : Addr} (hMi : M ≠ it) (hTi : T ≠ it) (hli : l ≠ it) (items : Array Value) (hs : ∀ (i : Nat) v, items[i]? = some v → ∃ x t, v = .str x t) :
    Walks prog w A M [M, T, it, l] [it] items.size (fun i v => items[i]? = some v) (fun i h => IsMap h M T ∧ IsOne h T (.ref it) ∧ h.IsListIter it l i ∧ h.IsList l items) where
  sub := fun b hb => by simp at hb; simp [hb]
  frame := fun _ _ _ st hk => ⟨hk M (by simp) _ st.1, hk T (by simp) _ st.2.1, st.2.2.1.at fun o e => hk it (by simp) o e, st.2.2.2.at fun o e => hk l (by simp) o e⟩
  item := fun i s Q E hi st hQ => by
    obtain ⟨x, t, e⟩ := hs i items[i] (by simp [hi])
    have hx : items[i]? = some (.str x t) := by rw [← e]; simp [hi]
    refine pyNext_map_item st.1 st.2.1 st.2.2.1 st.2.2.2 hx hMi fun h' hit' hs' => ?_
    exact hQ _ h' s.toks hx ⟨hs'.extBut M _ hMi st.1, hs'.extBut T _ hTi st.2.1, hit', st.2.2.2.extBut hs'.extBut hli⟩ fun b o hb e => hs'.extBut b o (fun h => hb (by simp [h])) e
  done := fun s Q E st hQ => pyNext_map_end hh st.1 st.2.1 st.2.2.1 st.2.2.2 (by simp) fun h' he' => hQ h' s.toks fun b o hb e => he' b o (fun h => hb (by simp [h])) e
  self := fun _ _ _ _ st hQ => pyIter_map st.1 hQ
end Mine
end
section
set_option maxRecDepth 100000
namespace Mine
open PySem.Calls PySem.Spec
section
variable {prog : Program} {w : World} {A : Around} {R : Result → Shared → Prop}
theorem extend_map_loop (hh : A.handled = none) {S M T it l : Addr} (hMi : M ≠ it) (hTi : T ≠ it) (hli : l ≠ it) (hSM : S ≠ M) (hST : S ≠ T) (hSi : S ≠ it) (hSl : S ≠ l) {vs : List Value} (hs : ∀ (i : Nat) v, vs.toArray[i]? = some v → ∃ x t, v = .str x t) (zs : List Value) (hz : zs.length + vs.length ≤ sizeLine) :
    ∀ (k i : Nat) (s : Shared) (c : Nat), vs.length - i = k → i ≤ vs.length → IsMap s.heap M T → IsOne s.heap T (.ref it) → s.heap.IsListIter it l i → s.heap.IsList l vs.toArray →
    s.heap.get? S = some (W.listOf (zs ++ vs.take i).toArray c) →
    (∀ h' tk c', (∀ b o, b ≠ S → b ≠ it → s.heap.get? b = some o → h'.get? b = some o) → h'.get? S = some (W.listOf (zs ++ vs).toArray c') → R (.ok (.ret .none)) { s with heap := h', toks := tk }) →
    codeAny (model prog w) A (.builtin "list.extend.loop" ⟨[.ref S, .ref M, .none], []⟩) R s := by
  have Wk := Walks.map (prog := prog) (w := w) (A := A.in1) hh hMi hTi hli vs.toArray hs
  intro k
  induction k with
  | zero =>
    intro i s c hk hi hM hT hit hl hS hR
    have hin : i = vs.length := by omega
    subst hin
    refine codeAny_builtin PySem.F.entry_extend_loop ?_
    rw [Around.under_plainId PySem.F.plain_extend_loop _]
    show wpAny _ A.in1 (pyNext (.ref M) >>= _) _ _ s
    refine wpAny_bind (Wk.done s _ _ (by rw [List.size_toArray]; exact ⟨hM, hT, hit, hl⟩) fun h' tk hm => ?_)
    refine wpAny_pure (hR h' tk c (fun b o _ hb e => hm b o (by simpa using hb) e) ?_)
    rw [hm S _ (by simpa using hSi) hS, List.take_of_length_le (Nat.le_refl _)]
  | succ k ih =>
    intro i s c hk hi hM hT hit hl hS hR
    have hlt : i < vs.length := by omega
    refine codeAny_builtin PySem.F.entry_extend_loop ?_
    rw [Around.under_plainId PySem.F.plain_extend_loop _]
    show wpAny _ A.in1 (pyNext (.ref M) >>= _) _ _ s
    refine wpAny_bind (Wk.item i s _ _ (by simpa using hlt) ⟨hM, hT, hit, hl⟩ fun v h' tk hP hst' hm => ?_)
    have hS' : h'.get? S = some (W.listOf (zs ++ vs.take i).toArray c) := hm S _ (by simpa using hSi) hS
    show wpAny _ A.in1 (updateSeq S (·.push v) >>= _) _ _ _
    refine wpAny_bind ?_
    have hv : vs[i]? = some v := by simpa using hP
    have oth : ∀ b o, b ≠ S → h'.get? b = some o → (h'.update S (Obj.mapSeq (·.push v))).get? b = some o := fun b o hb e => (Heap.get?_update_other _ _ (fun h : S = b => hb h.symm)).trans e
    have hS₂ : (h'.update S (Obj.mapSeq (·.push v))).get? S = some (W.listOf (zs ++ vs.take (i + 1)).toArray (c + 1)) := by
      rw [Heap.get?_update_self _ hS' rfl, List.take_add_one, hv]
      simp [Obj.mapSeq, W.listOf]
    refine wpAny_updateSeq hS' rfl (wpAny_pure ⟨plainId_quiet PySem.F.plain_extend_loop _, ih (i + 1) _ (c + 1) (by omega) hlt (oth _ _ (Ne.symm hSM) hst'.1) (oth _ _ (Ne.symm hST) hst'.2.1) (hst'.2.2.1.at fun o e => oth _ _ (Ne.symm hSi) e) (hst'.2.2.2.at fun o e => oth _ _ (Ne.symm hSl) e) hS₂ fun h'' tk'' c'' hk'' hS'' => ?_⟩)
      (by rw [List.size_toArray, List.length_append, List.length_take]; omega) (by rw [Array.size_push, List.size_toArray, List.length_append, List.length_take]; omega)
    exact hR h'' tk'' c'' (fun b o hb hb' e => hk'' b o hb hb' (oth b o hb (hm b o (by simpa using hb') e))) hS''
end
section
variable {prog : Program} {w : World} {A : Around} {E : Value → Shared → Prop} {s : Shared}
theorem extend_map (hh : A.handled = none) {S M T it l : Addr} {c : Nat} {Q : Value → Shared → Prop} (hMi : M ≠ it) (hTi : T ≠ it) (hli : l ≠ it) (hSM : S ≠ M) (hST : S ≠ T) (hSi : S ≠ it) (hSl : S ≠ l) {vs : List Value} (hs : ∀ (i : Nat) v, vs.toArray[i]? = some v → ∃ x t, v = .str x t) (zs : List Value) (hz : zs.length + vs.length + 8 ≤ sizeLine)
    (hM : IsMap s.heap M T) (hT : IsOne s.heap T (.ref it)) (hit : s.heap.IsListIter it l 0) (hl : s.heap.IsList l vs.toArray) (hS : s.heap.get? S = some (W.listOf zs.toArray c))
    (hQ : ∀ h' tk c', (∀ b o, b ≠ S → b ≠ it → s.heap.get? b = some o → h'.get? b = some o) → h'.get? S = some (W.listOf (zs ++ vs).toArray c') → Q .none { s with heap := h', toks := tk }) :
    wpAny (model prog w) A (call (.builtin "list.extend") [.ref S, .ref M]) Q E s := by
  have hTy : s.TypeIs (.ref M) "map" := ⟨_, hM, rfl⟩
  refine wpAny_call (codeAny_call_builtin PySem.F.slot_list_extend.plain PySem.F.entry_list_extend (PySem.F.slot_list_extend.check _ _ _ _ _ _ _ _ ⟨_, hS, rfl⟩ (PySem.F.args_list_extend_2 _ _) ?_))
  show wpAny _ A.in1 (Builtin.List.listExtendWith (.ref S) (.ref M) .none) _ _ s
  unfold Builtin.List.listExtendWith
  refine wpAny_bind (wpAny_typeOf hTy ?_)
  have h1 : Builtin.List.listSameRef (.ref S) (.ref M) = false := by simp [Builtin.List.listSameRef, hSM]
  have h2 : (Value.type "map" == Value.type "list") = false := by decide
  have h3 : (Value.type "map" == Value.type "tuple") = false := by decide
  simp only [h1, h2, h3, Bool.or_false, Bool.false_eq_true, if_false]
  refine wpAny_bind (pyIter_map hM ?_)
  refine wpAny_bind (wpAny_holding ?_)
  unfold Builtin.List.listLengthHint
  refine wpAny_bind (wpAny_specialOf hTy nolen_map ?_)
  show wpAny _ A.in1 (specialOf (Value.ref M) (Str.ofString "__length_hint__") >>= _) _ _ _
  refine wpAny_bind (wpAny_specialOf hTy nohint_map ?_)
  refine wpAny_pure ?_
  show wpAny _ A.in1 (rule "list.extend.makes-room" >>= fun _ => Builtin.List.listTouch (.ref S) >>= fun _ =>
    again (.builtin "list.extend.loop" ⟨[.ref S, .ref M, .none], []⟩)) _ _ _
  refine wpAny_bind (wpAny_rule ?_)
  refine wpAny_bind ?_
  show wpAny _ A.in1 (updateSeq S (·.push .none) >>= fun _ => updateSeq S (·.pop)) _ _ _
  refine wpAny_bind (wpAny_updateSeq hS rfl ?_ (by rw [List.size_toArray]; omega) (by rw [Array.size_push, List.size_toArray]; omega))
  have hS₂ := Heap.get?_update_self (Obj.mapSeq (·.push Value.none)) hS rfl
  refine wpAny_updateSeq hS₂ rfl ?_ (by rw [Array.size_push, List.size_toArray]; omega) (by rw [Array.size_pop, Array.size_push, List.size_toArray]; omega)
  have hS₃ := Heap.get?_update_self (Obj.mapSeq (·.pop)) hS₂ rfl
  have oth : ∀ b o, b ≠ S → s.heap.get? b = some o → ((s.heap.update S (Obj.mapSeq (·.push Value.none))).update S (Obj.mapSeq (·.pop))).get? b = some o :=
    fun b o hb e => (Heap.get?_update_other _ _ (Ne.symm hb)).trans ((Heap.get?_update_other _ _ (Ne.symm hb)).trans e)
  have hS₄ : ((s.heap.update S (Obj.mapSeq (·.push Value.none))).update S (Obj.mapSeq (·.pop))).get? S = some (W.listOf (zs ++ vs.take 0).toArray (c + 1 + 1)) := by
    rw [hS₃]; simp [Obj.mapSeq, W.listOf]
  refine wpAny_pure ⟨plainId_quiet PySem.F.plain_extend_loop _, extend_map_loop hh hMi hTi hli hSM hST hSi hSl hs zs (by omega) vs.length 0 _ _ (Nat.sub_zero _) (Nat.zero_le _) (oth _ _ (Ne.symm hSM) hM) (oth _ _ (Ne.symm hST) hT) (hit.at fun o e => oth _ _ (Ne.symm hSi) e) (hl.at fun o e => oth _ _ (Ne.symm hSl) e) hS₄ fun h' tk c' hk' hS' => hQ h' tk c' (fun b o hb hb' e => hk' b o hb hb' (oth b o hb e)) hS'⟩
end
end Mine
end
section
set_option maxRecDepth 100000
namespace Mine
open PySem.Calls PySem.Spec
open PySem.AutoSeq1 (wpAny_loadPart')
theorem meets_map_new (l : Addr) (items : Array Value) :
    Meets (Builtin.«map.__new__» ⟨[.type "map", .type "str", .ref l], []⟩) (fun _ R s => s.heap.IsList l items ∧
      R (.ok (.ret (.ref ((s.heap.push { cls := .type "list_iterator", data := .fields #[.ref l, .int 0 0] }).push { cls := .type "tuple", data := .seq #[.ref s.heap.objs.size] }).objs.size)))
        { s with heap := ((s.heap.push { cls := .type "list_iterator", data := .fields #[.ref l, .int 0 0] }).push { cls := .type "tuple", data := .seq #[.ref s.heap.objs.size] }).push { cls := .type "map", data := .fields #[.ref (s.heap.push { cls := .type "list_iterator", data := .fields #[.ref l, .int 0 0] }).objs.size, .type "str"] } }) :=
  .of_wp fun prog w A R s h => by
    obtain ⟨hp, g, d, tk, os⟩ := s; obtain ⟨hL, h⟩ := h
    have hsub := sub_map
    have hL' : Heap.IsList (Shared.heap ⟨hp, g, d, tk, os⟩) l items := hL
    unfold Builtin.«map.__new__»
    wp_walk using wpAny_pyIter_list hL'
    exact ⟨_, rfl, h⟩
theorem args_object_init_3 (a b c : Value) : argsOk "object.__init__" ⟨[a, b, c], []⟩ := by
  unfold argsOk; rw [signature?_of (id := "object.__init__") (n := ['_', '_', 't', 'i', 'n', 'i', '_', '_']) (o := ['t', 'c', 'e', 'j', 'b', 'o']) (by kernel_rfl) PySem.F.owner_object]; kernel_rfl
section
variable {prog : Program} {w : World} {A : Around} {E : Value → Shared → Prop} {s : Shared}
theorem call_map_str {l : Addr} {items : Array Value} {Q : Value → Shared → Prop} (hl : s.heap.IsList l items)
    (h : ∀ h' M T it, s.heap.objs.size ≤ it → T ≠ it → M ≠ it → s.heap.objs.size ≤ T → s.heap.objs.size ≤ M → IsMap h' M T → IsOne h' T (.ref it) → h'.IsListIter it l 0 →
      (∀ b o, s.heap.get? b = some o → h'.get? b = some o) → Q (.ref M) { s with heap := h' }) :
    wpAny (model prog w) A (call (.type "map") [.type "str", .ref l]) Q E s := by
  refine callType_new called_map (by decide) (typeCall_map_2 _ _) (newCall_map_2 _ _) (fun obj => args_object_init_3 obj _ _) entry_map_new (meets_map_new l items) ⟨hl, ?_⟩
  have z1 : (s.heap.push { cls := .type "list_iterator", data := .fields #[.ref l, .int 0 0] }).objs.size = s.heap.objs.size + 1 := Heap.size_push ..
  have z2 : ((s.heap.push { cls := .type "list_iterator", data := .fields #[.ref l, .int 0 0] }).push { cls := .type "tuple", data := .seq #[.ref s.heap.objs.size] }).objs.size = s.heap.objs.size + 1 + 1 := by rw [Heap.size_push, z1]
  show _ ∧ _
  have g1 := Heap.get?_push_size s.heap (o := { cls := .type "list_iterator", data := .fields #[.ref l, .int 0 0] }) rfl
  have g2 := Heap.get?_push_size (s.heap.push { cls := .type "list_iterator", data := .fields #[.ref l, .int 0 0] }) (o := { cls := .type "tuple", data := .seq #[.ref s.heap.objs.size] }) rfl
  have g3 := Heap.get?_push_size ((s.heap.push { cls := .type "list_iterator", data := .fields #[.ref l, .int 0 0] }).push { cls := .type "tuple", data := .seq #[.ref s.heap.objs.size] }) (o := { cls := .type "map", data := .fields #[.ref (s.heap.push { cls := .type "list_iterator", data := .fields #[.ref l, .int 0 0] }).objs.size, .type "str"] }) rfl
  refine ⟨⟨_, g3, rfl⟩, h _ _ (s.heap.push { cls := .type "list_iterator", data := .fields #[.ref l, .int 0 0] }).objs.size s.heap.objs.size (Nat.le_refl _) (by rw [z1]; exact Nat.succ_ne_self _) (by rw [z2]; omega) (by rw [z1]; omega) (by rw [z2]; omega) g3 (Heap.get?_push_of_some _ g2) ⟨_, Heap.get?_push_of_some _ (Heap.get?_push_of_some _ g1), rfl, rfl⟩ fun b o x => Heap.get?_push_of_some _ (Heap.get?_push_of_some _ (Heap.get?_push_of_some _ x))⟩
end
end Mine
end
section
namespace Mine
open PySem.Calls PySem.Spec
def MapAt (h₀ : Heap) (L : Addr) (news : List (Addr × Obj)) (h : Heap) (M l : Addr) : Prop :=
  ∃ T it, IsMap h M T ∧ IsOne h T (.ref it) ∧ h.IsListIter it l 0 ∧ h₀.get? it = none ∧ L ≠ it ∧ Off it news ∧ Off M news ∧ Off T news ∧ M ≠ it ∧ T ≠ it ∧ l ≠ it
section
variable {prog : Program} {w : World} {A : Around} {E : Value → Shared → Prop} {s : Shared} {h₀ : Heap} {L l : Addr} {m : Str → Option Value} {news : List (Addr × Obj)} {vs : List Value}
theorem map_step {Q : Value → Shared → Prop} (F : Fr h₀ L s.heap m) (N : News h₀ L s.heap news) (hl : h₀.IsList l vs.toArray)
    (h : ∀ h' M, Fr h₀ L h' m → News h₀ L h' news → MapAt h₀ L news h' M l → Q (.ref M) { s with heap := h' }) : wpAny (model prog w) A (call (.type "map") [.type "str", .ref l]) Q E s := by
  have hl' : s.heap.IsList l vs.toArray := hl.at fun o e => F.keep _ _ e
  refine call_map_str hl' fun h' M T it a b c d e hM hT hit k => h h' M (F.keeps k) (N.grown k) ⟨T, it, hM, hT, hit, ?_, ?_, ?_, ?_, ?_, c, b, ?_⟩
  · cases q : h₀.get? it with
    | none => rfl
    | some o => exact absurd (Nat.lt_of_lt_of_le (Heap.lt_size q) (Nat.le_trans F.above (Nat.le_trans (Nat.le_of_lt F.ns.lt) a))) (Nat.lt_irrefl _)
  · intro q; exact absurd (Nat.lt_of_lt_of_le F.ns.lt a) (q ▸ Nat.lt_irrefl _)
  · exact Off.of fun p hp q => absurd (Nat.lt_of_lt_of_le (Heap.lt_size (N p hp).1) a) (q ▸ Nat.lt_irrefl _)
  · exact Off.of fun p hp q => absurd (Nat.lt_of_lt_of_le (Heap.lt_size (N p hp).1) e) (q ▸ Nat.lt_irrefl _)
  · exact Off.of fun p hp q => absurd (Nat.lt_of_lt_of_le (Heap.lt_size (N p hp).1) d) (q ▸ Nat.lt_irrefl _)
  · obtain ⟨o, ho, _⟩ := hl'
    intro q; exact absurd (Nat.lt_of_lt_of_le (Heap.lt_size ho) a) (q ▸ Nat.lt_irrefl _)
theorem extend_step {Q : Value → Shared → Prop} {S M : Addr} {zs : List Value} {n : Nat} {xs : List Str} {g : Obj → List (Addr × Obj)} (hh : A.handled = none) (F : Fr h₀ L s.heap m) (N : News h₀ L s.heap news) (hl : h₀.IsList l vs.toArray) (hv : Pd StrV xs vs)
    (hM : MapAt h₀ L news s.heap M l) (U : UpdF S (W.listOf zs.toArray n) news g) (hz : zs.length + vs.length + 8 ≤ sizeLine)
    (h : ∀ h' tk c', Fr h₀ L h' m → News h₀ L h' (g (W.listOf (zs ++ vs).toArray c')) → Q .none { s with heap := h', toks := tk }) : wpAny (model prog w) A (call (.builtin "list.extend") [.ref S, .ref M]) Q E s := by
  obtain ⟨T, it, hMM, hT, hit, hbi, hLi, oi, oM, oT, hMi, hTi, hli⟩ := hM
  obtain ⟨pre, post, rfl, hg, h1, h2⟩ := U.split
  have hmem : (S, W.listOf zs.toArray n) ∈ pre ++ (S, W.listOf zs.toArray n) :: post := List.mem_append_right _ (.head _)
  have hS := N _ hmem
  have hl' : s.heap.IsList l vs.toArray := hl.at fun o e => F.keep _ _ e
  have hSl : S ≠ l := fun q => by obtain ⟨o, ho, _⟩ := hl; rw [← q] at ho; have := hS.2.2; rw [this] at ho; cases ho
  have hstr : ∀ (i : Nat) v, vs.toArray[i]? = some v → ∃ x t, v = .str x t := fun i v e => by
    obtain ⟨a, _, t, q⟩ := pd_at hv i v (by simpa using e)
    exact ⟨a, t, q⟩
  refine extend_map hh hMi hTi hli (fun q => oM.mem _ hmem q) (fun q => oT.mem _ hmem q) (fun q => oi.mem _ hmem q) hSl hstr zs hz hMM hT hit hl' hS.1 fun h' tk c' hk hS' => ?_
  have keepB : ∀ b o, h₀.get? b = some o → h'.get? b = some o := fun b o e => hk b o (fun q => by rw [q] at e; have := hS.2.2; rw [this] at e; cases e) (fun q => by rw [q, hbi] at e; cases e) (F.keep b o e)
  refine h h' tk c' ⟨F.ns.at' fun o e => hk _ _ (fun q => hS.2.1 q.symm) hLi e, keepB, F.above⟩ ?_
  rw [hg]
  intro p hp
  rcases List.mem_append.mp hp with hp | hp
  · have := N p (List.mem_append_left _ hp)
    exact ⟨hk _ _ (h1 p hp) (oi.mem _ (List.mem_append_left _ hp)) this.1, this.2⟩
  · rcases List.mem_cons.mp hp with rfl | hp
    · exact ⟨hS', hS.2⟩
    · have := N p (List.mem_append_right _ (List.mem_cons_of_mem _ hp))
      exact ⟨hk _ _ (h2 p hp) (oi.mem _ (List.mem_append_right _ (List.mem_cons_of_mem _ hp))) this.1, this.2⟩
end
end Mine
end
section
namespace Mine
theorem inst_up {g h : Heap} {L : Addr} {m : Str → Option Value} {x C : Addr} {ox : Obj} {od : Option Obj} (I : InstAt g x ox C od) (F : Fr g L h m) : InstAt h x ox C od :=
  ⟨F.keep _ _ I.at_, I.cls, I.no, by
    have := I.dict
    revert this
    cases ox.dict with
    | none => cases od with
      | none => exact id
      | some o => exact id
    | some a => cases od with
      | none => exact id
      | some o => exact fun e => F.keep _ _ e⟩
/-- an Entry's own dict, as __init__ leaves it -/
abbrev entryDict (h1 h2 h3 h4 : Int) (t1 t2 t3 t4 : Tok) (ua rl dl rr : Value) (n : Nat) : Obj :=
  dictOf [⟨h1, .str (Str.ofString "useragents") t1, ua⟩, ⟨h2, .str (Str.ofString "rulelines") t2, rl⟩, ⟨h3, .str (Str.ofString "delay") t3, dl⟩, ⟨h4, .str (Str.ofString "req_rate") t4, rr⟩] n
end Mine
namespace Mine
def uaLine (a : Str) : Str := Str.ofString "User-agent: " ++ a
def dlLine (k : Int) : Str := Str.ofString "Crawl-delay: " ++ Str.ofString (toString k)
def rrLine (p : Int × Int) : Str := Str.ofString "Request-rate: " ++ Str.ofString (toString p.1) ++ Str.ofString "/" ++ Str.ofString (toString p.2)
def linesOf (agents : List Str) (dly : Option Int) (rate : Option (Int × Int)) (rules : List Str) : List Str :=
  agents.map uaLine ++ (dly.map dlLine).toList ++ (rate.map rrLine).toList ++ (if rules = [] then [Str.ofString "Allow:"] else rules)
def strText (agents : List Str) (dly : Option Int) (rate : Option (Int × Int)) (rules : List Str) : Str :=
  if agents = [] then Str.ofString "" else Txt.join ⟨#[10]⟩ (linesOf agents dly rate rules)
def DelayV (v : Value) (d : Option Int) : Prop := (v = .none ∧ d = none) ∨ ∃ k t, v = .int k t ∧ d = some k ∧ 0 ≤ k ∧ k ≤ 1000
def rateDict (h1 h2 h3 h4 h5 h6 : Int) (t1 t2 t3 t4 t5 t6 : Tok) (ua rl dl rr : Value) (a b : Int) (ta tb : Tok) (n : Nat) : Obj :=
  dictOf [⟨h1, .str (Str.ofString "useragents") t1, ua⟩, ⟨h2, .str (Str.ofString "rulelines") t2, rl⟩, ⟨h3, .str (Str.ofString "delay") t3, dl⟩, ⟨h4, .str (Str.ofString "req_rate") t4, rr⟩, ⟨h5, .str (Str.ofString "requests") t5, .int a ta⟩, ⟨h6, .str (Str.ofString "seconds") t6, .int b tb⟩] n
def RateV (h : Heap) (v : Value) (r : Option (Int × Int)) : Prop := (v = .none ∧ r = none) ∨
  ∃ y d h1 h2 h3 h4 h5 h6 t1 t2 t3 t4 t5 t6 ua rl dl rr a b ta tb n, v = .ref y ∧ r = some (a, b) ∧ InstAt h y (instObj 59 d) 59 (some (rateDict h1 h2 h3 h4 h5 h6 t1 t2 t3 t4 t5 t6 ua rl dl rr a b ta tb n)) ∧ 0 ≤ a ∧ a ≤ 1000 ∧ 0 ≤ b ∧ b ≤ 1000
theorem num_len {k : Int} (h0 : 0 ≤ k) (h1 : k ≤ 1000) : (Str.ofString (toString k)).length ≤ 5 := by
  rw [PySem.ofString_length]
  exact int_text_length_le10 (k := 4) (by decide) (by omega)
theorem sum_le {l : List Str} {b : Nat} (h : ∀ x ∈ l, x.length ≤ b) : (l.map (·.length)).sum ≤ b * l.length := by
  induction l with
  | nil => simp
  | cons a r ih =>
    have := ih fun x hx => h x (List.mem_cons_of_mem _ hx)
    have := h a List.mem_cons_self
    simp only [List.map_cons, List.sum_cons, List.length_cons, Nat.mul_succ]
    omega
theorem lines_len {agents : List Str} {dly : Option Int} {rate : Option (Int × Int)} {rules : List Str} (hta : ∀ a ∈ agents, a.length ≤ 100) (htb : ∀ a ∈ rules, a.length ≤ 100)
    (hd : ∀ k, dly = some k → 0 ≤ k ∧ k ≤ 1000) (hr : ∀ p, rate = some p → (0 ≤ p.1 ∧ p.1 ≤ 1000) ∧ 0 ≤ p.2 ∧ p.2 ≤ 1000) : ∀ x ∈ linesOf agents dly rate rules, x.length ≤ 200 := fun x hx => by
  have e1 : (Str.ofString "User-agent: ").length = 12 := by decide +kernel
  have e2 : (Str.ofString "Crawl-delay: ").length = 13 := by decide +kernel
  have e3 : (Str.ofString "Request-rate: ").length = 14 := by decide +kernel
  have e4 : (Str.ofString "/").length = 1 := by decide +kernel
  have e5 : (Str.ofString "Allow:").length = 6 := by decide +kernel
  unfold linesOf at hx
  rcases List.mem_append.mp hx with hx | hx
  · rcases List.mem_append.mp hx with hx | hx
    · rcases List.mem_append.mp hx with hx | hx
      · obtain ⟨a, ha, rfl⟩ := List.mem_map.mp hx
        have := hta a ha
        unfold uaLine; rw [Str.length_append, e1]; omega
      · cases dly with
        | none => simp at hx
        | some k =>
          simp at hx; subst hx
          obtain ⟨a, b⟩ := hd k rfl
          have := num_len a b
          unfold dlLine; rw [Str.length_append, e2]; omega
    · cases rate with
      | none => simp at hx
      | some p =>
        simp at hx; subst hx
        obtain ⟨⟨a, b⟩, c, d⟩ := hr p rfl
        have := num_len a b
        have := num_len c d
        unfold rrLine; rw [Str.length_append, Str.length_append, Str.length_append, e3, e4]; omega
  · split at hx
    · rw [List.mem_singleton.mp hx, e5]; omega
    · have := htb x hx; omega
theorem lines_num {agents : List Str} {dly : Option Int} {rate : Option (Int × Int)} {rules : List Str} : (linesOf agents dly rate rules).length ≤ agents.length + rules.length + 3 := by
  unfold linesOf
  cases dly <;> cases rate <;> (split <;> simp <;> omega)
theorem lines_w {agents : List Str} {dly : Option Int} {rate : Option (Int × Int)} {rules : List Str} (hla : agents.length ≤ 100) (hlb : rules.length ≤ 100) (hta : ∀ a ∈ agents, a.length ≤ 100) (htb : ∀ a ∈ rules, a.length ≤ 100)
    (hd : ∀ k, dly = some k → 0 ≤ k ∧ k ≤ 1000) (hr : ∀ p, rate = some p → (0 ≤ p.1 ∧ p.1 ≤ 1000) ∧ 0 ≤ p.2 ∧ p.2 ≤ 1000) : ((linesOf agents dly rate rules).map (·.length)).sum + (linesOf agents dly rate rules).length ≤ 1048576 := by
  have h1 := sum_le (lines_len hta htb hd hr)
  have h2 := lines_num (agents := agents) (dly := dly) (rate := rate) (rules := rules)
  omega
theorem lf_is : Str.ofString "
" = ⟨#[10]⟩ := by decide +kernel
end Mine
local macro_rules | `(tactic| k_inst) => `(tactic| first | exact Mine.inst_up (by assumption) (by assumption) | exact Mine.inst_up (Mine.inst_up (by assumption) (by assumption)) (by assumption))
local macro_rules | `(tactic| walk_at "pyIter ref") => `(tactic| (k_here; refine Mine.stop ?_))
local macro_rules | `(tactic| walk_at "exec For Name Attribute cons nil") => `(tactic| (k_here; k_dflt (refine Mine.For_T (by k_asm) (by intro _ _; rfl) ?_)))
local macro_rules | `(tactic| walk_at "call builtin:list.append") => `(tactic| (k_here; (with_reducible show wpAny _ _ (call (Value.builtin _) [Value.ref _, _]) _ _ _); k_dflt (refine' Mine.append_l ?k1 ?k2 ?k3 ?_ ?z; (case k1 => k_asm); (case k2 => k_asm); (case k3 => k_upd); (case z => (rw [PySem.sizeLine_eq]; (try simp only [List.length_append, List.length_cons, List.length_nil]); omega)); k_whole); intro h' F' N'; (try k_sweep)))
local macro_rules | `(tactic| walk_at "call type:map") => `(tactic| (k_here; k_dflt (refine Mine.map_step (by k_asm) (by k_asm) (by assumption) ?_); intro h' M' F' N' m'; (try k_sweep)))
local macro_rules | `(tactic| walk_at "call builtin:list.extend") => `(tactic| (k_here; refine Mine.stop ?_))
local macro_rules | `(tactic| walk_at "execs cons Assign cons") => `(tactic| (k_here; walk_at "execs cons"))
local macro_rules | `(tactic| walk_at "call builtin:str.join") => `(tactic| (k_here; refine Mine.stop ?_))
set_option maxRecDepth 100000 in
set_option maxHeartbeats 8000000 in
theorem Mine.strC {w : World} {p : Program} {loose : List Str} {mean : ExcName → Option Value} {mg mb : Str → Option Value} {base h₀ : Heap} {L : Addr} {m : Str → Option Value} {env : Env} {s : Shared} {Q : Value → Shared → Prop} {E : Value → Shared → Prop}
  (hf : env.frame = some L) (hke : env.scope.kind = .function) (B : Below callerA base [] h₀) (F : Fr h₀ L s.heap m) (X : (Mine.hd01.heap_39 w.params).In h₀) (T : Top p loose mean mg mb h₀)
  {x d l lr : Addr} {h1 h2 h3 h4 : Int} {t1 t2 t3 t4 : Tok} {dl rr : Value} {n : Nat} {ua ru : List Value} {agents rules : List Str} {dly : Option Int} {rate : Option (Int × Int)}
  (I : InstAt s.heap x (instObj 59 d) 59 (some (Mine.entryDict h1 h2 h3 h4 t1 t2 t3 t4 (.ref l) (.ref lr) dl rr n))) (hl : s.heap.IsList l ua.toArray) (hlr : s.heap.IsList lr ru.toArray)
  (hu : Mine.Pd Mine.StrV agents ua) (hv : Mine.Pd Mine.StrV rules ru) (hd : Mine.DelayV dl dly) (hr : Mine.RateV s.heap rr rate)
  (hla : agents.length ≤ 100) (hlb : rules.length ≤ 100) (hta : ∀ a ∈ agents, a.length ≤ 100) (htb : ∀ a ∈ rules, a.length ≤ 100)
  (hpost : ∀ h' tk t', (∀ b o, s.heap.get? b = some o → h'.get? b = some o) → Q (.str (Mine.strText agents dly rate rules) t') { s with heap := h', toks := tk }) :
  wpAny (model PySem.Challenge.rw_kn0091_01.row.prog w) (callerA.deeper env).in1.in1 (call (.ref 42) [.ref x] []) Q E s := by
  w_top off
  revert X; k_fill; intro X
  refine wpAny_call (Mine.code_base (K := Mine.hd01.heap_39 w.params) B F X T rfl hf hke (by k_is) (by k_is) (by k_room) (BindsTo.of_eq rfl) (locs rfl) ?_ rfl rfl rfl (by decide))
  intro L' h₁ F' N' B' X' T'
  dsimp only
  clear F B X T
  have hul := Mine.pd_len hu
  have hvl := Mine.pd_len hv
  repeat' (first | (k_unfold; (try dsimp only)) | walk1 | (dsimp only; walk1) | fail "no step")
  · rename Fr _ _ _ _ => F9
    rename (_ = true) => e0
    have hag : agents = [] := by
      have : ua = [] := by simpa using e0
      subst this
      exact List.eq_nil_of_length_eq_zero hul
    refine Mine.LeaveB.intro F9 ?_
    have e3 : Mine.strText agents dly rate rules = Str.ofString "" := if_pos hag
    rw [e3] at hpost
    exact hpost _ _ _ F9.keep
  · rename (_ = false) => e0
    have hag : agents ≠ [] := fun q => by
      subst q
      have : ua = [] := List.eq_nil_of_length_eq_zero hul.symm
      rw [this] at e0; cases e0
    rename Fr _ _ _ _ => F9
    rename News _ _ _ _ => N9
    refine Mine.unstop (Mine.forT_pd_l (its := ua.toArray) hu [Str.ofString "agent"] [] (fun pre u zs => Mine.Pd Mine.StrV (pre.map Mine.uaLine) zs) rfl (.inl (by assumption)) F9 (by exact N9) .nil ?_ ?_)
    · intro pre a post v u zs c I1 oI1 h2 tk2 hsp hv1 hJ hoff0 F2 N2
      clear F9 N9
      simp only [List.nil_append] at N2
      have hoff := hoff0
      simp only [Mine.Off, List.nil_append, and_true] at hoff
      simp only [Mine.over] at F2
      obtain ⟨t, rfl⟩ := hv1
      have hal := hta a (by rw [hsp]; simp)
      have hzl := Mine.pd_len hJ
      rw [List.length_map] at hzl
      have hpl : zs.length ≤ 200 := by have := congrArg List.length hsp; simp at this; omega
      repeat' (first | (k_unfold; (try dsimp only)) | walk1 | (dsimp only; walk1) | fail "no step")
      dsimp only [Mine.TurnPost]
      refine Mine.TurnEnd.mk' [] (by assumption) (by assumption) (by exact hoff0) ⟨fun z1 h1 => by simp only [if_neg (Mine.off1 h1)], zs ++ [_], c + 1, rfl, ?_⟩
      rw [List.map_append]
      exact PySem.Paired.snoc hJ ⟨_, by rw [Str.empty_append]; rfl⟩
    · intro u zs c h2 tk2 hJ F2 N2
      clear F9 N9
      simp only [List.nil_append] at N2
      simp only [Mine.over] at F2
      have hzl := Mine.pd_len hJ
      rw [List.length_map] at hzl
      have hpl : zs.length ≤ 200 := by omega
      dsimp only
      rcases hd with ⟨rfl, rfl⟩ | ⟨k, tk9, rfl, rfl, hk0, hk1⟩
      · rcases hr with ⟨rfl, rfl⟩ | ⟨y, d9, g1, g2, g3, g4, g5, g6, q1, q2, q3, q4, q5, q6, ua9, rl9, dl9, rr9, a9, b9, ta9, tb9, n9, rfl, rfl, I9, hr1, hr2, hr3, hr4⟩
        · (repeat' (first | (k_unfold; (try dsimp only)) | walk1 | (dsimp only; walk1) | fail "no step"))
          · rename (List.isEmpty ru = true) => e7
            have e8 : ru = [] := by simpa using e7
            subst e8
            have e9 : rules = [] := List.eq_nil_of_length_eq_zero hvl
            subst e9
            have hw := Mine.lines_w (agents := agents) (rules := []) (dly := none) (rate := none) hla hlb hta htb (fun k q => by cases q) (fun p q => by cases q)
            rename News _ _ _ _ => N6
            refine Mine.unstop (join_listW (Mine.is_l N6 (by k_mem)) (Mine.strs_pd (xs := Mine.linesOf agents none none []) ?_) (by decide) hw ?_)
            · simp only [Mine.linesOf, Option.map, Option.toList, if_true, List.append_nil]
              exact PySem.Paired.snoc hJ ⟨_, rfl⟩
            · intro t' k'
              (repeat' (first | (k_unfold; (try dsimp only)) | walk1 | (dsimp only; walk1) | fail "no step"))
              rename Fr _ _ _ _ => F5
              refine Mine.LeaveB.intro F5 ?_
              have e3 : Mine.strText agents none none [] = Txt.join ⟨#[10]⟩ (Mine.linesOf agents none none []) := if_neg hag
              rw [e3] at hpost
              exact hpost _ _ _ F5.keep
          · rename (List.isEmpty ru = false) => e7
            have e9 : rules ≠ [] := fun q => by
              subst q
              have : ru = [] := List.eq_nil_of_length_eq_zero hvl.symm
              rw [this] at e7; cases e7
            have hw := Mine.lines_w (agents := agents) (rules := rules) (dly := none) (rate := none) hla hlb hta htb (fun k q => by cases q) (fun p q => by cases q)
            rename Fr _ _ _ _ => F6
            rename News _ _ _ _ => N6
            refine Mine.unstop (Mine.extend_step rfl F6 N6 (by assumption) hv (by assumption) (by k_updF) (by rw [PySem.sizeLine_eq]; (try simp only [List.length_append, List.length_cons, List.length_nil]); omega) ?_)
            intro h3 tk3 c3 F3 N3
            clear F6 N6
            (repeat' (first | (k_unfold; (try dsimp only)) | walk1 | (dsimp only; walk1) | fail "no step"))
            rename News _ _ _ _ => N6
            refine Mine.unstop (join_listW (Mine.is_l N6 (by k_mem)) (Mine.strs_pd (xs := Mine.linesOf agents none none rules) ?_) (by decide) hw ?_)
            · simp only [Mine.linesOf, Option.map, Option.toList, if_neg e9, List.append_nil]
              exact Mine.pd_app hJ hv
            · intro t' k'
              (repeat' (first | (k_unfold; (try dsimp only)) | walk1 | (dsimp only; walk1) | fail "no step"))
              rename Fr _ _ _ _ => F5
              refine Mine.LeaveB.intro F5 ?_
              have e3 : Mine.strText agents none none rules = Txt.join ⟨#[10]⟩ (Mine.linesOf agents none none rules) := if_neg hag
              rw [e3] at hpost
              exact hpost _ _ _ F5.keep
        · (repeat' (first | (k_unfold; (try dsimp only)) | walk1 | (dsimp only; walk1) | fail "no step"))
          · rename (List.isEmpty ru = true) => e7
            have e8 : ru = [] := by simpa using e7
            subst e8
            have e9 : rules = [] := List.eq_nil_of_length_eq_zero hvl
            subst e9
            have hw := Mine.lines_w (agents := agents) (rules := []) (dly := none) (rate := (some (a9, b9))) hla hlb hta htb (fun k q => by cases q) (fun p q => by cases q; exact ⟨⟨hr1, hr2⟩, hr3, hr4⟩)
            rename News _ _ _ _ => N6
            refine Mine.unstop (join_listW (Mine.is_l N6 (by k_mem)) (Mine.strs_pd (xs := Mine.linesOf agents none (some (a9, b9)) []) ?_) (by decide) hw ?_)
            · simp only [Mine.linesOf, Option.map, Option.toList, if_true, List.append_nil]
              exact PySem.Paired.snoc (PySem.Paired.snoc hJ ⟨_, by simp only [Str.empty_append]; rfl⟩) ⟨_, rfl⟩
            · intro t' k'
              (repeat' (first | (k_unfold; (try dsimp only)) | walk1 | (dsimp only; walk1) | fail "no step"))
              rename Fr _ _ _ _ => F5
              refine Mine.LeaveB.intro F5 ?_
              have e3 : Mine.strText agents none (some (a9, b9)) [] = Txt.join ⟨#[10]⟩ (Mine.linesOf agents none (some (a9, b9)) []) := if_neg hag
              rw [e3] at hpost
              exact hpost _ _ _ F5.keep
          · rename (List.isEmpty ru = false) => e7
            have e9 : rules ≠ [] := fun q => by
              subst q
              have : ru = [] := List.eq_nil_of_length_eq_zero hvl.symm
              rw [this] at e7; cases e7
            have hw := Mine.lines_w (agents := agents) (rules := rules) (dly := none) (rate := (some (a9, b9))) hla hlb hta htb (fun k q => by cases q) (fun p q => by cases q; exact ⟨⟨hr1, hr2⟩, hr3, hr4⟩)
            rename Fr _ _ _ _ => F6
            rename News _ _ _ _ => N6
            refine Mine.unstop (Mine.extend_step rfl F6 N6 (by assumption) hv (by assumption) (by k_updF) (by rw [PySem.sizeLine_eq]; (try simp only [List.length_append, List.length_cons, List.length_nil]); omega) ?_)
            intro h3 tk3 c3 F3 N3
            clear F6 N6
            (repeat' (first | (k_unfold; (try dsimp only)) | walk1 | (dsimp only; walk1) | fail "no step"))
            rename News _ _ _ _ => N6
            refine Mine.unstop (join_listW (Mine.is_l N6 (by k_mem)) (Mine.strs_pd (xs := Mine.linesOf agents none (some (a9, b9)) rules) ?_) (by decide) hw ?_)
            · simp only [Mine.linesOf, Option.map, Option.toList, if_neg e9, List.append_nil]
              exact Mine.pd_app (PySem.Paired.snoc hJ ⟨_, by simp only [Str.empty_append]; rfl⟩) hv
            · intro t' k'
              (repeat' (first | (k_unfold; (try dsimp only)) | walk1 | (dsimp only; walk1) | fail "no step"))
              rename Fr _ _ _ _ => F5
              refine Mine.LeaveB.intro F5 ?_
              have e3 : Mine.strText agents none (some (a9, b9)) rules = Txt.join ⟨#[10]⟩ (Mine.linesOf agents none (some (a9, b9)) rules) := if_neg hag
              rw [e3] at hpost
              exact hpost _ _ _ F5.keep
      · rcases hr with ⟨rfl, rfl⟩ | ⟨y, d9, g1, g2, g3, g4, g5, g6, q1, q2, q3, q4, q5, q6, ua9, rl9, dl9, rr9, a9, b9, ta9, tb9, n9, rfl, rfl, I9, hr1, hr2, hr3, hr4⟩
        · (repeat' (first | (k_unfold; (try dsimp only)) | walk1 | (dsimp only; walk1) | fail "no step"))
          · rename (List.isEmpty ru = true) => e7
            have e8 : ru = [] := by simpa using e7
            subst e8
            have e9 : rules = [] := List.eq_nil_of_length_eq_zero hvl
            subst e9
            have hw := Mine.lines_w (agents := agents) (rules := []) (dly := (some k)) (rate := none) hla hlb hta htb (fun k q => by cases q; exact ⟨hk0, hk1⟩) (fun p q => by cases q)
            rename News _ _ _ _ => N6
            refine Mine.unstop (join_listW (Mine.is_l N6 (by k_mem)) (Mine.strs_pd (xs := Mine.linesOf agents (some k) none []) ?_) (by decide) hw ?_)
            · simp only [Mine.linesOf, Option.map, Option.toList, if_true, List.append_nil]
              exact PySem.Paired.snoc (PySem.Paired.snoc hJ ⟨_, by simp only [Str.empty_append]; rfl⟩) ⟨_, rfl⟩
            · intro t' k'
              (repeat' (first | (k_unfold; (try dsimp only)) | walk1 | (dsimp only; walk1) | fail "no step"))
              rename Fr _ _ _ _ => F5
              refine Mine.LeaveB.intro F5 ?_
              have e3 : Mine.strText agents (some k) none [] = Txt.join ⟨#[10]⟩ (Mine.linesOf agents (some k) none []) := if_neg hag
              rw [e3] at hpost
              exact hpost _ _ _ F5.keep
          · rename (List.isEmpty ru = false) => e7
            have e9 : rules ≠ [] := fun q => by
              subst q
              have : ru = [] := List.eq_nil_of_length_eq_zero hvl.symm
              rw [this] at e7; cases e7
            have hw := Mine.lines_w (agents := agents) (rules := rules) (dly := (some k)) (rate := none) hla hlb hta htb (fun k q => by cases q; exact ⟨hk0, hk1⟩) (fun p q => by cases q)
            rename Fr _ _ _ _ => F6
            rename News _ _ _ _ => N6
            refine Mine.unstop (Mine.extend_step rfl F6 N6 (by assumption) hv (by assumption) (by k_updF) (by rw [PySem.sizeLine_eq]; (try simp only [List.length_append, List.length_cons, List.length_nil]); omega) ?_)
            intro h3 tk3 c3 F3 N3
            clear F6 N6
            (repeat' (first | (k_unfold; (try dsimp only)) | walk1 | (dsimp only; walk1) | fail "no step"))
            rename News _ _ _ _ => N6
            refine Mine.unstop (join_listW (Mine.is_l N6 (by k_mem)) (Mine.strs_pd (xs := Mine.linesOf agents (some k) none rules) ?_) (by decide) hw ?_)
            · simp only [Mine.linesOf, Option.map, Option.toList, if_neg e9, List.append_nil]
              exact Mine.pd_app (PySem.Paired.snoc hJ ⟨_, by simp only [Str.empty_append]; rfl⟩) hv
            · intro t' k'
              (repeat' (first | (k_unfold; (try dsimp only)) | walk1 | (dsimp only; walk1) | fail "no step"))
              rename Fr _ _ _ _ => F5
              refine Mine.LeaveB.intro F5 ?_
              have e3 : Mine.strText agents (some k) none rules = Txt.join ⟨#[10]⟩ (Mine.linesOf agents (some k) none rules) := if_neg hag
              rw [e3] at hpost
              exact hpost _ _ _ F5.keep
        · (repeat' (first | (k_unfold; (try dsimp only)) | walk1 | (dsimp only; walk1) | fail "no step"))
          · rename (List.isEmpty ru = true) => e7
            have e8 : ru = [] := by simpa using e7
            subst e8
            have e9 : rules = [] := List.eq_nil_of_length_eq_zero hvl
            subst e9
            have hw := Mine.lines_w (agents := agents) (rules := []) (dly := (some k)) (rate := (some (a9, b9))) hla hlb hta htb (fun k q => by cases q; exact ⟨hk0, hk1⟩) (fun p q => by cases q; exact ⟨⟨hr1, hr2⟩, hr3, hr4⟩)
            rename News _ _ _ _ => N6
            refine Mine.unstop (join_listW (Mine.is_l N6 (by k_mem)) (Mine.strs_pd (xs := Mine.linesOf agents (some k) (some (a9, b9)) []) ?_) (by decide) hw ?_)
            · simp only [Mine.linesOf, Option.map, Option.toList, if_true, List.append_nil]
              exact PySem.Paired.snoc (PySem.Paired.snoc (PySem.Paired.snoc hJ ⟨_, by simp only [Str.empty_append]; rfl⟩) ⟨_, by simp only [Str.empty_append]; rfl⟩) ⟨_, rfl⟩
            · intro t' k'
              (repeat' (first | (k_unfold; (try dsimp only)) | walk1 | (dsimp only; walk1) | fail "no step"))
              rename Fr _ _ _ _ => F5
              refine Mine.LeaveB.intro F5 ?_
              have e3 : Mine.strText agents (some k) (some (a9, b9)) [] = Txt.join ⟨#[10]⟩ (Mine.linesOf agents (some k) (some (a9, b9)) []) := if_neg hag
              rw [e3] at hpost
              exact hpost _ _ _ F5.keep
          · rename (List.isEmpty ru = false) => e7
            have e9 : rules ≠ [] := fun q => by
              subst q
              have : ru = [] := List.eq_nil_of_length_eq_zero hvl.symm
              rw [this] at e7; cases e7
            have hw := Mine.lines_w (agents := agents) (rules := rules) (dly := (some k)) (rate := (some (a9, b9))) hla hlb hta htb (fun k q => by cases q; exact ⟨hk0, hk1⟩) (fun p q => by cases q; exact ⟨⟨hr1, hr2⟩, hr3, hr4⟩)
            rename Fr _ _ _ _ => F6
            rename News _ _ _ _ => N6
            refine Mine.unstop (Mine.extend_step rfl F6 N6 (by assumption) hv (by assumption) (by k_updF) (by rw [PySem.sizeLine_eq]; (try simp only [List.length_append, List.length_cons, List.length_nil]); omega) ?_)
            intro h3 tk3 c3 F3 N3
            clear F6 N6
            (repeat' (first | (k_unfold; (try dsimp only)) | walk1 | (dsimp only; walk1) | fail "no step"))
            rename News _ _ _ _ => N6
            refine Mine.unstop (join_listW (Mine.is_l N6 (by k_mem)) (Mine.strs_pd (xs := Mine.linesOf agents (some k) (some (a9, b9)) rules) ?_) (by decide) hw ?_)
            · simp only [Mine.linesOf, Option.map, Option.toList, if_neg e9, List.append_nil]
              exact Mine.pd_app (PySem.Paired.snoc (PySem.Paired.snoc hJ ⟨_, by simp only [Str.empty_append]; rfl⟩) ⟨_, by simp only [Str.empty_append]; rfl⟩) hv
            · intro t' k'
              (repeat' (first | (k_unfold; (try dsimp only)) | walk1 | (dsimp only; walk1) | fail "no step"))
              rename Fr _ _ _ _ => F5
              refine Mine.LeaveB.intro F5 ?_
              have e3 : Mine.strText agents (some k) (some (a9, b9)) rules = Txt.join ⟨#[10]⟩ (Mine.linesOf agents (some k) (some (a9, b9)) rules) := if_neg hag
              rw [e3] at hpost
              exact hpost _ _ _ F5.keep
end
section
namespace Mine
/-- every sign of the text is a sign -/
def Good (a : Str) : Prop := ∀ c ∈ a.cps.toList, c < 0x110000
theorem strs_layAll {ns : List Str} (ho : ∀ a ∈ ns, Good a) : PyData.canLayAll0 (ns.map PyData.str) = true := by
  rw [canLayAll_strs', List.all_eq_true]
  intro a ha
  unfold PyData.strOk
  rw [Array.all_eq_true']
  intro c hc
  simpa using ho a ha c (by simpa using hc)
theorem strs_depthAll : ∀ ns : List Str, PyData.depthAll (ns.map PyData.str) = 0
  | [] => rfl
  | _ :: r => by simp [PyData.depthAll, PyData.depth, strs_depthAll r]
theorem strs_shaped {ns : List Str} (ho : ∀ a ∈ ns, Good a) : PySem.SeqAt.shaped (.list (ns.map PyData.str)) = true := by
  simp [PySem.SeqAt.shaped, PyData.canLay0, PyData.depth, strs_layAll ho, strs_depthAll]
theorem strs_sameAll : ∀ ns ms : List Str, PySem.Spec.sameAll (ns.map PyData.str) (ms.map PyData.str) = decide (ns = ms)
  | [], [] => by simp [PySem.Spec.sameAll]
  | [], _ :: _ => by simp [PySem.Spec.sameAll]
  | _ :: _, [] => by simp [PySem.Spec.sameAll]
  | a :: r, b :: t => by
    simp only [List.map_cons, PySem.Spec.sameAll, PySem.Spec.same, strs_sameAll r t]
    by_cases h : a = b <;> by_cases h' : r = t <;> simp [h, h']
theorem strs_carried : ∀ {ns : List Str} {vs : List Value}, Pd StrV ns vs → PyProof.Rows.CarriedAll vs (ns.map PyData.str)
  | _, _, .nil => .nil
  | _, _, .cons ⟨t, e⟩ r => by subst e; exact .cons (.str _ t) (strs_carried r)
/-- == of two lists of texts -/
theorem eq_strs {prog : Program} {w : World} {A : Around} {E : Value → Shared → Prop} {s : Shared} {a b : Addr} {xs ys : List Value} {ns ms : List Str} {Q : Value → Shared → Prop}
    (ha : s.heap.IsList a xs.toArray) (hb : s.heap.IsList b ys.toArray) (hi : Pd StrV ns xs) (hj : Pd StrV ms ys) (ho : ∀ a ∈ ns, Good a) (ho' : ∀ a ∈ ms, Good a) (hu : A.units + 64 < cLine) (h : Q (.bool (decide (ns = ms))) s) :
    wpAny (model prog w) A (compareOp .Eq (.ref a) (.ref b)) Q E s :=
  PyProof.Rows.eq_dataH_same (PyProof.Rows.reads_newData ha (strs_carried hi)) (PyProof.Rows.reads_newData hb (strs_carried hj)) (strs_shaped ho) (strs_shaped ho') hu (PySem.SeqAt.noMix_of_shape (.list .str) rfl _ _ (list_map_has fun _ => rfl) (list_map_has fun _ => rfl)) (by simp only [PySem.Spec.same]; rw [strs_sameAll]; exact h)
/-- != of two lists of texts -/
theorem ne_strs {prog : Program} {w : World} {A : Around} {E : Value → Shared → Prop} {s : Shared} {a b : Addr} {xs ys : List Value} {ns ms : List Str} {Q : Value → Shared → Prop}
    (ha : s.heap.IsList a xs.toArray) (hb : s.heap.IsList b ys.toArray) (hi : Pd StrV ns xs) (hj : Pd StrV ms ys) (ho : ∀ a ∈ ns, Good a) (ho' : ∀ a ∈ ms, Good a) (hu : A.units + 64 < cLine) (h : Q (.bool (!decide (ns = ms))) s) :
    wpAny (model prog w) A (compareOp .NotEq (.ref a) (.ref b)) Q E s :=
  PyProof.Rows.ne_dataH_same (PyProof.Rows.reads_newData ha (strs_carried hi)) (PyProof.Rows.reads_newData hb (strs_carried hj)) (strs_shaped ho) (strs_shaped ho') hu (PySem.SeqAt.noMix_of_shape (.list .str) rfl _ _ (list_map_has fun _ => rfl) (list_map_has fun _ => rfl)) (by simp only [PySem.Spec.same]; rw [strs_sameAll]; exact h)
end Mine
end
section
local macro_rules | `(tactic| walk_at "exec While") => `(tactic| (k_here; refine Mine.stop ?_))
local macro_rules | `(tactic| walk_at "exec While BoolOp cons nil") => `(tactic| (k_here; refine Mine.stop ?_))
local macro_rules | `(tactic| walk_at "exec While BoolOp cons cons") => `(tactic| (k_here; refine Mine.stop ?_))
local macro_rules | `(tactic| walk_at "execs cons") => `(tactic| ((with_reducible refine wpAny_execs_cons ?_); try dsimp only))
local macro_rules | `(tactic| walk_at "execs cons Assign cons") => `(tactic| (k_here; walk_at "execs cons"))
local macro_rules | `(tactic| walk_at "call builtin:len") => `(tactic| (k_here; (with_reducible show wpAny _ _ (call (Value.builtin "len") [Value.ref _]) _ _ _); k_dflt (refine Mine.len_b (by assumption) (by k_asm) (by rw [PySem.sizeLine_eq]; omega) ?_)))
local macro_rules | `(tactic| walk_at "subscriptTail Name Name ref int") => `(tactic| (k_here; refine Mine.stop ?_))
local macro_rules | `(tactic| walk_at "call builtin:list.append") => `(tactic| (k_here; (with_reducible show wpAny _ _ (call (Value.builtin _) [Value.ref _, _]) _ _ _); k_dflt (refine' Mine.append_l ?k1 ?k2 ?k3 ?_ ?z; (case k1 => k_asm); (case k2 => k_asm); (case k3 => k_upd); (case z => (rw [PySem.sizeLine_eq]; (try simp only [List.length_append, List.length_cons, List.length_nil]); omega)); k_whole); intro h' F' N'; (try k_sweep)))
local macro_rules | `(tactic| walk_at "subscriptTail Name Slice ref ref") => `(tactic| (k_here; (with_reducible show wpAny _ _ (subscriptTail _ (PySem.Expr.Slice _ _ none _) (Value.ref _) (Value.ref _)) _ _ _); k_dflt (refine' Mine.slice_b ?F ?N ?l ?p ?_ ?s ?t ?z; (case F => k_asm); (case N => k_asm); (case l => assumption); (case p => omega); (case s => with_unfolding_all rfl); (case t => kmk_pure); (case z => (rw [PySem.sizeLine_eq]; omega))); intro D' h' F' N' l1; (try k_lt l1); (try k_sweep)))
local macro_rules | `(tactic| walk_at "compareOp Eq ref ref") => `(tactic| (k_here; refine Mine.stop ?_))
local macro_rules | `(tactic| walk_at "call ref") => `(tactic| (k_here; refine Mine.stop ?_))
local macro_rules | `(tactic| walk_at "eval ListComp") => `(tactic| (k_here; first
  | (lcg_look; k_dflt (refine LCg.ListComp_U (F₀ := by k_asm) (by with_unfolding_all rfl) (by decide) (by rfl) (by decide) (by rfl) ?_))
  | (lcf_look; k_dflt (refine LCg.ListComp_U (F₀ := by k_asm) (by with_unfolding_all rfl) (by decide) (by rfl) (by decide) (by rfl) ?_))
  | (lct_look; k_dflt (refine LCt.ListComp_T (F₀ := by k_asm) (by with_unfolding_all rfl) (by decide) (by rfl) (by decide) (by rfl) ?_); k_dflt lct_toSrc)))
local macro_rules | `(tactic| walk_at "exec Assign cons ListComp") => `(tactic| (k_here; first
  | (lcg_look; k_dflt (refine LCg.Assign_ListComp_U (F₀ := by k_asm) (by rfl) (by with_unfolding_all rfl) (by with_unfolding_all rfl) (by decide) (by rfl) (by decide) (by rfl) (by rfl) (by rfl) ?_))
  | (lcf_look; k_dflt (refine LCg.Assign_ListComp_U (F₀ := by k_asm) (by rfl) (by with_unfolding_all rfl) (by with_unfolding_all rfl) (by decide) (by rfl) (by decide) (by rfl) (by rfl) (by rfl) ?_))
  | (lct_look; k_dflt (refine LCt.Assign_ListComp_T (F₀ := by k_asm) (by rfl) (by with_unfolding_all rfl) (by with_unfolding_all rfl) (by decide) (by rfl) (by decide) (by rfl) (by rfl) (by rfl) ?_); k_dflt lct_toSrc)))
local macro_rules | `(tactic| walk_at "CompSrc") => `(tactic| (k_here; k_dflt (first
  | (refine LCg.CompSrc.ledger (by rfl) (by k_asm) (by k_asm) (by k_mem) (by first | (simp only [List.size_toArray, List.length_append, List.length_cons, List.length_nil, List.length_take, List.length_drop, PySem.sizeLine_eq]; omega) | size_fits) ?_; intro g'; refine Mine.stop ?_)
  | (refine LCg.CompSrc.base (by rfl) (by k_asm) (by k_asm) (by assumption) (by first | (simp only [List.size_toArray, List.length_append, List.length_cons, List.length_nil, List.length_take, List.length_drop, PySem.sizeLine_eq]; omega) | size_fits) ?_; intro g'; refine Mine.stop ?_))))
local macro_rules | `(tactic| walk_at "CompSrcT") => `(tactic| (k_here; k_dflt (first
  | (refine LCt.CompSrcT.ledger (by rfl) (by k_asm) (by k_asm) (by k_mem) (by first | (simp only [List.size_toArray, List.length_append, List.length_cons, List.length_nil, List.length_take, List.length_drop, PySem.sizeLine_eq]; omega) | size_fits) ?_; intro g'; refine Mine.stop ?_)
  | (refine LCt.CompSrcT.base (by rfl) (by k_asm) (by k_asm) (by assumption) (by first | (simp only [List.size_toArray, List.length_append, List.length_cons, List.length_nil, List.length_take, List.length_drop, PySem.sizeLine_eq]; omega) | size_fits) ?_; intro g'; refine Mine.stop ?_))))
local macro_rules | `(tactic| walk_at "CompEnd") => `(tactic| (k_here; refine Mine.stop ?_))
local macro_rules | `(tactic| walk_at "CompSrc") => `(tactic| (k_here; refine Mine.stop ?_))
namespace Mine
theorem lines_get {agents rules : List Str} {dly : Option Int} {rate : Option (Int × Int)} {i : Nat} {a : Str} (h : agents[i]? = some a) : (linesOf agents dly rate rules)[i]? = some (uaLine a) := by
  have hi : i < agents.length := (List.getElem?_eq_some_iff.mp h).1
  unfold linesOf
  rw [List.append_assoc, List.append_assoc, List.getElem?_append_left (by simpa using hi), List.getElem?_map, h]
  rfl
theorem lines_size {agents rules : List Str} {dly : Option Int} {rate : Option (Int × Int)} (h1 : agents.length ≤ 70) (h2 : rules.length ≤ 70) : (linesOf agents dly rate rules).length ≤ 150 ∧ agents.length < (linesOf agents dly rate rules).length := by
  unfold linesOf
  have e1 : 1 ≤ (if rules = [] then [Str.ofString "Allow:"] else rules).length ∧ (if rules = [] then [Str.ofString "Allow:"] else rules).length ≤ 70 := by
    split
    · simp
    · next h => exact ⟨List.length_pos_iff.mpr h, h2⟩
  generalize (if rules = [] then [Str.ofString "Allow:"] else rules) = r at e1
  simp only [List.length_append, List.length_map]
  have e2 : (Option.map dlLine dly).toList.length ≤ 1 := by cases dly <;> simp
  have e3 : (Option.map rrLine rate).toList.length ≤ 1 := by cases rate <;> simp
  omega
def restOf (dly : Option Int) (rate : Option (Int × Int)) (rules : List Str) : List Str :=
  (dly.map dlLine).toList ++ (rate.map rrLine).toList ++ (if rules = [] then [Str.ofString "Allow:"] else rules)
theorem lines_rest {agents rules : List Str} {dly : Option Int} {rate : Option (Int × Int)} (j : Nat) : (linesOf agents dly rate rules)[agents.length + j]? = (restOf dly rate rules)[j]? := by
  unfold linesOf restOf
  rw [List.append_assoc, List.append_assoc, List.getElem?_append_right (by simp)]
  simp only [List.length_map, List.append_assoc]
  rw [Nat.add_sub_cancel_left]
theorem lines_drop {agents rules : List Str} {dly : Option Int} {rate : Option (Int × Int)} : (linesOf agents dly rate rules).drop agents.length = restOf dly rate rules := by
  unfold linesOf restOf
  rw [List.append_assoc, List.append_assoc, List.drop_append_of_le_length (by simp), List.append_assoc]
  rw [List.drop_eq_nil_of_le (by simp)]; rfl
theorem lines_dropj {agents rules : List Str} {dly : Option Int} {rate : Option (Int × Int)} (j : Nat) : (linesOf agents dly rate rules).drop (agents.length + j) = (restOf dly rate rules).drop j := by
  rw [← List.drop_drop, lines_drop]
theorem ints_carried : ∀ {ns : List Int} {vs : List Value}, Pd IntV ns vs → PyProof.Rows.CarriedAll vs (ns.map PyData.int)
  | _, _, .nil => .nil
  | _, _, .cons ⟨t, e⟩ r => by subst e; exact .cons (.int _ t) (ints_carried r)
theorem pd_drop9 {α : Type} {G : α → Value → Prop} : ∀ {as : List α} {vs : List Value} (k : Nat), Pd G as vs → Pd G (as.drop k) (vs.drop k)
  | _, _, 0, h => h
  | _, _, _ + 1, .nil => .nil
  | _, _, k + 1, .cons _ r => pd_drop9 k r
theorem allow_ne {rules : List Str} (hrl : ∀ a ∈ rules, (∃ b, a = Str.ofString "Allow: " ++ b) ∨ ∃ b, a = Str.ofString "Disallow: " ++ b) : rules ≠ [Str.ofString "Allow:"] := fun e => by
  rcases hrl _ (by rw [e]; exact List.mem_cons_self) with ⟨b, h⟩ | ⟨b, h⟩
  · have h2 := congrArg Str.length h
    rw [Str.length_append] at h2
    have e1 : (Str.ofString "Allow: ").length = 7 := by decide +kernel
    have e2 : (Str.ofString "Allow:").length = 6 := by decide +kernel
    omega
  · have h2 := congrArg Str.length h
    rw [Str.length_append] at h2
    have e1 : (Str.ofString "Disallow: ").length = 10 := by decide +kernel
    have e2 : (Str.ofString "Allow:").length = 6 := by decide +kernel
    omega
theorem reads_out {h : Heap} {D a r : Addr} {zs rs : List Value} {c c2 n : Nat} {dv rv : Value} {dd rd : PyData} {as1 as2 : List Addr} {agents rules : List Str}
    {g : Heap} {L : Addr} {news : List (Addr × Obj)} (N : News g L h news) (hD : (D, W.listOf #[.ref a, dv, rv, .ref r] n) ∈ news) (hA : (a, W.listOf zs.toArray c) ∈ news) (hR : (r, W.listOf rs.toArray c2) ∈ news) (pa : Pd StrV agents zs) (pr : Pd StrV rules rs) (r1 : Reads h dv dd as1) (r2 : Reads h rv rd as2) :
    ∃ as, Reads h (.ref D) (.list [.list (agents.map PyData.str), dd, rd, .list (rules.map PyData.str)]) as :=
  ⟨_, .list (N _ hD).1 rfl rfl (.cons (PyProof.Rows.reads_newData (PySem.IsL.isList (N _ hA).1) (strs_carried pa)) (.cons r1 (.cons r2 (.cons (PyProof.Rows.reads_newData (PySem.IsL.isList (N _ hR).1) (strs_carried pr)) .nil))))⟩
theorem reads_outR {h : Heap} {D a r rt : Addr} {zs rs ys : List Value} {c c2 c3 n : Nat} {dv : Value} {dd : PyData} {as1 : List Addr} {agents rules : List Str} {p : Int × Int}
    {g : Heap} {L : Addr} {news : List (Addr × Obj)} (N : News g L h news) (hD : (D, W.listOf #[.ref a, dv, .ref rt, .ref r] n) ∈ news) (hA : (a, W.listOf zs.toArray c) ∈ news) (hR : (r, W.listOf rs.toArray c2) ∈ news) (hT : (rt, W.listOf ys.toArray c3) ∈ news) (pa : Pd StrV agents zs) (pr : Pd StrV rules rs) (py : Pd IntV [p.1, p.2] ys) (r1 : Reads h dv dd as1) :
    ∃ as, Reads h (.ref D) (.list [.list (agents.map PyData.str), dd, .list [.int p.1, .int p.2], .list (rules.map PyData.str)]) as :=
  reads_out N hD hA hR pa pr r1 (PyProof.Rows.reads_newData (PySem.IsL.isList (N _ hT).1) (ints_carried py))
theorem dig_free {ds : List Nat} (h : ∀ c ∈ ds, 48 ≤ c ∧ c ≤ 57) : Free 47 (dig ds) := fun q => by
  have := h 47 (by simpa [dig] using q)
  omega
theorem rr_split {p : Int × Int} {d1 d2 : List Nat} (e1 : Str.ofString (toString p.1) = dig d1) (e2 : Str.ofString (toString p.2) = dig d2) (h1 : ∀ c ∈ d1, 48 ≤ c ∧ c ≤ 57) (h2 : ∀ c ∈ d2, 48 ≤ c ∧ c ≤ 57) :
    Txt.slice (rrLine p) none (some 14) = Str.ofString "Request-rate: " ∧ Txt.split (Txt.slice (rrLine p) (some 14) none) (Str.ofString "/") = [dig d1, dig d2] := by
  have hs : Str.ofString "/" = ⟨#[47]⟩ := by decide +kernel
  have e : rrLine p = Str.ofString "Request-rate: " ++ Str.join ⟨#[47]⟩ [dig d1, dig d2] := by
    unfold rrLine
    rw [e1, e2, hs, Str.append_assoc, Str.append_assoc]
    show _ = _ ++ (dig d1 ++ ⟨#[47]⟩ ++ dig d2)
    rw [Str.append_assoc]
  rw [e, slice_to_app (by decide +kernel), slice_from_app (by decide +kernel), hs]
  refine ⟨rfl, split_join (by simp) fun x hx => ?_⟩
  rcases List.mem_cons.mp hx with rfl | hx
  · exact dig_free h1
  · rw [List.mem_singleton.mp hx]; exact dig_free h2
theorem good_allow : ∀ a ∈ [Str.ofString "Allow:"], Good a := by unfold Good; decide +kernel
theorem rule_head {rules : List Str} (hrl : ∀ a ∈ rules, (∃ b, a = Str.ofString "Allow: " ++ b) ∨ ∃ b, a = Str.ofString "Disallow: " ++ b) (htb : ∀ a ∈ rules, a.length ≤ 100) :
    ∃ x, (if rules = [] then [Str.ofString "Allow:"] else rules)[0]? = some x ∧ x.length ≤ 100 ∧ (x.cps.toList.head? = some 65 ∨ x.cps.toList.head? = some 68) := by
  cases rules with
  | nil => exact ⟨_, rfl, by decide +kernel, .inl (by decide +kernel)⟩
  | cons a r =>
    refine ⟨a, by simp, htb a List.mem_cons_self, ?_⟩
    rcases hrl a List.mem_cons_self with ⟨b, e⟩ | ⟨b, e⟩
    · exact .inl (by rw [e]; exact head_app (by decide +kernel))
    · exact .inr (by rw [e]; exact head_app (by decide +kernel))
end Mine
set_option maxRecDepth 100000 in
set_option maxHeartbeats 8000000 in
theorem Mine.read01 {w : World} {p : Program} {loose : List Str} {mean : ExcName → Option Value} {mg mb : Str → Option Value} {base h₀ : Heap} {L : Addr} {m : Str → Option Value} {env : Env} {s : Shared} {Q : Value → Shared → Prop} {E : Value → Shared → Prop}
  (hf : env.frame = some L) (hke : env.scope.kind = .function) (B : Below callerA base [] h₀) (F : Fr h₀ L s.heap m) (X : (Mine.hd01.heap_39 w.params).In h₀) (T : Top p loose mean mg mb h₀)
  {l : Addr} {its : Array Value} {agents rules : List Str} {dly : Option Int} {rate : Option (Int × Int)} (hl : s.heap.IsList l its) (hv : Mine.Pd Mine.StrV (Mine.linesOf agents dly rate rules) its.toList)
  (hn1 : agents.length ≤ 70) (hn2 : rules.length ≤ 70) (hta : ∀ a ∈ agents, a.length ≤ 100) (htb : ∀ a ∈ rules, a.length ≤ 100)
  (hd : ∀ k, dly = some k → 0 ≤ k ∧ k < 1000) (hr : ∀ p, rate = some p → (0 ≤ p.1 ∧ p.1 < 1000) ∧ 0 ≤ p.2 ∧ p.2 < 1000)
  (hrl : ∀ a ∈ rules, (∃ b, a = Str.ofString "Allow: " ++ b) ∨ ∃ b, a = Str.ofString "Disallow: " ++ b)
  (hga : ∀ a ∈ agents, Mine.Good a) (hgr : ∀ a ∈ rules, Mine.Good a)
  (hpost : ∀ h' tk D as, (∀ b o, s.heap.get? b = some o → h'.get? b = some o) → Reads h' (.ref D) (.list [.list (agents.map PyData.str), (match dly with | none => .none | some k => .int k), (match rate with | none => .none | some q => .list [.int q.1, .int q.2]), .list (rules.map PyData.str)]) as → Q (.ref D) { s with heap := h', toks := tk }) :
  wpAny (model PySem.Challenge.rw_kn0091_01.row.prog w) (callerA.deeper env) (call (.ref 75) [.ref l] []) Q E s := by
  w_top off
  revert X; k_fill; intro X
  refine wpAny_call (Mine.code_base (K := Mine.hd01.heap_39 w.params) B F X T rfl hf hke (by k_is) (by k_is) (by k_room) (BindsTo.of_eq rfl) (locs rfl) ?_ rfl rfl rfl (by decide))
  intro L' h₁ F' N' B' X' T'
  dsimp only
  clear F B X T
  repeat' (first | (k_unfold; (try dsimp only)) | walk1 | (dsimp only; walk1) | fail "no step")
  rename Fr s.heap L' _ _ => F9
  rename News s.heap L' _ _ => N9
  refine Mine.unstop (Mine.while_T [Str.ofString "at"] (n₀ := agents.length) (fun n u nx => ∃ (zs : List Value) (c : Nat) (t : Tok), nx = [(_, W.listOf zs.toArray c)] ∧ n + zs.length = agents.length ∧ Mine.Pd Mine.StrV (agents.take zs.length) zs ∧ u (Str.ofString "at") = some (.int (zs.length : Int) t)) F9 N9 ⟨[], 0, _, rfl, rfl, .nil, (by repeat (first | exact if_pos rfl | refine (if_neg (by decide +kernel)).trans ?_))⟩ ?_)
  rintro n u nx h tk ⟨zs, c, t, rfl, hnl, hzv, hat⟩ F N
  simp only [Mine.over] at F
  rw [hat] at F
  have hzl : zs.length ≤ 70 := by omega
  obtain ⟨hz1, hz2⟩ := Mine.lines_size (dly := dly) (rate := rate) hn1 hn2
  have hz3 : its.size = (Mine.linesOf agents dly rate rules).length := by have := Mine.pd_len hv; simp at this; omega
  repeat' (first | (k_unfold; (try dsimp only)) | walk1 | (dsimp only; walk1) | fail "no step")
  · rcases Nat.lt_or_ge zs.length agents.length with hlt | hge
    · obtain ⟨v, hx, t9, rfl⟩ := Mine.pd_get hv _ _ (Mine.lines_get (dly := dly) (rate := rate) (rules := rules) (List.getElem?_eq_getElem hlt))
      have hal : (Mine.uaLine agents[zs.length]).length ≤ 112 := by
        have := hta _ (List.getElem_mem hlt)
        have e1 : (Str.ofString "User-agent: ").length = 12 := by decide +kernel
        unfold Mine.uaLine; rw [Str.length_append, e1]; omega
      have hs1 : Txt.slice (Mine.uaLine agents[zs.length]) none (some 12) = Str.ofString "User-agent: " := Mine.slice_to_app (by decide +kernel)
      have hs2 : Txt.slice (Mine.uaLine agents[zs.length]) (some 12) none = agents[zs.length] := Mine.slice_from_app (by decide +kernel)
      have hs3 : (Txt.slice (Mine.uaLine agents[zs.length]) none (some 12) == Str.ofString "User-agent: ") = true := by rw [hs1]; exact beq_self_eq_true _
      have hcl : c = c := rfl
      generalize hxe : Mine.uaLine agents[zs.length] = xx at hx hal hs1 hs2 hs3 ⊢
      refine Mine.unstop (Mine.tail_nat hl (by k_asm) (by simpa using hx) rfl (by omega) ?_)
      repeat' (first | (k_unfold; (try dsimp only)) | walk1 | (dsimp only; walk1) | fail "no step")
      refine Mine.unstop (Mine.tail_nat hl (by k_asm) (by simpa using hx) rfl (by omega) ?_)
      repeat' (first | (k_unfold; (try dsimp only)) | walk1 | (dsimp only; walk1) | fail "no step")
      rename Fr s.heap L' _ _ => F8
      rename News s.heap L' _ _ => N8
      have hget : agents[zs.length]? = some agents[zs.length] := List.getElem?_eq_getElem hlt
      refine ⟨_, _, _, _, n - 1, rfl, F8, N8, by omega, fun z hz => ?_, zs ++ [_], c + 1, _, rfl, by rw [List.length_append, List.length_singleton]; omega, ?_, (by rw [List.length_append, List.length_singleton]; exact if_pos rfl)⟩
      · simp only [List.mem_cons, List.not_mem_nil, or_false] at hz
        simp only [if_neg hz]
      · rw [List.length_append, List.length_singleton, List.take_add_one, hget]
        exact PySem.Paired.snoc hzv ⟨_, by rw [hs2]⟩
    · have hzn : zs.length = agents.length := by omega
      rw [hzn, List.take_length] at hzv
      have huh : (Str.ofString "User-agent: ").cps.toList.head? = some 85 := by decide +kernel
      have hch : (Str.ofString "Crawl-delay: ").cps.toList.head? = some 67 := by decide +kernel
      have hrh : (Str.ofString "Request-rate: ").cps.toList.head? = some 82 := by decide +kernel
      cases dly with
      | some k =>
        cases rate with
        | some q =>
          obtain ⟨hk0, hk1⟩ := hd k rfl
          obtain ⟨ds, hds, hdsl, hdsc, hdsn, hdsz, hdsv⟩ := Mine.digs_ok hk0 hk1
          have hDe : Mine.dlLine k = Str.ofString "Crawl-delay: " ++ Mine.dig ds := by unfold Mine.dlLine; rw [hds]
          have hDh : (Mine.dlLine k).cps.toList.head? = some 67 := by rw [hDe]; exact Mine.head_app hch
          have hDl : (Mine.dlLine k).length ≤ 100 := by
            have e1 : (Str.ofString "Crawl-delay: ").length = 13 := by decide +kernel
            have e3 := Mine.num_len hk0 (by omega)
            unfold Mine.dlLine
            simp only [Str.length_append, e1]
            omega
          have hD1 : (Txt.slice (Mine.dlLine k) none (some 12) == Str.ofString "User-agent: ") = false := Mine.slice_ne (by decide) hDh huh (by decide)
          have hD2 : (Txt.slice (Mine.dlLine k) none (some 13) == Str.ofString "Crawl-delay: ") = true := by rw [hDe, Mine.slice_to_app (by decide +kernel)]; exact beq_self_eq_true _
          have hD3 : Txt.slice (Mine.dlLine k) (some 13) none = Mine.dig ds := by rw [hDe, Mine.slice_from_app (by decide +kernel)]
          obtain ⟨v0, hx0, t0, rfl⟩ := Mine.pd_get hv (agents.length + 0) (Mine.dlLine k) (Mine.lines_rest 0)
          rw [← hzn] at hx0
          generalize hDx : Mine.dlLine k = x0 at hx0 hDl hD1 hD2 hD3
          obtain ⟨⟨hq1, hq2⟩, hq3, hq4⟩ := hr q rfl
          obtain ⟨d1, hd1, hd1l, hd1c, hd1n, hd1z, hd1v⟩ := Mine.digs_ok hq1 hq2
          obtain ⟨d2, hd2, hd2l, hd2c, hd2n, hd2z, hd2v⟩ := Mine.digs_ok hq3 hq4
          obtain ⟨hrr1, hrr2⟩ := Mine.rr_split hd1 hd2 hd1c hd2c
          have hRh : (Mine.rrLine q).cps.toList.head? = some 82 := by
            unfold Mine.rrLine
            rw [Str.append_assoc, Str.append_assoc]
            exact Mine.head_app hrh
          have hRl : (Mine.rrLine q).length ≤ 100 := by
            unfold Mine.rrLine
            have e1 : (Str.ofString "Request-rate: ").length = 14 := by decide +kernel
            have e2 : (Str.ofString "/").length = 1 := by decide +kernel
            have e3 := Mine.num_len hq1 (by omega)
            have e4 := Mine.num_len hq3 (by omega)
            simp only [Str.length_append, e1, e2]
            omega
          have hR1 : (Txt.slice (Mine.rrLine q) none (some 12) == Str.ofString "User-agent: ") = false := Mine.slice_ne (by decide) hRh huh (by decide)
          have hR2 : (Txt.slice (Mine.rrLine q) none (some 13) == Str.ofString "Crawl-delay: ") = false := Mine.slice_ne (by decide) hRh hch (by decide)
          have hR3 : (Txt.slice (Mine.rrLine q) none (some 14) == Str.ofString "Request-rate: ") = true := by rw [hrr1]; exact beq_self_eq_true _
          obtain ⟨v1, hx1, t1, rfl⟩ := Mine.pd_get hv (agents.length + 1) (Mine.rrLine q) (Mine.lines_rest 1)
          rw [← hzn] at hx1
          have hsz8 : zs.length + 1 < its.size := by have := (List.getElem?_eq_some_iff.mp hx1).1; simpa using this
          generalize hRx : Mine.rrLine q = x1 at hx1 hRl hR1 hR2 hR3 hrr1 hrr2
          obtain ⟨x, hxr, hxl, hxh⟩ := Mine.rule_head hrl htb
          obtain ⟨v, hx, t9, rfl⟩ := Mine.pd_get hv (agents.length + 2) x ((Mine.lines_rest 2).trans (by simpa [Mine.restOf] using hxr))
          have hu3 : (Txt.slice x none (some 14) == Str.ofString "Request-rate: ") = false := by
            rcases hxh with h | h
            · exact Mine.slice_ne (by decide) h hrh (by decide)
            · exact Mine.slice_ne (by decide) h hrh (by decide)
          rw [← hzn] at hx
          have hsz9 : zs.length + 2 < its.size := by have := (List.getElem?_eq_some_iff.mp hx).1; simpa using this
          refine Mine.unstop (Mine.tail_nat hl (by k_asm) (by simpa using hx0) rfl (by omega) ?_)
          repeat' (first | (k_unfold; (try dsimp only)) | walk1 | (dsimp only; walk1) | fail "no step")
          refine Mine.unstop (Mine.tail_nat hl (by k_asm) (by simpa using hx0) rfl (by omega) ?_)
          repeat' (first | (k_unfold; (try dsimp only)) | walk1 | (dsimp only; walk1) | fail "no step")
          refine Mine.unstop (Mine.tail_nat hl (by k_asm) (by simpa using hx0) rfl (by omega) ?_)
          repeat' (first | (k_unfold; (try dsimp only)) | walk1 | (dsimp only; walk1) | fail "no step")
          rename Fr s.heap L' _ _ => F5
          rename News s.heap L' _ _ => N5
          rw [hD3]
          refine Mine.unstop (Mine.number01 rfl rfl (by assumption) F5 (by assumption) (by assumption) hdsl hdsc hdsn hdsz ?_)
          intro h9 tk9 tn9 k9
          obtain ⟨F5', N5'⟩ := Mine.after_keep F5 N5 k9
          rw [hdsv]
          clear F5 N5
          repeat' (first | (k_unfold; (try dsimp only)) | walk1 | (dsimp only; walk1) | fail "no step")
          refine Mine.unstop (Mine.tail_nat (j := zs.length + 1) hl (by k_asm) (by simpa using hx1) (by omega) (by omega) ?_)
          repeat' (first | (k_unfold; (try dsimp only)) | walk1 | (dsimp only; walk1) | fail "no step")
          refine Mine.unstop (Mine.tail_nat (j := zs.length + 1) hl (by k_asm) (by simpa using hx1) (by omega) (by omega) ?_)
          repeat' (first | (k_unfold; (try dsimp only)) | walk1 | (dsimp only; walk1) | fail "no step")
          rename StrsAre (strValues _) _ => hsa
          rename List.map _ _ = Txt.split _ _ => hsp
          rw [hrr2] at hsp
          rw [hsp] at hsa
          rename Fr s.heap L' _ _ => F5
          rename News s.heap L' _ _ => N5
          have hpv := Mine.pd_strs hsa
          generalize strValues _ = sv at N5 hpv
          have hsvl := Mine.pd_len hpv
          have hdd : ∀ a ∈ [Mine.dig d1, Mine.dig d2], ∃ d, a = Mine.dig d ∧ d.length ≤ 4 ∧ (∀ c ∈ d, 48 ≤ c ∧ c ≤ 57) ∧ d ≠ [] ∧ (d = [48] ∨ d.head? ≠ some 48) := by
            intro a ha
            rcases List.mem_cons.mp ha with rfl | ha
            · exact ⟨d1, rfl, hd1l, hd1c, hd1n, hd1z⟩
            · rw [List.mem_singleton.mp ha]; exact ⟨d2, rfl, hd2l, hd2c, hd2n, hd2z⟩
          refine Mine.unstop (LCg.CompSrc.ledger rfl F5 N5 (by k_mem) (by rw [PySem.sizeLine_eq, List.size_toArray, ← hsvl]; simp) ?_)
          intro g9
          refine Mine.comp_pd Mine.IntV (fun a : Str => Mine.numF a.cps.toList) hpv ?_ ?_
          · intro a v6 I6 oI6 C6 oC6 D6 ys6 m₆ h6 tk6 E6 hn6 hv6 hyl6 C1' hx6 F6 N6 off60 ne6
            have off6 := off60
            simp only [LCg.Off3, and_true] at off6
            obtain ⟨t6, rfl⟩ := hv6
            obtain ⟨d, rfl, hd1', hd2', hd3', hd4'⟩ := hdd a hn6
            repeat' (first | (k_unfold; (try dsimp only)) | walk1 | (dsimp only; walk1) | fail "no step")
            rename Fr s.heap L' _ _ => F7
            rename News s.heap L' _ _ => N7
            refine Mine.unstop (Mine.number01 rfl rfl (by assumption) F7 (by assumption) (by assumption) hd1' hd2' hd3' hd4' ?_)
            intro h9 tk9 tn9 k9
            obtain ⟨F7', N7'⟩ := Mine.after_keep F7 N7 k9
            clear F7 N7
            repeat' (first | (k_unfold; (try dsimp only)) | walk1 | (dsimp only; walk1) | fail "no step")
            refine Mine.unstop (Mine.cend [] (by assumption) (by assumption) off60 (.inr ⟨W.listOf _ _, by k_mem, rfl, _, rfl⟩) ⟨rfl, tn9, rfl⟩)
          intro ys hy
          simp only [List.map_cons, List.map_nil, Mine.dig, hd1v, hd2v] at hy
          have hyl := Mine.pd_len hy
          repeat' (first | (k_unfold; (try dsimp only)) | walk1 | (dsimp only; walk1) | fail "no step")
          rename Fr s.heap L' _ _ => F8
          rename News s.heap L' _ _ => N8
          have hdr := Mine.pd_drop9 (agents.length + 2) hv
          rw [Mine.lines_dropj] at hdr
          have hzt : (((zs.length : Int)) + 1 + 1).toNat = agents.length + 2 := by omega
          rw [hzt] at N8
          have hpa : ∀ t, Mine.Pd Mine.StrV [Str.ofString "Allow:"] [Value.str (Str.ofString "Allow:") t] := fun t => .cons ⟨t, rfl⟩ .nil
          have hrest : (Mine.restOf (some k) (some q) rules).drop 2 = (if rules = [] then [Str.ofString "Allow:"] else rules) := rfl
          rw [hrest] at hdr
          by_cases hr0 : rules = []
          · rw [if_pos hr0] at hdr
            refine Mine.unstop (Mine.eq_strs (Mine.is_l N8 (by k_mem)) (Mine.is_l N8 (by k_mem)) hdr (hpa _) Mine.good_allow Mine.good_allow (by units_room) ?_)
            rw [decide_eq_true rfl]
            repeat' (first | (k_unfold; (try dsimp only)) | walk1 | (dsimp only; walk1) | fail "no step")
            rename Fr s.heap L' _ _ => F6
            rename News s.heap L' _ _ => N6
            refine Mine.LeaveB.intro F6 ?_
            rw [hr0] at hpost
            have _ := hl
            obtain ⟨as9, hre⟩ := Mine.reads_outR N6 (by k_mem) (by k_mem) (by k_mem) (by k_mem) hzv (rs := []) (rules := []) .nil hy (.int _ _) 
            exact hpost _ _ _ _ F6.keep hre
          · rw [if_neg hr0] at hdr
            refine Mine.unstop (Mine.eq_strs (Mine.is_l N8 (by k_mem)) (Mine.is_l N8 (by k_mem)) hdr (hpa _) hgr Mine.good_allow (by units_room) ?_)
            rw [decide_eq_false (Mine.allow_ne hrl)]
            repeat' (first | (k_unfold; (try dsimp only)) | walk1 | (dsimp only; walk1) | fail "no step")
            rename Fr s.heap L' _ _ => F7
            rename News s.heap L' _ _ => N7
            refine Mine.unstop (Mine.eq_strs (ms := []) (Mine.is_l N7 (by k_mem)) (Mine.is_l (xs := []) N7 (by k_mem)) hdr .nil hgr (fun _ q => absurd q List.not_mem_nil) (by units_room) ?_)
            rw [decide_eq_false hr0]
            repeat' (first | (k_unfold; (try dsimp only)) | walk1 | (dsimp only; walk1) | fail "no step")
            rename Fr s.heap L' _ _ => F6
            rename News s.heap L' _ _ => N6
            refine Mine.LeaveB.intro F6 ?_
            have _ := hl
            obtain ⟨as9, hre⟩ := Mine.reads_outR N6 (by k_mem) (by k_mem) (by k_mem) (by k_mem) hzv hdr hy (.int _ _) 
            exact hpost _ _ _ _ F6.keep hre
        | none =>
          obtain ⟨hk0, hk1⟩ := hd k rfl
          obtain ⟨ds, hds, hdsl, hdsc, hdsn, hdsz, hdsv⟩ := Mine.digs_ok hk0 hk1
          have hDe : Mine.dlLine k = Str.ofString "Crawl-delay: " ++ Mine.dig ds := by unfold Mine.dlLine; rw [hds]
          have hDh : (Mine.dlLine k).cps.toList.head? = some 67 := by rw [hDe]; exact Mine.head_app hch
          have hDl : (Mine.dlLine k).length ≤ 100 := by
            have e1 : (Str.ofString "Crawl-delay: ").length = 13 := by decide +kernel
            have e3 := Mine.num_len hk0 (by omega)
            unfold Mine.dlLine
            simp only [Str.length_append, e1]
            omega
          have hD1 : (Txt.slice (Mine.dlLine k) none (some 12) == Str.ofString "User-agent: ") = false := Mine.slice_ne (by decide) hDh huh (by decide)
          have hD2 : (Txt.slice (Mine.dlLine k) none (some 13) == Str.ofString "Crawl-delay: ") = true := by rw [hDe, Mine.slice_to_app (by decide +kernel)]; exact beq_self_eq_true _
          have hD3 : Txt.slice (Mine.dlLine k) (some 13) none = Mine.dig ds := by rw [hDe, Mine.slice_from_app (by decide +kernel)]
          obtain ⟨v0, hx0, t0, rfl⟩ := Mine.pd_get hv (agents.length + 0) (Mine.dlLine k) (Mine.lines_rest 0)
          rw [← hzn] at hx0
          generalize hDx : Mine.dlLine k = x0 at hx0 hDl hD1 hD2 hD3
          obtain ⟨x, hxr, hxl, hxh⟩ := Mine.rule_head hrl htb
          obtain ⟨v, hx, t9, rfl⟩ := Mine.pd_get hv (agents.length + 1) x ((Mine.lines_rest 1).trans (by simpa [Mine.restOf] using hxr))
          have hu3 : (Txt.slice x none (some 14) == Str.ofString "Request-rate: ") = false := by
            rcases hxh with h | h
            · exact Mine.slice_ne (by decide) h hrh (by decide)
            · exact Mine.slice_ne (by decide) h hrh (by decide)
          rw [← hzn] at hx
          have hsz9 : zs.length + 1 < its.size := by have := (List.getElem?_eq_some_iff.mp hx).1; simpa using this
          refine Mine.unstop (Mine.tail_nat hl (by k_asm) (by simpa using hx0) rfl (by omega) ?_)
          repeat' (first | (k_unfold; (try dsimp only)) | walk1 | (dsimp only; walk1) | fail "no step")
          refine Mine.unstop (Mine.tail_nat hl (by k_asm) (by simpa using hx0) rfl (by omega) ?_)
          repeat' (first | (k_unfold; (try dsimp only)) | walk1 | (dsimp only; walk1) | fail "no step")
          -- the delay
          refine Mine.unstop (Mine.tail_nat hl (by k_asm) (by simpa using hx0) rfl (by omega) ?_)
          repeat' (first | (k_unfold; (try dsimp only)) | walk1 | (dsimp only; walk1) | fail "no step")
          rename Fr s.heap L' _ _ => F5
          rename News s.heap L' _ _ => N5
          rw [hD3]
          refine Mine.unstop (Mine.number01 rfl rfl (by assumption) F5 (by assumption) (by assumption) hdsl hdsc hdsn hdsz ?_)
          intro h9 tk9 tn9 k9
          obtain ⟨F5', N5'⟩ := Mine.after_keep F5 N5 k9
          rw [hdsv]
          clear F5 N5
          repeat' (first | (k_unfold; (try dsimp only)) | walk1 | (dsimp only; walk1) | fail "no step")
          refine Mine.unstop (Mine.tail_nat (j := zs.length + 1) hl (by k_asm) (by simpa using hx) (by omega) (by omega) ?_)
          repeat' (first | (k_unfold; (try dsimp only)) | walk1 | (dsimp only; walk1) | fail "no step")
          rename Fr s.heap L' _ _ => F8
          rename News s.heap L' _ _ => N8
          have hdr := Mine.pd_drop9 (agents.length + 1) hv
          rw [Mine.lines_dropj] at hdr
          have hzt : (((zs.length : Int)) + 1).toNat = agents.length + 1 := by omega
          rw [hzt] at N8
          have hpa : ∀ t, Mine.Pd Mine.StrV [Str.ofString "Allow:"] [Value.str (Str.ofString "Allow:") t] := fun t => .cons ⟨t, rfl⟩ .nil
          have hrest : (Mine.restOf (some k) (none) rules).drop 1 = (if rules = [] then [Str.ofString "Allow:"] else rules) := rfl
          rw [hrest] at hdr
          by_cases hr0 : rules = []
          · rw [if_pos hr0] at hdr
            refine Mine.unstop (Mine.eq_strs (Mine.is_l N8 (by k_mem)) (Mine.is_l N8 (by k_mem)) hdr (hpa _) Mine.good_allow Mine.good_allow (by units_room) ?_)
            rw [decide_eq_true rfl]
            repeat' (first | (k_unfold; (try dsimp only)) | walk1 | (dsimp only; walk1) | fail "no step")
            rename Fr s.heap L' _ _ => F6
            rename News s.heap L' _ _ => N6
            refine Mine.LeaveB.intro F6 ?_
            rw [hr0] at hpost
            have _ := hl
            obtain ⟨as9, hre⟩ := Mine.reads_out N6 (by k_mem) (by k_mem) (by k_mem) hzv (rs := []) (rules := []) .nil (.int _ _) .none
            exact hpost _ _ _ _ F6.keep hre
          · rw [if_neg hr0] at hdr
            refine Mine.unstop (Mine.eq_strs (Mine.is_l N8 (by k_mem)) (Mine.is_l N8 (by k_mem)) hdr (hpa _) hgr Mine.good_allow (by units_room) ?_)
            rw [decide_eq_false (Mine.allow_ne hrl)]
            repeat' (first | (k_unfold; (try dsimp only)) | walk1 | (dsimp only; walk1) | fail "no step")
            rename Fr s.heap L' _ _ => F7
            rename News s.heap L' _ _ => N7
            refine Mine.unstop (Mine.eq_strs (ms := []) (Mine.is_l N7 (by k_mem)) (Mine.is_l (xs := []) N7 (by k_mem)) hdr .nil hgr (fun _ q => absurd q List.not_mem_nil) (by units_room) ?_)
            rw [decide_eq_false hr0]
            repeat' (first | (k_unfold; (try dsimp only)) | walk1 | (dsimp only; walk1) | fail "no step")
            rename Fr s.heap L' _ _ => F6
            rename News s.heap L' _ _ => N6
            refine Mine.LeaveB.intro F6 ?_
            have _ := hl
            obtain ⟨as9, hre⟩ := Mine.reads_out N6 (by k_mem) (by k_mem) (by k_mem) hzv hdr (.int _ _) .none
            exact hpost _ _ _ _ F6.keep hre
      | none =>
        cases rate with
        | some q =>
          obtain ⟨⟨hq1, hq2⟩, hq3, hq4⟩ := hr q rfl
          obtain ⟨d1, hd1, hd1l, hd1c, hd1n, hd1z, hd1v⟩ := Mine.digs_ok hq1 hq2
          obtain ⟨d2, hd2, hd2l, hd2c, hd2n, hd2z, hd2v⟩ := Mine.digs_ok hq3 hq4
          obtain ⟨hrr1, hrr2⟩ := Mine.rr_split hd1 hd2 hd1c hd2c
          have hRh : (Mine.rrLine q).cps.toList.head? = some 82 := by
            unfold Mine.rrLine
            rw [Str.append_assoc, Str.append_assoc]
            exact Mine.head_app hrh
          have hRl : (Mine.rrLine q).length ≤ 100 := by
            unfold Mine.rrLine
            have e1 : (Str.ofString "Request-rate: ").length = 14 := by decide +kernel
            have e2 : (Str.ofString "/").length = 1 := by decide +kernel
            have e3 := Mine.num_len hq1 (by omega)
            have e4 := Mine.num_len hq3 (by omega)
            simp only [Str.length_append, e1, e2]
            omega
          have hR1 : (Txt.slice (Mine.rrLine q) none (some 12) == Str.ofString "User-agent: ") = false := Mine.slice_ne (by decide) hRh huh (by decide)
          have hR2 : (Txt.slice (Mine.rrLine q) none (some 13) == Str.ofString "Crawl-delay: ") = false := Mine.slice_ne (by decide) hRh hch (by decide)
          have hR3 : (Txt.slice (Mine.rrLine q) none (some 14) == Str.ofString "Request-rate: ") = true := by rw [hrr1]; exact beq_self_eq_true _
          obtain ⟨v1, hx1, t1, rfl⟩ := Mine.pd_get hv (agents.length + 0) (Mine.rrLine q) (Mine.lines_rest 0)
          rw [← hzn] at hx1
          have hsz8 : zs.length + 0 < its.size := by have := (List.getElem?_eq_some_iff.mp hx1).1; simpa using this
          generalize hRx : Mine.rrLine q = x1 at hx1 hRl hR1 hR2 hR3 hrr1 hrr2
          obtain ⟨x, hxr, hxl, hxh⟩ := Mine.rule_head hrl htb
          obtain ⟨v, hx, t9, rfl⟩ := Mine.pd_get hv (agents.length + 1) x ((Mine.lines_rest 1).trans (by simpa [Mine.restOf] using hxr))
          have hu3 : (Txt.slice x none (some 14) == Str.ofString "Request-rate: ") = false := by
            rcases hxh with h | h
            · exact Mine.slice_ne (by decide) h hrh (by decide)
            · exact Mine.slice_ne (by decide) h hrh (by decide)
          rw [← hzn] at hx
          have hsz9 : zs.length + 1 < its.size := by have := (List.getElem?_eq_some_iff.mp hx).1; simpa using this
          refine Mine.unstop (Mine.tail_nat hl (by k_asm) (by simpa using hx1) rfl (by omega) ?_)
          repeat' (first | (k_unfold; (try dsimp only)) | walk1 | (dsimp only; walk1) | fail "no step")
          refine Mine.unstop (Mine.tail_nat hl (by k_asm) (by simpa using hx1) rfl (by omega) ?_)
          repeat' (first | (k_unfold; (try dsimp only)) | walk1 | (dsimp only; walk1) | fail "no step")
          refine Mine.unstop (Mine.tail_nat hl (by k_asm) (by simpa using hx1) rfl (by omega) ?_)
          repeat' (first | (k_unfold; (try dsimp only)) | walk1 | (dsimp only; walk1) | fail "no step")
          refine Mine.unstop (Mine.tail_nat hl (by k_asm) (by simpa using hx1) rfl (by omega) ?_)
          repeat' (first | (k_unfold; (try dsimp only)) | walk1 | (dsimp only; walk1) | fail "no step")
          rename StrsAre (strValues _) _ => hsa
          rename List.map _ _ = Txt.split _ _ => hsp
          rw [hrr2] at hsp
          rw [hsp] at hsa
          rename Fr s.heap L' _ _ => F5
          rename News s.heap L' _ _ => N5
          have hpv := Mine.pd_strs hsa
          generalize strValues _ = sv at N5 hpv
          have hsvl := Mine.pd_len hpv
          have hdd : ∀ a ∈ [Mine.dig d1, Mine.dig d2], ∃ d, a = Mine.dig d ∧ d.length ≤ 4 ∧ (∀ c ∈ d, 48 ≤ c ∧ c ≤ 57) ∧ d ≠ [] ∧ (d = [48] ∨ d.head? ≠ some 48) := by
            intro a ha
            rcases List.mem_cons.mp ha with rfl | ha
            · exact ⟨d1, rfl, hd1l, hd1c, hd1n, hd1z⟩
            · rw [List.mem_singleton.mp ha]; exact ⟨d2, rfl, hd2l, hd2c, hd2n, hd2z⟩
          refine Mine.unstop (LCg.CompSrc.ledger rfl F5 N5 (by k_mem) (by rw [PySem.sizeLine_eq, List.size_toArray, ← hsvl]; simp) ?_)
          intro g9
          refine Mine.comp_pd Mine.IntV (fun a : Str => Mine.numF a.cps.toList) hpv ?_ ?_
          · intro a v6 I6 oI6 C6 oC6 D6 ys6 m₆ h6 tk6 E6 hn6 hv6 hyl6 C1' hx6 F6 N6 off60 ne6
            have off6 := off60
            simp only [LCg.Off3, and_true] at off6
            obtain ⟨t6, rfl⟩ := hv6
            obtain ⟨d, rfl, hd1', hd2', hd3', hd4'⟩ := hdd a hn6
            repeat' (first | (k_unfold; (try dsimp only)) | walk1 | (dsimp only; walk1) | fail "no step")
            rename Fr s.heap L' _ _ => F7
            rename News s.heap L' _ _ => N7
            refine Mine.unstop (Mine.number01 rfl rfl (by assumption) F7 (by assumption) (by assumption) hd1' hd2' hd3' hd4' ?_)
            intro h9 tk9 tn9 k9
            obtain ⟨F7', N7'⟩ := Mine.after_keep F7 N7 k9
            clear F7 N7
            repeat' (first | (k_unfold; (try dsimp only)) | walk1 | (dsimp only; walk1) | fail "no step")
            refine Mine.unstop (Mine.cend [] (by assumption) (by assumption) off60 (.inr ⟨W.listOf _ _, by k_mem, rfl, _, rfl⟩) ⟨rfl, tn9, rfl⟩)
          intro ys hy
          simp only [List.map_cons, List.map_nil, Mine.dig, hd1v, hd2v] at hy
          have hyl := Mine.pd_len hy
          repeat' (first | (k_unfold; (try dsimp only)) | walk1 | (dsimp only; walk1) | fail "no step")
          rename Fr s.heap L' _ _ => F8
          rename News s.heap L' _ _ => N8
          have hdr := Mine.pd_drop9 (agents.length + 1) hv
          rw [Mine.lines_dropj] at hdr
          have hzt : (((zs.length : Int)) + 1).toNat = agents.length + 1 := by omega
          rw [hzt] at N8
          have hpa : ∀ t, Mine.Pd Mine.StrV [Str.ofString "Allow:"] [Value.str (Str.ofString "Allow:") t] := fun t => .cons ⟨t, rfl⟩ .nil
          have hrest : (Mine.restOf (none) (some q) rules).drop 1 = (if rules = [] then [Str.ofString "Allow:"] else rules) := rfl
          rw [hrest] at hdr
          by_cases hr0 : rules = []
          · rw [if_pos hr0] at hdr
            refine Mine.unstop (Mine.eq_strs (Mine.is_l N8 (by k_mem)) (Mine.is_l N8 (by k_mem)) hdr (hpa _) Mine.good_allow Mine.good_allow (by units_room) ?_)
            rw [decide_eq_true rfl]
            repeat' (first | (k_unfold; (try dsimp only)) | walk1 | (dsimp only; walk1) | fail "no step")
            rename Fr s.heap L' _ _ => F6
            rename News s.heap L' _ _ => N6
            refine Mine.LeaveB.intro F6 ?_
            rw [hr0] at hpost
            have _ := hl
            obtain ⟨as9, hre⟩ := Mine.reads_outR N6 (by k_mem) (by k_mem) (by k_mem) (by k_mem) hzv (rs := []) (rules := []) .nil hy .none 
            exact hpost _ _ _ _ F6.keep hre
          · rw [if_neg hr0] at hdr
            refine Mine.unstop (Mine.eq_strs (Mine.is_l N8 (by k_mem)) (Mine.is_l N8 (by k_mem)) hdr (hpa _) hgr Mine.good_allow (by units_room) ?_)
            rw [decide_eq_false (Mine.allow_ne hrl)]
            repeat' (first | (k_unfold; (try dsimp only)) | walk1 | (dsimp only; walk1) | fail "no step")
            rename Fr s.heap L' _ _ => F7
            rename News s.heap L' _ _ => N7
            refine Mine.unstop (Mine.eq_strs (ms := []) (Mine.is_l N7 (by k_mem)) (Mine.is_l (xs := []) N7 (by k_mem)) hdr .nil hgr (fun _ q => absurd q List.not_mem_nil) (by units_room) ?_)
            rw [decide_eq_false hr0]
            repeat' (first | (k_unfold; (try dsimp only)) | walk1 | (dsimp only; walk1) | fail "no step")
            rename Fr s.heap L' _ _ => F6
            rename News s.heap L' _ _ => N6
            refine Mine.LeaveB.intro F6 ?_
            have _ := hl
            obtain ⟨as9, hre⟩ := Mine.reads_outR N6 (by k_mem) (by k_mem) (by k_mem) (by k_mem) hzv hdr hy .none 
            exact hpost _ _ _ _ F6.keep hre
        | none =>
          obtain ⟨x, hx0, hxl, hxh⟩ := Mine.rule_head hrl htb
          obtain ⟨v, hx, t9, rfl⟩ := Mine.pd_get hv (agents.length + 0) _ ((Mine.lines_rest 0).trans hx0)
          have hu1 : (Txt.slice x none (some 12) == Str.ofString "User-agent: ") = false := by
            rcases hxh with h | h
            · exact Mine.slice_ne (by decide) h huh (by decide)
            · exact Mine.slice_ne (by decide) h huh (by decide)
          have hu2 : (Txt.slice x none (some 13) == Str.ofString "Crawl-delay: ") = false := by
            rcases hxh with h | h
            · exact Mine.slice_ne (by decide) h hch (by decide)
            · exact Mine.slice_ne (by decide) h hch (by decide)
          have hu3 : (Txt.slice x none (some 14) == Str.ofString "Request-rate: ") = false := by
            rcases hxh with h | h
            · exact Mine.slice_ne (by decide) h hrh (by decide)
            · exact Mine.slice_ne (by decide) h hrh (by decide)
          rw [← hzn] at hx
          refine Mine.unstop (Mine.tail_nat hl (by k_asm) (by simpa using hx) rfl (by omega) ?_)
          repeat' (first | (k_unfold; (try dsimp only)) | walk1 | (dsimp only; walk1) | fail "no step")
          refine Mine.unstop (Mine.tail_nat hl (by k_asm) (by simpa using hx) rfl (by omega) ?_)
          repeat' (first | (k_unfold; (try dsimp only)) | walk1 | (dsimp only; walk1) | fail "no step")
          refine Mine.unstop (Mine.tail_nat hl (by k_asm) (by simpa using hx) rfl (by omega) ?_)
          repeat' (first | (k_unfold; (try dsimp only)) | walk1 | (dsimp only; walk1) | fail "no step")
          rename Fr s.heap L' _ _ => F8
          rename News s.heap L' _ _ => N8
          have hdr := Mine.pd_drop9 agents.length hv
          rw [Mine.lines_drop] at hdr
          have hzt : ((zs.length : Int)).toNat = agents.length := by omega
          rw [hzt] at N8
          have hpa : ∀ t, Mine.Pd Mine.StrV [Str.ofString "Allow:"] [Value.str (Str.ofString "Allow:") t] := fun t => .cons ⟨t, rfl⟩ .nil
          by_cases hr0 : rules = []
          · have hr1 : Mine.restOf none none rules = [Str.ofString "Allow:"] := by rw [hr0]; rfl
            rw [hr1] at hdr
            refine Mine.unstop (Mine.eq_strs (Mine.is_l N8 (by k_mem)) (Mine.is_l N8 (by k_mem)) hdr (hpa _) Mine.good_allow Mine.good_allow (by units_room) ?_)
            rw [decide_eq_true rfl]
            repeat' (first | (k_unfold; (try dsimp only)) | walk1 | (dsimp only; walk1) | fail "no step")
            rename Fr s.heap L' _ _ => F6
            rename News s.heap L' _ _ => N6
            refine Mine.LeaveB.intro F6 ?_
            obtain ⟨as9, hre⟩ := Mine.reads_out N6 (by k_mem) (by k_mem) (by k_mem) hzv (rs := []) (rules := []) .nil .none .none
            rw [hr0] at hpost
            exact hpost _ _ _ _ F6.keep hre
          · have hr1 : Mine.restOf none none rules = rules := by unfold Mine.restOf; rw [if_neg hr0]; rfl
            rw [hr1] at hdr
            refine Mine.unstop (Mine.eq_strs (Mine.is_l N8 (by k_mem)) (Mine.is_l N8 (by k_mem)) hdr (hpa _) hgr Mine.good_allow (by units_room) ?_)
            rw [decide_eq_false (Mine.allow_ne hrl)]
            repeat' (first | (k_unfold; (try dsimp only)) | walk1 | (dsimp only; walk1) | fail "no step")
            rename Fr s.heap L' _ _ => F7
            rename News s.heap L' _ _ => N7
            refine Mine.unstop (Mine.eq_strs (ms := []) (Mine.is_l N7 (by k_mem)) (Mine.is_l (xs := []) N7 (by k_mem)) hdr .nil hgr (fun _ q => absurd q List.not_mem_nil) (by units_room) ?_)
            rw [decide_eq_false hr0]
            repeat' (first | (k_unfold; (try dsimp only)) | walk1 | (dsimp only; walk1) | fail "no step")
            rename Fr s.heap L' _ _ => F6
            rename News s.heap L' _ _ => N6
            refine Mine.LeaveB.intro F6 ?_
            obtain ⟨as9, hre⟩ := Mine.reads_out N6 (by k_mem) (by k_mem) (by k_mem) hzv hdr .none .none
            exact hpost _ _ _ _ F6.keep hre
end
section
namespace Mine
open PySem.Calls PySem.Spec
def names8 : List Str := [Str.ofString "fig", Str.ofString "*", Str.ofString "", Str.ofString "a: b", Str.ofString "User-agent: fig", Str.ofString "Allow:", Str.ofString "Crawl-delay: 3", Str.ofString " # é"]
def paths6 : List Str := [Str.ofString "", Str.ofString "/", Str.ofString "/x*", Str.ofString "/y$", Str.ofString "Allow:", Str.ofString "/User-agent: fig"]
/-- a text of this law: short, no line end, its signs are signs -/
def Ok1 (a : Str) : Prop := a.length ≤ 20 ∧ Free 10 a ∧ Good a
theorem names_ok : ∀ a ∈ names8, Ok1 a := by unfold Ok1 Free Good; decide +kernel
theorem paths_ok : ∀ a ∈ paths6, Ok1 a := by unfold Ok1 Free Good; decide +kernel
def RuleOk (a : Str) : Prop := ((∃ b, a = Str.ofString "Allow: " ++ b) ∨ ∃ b, a = Str.ofString "Disallow: " ++ b) ∧ a.length ≤ 30 ∧ Free 10 a ∧ Good a
theorem app_ok {k b : Str} (hk : k.length ≤ 10 ∧ Free 10 k ∧ Good k) (hb : Ok1 b) : (k ++ b).length ≤ 30 ∧ Free 10 (k ++ b) ∧ Good (k ++ b) := by
  obtain ⟨k1, k2, k3⟩ := hk
  obtain ⟨b1, b2, b3⟩ := hb
  refine ⟨by rw [Str.length_append]; omega, fun q => ?_, fun c q => ?_⟩
  · rw [cps_append] at q
    exact (List.mem_append.mp q).elim k2 b2
  · rw [cps_append] at q
    exact (List.mem_append.mp q).elim (k3 c) (b3 c)
theorem allow_ok : (Str.ofString "Allow: ").length ≤ 10 ∧ Free 10 (Str.ofString "Allow: ") ∧ Good (Str.ofString "Allow: ") := by unfold Free Good; decide +kernel
theorem disallow_ok : (Str.ofString "Disallow: ").length ≤ 10 ∧ Free 10 (Str.ofString "Disallow: ") ∧ Good (Str.ofString "Disallow: ") := by unfold Free Good; decide +kernel
theorem rule_a {b : Str} (hb : Ok1 b) : RuleOk (Str.ofString "Allow: " ++ b) := ⟨.inl ⟨b, rfl⟩, app_ok allow_ok hb⟩
theorem rule_d {b : Str} (hb : Ok1 b) : RuleOk (Str.ofString "Disallow: " ++ b) := ⟨.inr ⟨b, rfl⟩, app_ok disallow_ok hb⟩
/-- the rate's record and the law's own pair of figures, in the ledger's tail -/
def RateE (es : List (Addr × Obj)) (v : Value) (r : Option (Int × Int)) : Prop := (v = .none ∧ r = none) ∨
  ∃ y d h1 h2 h3 h4 h5 h6 t1 t2 t3 t4 t5 t6 ua rl dl rr a b ta tb n, v = .ref y ∧ r = some (a, b) ∧ (y, instObj 59 d) ∈ es ∧ (d, rateDict h1 h2 h3 h4 h5 h6 t1 t2 t3 t4 t5 t6 ua rl dl rr a b ta tb n) ∈ es ∧ 0 ≤ a ∧ a ≤ 30 ∧ 0 ≤ b ∧ b ≤ 30
def RateL (es : List (Addr × Obj)) (v : Value) (r : Option (Int × Int)) : Prop := (v = .none ∧ r = none) ∨
  ∃ q a b ta tb c, v = .ref q ∧ r = some (a, b) ∧ (q, W.listOf #[.int a ta, .int b tb] c) ∈ es
theorem rate_of {g h : Heap} {L : Addr} {es news : List (Addr × Obj)} {v : Value} {r : Option (Int × Int)} (N : News g L h news) (sub : ∀ p ∈ es, p ∈ news) (e : RateE es v r) : RateV h v r := by
  rcases e with e | ⟨y, d, h1, h2, h3, h4, h5, h6, t1, t2, t3, t4, t5, t6, ua, rl, dl, rr, a, b, ta, tb, n, e1, e2, e3, e4, e5, e6, e7, e8⟩
  · exact .inl e
  · exact .inr ⟨y, d, h1, h2, h3, h4, h5, h6, t1, t2, t3, t4, t5, t6, ua, rl, dl, rr, a, b, ta, tb, n, e1, e2, InstAt.of_news N (sub _ e3) (sub _ e4), e5, by omega, e7, by omega⟩
def J01 (du dr da lr lu x d pa nm : Addr) (pvs nvs : List Value) (cp cn : Nat) (h1 h2 h3 h4 : Int) (t1 t2 t3 t4 : Tok) (n : Nat) (k : Nat) (_u : Str → Option Value) (nw : List (Addr × Obj)) : Prop :=
  ∃ (A R : List Str) (dly : Option Int) (rate : Option (Int × Int)) (ua ub ru rb : List Value) (dl dv rr rv : Value) (c0 c1 c2 c3 c4 : Nat) (es : List (Addr × Obj)),
    nw = (du, W.listOf #[.ref da, dv, rv, .ref dr] c0) :: (dr, W.listOf rb.toArray c2) :: (da, W.listOf ub.toArray c1) :: (lr, W.listOf ru.toArray c3) :: (lu, W.listOf ua.toArray c4) :: (x, instObj 59 d) :: (d, entryDict h1 h2 h3 h4 t1 t2 t3 t4 (.ref lu) (.ref lr) dl rr n) :: (pa, W.listOf pvs.toArray cp) :: (nm, W.listOf nvs.toArray cn) :: es ∧
    Pd StrV A ua ∧ Pd StrV A ub ∧ Pd StrV R ru ∧ Pd StrV R rb ∧ DelayV dl dly ∧ DelayV dv dly ∧ RateE es rr rate ∧ RateL es rv rate ∧ A.length ≤ k ∧ R.length ≤ k ∧ (∀ a ∈ A, Ok1 a) ∧ (∀ a ∈ R, RuleOk a) ∧ (∀ q, dly = some q → 0 ≤ q ∧ q < 1000) ∧
    (Off du es ∧ Off dr es ∧ Off da es ∧ Off lr es ∧ Off lu es ∧ Off x es ∧ Off d es ∧ Off pa es ∧ Off nm es)
theorem six (x : Int) : Int.fmod x 6 = 0 ∨ Int.fmod x 6 = 1 ∨ Int.fmod x 6 = 2 ∨ Int.fmod x 6 = 3 ∨ Int.fmod x 6 = 4 ∨ Int.fmod x 6 = 5 := by
  have h0 := Int.fmod_nonneg_of_pos x (b := 6) (by decide)
  have h1 := Int.fmod_lt_of_pos x (b := 6) (by decide)
  omega
theorem nat_of {a : Int} (h : 0 ≤ a) : ∃ p : Nat, a = (p : Int) := ⟨_, (Int.toNat_of_nonneg h).symm⟩
theorem menu_m (l : List Str) (m : Int) (hm : (l.length : Int) = m) (h0 : 0 < m) (h9 : m < 1000) {P : Str → Prop} (hP : ∀ a ∈ l, P a) (r : Int) : ∃ (j : Nat) (a : Str), Int.fmod r m = (j : Int) ∧ l[j]? = some a ∧ P a ∧ (j : Int) < 1000000 := by
  have h1 := Int.fmod_nonneg_of_pos r h0
  have h2 := Int.fmod_lt_of_pos r h0
  obtain ⟨j, e⟩ := nat_of h1
  rw [e] at h2
  have : j < l.length := by omega
  exact ⟨j, _, e, List.getElem?_eq_getElem this, hP _ (List.getElem_mem this), by omega⟩
def Mark : Prop := True
theorem news_rate1 {g h : Heap} {L : Addr} {q a b y dy i p1 p2 p3 p4 p5 p6 p7 p8 p9 : Addr × Obj} {es : List (Addr × Obj)} (N : News g L h (q :: a :: b :: y :: dy :: i :: p1 :: p2 :: p3 :: p4 :: p5 :: p6 :: p7 :: p8 :: p9 :: es)) : News g L h (i :: p1 :: p2 :: p3 :: p4 :: p5 :: p6 :: p7 :: p8 :: p9 :: [y, dy, q]) := fun p hp => N p (by
  simp only [List.mem_cons, List.not_mem_nil, or_false] at hp ⊢
  rcases hp with q | q | q | q | q | q | q | q | q | q | q | q | q <;> simp [q])
def due01 (A : List Str) (dly : Option Int) (rate : Option (Int × Int)) (R : List Str) : PyData :=
  .list [.list (A.map PyData.str), (match dly with | none => .none | some k => .int k), (match rate with | none => .none | some q => .list [.int q.1, .int q.2]), .list (R.map PyData.str)]
theorem due_shaped {A R : List Str} {dly : Option Int} {rate : Option (Int × Int)} (hA : ∀ a ∈ A, Good a) (hR : ∀ a ∈ R, Good a) : PySem.SeqAt.shaped (due01 A dly rate R) = true := by
  have h1 := strs_layAll hA
  have h2 := strs_layAll hR
  unfold due01
  cases dly <;> cases rate <;> simp [PySem.SeqAt.shaped, PyData.canLay0, PyData.canLayAll0, PyData.depth, PyData.depthAll, h1, h2, strs_depthAll]
section
variable {prog : Program} {w : World} {A : Around} {E : Value → Shared → Prop} {s : Shared} {Q : Value → Shared → Prop}
theorem eq_same {a b : Value} {d : PyData} {as bs : List Addr} (ra : Reads s.heap a d as) (rb : Reads s.heap b d bs) (hd : PySem.SeqAt.shaped d = true) (hu : A.units + 64 < cLine) (h : Q (.bool true) s) : wpAny (model prog w) A (compareOp .Eq a b) Q E s :=
  PyProof.Rows.eq_dataH ra rb hd hd hu (by
    have h1 : d.canLay0 = true := by
      have := hd
      unfold PySem.SeqAt.shaped at this
      exact (Bool.and_eq_true _ _ ▸ this).1
    rw [PySem.SeqAt.eqv_refl d h1]; exact h)
theorem ne_same {a b : Value} {d : PyData} {as bs : List Addr} (ra : Reads s.heap a d as) (rb : Reads s.heap b d bs) (hd : PySem.SeqAt.shaped d = true) (hu : A.units + 64 < cLine) (h : Q (.bool false) s) : wpAny (model prog w) A (compareOp .NotEq a b) Q E s :=
  PyProof.Rows.ne_dataH ra rb hd hd hu (by
    have h1 : d.canLay0 = true := by
      have := hd
      unfold PySem.SeqAt.shaped at this
      exact (Bool.and_eq_true _ _ ▸ this).1
    rw [PySem.SeqAt.eqv_refl d h1]; exact h)
theorem ne_strs_same {g : Heap} {L : Addr} {news : List (Addr × Obj)} {a b : Addr} {xs ys : List Value} {ca cb : Nat} {ns : List Str} (N : News g L s.heap news) (ha : (a, W.listOf xs.toArray ca) ∈ news) (hb : (b, W.listOf ys.toArray cb) ∈ news) (hi : Pd StrV ns xs) (hj : Pd StrV ns ys) (ho : ∀ a ∈ ns, Good a) (hu : A.units + 64 < cLine) (h : Q (.bool false) s) :
    wpAny (model prog w) A (compareOp .NotEq (.ref a) (.ref b)) Q E s :=
  ne_same (PyProof.Rows.reads_newData (is_l N ha) (strs_carried hi)) (PyProof.Rows.reads_newData (is_l N hb) (strs_carried hj)) (strs_shaped ho) hu h
theorem ints_shaped {ns : List Int} : PySem.SeqAt.shaped (.list (ns.map PyData.int)) = true := by
  have h1 : ∀ l : List Int, PyData.canLayAll0 (l.map PyData.int) = true := fun l => by
    induction l with
    | nil => rfl
    | cons a r ih => simp [PyData.canLayAll0, PyData.canLay0, ih]
  have h2 : ∀ l : List Int, PyData.depthAll (l.map PyData.int) = 0 := fun l => by
    induction l with
    | nil => rfl
    | cons a r ih => simp [PyData.depthAll, PyData.depth, ih]
  simp [PySem.SeqAt.shaped, PyData.canLay0, PyData.depth, h1, h2]
theorem ne_ints_same {g : Heap} {L : Addr} {news : List (Addr × Obj)} {a b : Addr} {xs ys : List Value} {ca cb : Nat} {ns : List Int} (N : News g L s.heap news) (ha : (a, W.listOf xs.toArray ca) ∈ news) (hb : (b, W.listOf ys.toArray cb) ∈ news) (hi : Pd IntV ns xs) (hj : Pd IntV ns ys) (hu : A.units + 64 < cLine) (h : Q (.bool false) s) :
    wpAny (model prog w) A (compareOp .NotEq (.ref a) (.ref b)) Q E s :=
  ne_same (PyProof.Rows.reads_newData (is_l N ha) (ints_carried hi)) (PyProof.Rows.reads_newData (is_l N hb) (ints_carried hj)) ints_shaped hu h
end
theorem rates_both {es : List (Addr × Obj)} {rr rv : Value} {rate : Option (Int × Int)} (hr : RateE es rr rate) (hr' : RateL es rv rate) : (rr = .none ∧ rv = .none ∧ rate = none) ∨
    ∃ y d h1 h2 h3 h4 h5 h6 t1 t2 t3 t4 t5 t6 ua rl dl rr' a b ta tb n q ta' tb' c, rr = .ref y ∧ rv = .ref q ∧ rate = some (a, b) ∧ (y, instObj 59 d) ∈ es ∧ (d, rateDict h1 h2 h3 h4 h5 h6 t1 t2 t3 t4 t5 t6 ua rl dl rr' a b ta tb n) ∈ es ∧ (q, W.listOf #[.int a ta', .int b tb'] c) ∈ es ∧ 0 ≤ a ∧ a ≤ 30 ∧ 0 ≤ b ∧ b ≤ 30 := by
  rcases hr with ⟨e1, e2⟩ | ⟨y, d, h1, h2, h3, h4, h5, h6, t1, t2, t3, t4, t5, t6, ua, rl, dl, rr', a, b, ta, tb, n, e1, e2, m1, m2, e5, e6, e7, e8⟩
  · rcases hr' with ⟨e3, e4⟩ | ⟨q, a', b', ta', tb', c, e3, e4, m3⟩
    · exact .inl ⟨e1, e3, e2⟩
    · rw [e2] at e4; cases e4
  · rcases hr' with ⟨e3, e4⟩ | ⟨q, a', b', ta', tb', c, e3, e4, m3⟩
    · rw [e2] at e4; cases e4
    · rw [e2] at e4; cases e4
      exact .inr ⟨y, d, h1, h2, h3, h4, h5, h6, t1, t2, t3, t4, t5, t6, ua, rl, dl, rr', a, b, ta, tb, n, q, ta', tb', c, e1, e3, e2, m1, m2, m3, e5, e6, e7, e8⟩
theorem news_es {g h : Heap} {L : Addr} {p1 p2 p3 p4 p5 p6 p7 p8 p9 : Addr × Obj} {es : List (Addr × Obj)} (fs : List (Addr × Obj)) (N : News g L h (p1 :: p2 :: p3 :: p4 :: p5 :: p6 :: p7 :: p8 :: p9 :: es)) (sub : ∀ p ∈ fs, p ∈ es) : News g L h (p1 :: p2 :: p3 :: p4 :: p5 :: p6 :: p7 :: p8 :: p9 :: fs) := fun p hp => N p (by
  simp only [List.mem_cons] at hp ⊢
  rcases hp with q | q | q | q | q | q | q | q | q | q
  · simp [q]
  · simp [q]
  · simp [q]
  · simp [q]
  · simp [q]
  · simp [q]
  · simp [q]
  · simp [q]
  · simp [q]
  · simp [sub _ q])
theorem sub3 {a b c : Addr × Obj} {es : List (Addr × Obj)} (ha : a ∈ es) (hb : b ∈ es) (hc : c ∈ es) : ∀ p ∈ [a, b, c], p ∈ es := fun p hp => by
  simp only [List.mem_cons, List.not_mem_nil, or_false] at hp
  rcases hp with rfl | rfl | rfl <;> assumption
theorem free_app {c : Nat} {x y : Str} (hx : Free c x) (hy : Free c y) : Free c (x ++ y) := fun q => by
  rw [cps_append] at q
  exact (List.mem_append.mp q).elim hx hy
theorem num_free {k : Int} (h0 : 0 ≤ k) (h1 : k < 1000) : Free 10 (Str.ofString (toString k)) := by
  obtain ⟨ds, e, _, hc, _⟩ := digs_ok h0 h1
  rw [e]
  intro q
  have := hc 10 (by simpa [dig] using q)
  omega
theorem lines_free {A R : List Str} {dly : Option Int} {rate : Option (Int × Int)} (hA : ∀ a ∈ A, Ok1 a) (hR : ∀ a ∈ R, RuleOk a) (hd : ∀ k, dly = some k → 0 ≤ k ∧ k < 1000) (hr : ∀ p, rate = some p → (0 ≤ p.1 ∧ p.1 < 1000) ∧ 0 ≤ p.2 ∧ p.2 < 1000) : ∀ x ∈ linesOf A dly rate R, Free 10 x := by
  intro x hx
  unfold linesOf at hx
  rcases List.mem_append.mp hx with hx | hx
  · rcases List.mem_append.mp hx with hx | hx
    · rcases List.mem_append.mp hx with hx | hx
      · obtain ⟨a, ha, rfl⟩ := List.mem_map.mp hx
        exact free_app (by unfold Free; decide +kernel) (hA a ha).2.1
      · cases dly with
        | none => simp at hx
        | some k =>
          simp at hx; subst hx
          exact free_app (by unfold Free; decide +kernel) (num_free (hd k rfl).1 (hd k rfl).2)
    · cases rate with
      | none => simp at hx
      | some p =>
        simp at hx; subst hx
        obtain ⟨⟨a, b⟩, c, d⟩ := hr p rfl
        exact free_app (free_app (free_app (by unfold Free; decide +kernel) (num_free a b)) (by unfold Free; decide +kernel)) (num_free c d)
  · split at hx
    · rw [List.mem_singleton.mp hx]; unfold Free; decide +kernel
    · exact (hR x hx).2.2.1
theorem txt_join (sep : Str) (l : List Str) : Txt.join sep l = Str.join sep l := eq_of_beq (PyProof.Rows.join_plain_closes sep l)
theorem join_len_le {c : Nat} : ∀ l : List Str, (Txt.join ⟨#[c]⟩ l).length ≤ (l.map (·.length)).sum + l.length
  | [] => by rw [txt_join]; exact Nat.zero_le _
  | [a] => by rw [txt_join]; show a.length ≤ _; simp
  | a :: b :: r => by
    have ih := join_len_le (c := c) (b :: r)
    rw [txt_join] at ih ⊢
    rw [join_cons2, Str.length_append, Str.length_append]
    have e : (⟨#[c]⟩ : Str).length = 1 := rfl
    have ih' : (Str.join ⟨#[c]⟩ (b :: r)).length ≤ ((b :: r).map (·.length)).sum + (b :: r).length := ih
    simp only [List.map_cons, List.sum_cons, List.length_cons] at ih' ⊢
    omega
theorem text_len {A R : List Str} {dly : Option Int} {rate : Option (Int × Int)} (h1 : A.length ≤ 64) (h2 : R.length ≤ 64) (hta : ∀ a ∈ A, a.length ≤ 100) (htb : ∀ a ∈ R, a.length ≤ 100)
    (hd : ∀ k, dly = some k → 0 ≤ k ∧ k < 1000) (hr : ∀ p, rate = some p → (0 ≤ p.1 ∧ p.1 < 1000) ∧ 0 ≤ p.2 ∧ p.2 < 1000) : (Txt.join ⟨#[10]⟩ (linesOf A dly rate R)).length ≤ 30000 := by
  have h3 := sum_le (lines_len (agents := A) (rules := R) (dly := dly) (rate := rate) hta htb (fun k e => by have := hd k e; omega) (fun p e => by have := hr p e; omega))
  have h4 := lines_num (agents := A) (dly := dly) (rate := rate) (rules := R)
  have h5 := join_len_le (c := 10) (linesOf A dly rate R)
  omega
theorem lines_ne {A R : List Str} {dly : Option Int} {rate : Option (Int × Int)} (h : A ≠ []) : linesOf A dly rate R ≠ [] := by
  cases A with
  | nil => exact absurd rfl h
  | cons a r => simp [linesOf]
theorem text_split {A R : List Str} {dly : Option Int} {rate : Option (Int × Int)} (h : A ≠ []) (hA : ∀ a ∈ A, Ok1 a) (hR : ∀ a ∈ R, RuleOk a) (hd : ∀ k, dly = some k → 0 ≤ k ∧ k < 1000) (hr : ∀ p, rate = some p → (0 ≤ p.1 ∧ p.1 < 1000) ∧ 0 ≤ p.2 ∧ p.2 < 1000) :
    Txt.split (Txt.join ⟨#[10]⟩ (linesOf A dly rate R)) (Str.ofString "\n") = linesOf A dly rate R := by
  rw [lf_is, txt_join]
  exact split_join (lines_ne h) (lines_free hA hR hd hr)
end Mine
end
section
local macro_rules | `(tactic| walk_at "subscriptTail") => `(tactic| (k_here; (with_reducible show wpAny _ _ (subscriptTail _ _ (Value.ref _) (Value.int _ _)) _ _ _); refine Mine.stop ?_))
local macro_rules | `(tactic| walk_at "pyIter ref") => `(tactic| (k_here; refine Mine.stop ?_))
local macro_rules | `(tactic| walk_at "call builtin:list.append") => `(tactic| (k_here; (with_reducible show wpAny _ _ (call (Value.builtin _) [Value.ref _, _]) _ _ _); k_dflt (refine' Mine.append_l ?k1 ?k2 ?k3 ?_ ?z; (case k1 => k_asm); (case k2 => k_asm); (case k3 => k_upd); (case z => (rw [PySem.sizeLine_eq]; omega)); k_whole); intro h' F' N'; (try k_sweep)))
local macro_rules | `(tactic| walk_at "call builtin:len") => `(tactic| (k_here; (with_reducible show wpAny _ _ (call (Value.builtin "len") [Value.ref _]) _ _ _); k_dflt (refine' Mine.len_l ?k1 ?k2 ?k3 ?_; (case k1 => k_asm); (case k2 => k_mem); (case k3 => (rw [PySem.sizeLine_eq]; (try simp only [List.length_append, List.length_cons, List.length_nil]); omega)); k_whole)))
local macro_rules | `(tactic| walk_at "binaryOp Add ref ref") => `(tactic| (k_here; k_dflt (refine' Mine.add_l ?k1 ?k2 ?k3 ?k4 ?k5 ?_; (case k1 => k_asm); (case k2 => k_asm); (case k3 => k_mem); (case k4 => k_mem); (case k5 => (rw [PySem.sizeLine_eq]; (try simp only [List.length_append, List.length_cons, List.length_nil, List.length_take, List.length_drop]); omega)); k_whole); intro D' h' F' N' l1; (try k_lt l1); (try k_sweep)))
local macro_rules | `(tactic| walk_at "call type:list") => `(tactic| (k_here; (with_reducible show wpAny _ _ (call (Value.type _) [Value.ref _]) _ _ _); k_dflt (refine' Mine.copy_l ?k1 ?k2 ?k3 ?k4 ?_; (case k1 => k_asm); (case k2 => k_asm); (case k3 => k_mem); (case k4 => (rw [PySem.sizeLine_eq]; (try simp only [List.length_append, List.length_cons, List.length_nil, List.length_take, List.length_drop]); omega)); k_whole); intro D' c' h' F' N' l1; (try k_lt l1); (try k_sweep)))
local macro_rules | `(tactic| walk_at "subscriptTail Name Slice ref ref") => `(tactic| (k_here; (with_reducible show wpAny _ _ (subscriptTail _ (PySem.Expr.Slice _ _ none _) (Value.ref _) (Value.ref _)) _ _ _); k_dflt ((first | refine' Mine.slice_to ?F ?N ?l ?p ?_ ?s ?t ?z | refine' Mine.slice_from ?F ?N ?l ?p ?_ ?s ?t ?z); (case F => k_asm); (case N => k_asm); (case l => k_mem); (case p => omega); (case s => with_unfolding_all rfl); (case t => kmk_pure); (case z => (rw [PySem.sizeLine_eq]; omega))); intro D' h' F' N' l1; (try k_lt l1); (try k_sweep)))
local macro_rules | `(tactic| walk_at "eval ListComp") => `(tactic| (k_here; first
  | (lcg_look; k_dflt (refine LCg.ListComp_U (F₀ := by k_asm) (by with_unfolding_all rfl) (by decide) (by rfl) (by decide) (by rfl) ?_); k_dflt lcg_toSrc)
  | (lcf_look; k_dflt (refine LCg.ListComp_U (F₀ := by k_asm) (by with_unfolding_all rfl) (by decide) (by rfl) (by decide) (by rfl) ?_); k_dflt lcg_toSrc)
  | (lct_look; k_dflt (refine LCt.ListComp_T (F₀ := by k_asm) (by with_unfolding_all rfl) (by decide) (by rfl) (by decide) (by rfl) ?_); k_dflt lct_toSrc)))
local macro_rules | `(tactic| walk_at "exec Assign cons ListComp") => `(tactic| (k_here; first
  | (lcg_look; k_dflt (refine LCg.Assign_ListComp_U (F₀ := by k_asm) (by rfl) (by with_unfolding_all rfl) (by with_unfolding_all rfl) (by decide) (by rfl) (by decide) (by rfl) (by rfl) (by rfl) ?_); k_dflt lcg_toSrc)
  | (lcf_look; k_dflt (refine LCg.Assign_ListComp_U (F₀ := by k_asm) (by rfl) (by with_unfolding_all rfl) (by with_unfolding_all rfl) (by decide) (by rfl) (by decide) (by rfl) (by rfl) (by rfl) ?_); k_dflt lcg_toSrc)
  | (lct_look; k_dflt (refine LCt.Assign_ListComp_T (F₀ := by k_asm) (by rfl) (by with_unfolding_all rfl) (by with_unfolding_all rfl) (by decide) (by rfl) (by decide) (by rfl) (by rfl) (by rfl) ?_); k_dflt lct_toSrc)))
local macro_rules | `(tactic| walk_at "CompSrc") => `(tactic| (k_here; k_dflt (first
  | (refine LCg.CompSrc.ledger (by rfl) (by k_asm) (by k_asm) (by k_mem) (by first | (simp only [List.size_toArray, List.length_append, List.length_cons, List.length_nil, List.length_take, List.length_drop, PySem.sizeLine_eq]; omega) | size_fits) ?_; intro g'; refine Mine.stop ?_)
  | (refine LCg.CompSrc.base (by rfl) (by k_asm) (by k_asm) (by assumption) (by first | (simp only [List.size_toArray, List.length_append, List.length_cons, List.length_nil, List.length_take, List.length_drop, PySem.sizeLine_eq]; omega) | size_fits) ?_; intro g'; refine Mine.stop ?_))))
local macro_rules | `(tactic| walk_at "CompSrcT") => `(tactic| (k_here; k_dflt (first
  | (refine LCt.CompSrcT.ledger (by rfl) (by k_asm) (by k_asm) (by k_mem) (by first | (simp only [List.size_toArray, List.length_append, List.length_cons, List.length_nil, List.length_take, List.length_drop, PySem.sizeLine_eq]; omega) | size_fits) ?_; intro g'; refine Mine.stop ?_)
  | (refine LCt.CompSrcT.base (by rfl) (by k_asm) (by k_asm) (by assumption) (by first | (simp only [List.size_toArray, List.length_append, List.length_cons, List.length_nil, List.length_take, List.length_drop, PySem.sizeLine_eq]; omega) | size_fits) ?_; intro g'; refine Mine.stop ?_))))
local macro_rules | `(tactic| walk_at "exec Assign") => `(tactic| (k_here; with_reducible refine plainObj_wpAny_Assign_Attribute ?_ ?_; rotate_left; with_unfolding_all rfl))
local macro_rules | `(tactic| walk_at "exec For Name Call cons nil") => `(tactic| (k_here; k_dflt (refine Mine.For_T (by k_asm) (by intro _ _; rfl) ?_)))
local macro_rules | `(tactic| walk_at "exec For Name Name cons nil") => `(tactic| (k_here; k_dflt (refine Mine.For_T (by k_asm) (by intro _ _; rfl) ?_)))
local macro_rules | `(tactic| walk_at "exec For Name Attribute cons nil") => `(tactic| (k_here; k_dflt (refine Mine.For_T (by k_asm) (by intro _ _; rfl) ?_)))
local macro_rules | `(tactic| walk_at "CompEnd") => `(tactic| (k_here; refine Mine.stop ?_))
local macro_rules | `(tactic| ktr_rel) => `(tactic| first
  | ((with_reducible show wpAny _ _ (subscriptTail _ _ (Value.ref _) (Value.int _ _)) _ _ _); refine Mine.stop ?_)
  | ((with_reducible show wpAny _ _ (call (Value.ref 42) _ _) _ _ _); refine Mine.stop ?_)
  | ((with_reducible show wpAny _ _ (call (Value.ref 75) _ _) _ _ _); refine Mine.stop ?_)
  | ((with_reducible show wpAny _ _ (compareOp CmpOp.Eq (Value.ref _) (Value.ref _)) _ _ _); refine Mine.stop ?_)
  | ((with_reducible show wpAny _ _ (exec (PySem.Stmt.If _ _ _ _) _) _ _ _); (with_reducible rename Mine.Mark => mk9); clear mk9; refine Mine.stop ?_)
  | ((with_reducible show wpAny _ _ (eval (PySem.Expr.ListComp _ _ _ _) _) _ _ _); refine Mine.stop ?_)
  | ((with_reducible show wpAny _ _ (compareOp CmpOp.NotEq (Value.ref _) (Value.ref _)) _ _ _); refine Mine.stop ?_)
  | ((with_reducible show wpAny _ _ (compareOp CmpOp.In (Value.str _ _) (Value.ref _)) _ _ _); refine Mine.stop ?_)
  | fail "none")
local macro_rules | `(tactic| walk_at "compareOp In str ref") => `(tactic| (k_here; refine Mine.stop ?_))
local macro_rules | `(tactic| ktr_unf) => `(tactic| repeat' (first | (k_unfold; (try dsimp only)) | ktr_rel | walk1 | (dsimp only; walk1) | fail "no step"))
local macro_rules | `(tactic| k_mem) => `(tactic| assumption)
local macro_rules | `(tactic| walk_at "execs cons") => `(tactic| ((with_reducible refine wpAny_execs_cons ?_); try dsimp only))
local macro_rules | `(tactic| walk_at "execs cons Assign cons") => `(tactic| (k_here; walk_at "execs cons"))
local macro_rules | `(tactic| k_all) => `(tactic| exact Mine.Off.mem (by assumption))
local macro_rules | `(tactic| walk_at "newList") => `(tactic| (k_here; k_dflt (refine' newList_K ?k1 ?k2 ?_; (case k1 => k_asm); (case k2 => k_asm); k_whole); intro l' h' F' N' l1; (try k_lt l1); (try k_sweep)))
set_option maxRecDepth 100000 in
set_option maxHeartbeats 8000000 in
theorem PySem.Challenge.cw_kn0091_01_holds : PySem.Challenge.rw_kn0091_01.Holds := by
  refine Mine.hd01 (by
  k_go0
  (all_goals try k_fold)
  rename ¬ ((_ : Nat) : Int) < _ => hle
  rename IntsAre _ _ => hI
  have hlv := hI.length
  ktr_unf
  rename Fr _ _ _ _ => F9
  rename News _ _ _ _ => N9
  have hpi := Mine.pd_ints hI
  refine Mine.unstop (Mine.forT_pd (G := Mine.IntV) (its := _) (by exact hpi) [Str.ofString "x", Str.ofString "step", Str.ofString "rest", Str.ofString "rate", Str.ofString "rule"]
    (fun pre u nw => Mine.J01 _ _ _ _ _ _ _ _ _ _ _ _ _ _ _ _ _ _ _ _ _ _ pre.length u nw) rfl (.inl (by assumption)) F9 N9
    ⟨[], [], none, none, [], [], [], [], .none, .none, .none, .none, _, _, _, _, _, [], rfl, .nil, .nil, .nil, .nil, .inl ⟨rfl, rfl⟩, .inl ⟨rfl, rfl⟩, .inl ⟨rfl, rfl⟩, .inl ⟨rfl, rfl⟩, by simp, by simp, (fun a ha => absurd ha List.not_mem_nil), (fun a ha => absurd ha List.not_mem_nil), (fun q h => nomatch h), True.intro, True.intro, True.intro, True.intro, True.intro, True.intro, True.intro, True.intro, True.intro⟩ ?_ ?_)
  · intro pre x post v u nw I oI h tk hsp hv hJ hoff0 F N
    obtain ⟨A, R, dly, rate, ua, ub, ru, rb, dl, dv, rr, rv, c0, c1, c2, c3, c4, es, rfl, hA, hA', hR, hR', hd, hd', hr, hr', hAk, hRk, hAo, hRo, hdk, o1, o2, o3, o4, o5, o6, o7, o8, o9⟩ := hJ
    clear F9 N9
    have hoff := hoff0
    simp only [Mine.Off] at hoff
    simp only [Mine.over] at F
    obtain ⟨t, rfl⟩ := hv
    have hpl : pre.length < 64 := by have := congrArg List.length hsp; simp only [List.length_append, List.length_cons] at this; omega
    have hul := Mine.pd_len hA
    have hul' := Mine.pd_len hA'
    have hrl := Mine.pd_len hR
    have hrl' := Mine.pd_len hR'
    have hmark : Mine.Mark := True.intro
    ktr_unf
    rename Fr _ _ _ _ => Fz
    rcases Mine.six x with h6 | h6 | h6 | h6 | h6 | h6
    · rw [h6] at Fz
      refine Mine.unstop ?_
      ktr_unf
      obtain ⟨j, nm, hj, hnm, hok, hjl⟩ := Mine.menu_m Mine.names8 8 rfl (by decide) (by decide) Mine.names_ok (Int.fdiv x 6)
      rw [hj]
      refine Mine.unstop (Mine.tail_pd (j := j) (F := Mine.StrV) (as := Mine.names8) (by k_asm) (by k_mem) (by unfold Mine.names8; repeat (first | exact .nil | refine .cons ⟨_, rfl⟩ ?_)) hnm rfl hjl ?_)
      rintro v ⟨tn, rfl⟩
      ktr_unf
      rename News _ _ _ _ => N5
      refine Mine.unstop (Mine.tail_l (j := 0) N5 (by k_mem) (by rfl) (by omega) (by decide) ?_)
      ktr_unf
      rw [hj]
      refine Mine.unstop (Mine.tail_pd (j := j) (F := Mine.StrV) (as := Mine.names8) (by k_asm) (by k_mem) (by unfold Mine.names8; repeat (first | exact .nil | refine .cons ⟨_, rfl⟩ ?_)) hnm rfl hjl ?_)
      rintro v ⟨tn, rfl⟩
      ktr_unf
      (try dsimp only [Mine.TurnPost])
      refine Mine.TurnEnd.mk' [] (by assumption) (by assumption) (by exact hoff0) ⟨fun z1 q1 => by
        simp only [List.mem_cons, not_or, List.not_mem_nil, not_false_iff, and_true] at q1
        obtain ⟨n1, n2, n3, n4, n5⟩ := q1
        simp only [if_neg n1, if_neg n2, if_neg n3, if_neg n4, if_neg n5], (A ++ [nm]), R, dly, rate, (ua ++ [_]), (ub ++ [_]), ru, rb, _, _, _, _, _, _, _, _, _, es, rfl, (PySem.Paired.snoc hA ⟨_, rfl⟩), (PySem.Paired.snoc hA' ⟨_, rfl⟩), hR, hR', hd, hd', hr, hr', (by simp; omega), (by simp; omega), (fun a ha => (List.mem_append.mp ha).elim (hAo a) fun q => by rw [List.mem_singleton.mp q]; exact hok), hRo, hdk, o1, o2, o3, o4, o5, o6, o7, o8, o9⟩
    · rw [h6] at Fz
      refine Mine.unstop ?_
      ktr_unf
      obtain ⟨j, nm, hj, hnm, hok, hjl⟩ := Mine.menu_m Mine.names8 8 rfl (by decide) (by decide) Mine.names_ok (Int.fdiv x 6)
      rw [hj]
      refine Mine.unstop (Mine.tail_pd (j := j) (F := Mine.StrV) (as := Mine.names8) (by k_asm) (by k_mem) (by unfold Mine.names8; repeat (first | exact .nil | refine .cons ⟨_, rfl⟩ ?_)) hnm rfl hjl ?_)
      rintro v ⟨tn, rfl⟩
      ktr_unf
      rename News _ _ _ _ => N5
      refine Mine.unstop (Mine.tail_l (j := 0) N5 (by k_mem) (by rfl) (by omega) (by decide) ?_)
      ktr_unf
      rw [hj]
      refine Mine.unstop (Mine.tail_pd (j := j) (F := Mine.StrV) (as := Mine.names8) (by k_asm) (by k_mem) (by unfold Mine.names8; repeat (first | exact .nil | refine .cons ⟨_, rfl⟩ ?_)) hnm rfl hjl ?_)
      rintro v ⟨tn, rfl⟩
      ktr_unf
      (try dsimp only [Mine.TurnPost])
      refine Mine.TurnEnd.mk' [] (by assumption) (by assumption) (by exact hoff0) ⟨fun z1 q1 => by
        simp only [List.mem_cons, not_or, List.not_mem_nil, not_false_iff, and_true] at q1
        obtain ⟨n1, n2, n3, n4, n5⟩ := q1
        simp only [if_neg n1, if_neg n2, if_neg n3, if_neg n4, if_neg n5], (A ++ [nm]), R, dly, rate, (ua ++ [_]), (ub ++ [_]), ru, rb, _, _, _, _, _, _, _, _, _, es, rfl, (PySem.Paired.snoc hA ⟨_, rfl⟩), (PySem.Paired.snoc hA' ⟨_, rfl⟩), hR, hR', hd, hd', hr, hr', (by simp; omega), (by simp; omega), (fun a ha => (List.mem_append.mp ha).elim (hAo a) fun q => by rw [List.mem_singleton.mp q]; exact hok), hRo, hdk, o1, o2, o3, o4, o5, o6, o7, o8, o9⟩
    · rw [h6] at Fz
      refine Mine.unstop ?_
      have hb0 := Int.fmod_nonneg_of_pos (Int.fdiv x 6) (b := 1000) (by decide)
      have hb1 := Int.fmod_lt_of_pos (Int.fdiv x 6) (b := 1000) (by decide)
      ktr_unf
      (try dsimp only [Mine.TurnPost])
      refine Mine.TurnEnd.mk' [] (by assumption) (by assumption) (by exact hoff0) ⟨fun z1 q1 => by
        simp only [List.mem_cons, not_or, List.not_mem_nil, not_false_iff, and_true] at q1
        obtain ⟨n1, n2, n3, n4, n5⟩ := q1
        simp only [if_neg n1, if_neg n2, if_neg n3, if_neg n4, if_neg n5], A, R, (some (Int.fmod (Int.fdiv x 6) 1000)), rate, ua, ub, ru, rb, _, _, _, _, _, _, _, _, _, es, rfl, hA, hA', hR, hR', (.inr ⟨_, _, rfl, rfl, hb0, by omega⟩), (.inr ⟨_, _, rfl, rfl, hb0, by omega⟩), hr, hr', (by simp; omega), (by simp; omega), hAo, hRo, (fun q hq => by cases hq; exact ⟨hb0, hb1⟩), o1, o2, o3, o4, o5, o6, o7, o8, o9⟩
    · rw [h6] at Fz
      refine Mine.unstop ?_
      have hb0 := Int.fmod_nonneg_of_pos (Int.fdiv x 6) (b := 30) (by decide)
      have hb1 := Int.fmod_lt_of_pos (Int.fdiv x 6) (b := 30) (by decide)
      have hb2 := Int.fmod_nonneg_of_pos (Int.fdiv (Int.fdiv x 6) 30) (b := 30) (by decide)
      have hb3 := Int.fmod_lt_of_pos (Int.fdiv (Int.fdiv x 6) 30) (b := 30) (by decide)
      ktr_unf
      rename News _ _ _ _ => N6
      (try dsimp only [Mine.TurnPost])
      refine Mine.TurnEnd.mk' [] (by assumption) (Mine.news_rate1 N6) (by simp only [Mine.Off, and_true]; omega) ⟨fun z1 q1 => by
        simp only [List.mem_cons, not_or, List.not_mem_nil, not_false_iff, and_true] at q1
        obtain ⟨n1, n2, n3, n4, n5⟩ := q1
        simp only [if_neg n1, if_neg n2, if_neg n3, if_neg n4, if_neg n5], A, R, dly, (some (Int.fmod (Int.fdiv x 6) 30, Int.fmod (Int.fdiv (Int.fdiv x 6) 30) 30)), ua, ub, ru, rb, _, _, _, _, _, _, _, _, _, [_, _, _], rfl, hA, hA', hR, hR', hd, hd', (.inr ⟨_, _, _, _, _, _, _, _, _, _, _, _, _, _, _, _, _, _, _, _, _, _, _, rfl, rfl, List.mem_cons_self, List.mem_cons_of_mem _ List.mem_cons_self, hb0, by omega, hb2, by omega⟩), (.inr ⟨_, _, _, _, _, _, rfl, rfl, List.mem_cons_of_mem _ (List.mem_cons_of_mem _ List.mem_cons_self)⟩), (by simp; omega), (by simp; omega), hAo, hRo, hdk, (by simp only [Mine.Off, and_true]; omega), (by simp only [Mine.Off, and_true]; omega), (by simp only [Mine.Off, and_true]; omega), (by simp only [Mine.Off, and_true]; omega), (by simp only [Mine.Off, and_true]; omega), (by simp only [Mine.Off, and_true]; omega), (by simp only [Mine.Off, and_true]; omega), (by simp only [Mine.Off, and_true]; omega), (by simp only [Mine.Off, and_true]; omega)⟩
    · rw [h6] at Fz
      refine Mine.unstop ?_
      ktr_unf
      obtain ⟨j, nm, hj, hnm, hok, hjl⟩ := Mine.menu_m Mine.paths6 6 rfl (by decide) (by decide) Mine.paths_ok (Int.fdiv x 6)
      rename News _ _ _ _ => N5
      refine Mine.unstop (Mine.tail_l (j := 0) N5 (by k_mem) (by rfl) (by omega) (by decide) ?_)
      ktr_unf
      rw [hj]
      refine Mine.unstop (Mine.tail_pd (j := j) (F := Mine.StrV) (as := Mine.paths6) (by k_asm) (by k_mem) (by unfold Mine.paths6; repeat (first | exact .nil | refine .cons ⟨_, rfl⟩ ?_)) hnm rfl hjl ?_)
      rintro v ⟨tn, rfl⟩
      ktr_unf
      have hnl : nm.length ≤ 20 := hok.1
      ktr_unf
      rename News _ _ _ _ => N5
      refine Mine.unstop (Mine.tail_l (j := 3) N5 (by k_mem) (by rfl) (by omega) (by decide) ?_)
      ktr_unf
      (try dsimp only [Mine.TurnPost])
      refine Mine.TurnEnd.mk' [_] (by assumption) (by assumption) (by exact hoff0) ⟨fun z1 q1 => by
        simp only [List.mem_cons, not_or, List.not_mem_nil, not_false_iff, and_true] at q1
        obtain ⟨n1, n2, n3, n4, n5⟩ := q1
        simp only [if_neg n1, if_neg n2, if_neg n3, if_neg n4, if_neg n5], A, (R ++ [_]), dly, rate, ua, ub, (ru ++ [_]), (rb ++ [_]), _, _, _, _, _, _, _, _, _, es, rfl, hA, hA', (PySem.Paired.snoc hR ⟨_, rfl⟩), (PySem.Paired.snoc hR' ⟨_, rfl⟩), hd, hd', hr, hr', (by simp; omega), (by simp; omega), hAo, (fun a ha => (List.mem_append.mp ha).elim (hRo a) fun q => by rw [List.mem_singleton.mp q]; exact Mine.rule_a hok), hdk, o1, o2, o3, o4, o5, o6, o7, o8, o9⟩
    · rw [h6] at Fz
      refine Mine.unstop ?_
      ktr_unf
      obtain ⟨j, nm, hj, hnm, hok, hjl⟩ := Mine.menu_m Mine.paths6 6 rfl (by decide) (by decide) Mine.paths_ok (Int.fdiv x 6)
      rename News _ _ _ _ => N5
      refine Mine.unstop (Mine.tail_l (j := 1) N5 (by k_mem) (by rfl) (by omega) (by decide) ?_)
      ktr_unf
      rw [hj]
      refine Mine.unstop (Mine.tail_pd (j := j) (F := Mine.StrV) (as := Mine.paths6) (by k_asm) (by k_mem) (by unfold Mine.paths6; repeat (first | exact .nil | refine .cons ⟨_, rfl⟩ ?_)) hnm rfl hjl ?_)
      rintro v ⟨tn, rfl⟩
      ktr_unf
      have hnl : nm.length ≤ 20 := hok.1
      ktr_unf
      rename News _ _ _ _ => N5
      refine Mine.unstop (Mine.tail_l (j := 3) N5 (by k_mem) (by rfl) (by omega) (by decide) ?_)
      ktr_unf
      (try dsimp only [Mine.TurnPost])
      refine Mine.TurnEnd.mk' [_] (by assumption) (by assumption) (by exact hoff0) ⟨fun z1 q1 => by
        simp only [List.mem_cons, not_or, List.not_mem_nil, not_false_iff, and_true] at q1
        obtain ⟨n1, n2, n3, n4, n5⟩ := q1
        simp only [if_neg n1, if_neg n2, if_neg n3, if_neg n4, if_neg n5], A, (R ++ [_]), dly, rate, ua, ub, (ru ++ [_]), (rb ++ [_]), _, _, _, _, _, _, _, _, _, es, rfl, hA, hA', (PySem.Paired.snoc hR ⟨_, rfl⟩), (PySem.Paired.snoc hR' ⟨_, rfl⟩), hd, hd', hr, hr', (by simp; omega), (by simp; omega), hAo, (fun a ha => (List.mem_append.mp ha).elim (hRo a) fun q => by rw [List.mem_singleton.mp q]; exact Mine.rule_d hok), hdk, o1, o2, o3, o4, o5, o6, o7, o8, o9⟩
  · intro u nw h tk hJ F N
    obtain ⟨A, R, dly, rate, ua, ub, ru, rb, dl, dv, rr, rv, c0, c1, c2, c3, c4, es, rfl, hA, hA', hR, hR', hd, hd', hr, hr', hAk, hRk, hAo, hRo, hdk, o1, o2, o3, o4, o5, o6, o7, o8, o9⟩ := hJ
    clear F9 N9
    simp only [Mine.over] at F
    have hAl : A.length ≤ 64 := by omega
    have hRl : R.length ≤ 64 := by omega
    have hul := Mine.pd_len hA
    have hul' := Mine.pd_len hA'
    have hrl := Mine.pd_len hR
    have hrl' := Mine.pd_len hR'
    have hA100 : ∀ a ∈ A, a.length ≤ 100 := fun a ha => by have := (hAo a ha).1; omega
    have hR100 : ∀ a ∈ R, a.length ≤ 100 := fun a ha => by have := (hRo a ha).2.1; omega
    dsimp only
    ktr_unf
    rename Fr _ _ _ _ => F2
    rename News _ _ _ _ => N2
    refine Mine.unstop (Mine.strC (agents := A) (rules := R) (dly := dly) (rate := rate) rfl rfl (by assumption) F2 (by assumption) (by assumption) (InstAt.of_news N2 (by k_mem) (by k_mem)) (Mine.is_l N2 (by k_mem)) (Mine.is_l N2 (by k_mem)) hA hR hd (Mine.rate_of N2 (fun p hp => by simp [hp]) hr) (by omega) (by omega) hA100 hR100 ?_)
    intro h2 tk2 t2 keep2
    obtain ⟨F1, N1⟩ := Mine.after_keep F2 N2 keep2
    clear F2 N2 keep2
    dsimp only [StrBack]
    ktr_unf
    rename News _ _ _ _ => N5
    refine Mine.unstop (Mine.tail_l (j := 0) N5 (by k_mem) (by rfl) (by omega) (by decide) ?_)
    ktr_unf
    rename News _ _ _ _ => N5
    refine Mine.unstop (Mine.ne_strs_same N5 (by k_mem) (by k_mem) hA hA' (fun a ha => (hAo a ha).2.2) (by units_room) ?_)
    ktr_unf
    rename News _ _ _ _ => N5
    refine Mine.unstop (Mine.tail_l (j := 3) N5 (by k_mem) (by rfl) (by omega) (by decide) ?_)
    ktr_unf
    rename News _ _ _ _ => N5
    refine Mine.unstop (Mine.ne_strs_same N5 (by k_mem) (by k_mem) hR hR' (fun a ha => (hRo a ha).2.2.2) (by units_room) ?_)
    have hds : ∃ tq tq', (dl = .none ∧ dv = .none ∧ dly = none) ∨ ∃ k, dl = .int k tq ∧ dv = .int k tq' ∧ dly = some k := by
      rcases hd with ⟨e1, e2⟩ | ⟨k, tq, e1, e2, _⟩
      · rcases hd' with ⟨e3, e4⟩ | ⟨k', tq', e3, e4, _⟩
        · exact ⟨0, 0, .inl ⟨e1, e3, e2⟩⟩
        · rw [e2] at e4; cases e4
      · rcases hd' with ⟨e3, e4⟩ | ⟨k', tq', e3, e4, _⟩
        · rw [e2] at e4; cases e4
        · rw [e2] at e4; cases e4; exact ⟨tq, tq', .inr ⟨k, e1, e3, e2⟩⟩
    obtain ⟨tq, tq', ⟨rfl, rfl, rfl⟩ | ⟨k, rfl, rfl, rfl⟩⟩ := hds
    · ktr_unf
      rename News _ _ _ _ => N5
      refine Mine.unstop (Mine.tail_l (j := 1) N5 (by k_mem) (by rfl) (by omega) (by decide) ?_)
      ktr_unf
      rename Fr _ _ _ _ => F2
      rename News _ _ _ _ => N2
      refine Mine.unstop (Mine.strC (agents := A) (rules := R) (dly := none) (rate := rate) rfl rfl (by assumption) F2 (by assumption) (by assumption) (InstAt.of_news N2 (by k_mem) (by k_mem)) (Mine.is_l N2 (by k_mem)) (Mine.is_l N2 (by k_mem)) hA hR hd (Mine.rate_of N2 (fun p hp => by simp [hp]) hr) (by omega) (by omega) hA100 hR100 ?_)
      intro h2 tk2 t2 keep2
      obtain ⟨F1, N1⟩ := Mine.after_keep F2 N2 keep2
      clear F2 N2 keep2
      dsimp only [StrBack]
      ktr_unf
      · rename ((_ != _) = true) => e7
        rw [bne_self_eq_false] at e7
        cases e7
      · rcases Mine.rates_both hr hr' with ⟨rfl, rfl, rfl⟩ | ⟨y, dy, g1, g2, g3, g4, g5, g6, s1, s2, s3, s4, s5, s6, ua', rl', dl', rr', a, b, ta, tb, n', q, ta', tb', c', rfl, rfl, rfl, m1, m2, m3, ha1, ha2, hb1, hb2⟩
        · rename News _ _ _ _ => N3
          have N4 := Mine.news_es [] N3 (fun p hp => absurd hp List.not_mem_nil)
          clear N3 o1 o2 o3 o4 o5 o6 o7 o8 o9
          rename News _ _ _ _ => N5
          refine Mine.unstop (Mine.tail_l (j := 2) N5 (by k_mem) (by rfl) (by omega) (by decide) ?_)
          ktr_unf
          rename News _ _ _ _ => N5
          refine Mine.unstop (Mine.tail_l (j := 2) N5 (by k_mem) (by rfl) (by omega) (by decide) ?_)
          ktr_unf
          rename News _ _ _ _ => N5
          refine Mine.unstop (Mine.tail_l (j := 0) N5 (by k_mem) (by rfl) (by omega) (by decide) ?_)
          ktr_unf
          rename News _ _ _ _ => N5
          by_cases hA0 : A = []
          · refine Mine.unstop (Mine.eq_strs (ms := []) (Mine.is_l N5 (by k_mem)) (Mine.is_l (xs := []) N5 (by k_mem)) hA' .nil (fun a ha => (hAo a ha).2.2) (fun _ q => absurd q List.not_mem_nil) (by units_room) ?_)
            rename Fr _ _ _ _ => Fz
            rw [decide_eq_true hA0]
            rw [show Mine.strText A none none R = Str.ofString "" from if_pos hA0] at Fz
            ktr_unf
            all_goals (k_end; kc_close)
          · refine Mine.unstop (Mine.eq_strs (ms := []) (Mine.is_l N5 (by k_mem)) (Mine.is_l (xs := []) N5 (by k_mem)) hA' .nil (fun a ha => (hAo a ha).2.2) (fun _ q => absurd q List.not_mem_nil) (by units_room) ?_)
            rename Fr _ _ _ _ => Fz
            rw [decide_eq_false hA0]
            rw [show Mine.strText A none none R = Txt.join ⟨#[10]⟩ (Mine.linesOf A none none R) from if_neg hA0] at Fz
            have hr9 : ∀ p : Int × Int, none = some p → (0 ≤ p.1 ∧ p.1 < 1000) ∧ 0 ≤ p.2 ∧ p.2 < 1000 := (fun p q => nomatch q)
            have hjl := Mine.text_len (dly := none) (rate := none) hAl hRl hA100 hR100 hdk hr9
            have hjs := Mine.text_split (dly := none) (rate := none) hA0 hAo hRo hdk hr9
            generalize Txt.join ⟨#[10]⟩ (Mine.linesOf A none none R) = text at Fz hjl hjs
            ktr_unf
            rename StrsAre (strValues _) _ => hsa
            rename List.map _ _ = Txt.split _ _ => hsp
            rw [hjs] at hsp
            rw [hsp] at hsa
            have hpv := Mine.pd_strs hsa
            rename Fr _ _ _ _ => F5
            rename News _ _ _ _ => N6
            have hlz := PySem.IsL.isList (N6 _ List.mem_cons_self).1
            refine Mine.unstop (Mine.read01 (agents := A) (rules := R) (dly := none) (rate := none) rfl rfl (by assumption) F5 (by assumption) (by assumption) hlz hpv (by omega) (by omega) hA100 hR100 hdk hr9 (fun a ha => (hRo a ha).1) (fun a ha => (hAo a ha).2.2) (fun a ha => (hRo a ha).2.2.2) ?_)
            intro h7 tk7 D7 as7 keep7 hre7
            obtain ⟨F7, N7⟩ := Mine.after_keep F5 N6 keep7
            clear F5 N6 keep7
            ktr_unf
            have hrd := Mine.reads_out N7 (by k_mem) (by k_mem) (by k_mem) hA' hR' .none .none
            obtain ⟨as8, hrd⟩ := hrd
            refine Mine.unstop (Mine.eq_same (d := Mine.due01 A none none R) hre7 hrd (Mine.due_shaped (fun a ha => (hAo a ha).2.2) (fun a ha => (hRo a ha).2.2.2)) (by units_room) ?_)
            ktr_unf
            all_goals (k_end; kc_close)
        · rename News _ _ _ _ => N3
          have N4 := Mine.news_es [_, _, _] N3 (Mine.sub3 m1 m2 m3)
          clear N3 o1 o2 o3 o4 o5 o6 o7 o8 o9
          rename News _ _ _ _ => N5
          refine Mine.unstop (Mine.tail_l (j := 2) N5 (by k_mem) (by rfl) (by omega) (by decide) ?_)
          ktr_unf
          rename News _ _ _ _ => N5
          refine Mine.unstop (Mine.tail_l (j := 2) N5 (by k_mem) (by rfl) (by omega) (by decide) ?_)
          ktr_unf
          rename News _ _ _ _ => N5
          refine Mine.unstop (Mine.tail_l (j := 2) N5 (by k_mem) (by rfl) (by omega) (by decide) ?_)
          ktr_unf
          rename News _ _ _ _ => N5
          refine Mine.unstop (Mine.ne_ints_same (ns := [a, b]) (xs := [_, _]) (ys := [_, _]) N5 (by k_mem) (by k_mem) (.cons ⟨_, rfl⟩ (.cons ⟨_, rfl⟩ .nil)) (.cons ⟨_, rfl⟩ (.cons ⟨_, rfl⟩ .nil)) (by units_room) ?_)
          ktr_unf
          rename News _ _ _ _ => N5
          refine Mine.unstop (Mine.tail_l (j := 0) N5 (by k_mem) (by rfl) (by omega) (by decide) ?_)
          ktr_unf
          rename News _ _ _ _ => N5
          by_cases hA0 : A = []
          · refine Mine.unstop (Mine.eq_strs (ms := []) (Mine.is_l N5 (by k_mem)) (Mine.is_l (xs := []) N5 (by k_mem)) hA' .nil (fun a ha => (hAo a ha).2.2) (fun _ q => absurd q List.not_mem_nil) (by units_room) ?_)
            rename Fr _ _ _ _ => Fz
            rw [decide_eq_true hA0]
            rw [show Mine.strText A none (some (a, b)) R = Str.ofString "" from if_pos hA0] at Fz
            ktr_unf
            all_goals (k_end; kc_close)
          · refine Mine.unstop (Mine.eq_strs (ms := []) (Mine.is_l N5 (by k_mem)) (Mine.is_l (xs := []) N5 (by k_mem)) hA' .nil (fun a ha => (hAo a ha).2.2) (fun _ q => absurd q List.not_mem_nil) (by units_room) ?_)
            rename Fr _ _ _ _ => Fz
            rw [decide_eq_false hA0]
            rw [show Mine.strText A none (some (a, b)) R = Txt.join ⟨#[10]⟩ (Mine.linesOf A none (some (a, b)) R) from if_neg hA0] at Fz
            have hr9 : ∀ p : Int × Int, (some (a, b)) = some p → (0 ≤ p.1 ∧ p.1 < 1000) ∧ 0 ≤ p.2 ∧ p.2 < 1000 := (fun p q => by cases q; exact ⟨⟨ha1, by omega⟩, hb1, by omega⟩)
            have hjl := Mine.text_len (dly := none) (rate := (some (a, b))) hAl hRl hA100 hR100 hdk hr9
            have hjs := Mine.text_split (dly := none) (rate := (some (a, b))) hA0 hAo hRo hdk hr9
            generalize Txt.join ⟨#[10]⟩ (Mine.linesOf A none (some (a, b)) R) = text at Fz hjl hjs
            ktr_unf
            rename StrsAre (strValues _) _ => hsa
            rename List.map _ _ = Txt.split _ _ => hsp
            rw [hjs] at hsp
            rw [hsp] at hsa
            have hpv := Mine.pd_strs hsa
            rename Fr _ _ _ _ => F5
            rename News _ _ _ _ => N6
            have hlz := PySem.IsL.isList (N6 _ List.mem_cons_self).1
            refine Mine.unstop (Mine.read01 (agents := A) (rules := R) (dly := none) (rate := (some (a, b))) rfl rfl (by assumption) F5 (by assumption) (by assumption) hlz hpv (by omega) (by omega) hA100 hR100 hdk hr9 (fun a ha => (hRo a ha).1) (fun a ha => (hAo a ha).2.2) (fun a ha => (hRo a ha).2.2.2) ?_)
            intro h7 tk7 D7 as7 keep7 hre7
            obtain ⟨F7, N7⟩ := Mine.after_keep F5 N6 keep7
            clear F5 N6 keep7
            ktr_unf
            have hrd := Mine.reads_outR (p := (a, b)) (ys := [_, _]) N7 (by k_mem) (by k_mem) (by k_mem) (by k_mem) hA' hR' (.cons ⟨_, rfl⟩ (.cons ⟨_, rfl⟩ .nil)) .none
            obtain ⟨as8, hrd⟩ := hrd
            refine Mine.unstop (Mine.eq_same (d := Mine.due01 A none (some (a, b)) R) hre7 hrd (Mine.due_shaped (fun a ha => (hAo a ha).2.2) (fun a ha => (hRo a ha).2.2.2)) (by units_room) ?_)
            ktr_unf
            all_goals (k_end; kc_close)
    · ktr_unf
      rename News _ _ _ _ => N5
      refine Mine.unstop (Mine.tail_l (j := 1) N5 (by k_mem) (by rfl) (by omega) (by decide) ?_)
      ktr_unf
      · exfalso; omega
      · rename Fr _ _ _ _ => F2
        rename News _ _ _ _ => N2
        refine Mine.unstop (Mine.strC (agents := A) (rules := R) (dly := (some k)) (rate := rate) rfl rfl (by assumption) F2 (by assumption) (by assumption) (InstAt.of_news N2 (by k_mem) (by k_mem)) (Mine.is_l N2 (by k_mem)) (Mine.is_l N2 (by k_mem)) hA hR hd (Mine.rate_of N2 (fun p hp => by simp [hp]) hr) (by omega) (by omega) hA100 hR100 ?_)
        intro h2 tk2 t2 keep2
        obtain ⟨F1, N1⟩ := Mine.after_keep F2 N2 keep2
        clear F2 N2 keep2
        dsimp only [StrBack]
        ktr_unf
        · rename ((_ != _) = true) => e7
          rw [bne_self_eq_false] at e7
          cases e7
        · rcases Mine.rates_both hr hr' with ⟨rfl, rfl, rfl⟩ | ⟨y, dy, g1, g2, g3, g4, g5, g6, s1, s2, s3, s4, s5, s6, ua', rl', dl', rr', a, b, ta, tb, n', q, ta', tb', c', rfl, rfl, rfl, m1, m2, m3, ha1, ha2, hb1, hb2⟩
          · rename News _ _ _ _ => N3
            have N4 := Mine.news_es [] N3 (fun p hp => absurd hp List.not_mem_nil)
            clear N3 o1 o2 o3 o4 o5 o6 o7 o8 o9
            rename News _ _ _ _ => N5
            refine Mine.unstop (Mine.tail_l (j := 2) N5 (by k_mem) (by rfl) (by omega) (by decide) ?_)
            ktr_unf
            rename News _ _ _ _ => N5
            refine Mine.unstop (Mine.tail_l (j := 2) N5 (by k_mem) (by rfl) (by omega) (by decide) ?_)
            ktr_unf
            rename News _ _ _ _ => N5
            refine Mine.unstop (Mine.tail_l (j := 0) N5 (by k_mem) (by rfl) (by omega) (by decide) ?_)
            ktr_unf
            rename News _ _ _ _ => N5
            by_cases hA0 : A = []
            · refine Mine.unstop (Mine.eq_strs (ms := []) (Mine.is_l N5 (by k_mem)) (Mine.is_l (xs := []) N5 (by k_mem)) hA' .nil (fun a ha => (hAo a ha).2.2) (fun _ q => absurd q List.not_mem_nil) (by units_room) ?_)
              rename Fr _ _ _ _ => Fz
              rw [decide_eq_true hA0]
              rw [show Mine.strText A (some k) none R = Str.ofString "" from if_pos hA0] at Fz
              ktr_unf
              all_goals (k_end; kc_close)
            · refine Mine.unstop (Mine.eq_strs (ms := []) (Mine.is_l N5 (by k_mem)) (Mine.is_l (xs := []) N5 (by k_mem)) hA' .nil (fun a ha => (hAo a ha).2.2) (fun _ q => absurd q List.not_mem_nil) (by units_room) ?_)
              rename Fr _ _ _ _ => Fz
              rw [decide_eq_false hA0]
              rw [show Mine.strText A (some k) none R = Txt.join ⟨#[10]⟩ (Mine.linesOf A (some k) none R) from if_neg hA0] at Fz
              have hr9 : ∀ p : Int × Int, none = some p → (0 ≤ p.1 ∧ p.1 < 1000) ∧ 0 ≤ p.2 ∧ p.2 < 1000 := (fun p q => nomatch q)
              have hjl := Mine.text_len (dly := (some k)) (rate := none) hAl hRl hA100 hR100 hdk hr9
              have hjs := Mine.text_split (dly := (some k)) (rate := none) hA0 hAo hRo hdk hr9
              generalize Txt.join ⟨#[10]⟩ (Mine.linesOf A (some k) none R) = text at Fz hjl hjs
              ktr_unf
              rename StrsAre (strValues _) _ => hsa
              rename List.map _ _ = Txt.split _ _ => hsp
              rw [hjs] at hsp
              rw [hsp] at hsa
              have hpv := Mine.pd_strs hsa
              rename Fr _ _ _ _ => F5
              rename News _ _ _ _ => N6
              have hlz := PySem.IsL.isList (N6 _ List.mem_cons_self).1
              refine Mine.unstop (Mine.read01 (agents := A) (rules := R) (dly := (some k)) (rate := none) rfl rfl (by assumption) F5 (by assumption) (by assumption) hlz hpv (by omega) (by omega) hA100 hR100 hdk hr9 (fun a ha => (hRo a ha).1) (fun a ha => (hAo a ha).2.2) (fun a ha => (hRo a ha).2.2.2) ?_)
              intro h7 tk7 D7 as7 keep7 hre7
              obtain ⟨F7, N7⟩ := Mine.after_keep F5 N6 keep7
              clear F5 N6 keep7
              ktr_unf
              have hrd := Mine.reads_out N7 (by k_mem) (by k_mem) (by k_mem) hA' hR' (.int _ _) .none
              obtain ⟨as8, hrd⟩ := hrd
              refine Mine.unstop (Mine.eq_same (d := Mine.due01 A (some k) none R) hre7 hrd (Mine.due_shaped (fun a ha => (hAo a ha).2.2) (fun a ha => (hRo a ha).2.2.2)) (by units_room) ?_)
              ktr_unf
              all_goals (k_end; kc_close)
          · rename News _ _ _ _ => N3
            have N4 := Mine.news_es [_, _, _] N3 (Mine.sub3 m1 m2 m3)
            clear N3 o1 o2 o3 o4 o5 o6 o7 o8 o9
            rename News _ _ _ _ => N5
            refine Mine.unstop (Mine.tail_l (j := 2) N5 (by k_mem) (by rfl) (by omega) (by decide) ?_)
            ktr_unf
            rename News _ _ _ _ => N5
            refine Mine.unstop (Mine.tail_l (j := 2) N5 (by k_mem) (by rfl) (by omega) (by decide) ?_)
            ktr_unf
            rename News _ _ _ _ => N5
            refine Mine.unstop (Mine.tail_l (j := 2) N5 (by k_mem) (by rfl) (by omega) (by decide) ?_)
            ktr_unf
            rename News _ _ _ _ => N5
            refine Mine.unstop (Mine.ne_ints_same (ns := [a, b]) (xs := [_, _]) (ys := [_, _]) N5 (by k_mem) (by k_mem) (.cons ⟨_, rfl⟩ (.cons ⟨_, rfl⟩ .nil)) (.cons ⟨_, rfl⟩ (.cons ⟨_, rfl⟩ .nil)) (by units_room) ?_)
            ktr_unf
            rename News _ _ _ _ => N5
            refine Mine.unstop (Mine.tail_l (j := 0) N5 (by k_mem) (by rfl) (by omega) (by decide) ?_)
            ktr_unf
            rename News _ _ _ _ => N5
            by_cases hA0 : A = []
            · refine Mine.unstop (Mine.eq_strs (ms := []) (Mine.is_l N5 (by k_mem)) (Mine.is_l (xs := []) N5 (by k_mem)) hA' .nil (fun a ha => (hAo a ha).2.2) (fun _ q => absurd q List.not_mem_nil) (by units_room) ?_)
              rename Fr _ _ _ _ => Fz
              rw [decide_eq_true hA0]
              rw [show Mine.strText A (some k) (some (a, b)) R = Str.ofString "" from if_pos hA0] at Fz
              ktr_unf
              all_goals (k_end; kc_close)
            · refine Mine.unstop (Mine.eq_strs (ms := []) (Mine.is_l N5 (by k_mem)) (Mine.is_l (xs := []) N5 (by k_mem)) hA' .nil (fun a ha => (hAo a ha).2.2) (fun _ q => absurd q List.not_mem_nil) (by units_room) ?_)
              rename Fr _ _ _ _ => Fz
              rw [decide_eq_false hA0]
              rw [show Mine.strText A (some k) (some (a, b)) R = Txt.join ⟨#[10]⟩ (Mine.linesOf A (some k) (some (a, b)) R) from if_neg hA0] at Fz
              have hr9 : ∀ p : Int × Int, (some (a, b)) = some p → (0 ≤ p.1 ∧ p.1 < 1000) ∧ 0 ≤ p.2 ∧ p.2 < 1000 := (fun p q => by cases q; exact ⟨⟨ha1, by omega⟩, hb1, by omega⟩)
              have hjl := Mine.text_len (dly := (some k)) (rate := (some (a, b))) hAl hRl hA100 hR100 hdk hr9
              have hjs := Mine.text_split (dly := (some k)) (rate := (some (a, b))) hA0 hAo hRo hdk hr9
              generalize Txt.join ⟨#[10]⟩ (Mine.linesOf A (some k) (some (a, b)) R) = text at Fz hjl hjs
              ktr_unf
              rename StrsAre (strValues _) _ => hsa
              rename List.map _ _ = Txt.split _ _ => hsp
              rw [hjs] at hsp
              rw [hsp] at hsa
              have hpv := Mine.pd_strs hsa
              rename Fr _ _ _ _ => F5
              rename News _ _ _ _ => N6
              have hlz := PySem.IsL.isList (N6 _ List.mem_cons_self).1
              refine Mine.unstop (Mine.read01 (agents := A) (rules := R) (dly := (some k)) (rate := (some (a, b))) rfl rfl (by assumption) F5 (by assumption) (by assumption) hlz hpv (by omega) (by omega) hA100 hR100 hdk hr9 (fun a ha => (hRo a ha).1) (fun a ha => (hAo a ha).2.2) (fun a ha => (hRo a ha).2.2.2) ?_)
              intro h7 tk7 D7 as7 keep7 hre7
              obtain ⟨F7, N7⟩ := Mine.after_keep F5 N6 keep7
              clear F5 N6 keep7
              ktr_unf
              have hrd := Mine.reads_outR (p := (a, b)) (ys := [_, _]) N7 (by k_mem) (by k_mem) (by k_mem) (by k_mem) hA' hR' (.cons ⟨_, rfl⟩ (.cons ⟨_, rfl⟩ .nil)) (.int _ _)
              obtain ⟨as8, hrd⟩ := hrd
              refine Mine.unstop (Mine.eq_same (d := Mine.due01 A (some k) (some (a, b)) R) hre7 hrd (Mine.due_shaped (fun a ha => (hAo a ha).2.2) (fun a ha => (hRo a ha).2.2.2)) (by units_room) ?_)
              ktr_unf
              all_goals (k_end; kc_close)
)
end
