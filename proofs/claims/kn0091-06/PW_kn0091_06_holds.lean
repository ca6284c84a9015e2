import PyProof.Rows.All
import Wide.All
import OpenK.AllK
import Wide.FinOn
import PySem.Challenge.RW_kn0091_06
open PySem PySem.W PyProof.Rows
set_option Elab.async false
section
set_option maxRecDepth 100000 in
set_option maxHeartbeats 8000000 in
open_top Mine.hd06 for PySem.Challenge.rw_kn0091_06
end
section
namespace Mine
open PySem.Calls PySem.Spec

def Stop (P : Prop) : Prop := P
theorem stop {P : Prop} (h : Stop P) : P := h
theorem unstop {P : Prop} (h : P) : Stop P := h

/-- no entry of the ledger stands at I -/
def Off (I : Addr) : List (Addr × Obj) → Prop
  | [] => True
  | p :: r => (@Ne Nat p.1 I) ∧ Off I r
theorem Off.mem {I : Addr} : ∀ {l : List (Addr × Obj)}, Off I l → ∀ p ∈ l, p.1 ≠ I
  | [], _, _, h => nomatch h
  | _ :: _, x, p, h => by
    rcases List.mem_cons.mp h with rfl | h
    · exact x.1
    · exact Off.mem x.2 p h
theorem Off.of {I : Addr} : ∀ {l : List (Addr × Obj)}, (∀ p ∈ l, p.1 ≠ I) → Off I l
  | [], _ => trivial
  | _ :: _, h => ⟨h _ List.mem_cons_self, Off.of fun p hp => h p (List.mem_cons_of_mem _ hp)⟩

section
variable {prog : Program} {w : World} {A : Around} {E : Value → Shared → Prop} {s : Shared} {env : Env} {h₀ : Heap} {x : Str} {body : List Stmt} {Q : Flow → Shared → Prop}

def TurnEnd (h₀ : Heap) (L I : Addr) (oI : Obj) (J : (Str → Option Value) → List (Addr × Obj) → Prop) (s₁ s₂ : Shared) : Prop :=
  ∃ h' tk m' nx, s₂ = { s₁ with heap := h', toks := tk } ∧ Fr h₀ L h' m' ∧ News h₀ L h' ((I, oI) :: nx) ∧ Off I nx ∧ J m' nx
def TurnPost (h₀ : Heap) (L I : Addr) (oI : Obj) (J : (Str → Option Value) → List (Addr × Obj) → Prop) (s₁ : Shared) (Q : Flow → Shared → Prop) (f : Flow) (s₂ : Shared) : Prop :=
  match f with
  | .ret v => Q (.ret v) s₂
  | .brk => Q .next s₂
  | .next => TurnEnd h₀ L I oI J s₁ s₂
  | .cont => TurnEnd h₀ L I oI J s₁ s₂

/-- a for over a list, by any invariant of the frame's names and of the ledger -/
theorem iter_list {l : Addr} {its : Array Value} {m₀ : Str → Option Value} {news : List (Addr × Obj)} (J : Nat → (Str → Option Value) → List (Addr × Obj) → Prop)
    (hh : A.handled = none) (src : h₀.IsList l its ∨ ∃ ol k, ol.cls = .type "list" ∧ ol.data = .seq its k ∧ ∀ i m nx, J i m nx → (l, ol) ∈ nx)
    (F : Fr h₀ env.locals s.heap m₀) (N : News h₀ env.locals s.heap news) (hj : J 0 m₀ news)
    (turn : ∀ i v m₁ nw I oI h tk, its[i]? = some v → J i m₁ nw → Off I nw → Fr h₀ env.locals h (fun y => if y = x then some v else m₁ y) → News h₀ env.locals h ((I, oI) :: nw) →
      wpAny (model prog w) A (execs body env) (TurnPost h₀ env.locals I oI (J (i + 1)) { s with heap := h, toks := tk } Q) E { s with heap := h, toks := tk })
    (done : ∀ m₁ nw h tk, J its.size m₁ nw → Fr h₀ env.locals h m₁ → News h₀ env.locals h nw → Q .next { s with heap := h, toks := tk }) :
    wpAny (model prog w) A (pyIter (.ref l)) (fun it s₂ => LoopAtV prog w A h₀ env x body Q E it s₂) E s := by
  have hls : s.heap.IsList l its := by
    rcases src with hl | ⟨ol, k, hc, hd, hm⟩
    · exact hl.at fun o e => F.keep l o e
    · exact ⟨ol, (N _ (hm _ _ _ hj)).1, hc, k, hd⟩
  obtain ⟨ol', hol, _⟩ := id hls
  have hlt : l < s.heap.objs.size := Heap.lt_size hol
  have hne : l ≠ s.heap.objs.size := Nat.ne_of_lt hlt
  have hLl : env.locals ≠ l := by
    rcases src with hl | ⟨ol, k, hc, hd, hm⟩
    · obtain ⟨o, e, _⟩ := hl
      exact fun q => absurd (Nat.lt_of_lt_of_le (Heap.lt_size e) F.above) (q ▸ Nat.lt_irrefl _)
    · exact fun q => (N _ (hm _ _ _ hj)).2.1 q.symm
  refine wpAny_pyIter_list hls ?_
  have W := Walks.list (prog := prog) (w := w) hh s.heap.objs.size l hne its
  refine ⟨_, _, _, its.size, _, _, m₀, news, J, rfl, W, ?_, ?_, ?_, ⟨⟨_, Heap.get?_push_size _ rfl, rfl, rfl⟩, hls.at fun o e => Heap.get?_push_of_some _ e⟩, F.push _, (fun p hp => ⟨Heap.get?_push_of_some _ (N p hp).1, (N p hp).2⟩), hj, ?_, ?_⟩
  · intro hm
    rcases List.mem_cons.mp hm with e | hm
    · exact absurd F.ns.lt (e ▸ Nat.lt_irrefl _)
    · exact hLl (List.mem_singleton.mp hm)
  · intro b hb
    rw [List.mem_singleton.mp hb]
    exact next_is_new F
  · intro p hp hI
    exact absurd (Heap.lt_size (N p hp).1) ((List.mem_singleton.mp hI) ▸ Nat.lt_irrefl _)
  · rintro i v m₁ news₁ s₁ own ⟨hh', tk', rfl⟩ hin hP hJ hoff hown hget hin' hst F₁ N₁
    obtain ⟨oI, heI, _⟩ := hst.1
    have hIown : (s.heap.objs.size, oI) ∈ own := hin' _ (by simp) (next_is_new F) oI heI
    have hoffI : Off s.heap.objs.size news₁ := Off.of fun p hp q => hoff p hp (List.mem_singleton.mpr q)
    have N₂ : News h₀ env.locals hh' ((s.heap.objs.size, oI) :: news₁) := fun p hp => by
      rcases List.mem_cons.mp hp with rfl | hp
      · exact N₁ _ (List.mem_append_left _ hIown)
      · exact N₁ _ (List.mem_append_right _ hp)
    refine wpAny_mono (turn i v m₁ news₁ _ oI hh' tk' hP hJ hoffI F₁ N₂) (fun f s₂ p => ?_) fun _ _ e => e
    have fin : TurnEnd h₀ env.locals s.heap.objs.size oI (J (i + 1)) { s with heap := hh', toks := tk' } s₂ → LoopStepU h₀ env.locals [s.heap.objs.size] own (J (i + 1)) { s with heap := hh', toks := tk' } .next s₂ := by
      rintro ⟨h', tk, m', nx, e, F', N', hoff', hj'⟩
      refine ⟨rfl, h', tk, m', nx, e, F', fun p hp => ?_, fun p hp q => hoff'.mem p hp (List.mem_singleton.mp q), hj'⟩
      rcases List.mem_append.mp hp with hp | hp
      · have hg := hget p hp
        have h0 := (N₁ p (List.mem_append_left _ hp)).2.2
        rcases List.mem_cons.mp (hown p hp) with h1 | h1
        · have e1 : p = (s.heap.objs.size, oI) := by
            obtain ⟨a, o⟩ := p
            dsimp only at h1 hg
            subst h1
            rw [heI] at hg; cases hg; rfl
          rw [e1]; exact N' _ List.mem_cons_self
        · have h2 : p.1 = l := List.mem_singleton.mp h1
          rcases src with hl | ⟨ol, k, hc, hd, hm⟩
          · obtain ⟨o, e, _⟩ := hl
            rw [h2, e] at h0; cases h0
          · have e1 : p = (l, ol) := by
              obtain ⟨a, o⟩ := p
              dsimp only at h2 hg
              subst h2
              have := (N₁ _ (List.mem_append_right _ (hm _ _ _ hJ))).1
              rw [hg] at this
              cases this; rfl
            rw [e1]; exact N' _ (List.mem_cons_of_mem _ (hm _ _ _ hj'))
      · exact N' p (List.mem_cons_of_mem _ hp)
    cases f with
    | ret v => exact .ret p
    | brk => exact .brk p
    | next => exact .next (fin p)
    | cont => exact .cont (fin p)
  · rintro h' tk m' news' F' N' _ hJ
    exact done m' news' h' tk hJ F' N'

end

section
open LCg
variable {prog : Program} {w : World} {A : Around} {h₀ : Heap} {L : Addr} {m : Str → Option Value} {env : Env} {ct elt : Expr} {x : Str} {scope : Scope} {cl : List (Str × Addr)} {s : Shared} {S : List (Addr × Obj) → Prop} {P : Nat → Value → Prop} {Fin : List Value → List (Addr × Obj) → Prop} {news : List (Addr × Obj)}

/-- a comprehension with a test, by an invariant -/
theorem compT_inv {n : Nat} (J : Nat → List Value → List (Addr × Obj) → Prop) (h0 : J 0 [] news)
    (turn : ∀ i v ys nw I oI C oC D m₂ h tk (E' : Value → Shared → Prop), i < n → P i v → J i ys nw → NsObj oC m₂ → m₂ x = some v → Fr h₀ L h m → News h₀ L h ((I, oI) :: (C, oC) :: (D, lst ys) :: nw) → Off3 I C D nw → ((@Ne Nat I C) ∧ (@Ne Nat I D) ∧ (@Ne Nat C D)) →
      wpAny (model prog w) A (isTrue ct (compEnvC scope cl C env) (eval ct (compEnvC scope cl C env))) (fun ok s' => if ok = true then
        wpAny (model prog w) A (eval elt (compEnvC scope cl C env)) (CompEnd h₀ L m { s with heap := h, toks := tk } I oI C oC D (lst ys) S (fun y nw' => J (i + 1) (ys ++ [y]) nw')) E' s'
        else CompEnd h₀ L m { s with heap := h, toks := tk } I oI C oC D (lst ys) S (fun _ nw' => J (i + 1) ys nw') Value.none s') E' { s with heap := h, toks := tk })
    (fin : ∀ ys nw, J n ys nw → Fin ys nw) : LCt.CompRestT prog w A h₀ L m env ct elt x scope cl s S P Fin n 0 [] news := by
  have key : ∀ (j i : Nat) (ys : List Value) (nw : List (Addr × Obj)), i + j = n → J i ys nw → LCt.CompRestT prog w A h₀ L m env ct elt x scope cl s S P Fin j i ys nw := by
    intro j
    induction j with
    | zero => intro i ys nw e hj; obtain rfl : i = n := by omega
              exact fin ys nw hj
    | succ j ih =>
      intro i ys nw e hj v I oI C oC D m₂ h tk E' hP hC hx F N off ne
      refine wpAny_mono (turn i v ys nw I oI C oC D m₂ h tk E' (by omega) hP hj hC hx F N off ne) (fun ok s₂ hq => ?_) fun _ _ e => e
      cases ok with
      | true =>
        simp only [if_true] at hq ⊢
        refine wpAny_mono hq (fun y s₃ hr => ?_) fun _ _ e => e
        obtain ⟨h', tk', nw', e', F', N', off', hS, hj'⟩ := hr
        exact ⟨h', tk', nw', e', F', N', off', hS, ih (i + 1) _ _ (by omega) hj'⟩
      | false =>
        simp only [Bool.false_eq_true, if_false] at hq ⊢
        obtain ⟨h', tk', nw', e', F', N', off', hS, hj'⟩ := hq
        exact ⟨h', tk', nw', e', F', N', off', hS, ih (i + 1) _ _ (by omega) hj'⟩
  exact key n 0 [] news (by omega) h0
end

/-! lists of values by what they stand for -/
abbrev Pd {α : Type} (F : α → Value → Prop) (as : List α) (vs : List Value) : Prop := PySem.Paired F as vs
theorem pd_len {α : Type} {F : α → Value → Prop} {as : List α} {vs : List Value} (h : Pd F as vs) : as.length = vs.length := PySem.Paired.length h
theorem pd_at {α : Type} {F : α → Value → Prop} : ∀ {as : List α} {vs : List Value}, Pd F as vs → ∀ (i : Nat) (v : Value), vs[i]? = some v → ∃ a, as[i]? = some a ∧ F a v
  | _, _, .nil, i, v, h => by simp at h
  | _, _, .cons h₁ t, 0, v, h => by simp at h; subst h; exact ⟨_, by simp, h₁⟩
  | _, _, .cons h₁ t, i + 1, v, h => by simp at h; obtain ⟨a, e, f⟩ := pd_at t i v h; exact ⟨a, by simpa using e, f⟩
theorem pd_get {α : Type} {F : α → Value → Prop} : ∀ {as : List α} {vs : List Value}, Pd F as vs → ∀ (i : Nat) (a : α), as[i]? = some a → ∃ v, vs[i]? = some v ∧ F a v
  | _, _, .nil, i, v, h => by simp at h
  | _, _, .cons h₁ t, 0, v, h => by simp at h; subst h; exact ⟨_, by simp, h₁⟩
  | _, _, .cons h₁ t, i + 1, v, h => by simp at h; obtain ⟨a, e, f⟩ := pd_get t i v h; exact ⟨a, by simpa using e, f⟩
def IntV (n : Int) (v : Value) : Prop := ∃ t, v = .int n t
def StrV (x : Str) (v : Value) : Prop := ∃ t, v = .str x t
theorem pd_ints : ∀ {vs : List Value} {ns : List Int}, IntsAre vs ns → Pd IntV ns vs
  | _, _, .nil => .nil
  | _, _, .cons n t h => .cons ⟨t, rfl⟩ (pd_ints h)
section
open LCg
variable {prog : Program} {w : World} {A : Around} {h₀ : Heap} {L : Addr} {m : Str → Option Value} {env : Env} {ct elt : Expr} {x : Str} {scope : Scope} {cl : List (Str × Addr)} {s : Shared} {S : List (Addr × Obj) → Prop} {Fin : List Value → List (Addr × Obj) → Prop} {news : List (Addr × Obj)}

/-- the same with a test -/
theorem compT_pd {α β : Type} {F : α → Value → Prop} (G : β → Value → Prop) (p : α → Bool) (f : α → β) {as : List α} {its : Array Value} (hi : Pd F as its.toList)
    (turn : ∀ a v I oI C oC D ys m₂ h tk (E' : Value → Shared → Prop), a ∈ as → F a v → ys.length ≤ as.length → NsObj oC m₂ → m₂ x = some v → Fr h₀ L h m → News h₀ L h ((I, oI) :: (C, oC) :: (D, lst ys) :: news) → Off3 I C D news → ((@Ne Nat I C) ∧ (@Ne Nat I D) ∧ (@Ne Nat C D)) →
      wpAny (model prog w) A (isTrue ct (compEnvC scope cl C env) (eval ct (compEnvC scope cl C env))) (fun ok s' => if ok = true then
        wpAny (model prog w) A (eval elt (compEnvC scope cl C env)) (CompEnd h₀ L m { s with heap := h, toks := tk } I oI C oC D (lst ys) S (fun y nw' => nw' = news ∧ p a = true ∧ G (f a) y)) E' s'
        else CompEnd h₀ L m { s with heap := h, toks := tk } I oI C oC D (lst ys) S (fun _ nw' => nw' = news ∧ p a = false) Value.none s') E' { s with heap := h, toks := tk })
    (fin : ∀ ys, Pd G ((as.filter p).map f) ys → Fin ys news) : LCt.CompRestT prog w A h₀ L m env ct elt x scope cl s S (fun i v => its[i]? = some v) Fin its.size 0 [] news := by
  have hl := pd_len hi
  refine compT_inv (fun i ys nw => nw = news ∧ Pd G (((as.take i).filter p).map f) ys) ⟨rfl, by simp; exact .nil⟩ ?_ ?_
  · intro i v ys nw I oI C oC D m₂ h tk E' hin hP hJ hC hx F' N off ne
    obtain ⟨rfl, hy⟩ := hJ
    obtain ⟨a, ha, hF⟩ := pd_at hi i v (by simpa using hP)
    have hyl := pd_len hy
    have hle : ys.length ≤ as.length := by
      rw [← hyl, List.length_map]
      exact Nat.le_trans (List.length_filter_le _ _) (by simp; omega)
    refine wpAny_mono (turn a v I oI C oC D ys m₂ h tk E' (List.mem_of_getElem? ha) hF hle hC hx F' N off ne) (fun ok s₂ hq => ?_) fun _ _ e => e
    cases ok with
    | true =>
      simp only [if_true] at hq ⊢
      refine wpAny_mono hq (fun y s₃ hr => ?_) fun _ _ e => e
      obtain ⟨h', tk', nw', e', F₂, N₂, off', hS, hn, hp, hg⟩ := hr
      refine ⟨h', tk', nw', e', F₂, N₂, off', hS, hn, ?_⟩
      rw [PySem.take_succ_filter p as i a ha, List.map_append, hp]
      exact PySem.Paired.snoc hy hg
    | false =>
      simp only [Bool.false_eq_true, if_false] at hq ⊢
      obtain ⟨h', tk', nw', e', F₂, N₂, off', hS, hn, hp⟩ := hq
      refine ⟨h', tk', nw', e', F₂, N₂, off', hS, hn, ?_⟩
      rw [PySem.take_succ_filter p as i a ha, List.map_append, hp]
      simpa using hy
  · rintro ys nw ⟨rfl, hy⟩
    refine fin ys ?_
    have : as.take its.size = as := by rw [List.take_of_length_le]; simp at hl; omega
    rwa [this] at hy
end

/-! a call whose body leaves all that stood as it stood: the whole heap is its ground -/
def LeaveB (g : Heap) (R : Result → Shared → Prop) (v : Value) (s' : Shared) : Prop := ∃ L' m', Fr g L' s'.heap m' ∧ R (.ok (.ret v)) s'
theorem LeaveB.intro {g : Heap} {R : Result → Shared → Prop} {v : Value} {s' : Shared} {L' : Addr} {m' : Str → Option Value} (F : Fr g L' s'.heap m') (h : R (.ok (.ret v)) s') : LeaveB g R v s' := ⟨L', m', F, h⟩
section
variable {prog : Program} {w : World} {A A₀ : Around} {s : Shared} {K : Frag} {L : Addr} {h₀ base : Heap} {m mg mb : Str → Option Value} {p : Program} {loose : List Str} {mean : ExcName → Option Value}

theorem code_base {env : Env} {outer : List Env} {R : Result → Shared → Prop} {name qual : Str} {params : Arguments} {body : List Stmt} {scope : Scope} {dV kV doc pm cdv ct oc : Value} {an od : Option Addr} {osl : Array (Option Value)} {f : Addr} {args : Args} {binds : List (Str × Value)}
    (B : Below A₀ base outer h₀) (F : Fr h₀ L s.heap m) (X₀ : K.In h₀) (T : Top p loose mean mg mb h₀) (hA : A.frames = some (env :: outer)) (hf : env.frame = some L) (hke : env.scope.kind = .function)
    (ho : K.lookup f = some ⟨oc, od, .func (fnOf name qual params body scope dV kV doc pm an cdv ct), osl⟩) (hcd : codeIn K cdv qual = true) (hroom : A.depth < recursionLimit)
    (hbind : BindsTo s (fnOf name qual params body scope dV kV doc pm an cdv ct) args binds) (hloc : ∀ y ∈ binds, scope.names.lookup y.1 = some .local)
    (h : ∀ L' h₁, Fr s.heap L' h₁ (fun y => binds.reverse.lookup y) → News s.heap L' h₁ [] → Below A base (env :: outer) s.heap → K.In s.heap → Top p loose mean mg mb s.heap →
      wpAny (model prog w) (A.deeper (envOf qual scope L' f cdv)) (execs body (envOf qual scope L' f cdv))
        (fun fl s' => LeaveB s.heap R (match fl with | .ret v => v | _ => .none) s')
        (fun e s' => wpAny (model prog w) (A.deeper (envOf qual scope L' f cdv)) (leaving (envOf qual scope L' f cdv) e) (fun _ s'' => R (.error e) s'') (fun e' s'' => R (.error e') s'') s')
        { s with heap := h₁, toks := s.toks + binds.length })
    (hco : scope.isCoroutine = false := by rfl) (hgen : scope.isGenerator = false := by rfl) (hk : scope.kind = .function := by rfl)
    (hcell : ∀ x ∈ scope.names, x.2 ≠ .cell := by decide) : codeAny (model prog w) A (.call (.ref f) args) R s := by
  obtain ⟨FG, BG, st, lv⟩ := groundX (R := R) B F (News.nil (h₀ := h₀) (L := L) (h := s.heap)) hA hf hke
  refine codeAny_call_def (fd := fnOf name qual params body scope dV kV doc pm an cdv ct) (body := body) (binds := binds) hroom ((X₀.keeps F.keep) _ _ ho) rfl (T.nolimit.keeps F.keep) (codeRec_of (X₀.keeps F.keep) hcd) rfl hbind hcell hloc (fun h₁ hns hk₁ => ?_) hco hgen hk
  exact wpAny_mono (h s.heap.objs.size h₁ ⟨hns, hk₁, Nat.le_refl _⟩ News.nil BG (X₀.keeps F.keep) (T.keeps F.keep)) (fun fl s' ⟨_, _, _, hr⟩ => hr) fun _ _ y => y
end

/-! the frame's map between turns: the stored names by u, all else by m₀ -/
def over (u m₀ : Str → Option Value) : List Str → Str → Option Value
  | [], y => m₀ y
  | a :: r, y => if y = a then u a else over u m₀ r y
theorem over_in {u m₀ : Str → Option Value} : ∀ {l : List Str} {y : Str}, (y ∉ l → u y = m₀ y) → over u m₀ l y = u y
  | [], y, h => (h List.not_mem_nil).symm
  | a :: r, y, h => by
    unfold over
    by_cases e : y = a
    · rw [if_pos e, e]
    · rw [if_neg e]
      exact over_in fun hn => h fun hm => (List.mem_cons.mp hm).elim e hn
theorem over_set {u m₀ : Str → Option Value} {l : List Str} {x : Str} {v : Option Value} (h : ∀ z, z ≠ x → z ∉ l → u z = m₀ z) : (fun y => if y = x then v else u y) = fun y => if y = x then v else over u m₀ l y := by
  funext y
  by_cases e : y = x
  · rw [if_pos e, if_pos e]
  · rw [if_neg e, if_neg e, over_in fun hn => h y e hn]
theorem over_self {u m₀ : Str → Option Value} {l : List Str} {x : Str} (h : ∀ z, z ≠ x → z ∉ l → u z = m₀ z) : u = fun y => if y = x then u x else over u m₀ l y := by
  funext y
  by_cases e : y = x
  · rw [if_pos e, e]
  · rw [if_neg e, over_in fun hn => h y e hn]
def Same (x : Str) (stored : List Str) (m₀ m' : Str → Option Value) : Prop := ∀ z, z ≠ x → z ∉ stored → m' z = m₀ z
section
variable {prog : Program} {w : World} {A : Around} {E : Value → Shared → Prop} {s : Shared} {env : Env} {h₀ : Heap} {x : Str} {body : List Stmt} {Q : Flow → Shared → Prop}
theorem iter_list_o (stored : List Str) {l : Addr} {its : Array Value} {m₀ : Str → Option Value} {news : List (Addr × Obj)} (J : Nat → (Str → Option Value) → List (Addr × Obj) → Prop)
    (hh : A.handled = none) (src : h₀.IsList l its ∨ ∃ ol k, ol.cls = .type "list" ∧ ol.data = .seq its k ∧ ∀ i m nx, J i m nx → (l, ol) ∈ nx)
    (F : Fr h₀ env.locals s.heap m₀) (N : News h₀ env.locals s.heap news) (hj : J 0 m₀ news)
    (turn : ∀ i v u nw I oI h tk, its[i]? = some v → J i u nw → Off I nw → Fr h₀ env.locals h (fun y => if y = x then some v else over u m₀ stored y) → News h₀ env.locals h ((I, oI) :: nw) →
      wpAny (model prog w) A (execs body env) (TurnPost h₀ env.locals I oI (fun m' nx => Same x stored m₀ m' ∧ J (i + 1) m' nx) { s with heap := h, toks := tk } Q) E { s with heap := h, toks := tk })
    (done : ∀ u nw h tk, J its.size u nw → Fr h₀ env.locals h (fun y => if y = x then u x else over u m₀ stored y) → News h₀ env.locals h nw → Q .next { s with heap := h, toks := tk }) :
    wpAny (model prog w) A (pyIter (.ref l)) (fun it s₂ => LoopAtV prog w A h₀ env x body Q E it s₂) E s := by
  refine iter_list (fun i m nx => Same x stored m₀ m ∧ J i m nx) hh (src.imp id fun ⟨ol, k, a, b, c⟩ => ⟨ol, k, a, b, fun i m nx h => c i m nx h.2⟩) F N ⟨fun _ _ _ => rfl, hj⟩ ?_ ?_
  · rintro i v m₁ nw I oI h tk hv ⟨hs, hJ⟩ hoff F₁ N₁
    rw [over_set hs] at F₁
    exact turn i v m₁ nw I oI h tk hv hJ hoff F₁ N₁
  · rintro m₁ nw h tk ⟨hs, hJ⟩ F₁ N₁
    refine done m₁ nw h tk hJ ?_ N₁
    rw [← over_self hs]; exact F₁
/-- the ledger stays: J is of the names alone -/
theorem iter_list_s (stored : List Str) {l : Addr} {its : Array Value} {m₀ : Str → Option Value} {news : List (Addr × Obj)} (J : Nat → (Str → Option Value) → Prop)
    (hh : A.handled = none) (src : h₀.IsList l its ∨ ∃ ol k, ol.cls = .type "list" ∧ ol.data = .seq its k ∧ (l, ol) ∈ news)
    (F : Fr h₀ env.locals s.heap m₀) (N : News h₀ env.locals s.heap news) (hj : J 0 m₀)
    (turn : ∀ i v u I oI h tk, its[i]? = some v → J i u → Off I news → Fr h₀ env.locals h (fun y => if y = x then some v else over u m₀ stored y) → News h₀ env.locals h ((I, oI) :: news) →
      wpAny (model prog w) A (execs body env) (TurnPost h₀ env.locals I oI (fun m' nx => Same x stored m₀ m' ∧ nx = news ∧ J (i + 1) m') { s with heap := h, toks := tk } Q) E { s with heap := h, toks := tk })
    (done : ∀ u h tk, J its.size u → Fr h₀ env.locals h (fun y => if y = x then u x else over u m₀ stored y) → News h₀ env.locals h news → Q .next { s with heap := h, toks := tk }) :
    wpAny (model prog w) A (pyIter (.ref l)) (fun it s₂ => LoopAtV prog w A h₀ env x body Q E it s₂) E s := by
  refine iter_list_o stored (fun i m nx => nx = news ∧ J i m) hh (src.imp id fun ⟨ol, k, a, b, c⟩ => ⟨ol, k, a, b, fun i m nx h => h.1 ▸ c⟩) F N ⟨rfl, hj⟩ ?_ ?_
  · rintro i v u nw I oI h tk hv ⟨rfl, hJ⟩ hoff F₁ N₁
    exact turn i v u I oI h tk hv hJ hoff F₁ N₁
  · rintro u nw h tk ⟨rfl, hJ⟩ F₁ N₁
    exact done u h tk hJ F₁ N₁
end

/-- a turn's end: what the turn has made and dropped stands ahead (ext) -/
theorem TurnEnd.mk' {h₀ : Heap} {L I : Addr} {oI : Obj} {J : (Str → Option Value) → List (Addr × Obj) → Prop} {s₁ : Shared} {h' : Heap} {tk : Nat} {m' : Str → Option Value} (ext : List (Addr × Obj)) {nx : List (Addr × Obj)}
    (F : Fr h₀ L h' m') (N : News h₀ L h' (ext ++ (I, oI) :: nx)) (off : Off I nx) (hj : J m' nx) :
    TurnEnd h₀ L I oI J s₁ { s₁ with heap := h', toks := tk } := ⟨h', tk, m', nx, rfl, F, fun p hp => N p (List.mem_append_right _ hp), off, hj⟩

section
variable {prog : Program} {w : World} {A : Around} {E : Value → Shared → Prop} {s : Shared} {env : Env} {h₀ : Heap} {x : Str} {body : List Stmt} {Q : Flow → Shared → Prop}
theorem take_split {α : Type} {as : List α} {i : Nat} {a : α} (h : as[i]? = some a) : as = as.take i ++ a :: as.drop (i + 1) := by
  have hi : i < as.length := by
    rcases Nat.lt_or_ge i as.length with q | q
    · exact q
    · rw [List.getElem?_eq_none q] at h; cases h
  have : as[i] = a := by rw [List.getElem?_eq_getElem hi] at h; exact Option.some.inj h
  rw [← this, ← List.drop_eq_getElem_cons hi, List.take_append_drop]
theorem take_next {α : Type} {as : List α} {i : Nat} {a : α} (h : as[i]? = some a) : as.take (i + 1) = as.take i ++ [a] := by rw [List.take_add_one, h]; rfl

end

section
variable {prog : Program} {w : World} {A : Around} {E : Value → Shared → Prop} {s : Shared} {h₀ : Heap} {L D : Addr} {m : Str → Option Value} {news news' : List (Addr × Obj)} {n : Nat} {k : Int} {t : Tok}
theorem get_at {its : Array Value} {v : Value} {Q : Value → Shared → Prop} (hl : s.heap.IsList D its) (h0 : 0 ≤ k) (hfit : k < 2 ^ 63) (hx : its[k.toNat]? = some v) (h : Q v s) :
    wpAny (model prog w) A (getItem (.ref D) (.int k t)) Q E s := wpAny_getItem_list hl h0 hfit hx h
theorem tail_at {value slice : PySem.Expr} {its : Array Value} {v : Value} {Q : Value → Shared → Prop} (hl : s.heap.IsList D its) (h0 : 0 ≤ k) (hfit : k < 2 ^ 63) (hx : its[k.toNat]? = some v) (h : Q v s)
    (hs : subscripted slice false (.ref D) (.int k t) = operate [.ref D, .int k t] (getItem (.ref D) (.int k t)) := by with_unfolding_all rfl) :
    wpAny (model prog w) A (subscriptTail value slice (.ref D) (.int k t)) Q E s :=
  tail_any hl.typeIs slot_list_getitem.lookup (get_at hl h0 hfit hx h) hs
end

section
variable {prog : Program} {w : World} {A : Around} {E : Value → Shared → Prop} {s : Shared} {h₀ : Heap} {L D : Addr} {m : Str → Option Value} {news news' : List (Addr × Obj)} {n : Nat}
theorem append_l {zs : List Value} {x : Value} {Q : Value → Shared → Prop} (F : Fr h₀ L s.heap m) (N : News h₀ L s.heap news) (U : Upd D (listOf zs.toArray n) (listOf (zs ++ [x]).toArray (n + 1)) news news')
    (h : ∀ h', Fr h₀ L h' m → News h₀ L h' news' → Q .none { s with heap := h' }) (hsz : zs.length ≤ sizeLine) : wpAny (model prog w) A (call (.builtin "list.append") [.ref D, x]) Q E s :=
  append_K F N (by rw [List.push_toArray]; exact U) h (by rw [List.size_toArray]; exact hsz)
end

section
variable {prog : Program} {w : World} {A : Around} {E : Value → Shared → Prop} {s : Shared} {h₀ : Heap} {L D a b l : Addr} {m : Str → Option Value} {news news' : List (Addr × Obj)} {n k : Nat} {xs zs : List Value} {Q : Value → Shared → Prop}
theorem is_l (N : News h₀ L s.heap news) (ha : (a, listOf xs.toArray n) ∈ news) : s.heap.IsList a xs.toArray := PySem.IsL.isList (n := n) (N _ ha).1
theorem len_l (N : News h₀ L s.heap news) (ha : (a, listOf xs.toArray n) ∈ news) (hz : xs.length ≤ sizeLine) (h : Q (.int xs.length (s.toks + 1)) { s with toks := s.toks + 1 + 1 }) :
    wpAny (model prog w) A (call (.builtin "len") [.ref a]) Q E s := by
  have e : xs.toArray.size = xs.length := List.size_toArray ..
  refine len_list (is_l N ha) ?_ (by rw [e]; exact h)
  rw [e]; rw [sizeLine_eq] at hz; omega
end

section
variable {prog : Program} {w : World} {A : Around} {E : Value → Shared → Prop} {s : Shared} {env : Env} {h₀ : Heap} {x : Str} {body : List Stmt} {Q : Flow → Shared → Prop}
end

section
open LCg
variable {prog : Program} {w : World} {A : Around} {E : Value → Shared → Prop} {s : Shared} {h₀ : Heap} {L : Addr} {m : Str → Option Value} {env : Env}
end
section
open LCg
variable {prog : Program} {w : World} {A : Around} {h₀ : Heap} {L : Addr} {m : Str → Option Value} {env : Env} {elt : Expr} {x : Str} {scope : Scope} {cl : List (Str × Addr)} {s : Shared} {S : List (Addr × Obj) → Prop} {Fin : List Value → List (Addr × Obj) → Prop} {news : List (Addr × Obj)}
end

theorem cend {h₀ : Heap} {L I C D : Addr} {m : Str → Option Value} {s₁ : Shared} {oI oC oD : Obj} {S : List (Addr × Obj) → Prop} {rest : Value → List (Addr × Obj) → Prop} {y : Value} {h' : Heap} {tk : Nat} (ext : List (Addr × Obj)) {news' : List (Addr × Obj)}
    (F : Fr h₀ L h' m) (N : News h₀ L h' (ext ++ (I, oI) :: (C, oC) :: (D, oD) :: news')) (off : LCg.Off3 I C D news') (hS : S news') (r : rest y news') :
    LCg.CompEnd h₀ L m s₁ I oI C oC D oD S rest y { s₁ with heap := h', toks := tk } := ⟨h', tk, news', rfl, F, fun p hp => N p (List.mem_append_right _ hp), off, hS, r⟩

section
variable {prog : Program} {w : World} {A A₀ : Around} {s : Shared} {K : Frag} {L : Addr} {h₀ base : Heap} {m mg mb : Str → Option Value} {p : Program} {loose : List Str} {mean : ExcName → Option Value}
end

section
open LCg
variable {prog : Program} {w : World} {A : Around} {h₀ : Heap} {L : Addr} {m : Str → Option Value} {env : Env} {ct elt : Expr} {x : Str} {scope : Scope} {cl : List (Str × Addr)} {s : Shared} {S : List (Addr × Obj) → Prop} {Fin : List Value → List (Addr × Obj) → Prop} {news : List (Addr × Obj)}
end
section
variable {prog : Program} {w : World} {A : Around} {E : Value → Shared → Prop} {s : Shared} {g : Heap} {L D : Addr} {m : Str → Option Value} {its : Array Value} {k : Int} {j : Nat} {t : Tok} {v : Value} {Q : Value → Shared → Prop}
theorem at_up (hl : g.IsList D its) (F : Fr g L s.heap m) : s.heap.IsList D its := hl.at fun o e => F.keep _ _ e
end

/-! a for with any target (a local, a captured name, a tuple) -/
section
variable {prog : Program} {w : World} {A : Around} {s : Shared} {env : Env} {h₀ : Heap} {L : Addr}

theorem codeAny_forT {R : Result → Shared → Prop} {target : Expr} {body : List Stmt} {I : Addr} {fp wr : List Addr} {n : Nat} {P : Nat → Value → Prop} {St : Nat → Heap → Prop} {m : Str → Option Value}
    {news : List (Addr × Obj)} (W : Walks prog w A I fp wr n P St) (hLf : L ∉ fp) (hwr : ∀ b ∈ wr, h₀.get? b = none) (hnw : ∀ p ∈ news, p.1 ∉ wr)
    (hst : St 0 s.heap) (F : Fr h₀ L s.heap m) (N : News h₀ L s.heap news)
    (J : Nat → (Str → Option Value) → List (Addr × Obj) → Prop) (h0 : J 0 m news)
    (step : ∀ i v m₁ news₁ s₁ own, (∃ h tk, s₁ = { s with heap := h, toks := tk }) → i < n → P i v → J i m₁ news₁ → (∀ p ∈ news₁, p.1 ∉ wr) → (∀ p ∈ own, p.1 ∈ fp) → (∀ p ∈ own, s₁.heap.get? p.1 = some p.2) → (∀ b ∈ fp, h₀.get? b = none → ∀ o, s₁.heap.get? b = some o → (b, o) ∈ own) → St (i + 1) s₁.heap →
      Fr h₀ L s₁.heap m₁ → News h₀ L s₁.heap (own ++ news₁) →
      wpAny (model prog w) A (assign target env v) (fun _ s₂ => wpAny (model prog w) A (execs body env) (LoopStepV h₀ L wr own (J (i + 1)) s₁ (fun v s' => R (.ok (.ret v)) s') fun s' => R (.ok .next) s') (notedBy (model prog w) A env fun e s' => R (.error e) s') s₂) (notedBy (model prog w) A env fun e s' => R (.error e) s') s₁)
    (hR : ∀ h' tk m' news', Fr h₀ L h' m' → News h₀ L h' news' → (∀ p ∈ news', p.1 ∉ wr) → J n m' news' → R (.ok .next) { s with heap := h', toks := tk })
    (ht : ∀ v, letOwnedTupleGo target (.ref I) v = pure ()) :
    codeAny (model prog w) A (.forLoop target (.ref I) body [] env) R s := by
  have hLw : L ∉ wr := fun h => hLf (W.sub _ h)
  have old : ∀ b o, h₀.get? b = some o → b ∉ wr := fun b o e hb => by rw [hwr b hb] at e; cases e
  refine codeAny_forLoop
    (fun k s' => ∃ h' tk m' news' i, s' = { s with heap := h', toks := tk } ∧ St i h' ∧ Fr h₀ L h' m' ∧ News h₀ L h' news' ∧ (∀ p ∈ news', p.1 ∉ wr) ∧ J i m' news' ∧ i ≤ n ∧ k = n + 1 - i) ?_ (n + 1)
    ⟨s.heap, s.toks, m, news, 0, rfl, hst, F, N, hnw, h0, Nat.zero_le _, rfl⟩ ht
  rintro k s' ⟨h', tk, m', news', i, rfl, hst', F', N', hnw', hJ, hi, rfl⟩
  have next : ∀ h₁ : Heap, (∀ b o, b ∉ wr → h'.get? b = some o → h₁.get? b = some o) → Fr h₀ L h₁ m' ∧ News h₀ L h₁ news' := fun h₁ hk₁ =>
    ⟨⟨F'.ns.at' fun o e => hk₁ _ o hLw e, fun b o e => hk₁ b o (old b o e) (F'.keep b o e), F'.above⟩, fun p hp => ⟨hk₁ _ _ (hnw' p hp) (N' p hp).1, (N' p hp).2⟩⟩
  by_cases hlt : i < n
  · refine W.item i _ _ _ hlt hst' fun v h₁ tk₁ hP hst₁ hk₁ => ?_
    obtain ⟨F₁, N₁⟩ := next h₁ hk₁
    have Nown : News h₀ L h₁ (ownOf h₀ fp h₁) := news_ownOf hLf
    refine wpAny_mono (step i v m' news' _ (ownOf h₀ fp h₁) ⟨_, _, rfl⟩ hlt hP hJ hnw' ownOf_sub (fun p hp => (Nown p hp).1) (fun b hb hn o e => mem_ownOf hb hn e) hst₁ F₁ (Nown.append N₁)) (fun _ s₂ h₂ => wpAny_mono h₂ (fun f s₃ h₃ => ?_) fun _ _ e => e) fun _ _ e => e
    have fin : LoopStepU h₀ L wr (ownOf h₀ fp h₁) (J (i + 1)) { s with heap := h₁, toks := tk₁ } .next s₃ → ∃ m, m < n + 1 - i ∧ ∃ h' tk m' news' i, s₃ = { s with heap := h', toks := tk } ∧ St i h' ∧ Fr h₀ L h' m' ∧ News h₀ L h' news' ∧ (∀ p ∈ news', p.1 ∉ wr) ∧ J i m' news' ∧ i ≤ n ∧ m = n + 1 - i := by
      rintro ⟨_, h₃', tk₃, m₂, news₂, rfl, F₃, N₃, ha₃, hJ₃⟩
      refine ⟨n + 1 - (i + 1), by omega, h₃', tk₃, m₂, news₂, i + 1, rfl, ?_, F₃, N₃.right, ha₃, hJ₃, hlt, rfl⟩
      refine W.frame _ _ _ hst₁ fun b hb o e => ?_
      cases hn : h₀.get? b with
      | some o₀ =>
        have : o₀ = o := by have := F₁.keep b o₀ hn; rw [e] at this; exact (Option.some.inj this).symm
        exact this ▸ F₃.keep b o₀ hn
      | none => exact (N₃ _ (List.mem_append_left _ (mem_ownOf hb hn e))).1
    cases f with
    | ret v => exact h₃
    | brk => exact h₃
    | cont => exact fin h₃
    | next => exact fin h₃
  · have hin : i = n := by omega
    subst hin
    refine W.done _ _ _ hst' fun h₁ tk₁ hk₁ => wpAny_execs_nil ?_
    obtain ⟨F₁, N₁⟩ := next h₁ hk₁
    exact hR h₁ tk₁ m' news' F₁ N₁ hnw' hJ

def LoopAtT (prog : Program) (w : World) (A : Around) (h₀ : Heap) (L : Addr) (env : Env) (target : Expr) (body : List Stmt) (Q : Flow → Shared → Prop) (E : Value → Shared → Prop) (it : Value) (s₂ : Shared) : Prop :=
  ∃ (I : Addr) (fp wr : List Addr) (n : Nat) (P : Nat → Value → Prop) (St : Nat → Heap → Prop) (m : Str → Option Value) (news : List (Addr × Obj)) (J : Nat → (Str → Option Value) → List (Addr × Obj) → Prop),
    it = .ref I ∧ Walks prog w A I fp wr n P St ∧ L ∉ fp ∧ (∀ b ∈ wr, h₀.get? b = none) ∧ (∀ p ∈ news, p.1 ∉ wr) ∧ St 0 s₂.heap ∧ Fr h₀ L s₂.heap m ∧ News h₀ L s₂.heap news ∧ J 0 m news ∧
    (∀ i v m₁ news₁ s₁ own, (∃ h tk, s₁ = { s₂ with heap := h, toks := tk }) → i < n → P i v → J i m₁ news₁ → (∀ p ∈ news₁, p.1 ∉ wr) → (∀ p ∈ own, p.1 ∈ fp) → (∀ p ∈ own, s₁.heap.get? p.1 = some p.2) → (∀ b ∈ fp, h₀.get? b = none → ∀ o, s₁.heap.get? b = some o → (b, o) ∈ own) → St (i + 1) s₁.heap →
      Fr h₀ L s₁.heap m₁ → News h₀ L s₁.heap (own ++ news₁) →
      wpAny (model prog w) A (assign target env v) (fun _ s₃ => wpAny (model prog w) A (execs body env) (LoopStepV h₀ L wr own (J (i + 1)) s₁ (fun v s' => Q (.ret v) s') fun s' => Q .next s') E s₃) E s₁) ∧
    ∀ h' tk m' news', Fr h₀ L h' m' → News h₀ L h' news' → (∀ p ∈ news', p.1 ∉ wr) → J n m' news' → Q .next { s₂ with heap := h', toks := tk }

theorem For_T {E : Value → Shared → Prop} {Q : Flow → Shared → Prop} {target : Expr} {pos : Pos} {iter : Expr} {body : List Stmt} {m : Str → Option Value} (_F : Fr h₀ L s.heap m)
    (ht : ∀ it v, letOwnedTupleGo target it v = pure ())
    (h : wpAny (model prog w) A (eval iter env) (fun xv s₁ => wpAny (model prog w) A (pyIter xv) (fun it s₂ => LoopAtT prog w A h₀ L env target body Q E it s₂) E s₁) E s)
    (hs : ∀ x, foldedSetIterable iter env x = pure x := by intro _; rfl)
    (hE : PassesOwn (model prog w) A env E := by passes_own) :
    wpAny (model prog w) A (exec (.For target iter body [] pos) env) Q E s := by
  refine wpAny_For (wpAny_mono h (fun xv s₁ h₁ => wpAny_mono h₁ (fun it s₂ h₂ => ?_) fun _ _ e => e) fun _ _ e => e) hs
  obtain ⟨I, fp, wr, n, P, St, m, news, J, rfl, W, hLf, hwr, hnw, hst, F, N, h0, step, hQ⟩ := h₂
  refine codeAny_forT (R := fun r s' => match r with | .ok f => Q f s' | .error e => cameBackBy (model prog w) A env E e s') W hLf hwr hnw hst F N J h0 ?_ hQ (ht _)
  intro i v m₁ news₁ s₁ own a b c d e f g k st F₁ N₁
  exact wpAny_passesOwn hE (wpAny_mono (step i v m₁ news₁ s₁ own a b c d e f g k st F₁ N₁) (fun _ s₃ h₃ => wpAny_passesOwn hE h₃) fun _ _ e => e)
end

section
variable {prog : Program} {w : World} {A : Around} {E : Value → Shared → Prop} {s : Shared} {env : Env} {h₀ : Heap} {L : Addr} {target : Expr} {body : List Stmt} {Q : Flow → Shared → Prop}
def SameT (stored : List Str) (m₀ m' : Str → Option Value) : Prop := ∀ z, z ∉ stored → m' z = m₀ z
theorem over_T {u m₀ : Str → Option Value} {l : List Str} (h : SameT l m₀ u) : u = over u m₀ l := funext fun y => (over_in fun hn => h y hn).symm

/-- over range(a, b) -/
theorem forT_count (stored : List Str) {r : Addr} {a b : Int} {t u v : Tok} (n : Nat) {m₀ : Str → Option Value} {news : List (Addr × Obj)} (J : Nat → (Str → Option Value) → List (Addr × Obj) → Prop)
    (hh : A.handled = none) (hr : IsRange s.heap r a b 1 t u v) (hn : (b - a).toNat = n) (ha : -1000000 ≤ a ∧ a ≤ 1000000) (hb : -1000000 ≤ b ∧ b ≤ 1000000)
    (F : Fr h₀ L s.heap m₀) (N : News h₀ L s.heap news) (hj : J 0 m₀ news)
    (turn : ∀ (i : Nat) (t : Tok) u nw I oI h tk, i < n → J i u nw → Off I nw → Fr h₀ L h (over u m₀ stored) → News h₀ L h ((I, oI) :: nw) →
      wpAny (model prog w) A (assign target env (.int (a + (i : Int)) t)) (fun _ s₂ => wpAny (model prog w) A (execs body env) (TurnPost h₀ L I oI (fun m' nx => SameT stored m₀ m' ∧ J (i + 1) m' nx) { s with heap := h, toks := tk } Q) E s₂) E { s with heap := h, toks := tk })
    (done : ∀ u nw h tk, J n u nw → Fr h₀ L h (over u m₀ stored) → News h₀ L h nw → Q .next { s with heap := h, toks := tk }) :
    wpAny (model prog w) A (pyIter (.ref r)) (fun it s₂ => LoopAtT prog w A h₀ L env target body Q E it s₂) E s := by
  have hsm := small_one (a := a) (b := b) (by omega) (by omega) (by omega) (by omega)
  have hn' : Builtin.Range.rangeSize a b 1 = ((n : Nat) : Int) := by rw [rangeSize_nat, hn]
  refine wpAny_pyIter_range hr hsm ?_
  have W := Walks.range (prog := prog) (w := w) hh s.heap.objs.size a 1 n
  refine ⟨_, _, _, n, _, _, m₀, news, (fun i m nx => SameT stored m₀ m ∧ J i m nx), rfl, W, ?_, ?_, ?_, (by show IsRangeIter _ _ _ _ _; rw [hn']; simpa using Heap.get?_push_size _ rfl), F.push _, (fun p hp => ⟨Heap.get?_push_of_some _ (N p hp).1, (N p hp).2⟩), ⟨fun _ _ => rfl, hj⟩, ?_, ?_⟩
  · intro hm
    exact absurd F.ns.lt ((List.mem_singleton.mp hm) ▸ Nat.lt_irrefl _)
  · intro b hb
    rw [List.mem_singleton.mp hb]
    exact next_is_new F
  · intro p hp hI
    exact absurd (Heap.lt_size (N p hp).1) ((List.mem_singleton.mp hI) ▸ Nat.lt_irrefl _)
  · rintro i v m₁ news₁ s₁ own ⟨hh', tk', rfl⟩ hin hP ⟨hs, hJ⟩ hoff hown hget hin' hst F₁ N₁
    obtain ⟨t, rfl⟩ := hP
    have heI : hh'.get? s.heap.objs.size = some _ := hst
    have hIown := hin' _ (by simp) (next_is_new F) _ heI
    have hoffI : Off s.heap.objs.size news₁ := Off.of fun p hp q => hoff p hp (List.mem_singleton.mpr q)
    generalize hoI : ({ cls := .type "range_iterator", data := .fields #[rawInt (a + ((i + 1 : Nat) : Int) * 1), rawInt ((n : Int) - ((i + 1 : Nat) : Int)), rawInt 1] } : Obj) = oI at heI hIown
    rw [over_T hs] at F₁
    rw [Int.mul_one]
    refine wpAny_mono (turn i t m₁ news₁ s.heap.objs.size oI hh' tk' hin hJ hoffI F₁ (fun p hp => by
      rcases List.mem_cons.mp hp with rfl | hp
      · exact N₁ _ (List.mem_append_left _ hIown)
      · exact N₁ _ (List.mem_append_right _ hp))) (fun _ s₂ h₂ => wpAny_mono h₂ (fun f s₃ p => ?_) fun _ _ e => e) fun _ _ e => e
    have fin : TurnEnd h₀ L s.heap.objs.size oI (fun m' nx => SameT stored m₀ m' ∧ J (i + 1) m' nx) { s with heap := hh', toks := tk' } s₃ → LoopStepU h₀ L [s.heap.objs.size] own (fun m nx => SameT stored m₀ m ∧ J (i + 1) m nx) { s with heap := hh', toks := tk' } .next s₃ := by
      rintro ⟨h', tk, m', nx, e, F', N', hoff', hj'⟩
      refine ⟨rfl, h', tk, m', nx, e, F', fun p hp => ?_, fun p hp q => hoff'.mem p hp (List.mem_singleton.mp q), hj'⟩
      rcases List.mem_append.mp hp with hp | hp
      · have hg := hget p hp
        have h1 := List.mem_singleton.mp (hown p hp)
        obtain ⟨a, o⟩ := p
        dsimp only at h1 hg
        subst h1
        have e9 : o = oI := by
          have := heI.symm.trans hg
          exact (Option.some.inj this).symm
        rw [e9]
        exact N' _ List.mem_cons_self
      · exact N' p (List.mem_cons_of_mem _ hp)
    cases f with
    | ret v => exact .ret p
    | brk => exact .brk p
    | next => exact .next (fin p)
    | cont => exact .cont (fin p)
  · rintro h' tk m' news' F' N' _ ⟨hs, hJ⟩
    rw [over_T hs] at F'
    exact done m' news' h' tk hJ F' N'

end

theorem strs_pd : ∀ {xs : List Str} {vs : List Value}, Pd StrV xs vs → StrsAre vs xs
  | _, _, .nil => .nil
  | _, _, .cons ⟨_, e⟩ h => by rw [e]; exact .cons _ _ (strs_pd h)
theorem pd_strs : ∀ {vs : List Value} {xs : List Str}, StrsAre vs xs → Pd StrV xs vs
  | _, _, .nil => .nil
  | _, _, .cons _ t h => .cons ⟨t, rfl⟩ (pd_strs h)
section
variable {prog : Program} {w : World} {A : Around} {E : Value → Shared → Prop} {s : Shared} {g : Heap} {L D : Addr} {m : Str → Option Value} {its : Array Value} {xs : List Str} {k : Str} {t : Tok} {Q : Value → Shared → Prop}
theorem in_b (hl : g.IsList D its) (F : Fr g L s.heap m) (hi : Pd StrV xs its.toList) (h : Q (.bool (xs.any (· == k))) s) : wpAny (model prog w) A (compareOp .In (.str k t) (.ref D)) Q E s :=
  in_list_strs (vs := its.toList) (by rw [Array.toArray_toList]; exact at_up hl F) (strs_pd hi) h
end

section
variable {h₀ h h' : Heap} {L D : Addr} {m : Str → Option Value} {news : List (Addr × Obj)} {o : Obj}
theorem after_keep (F : Fr h₀ L h m) (N : News h₀ L h news) (k : ∀ b o, h.get? b = some o → h'.get? b = some o) : Fr h₀ L h' m ∧ News h₀ L h' news := ⟨F.keeps k, N.grown k⟩
end
section
variable {prog : Program} {w : World} {A : Around} {E : Value → Shared → Prop} {s : Shared} {env : Env} {h₀ : Heap} {L : Addr} {target : Expr} {body : List Stmt} {Q : Flow → Shared → Prop}
end
section
variable {prog : Program} {w : World} {A : Around} {E : Value → Shared → Prop} {s : Shared} {h₀ : Heap} {L D : Addr} {m : Str → Option Value} {news : List (Addr × Obj)} {vs : List Value} {n : Nat} {k : Int} {j : Nat} {t : Tok} {v : Value} {Q : Value → Shared → Prop}
theorem tail_l {value slice : PySem.Expr} (N : News h₀ L s.heap news) (hm : (D, listOf vs.toArray n) ∈ news) (hx : vs[j]? = some v) (hk : k = (j : Int)) (hj : (j : Int) < 1000000) (h : Q v s)
    (hs : subscripted slice false (.ref D) (.int k t) = operate [.ref D, .int k t] (getItem (.ref D) (.int k t)) := by with_unfolding_all rfl) :
    wpAny (model prog w) A (subscriptTail value slice (.ref D) (.int k t)) Q E s :=
  tail_at (is_l N hm) (by omega) (by omega) (by rw [hk, Int.toNat_natCast]; simpa using hx) h hs
theorem tail_pd {value slice : PySem.Expr} {α : Type} {F : α → Value → Prop} {as : List α} {a : α} (N : News h₀ L s.heap news) (hm : (D, listOf vs.toArray n) ∈ news) (hp : Pd F as vs) (ha : as[j]? = some a) (hk : k = (j : Int)) (hj : (j : Int) < 1000000) (h : ∀ v, F a v → Q v s)
    (hs : subscripted slice false (.ref D) (.int k t) = operate [.ref D, .int k t] (getItem (.ref D) (.int k t)) := by with_unfolding_all rfl) :
    wpAny (model prog w) A (subscriptTail value slice (.ref D) (.int k t)) Q E s := by
  obtain ⟨v, hv, hF⟩ := pd_get hp j a ha
  exact tail_l N hm hv hk hj (h v hF) hs
end

section
variable {prog : Program} {w : World} {A : Around} {E : Value → Shared → Prop} {s : Shared} {h₀ : Heap} {L l : Addr} {m : Str → Option Value} {news : List (Addr × Obj)} {n : Nat} {xs : List Value} {Q : Value → Shared → Prop} {value slice : PySem.Expr} {k : Int} {t : Tok}
end

theorem pd_take {α : Type} {F : α → Value → Prop} : ∀ {as : List α} {vs : List Value}, Pd F as vs → ∀ n, Pd F (as.take n) (vs.take n)
  | _, _, .nil, n => by simp; exact .nil
  | _, _, .cons h t, 0 => by simp; exact .nil
  | _, _, .cons h t, n + 1 => .cons h (pd_take t n)
theorem pd_drop {α : Type} {F : α → Value → Prop} : ∀ {as : List α} {vs : List Value}, Pd F as vs → ∀ n, Pd F (as.drop n) (vs.drop n)
  | _, _, .nil, n => by simp; exact .nil
  | _, _, .cons h t, 0 => .cons h t
  | _, _, .cons h t, n + 1 => pd_drop t n
section
variable {prog : Program} {w : World} {A : Around} {E : Value → Shared → Prop} {s : Shared} {env : Env} {h₀ : Heap} {L : Addr} {target : Expr} {body : List Stmt} {Q Q' : Flow → Shared → Prop}
end

section
variable {prog : Program} {w : World} {A : Around} {E : Value → Shared → Prop} {s : Shared} {env : Env} {h₀ : Heap} {L : Addr} {target : Expr} {body : List Stmt} {Q : Flow → Shared → Prop}
end
theorem tw_all {l : List Nat} {c : Nat} (h : c ∉ l) : l.takeWhile (· != c) = l := by
  induction l with
  | nil => rfl
  | cons a r ih =>
    simp only [List.mem_cons, not_or] at h
    rw [List.takeWhile_cons_of_pos (by simpa using Ne.symm h.1), ih h.2]
section
variable {prog : Program} {w : World} {A : Around} {E : Value → Shared → Prop} {s : Shared} {env : Env} {h₀ : Heap} {L : Addr} {target : Expr} {body : List Stmt} {Q : Flow → Shared → Prop}
end
end Mine
end
section
namespace Mine
open PySem.Calls PySem.Spec
section
variable {prog : Program} {w : World} {A : Around} {E : Value → Shared → Prop} {s : Shared} {env : Env} {h₀ : Heap} {L : Addr} {target : Expr} {body : List Stmt} {Q : Flow → Shared → Prop}
/-- a while by an invariant J (measure, names' map, ledger); only the stored names turn -/
theorem while_T (stored : List Str) {test : Expr} {pos : Pos} {m₀ : Str → Option Value} {news : List (Addr × Obj)} (J : Nat → (Str → Option Value) → List (Addr × Obj) → Prop) {n₀ : Nat}
    (F : Fr h₀ L s.heap m₀) (N : News h₀ L s.heap news) (hJ : J n₀ m₀ news)
    (turn : ∀ n u nw h tk, J n u nw → Fr h₀ L h (over u m₀ stored) → News h₀ L h nw →
      wpAny (model prog w) A (isTrue test env (eval test env)) (fun b s₂ =>
        if b = true then wpAny (model prog w) A (execs body env) (WhileStep2 h₀ L s (fun n' m' nx => SameT stored m₀ m' ∧ J n' m' nx) Q n) E s₂ else Q .next s₂) E { s with heap := h, toks := tk })
    (hE : PassesOwn (model prog w) A env E := by passes_own) :
    wpAny (model prog w) A (exec (.While test body [] pos) env) Q E s := by
  refine While_inv2 (fun n m nx => SameT stored m₀ m ∧ J n m nx) F N ⟨fun _ _ => rfl, hJ⟩ ?_ hE
  rintro n u nw h tk F₁ N₁ ⟨hs, hJ'⟩
  rw [over_T hs] at F₁
  exact turn n u nw h tk hJ' F₁ N₁
end
section
variable {prog : Program} {w : World} {A : Around} {E : Value → Shared → Prop} {s : Shared} {h₀ : Heap} {L l : Addr} {m : Str → Option Value} {news : List (Addr × Obj)} {Q : Value → Shared → Prop} {value slice : PySem.Expr} {k : Int} {t : Tok} {its : Array Value}
end
end Mine
end
section
namespace Mine
open PySem.Calls PySem.Spec
section
variable {prog : Program} {w : World} {A : Around} {E : Value → Shared → Prop} {s : Shared} {env : Env} {h₀ : Heap} {L : Addr} {target : Expr} {body : List Stmt} {Q : Flow → Shared → Prop}
/-- over range(a, b): a turn's number by its bounds -/
theorem forT_rng (stored : List Str) {r : Addr} {a b : Int} {t u v : Tok} {m₀ : Str → Option Value} {news : List (Addr × Obj)} (J : Nat → (Str → Option Value) → List (Addr × Obj) → Prop)
    (hh : A.handled = none) (hr : IsRange s.heap r a b 1 t u v) (ha : -1000000 ≤ a ∧ a ≤ 1000000) (hb : -1000000 ≤ b ∧ b ≤ 1000000)
    (F : Fr h₀ L s.heap m₀) (N : News h₀ L s.heap news) (hj : J 0 m₀ news)
    (turn : ∀ (i : Nat) (k : Int) (t : Tok) u nw I oI h tk, k = a + (i : Int) → a ≤ k → k < b → J i u nw → Off I nw → Fr h₀ L h (over u m₀ stored) → News h₀ L h ((I, oI) :: nw) →
      wpAny (model prog w) A (assign target env (.int k t)) (fun _ s₂ => wpAny (model prog w) A (execs body env) (TurnPost h₀ L I oI (fun m' nx => SameT stored m₀ m' ∧ J (i + 1) m' nx) { s with heap := h, toks := tk } Q) E s₂) E { s with heap := h, toks := tk })
    (done : ∀ u nw h tk, J (b - a).toNat u nw → Fr h₀ L h (over u m₀ stored) → News h₀ L h nw → Q .next { s with heap := h, toks := tk }) :
    wpAny (model prog w) A (pyIter (.ref r)) (fun it s₂ => LoopAtT prog w A h₀ L env target body Q E it s₂) E s :=
  forT_count stored _ J hh hr rfl ha hb F N hj (fun i t u nw I oI h tk hi hJ ho F₁ N₁ => turn i _ t u nw I oI h tk rfl (by omega) (by omega) hJ ho F₁ N₁) done
end
section
variable {prog : Program} {w : World} {A : Around} {E : Value → Shared → Prop} {s : Shared} {h₀ : Heap} {L l : Addr} {m : Str → Option Value} {news : List (Addr × Obj)} {Q : Value → Shared → Prop} {value slice : PySem.Expr} {a b : Int} {t u : Tok} {its : Array Value}
theorem pick_part (xs : List Value) (ha : 0 ≤ a) (hab : a ≤ b) : kms_pick xs (some a) (some b) = (xs.drop a.toNat).take (b - a).toNat := by
  unfold kms_pick kms_lo kms_hi
  have h1 : ¬ (a < 0) := by omega
  have h2 : ¬ (b < 0) := by omega
  simp only [h1, h2, if_false]
  rcases Nat.le_total a.toNat xs.length with q | q
  · rw [Nat.min_eq_left q]
    rcases Nat.le_total b.toNat xs.length with r | r
    · rw [Nat.min_eq_left r]; congr 1; omega
    · rw [Nat.min_eq_right r, List.take_of_length_le (by rw [List.length_drop]; omega), List.take_of_length_le (by rw [List.length_drop]; omega)]
  · rw [Nat.min_eq_right q, List.drop_eq_nil_of_le (Nat.le_refl _), List.drop_eq_nil_of_le q]; simp
/-- l[a:b] of a list of the ground -/
theorem slice_p (F : Fr h₀ L s.heap m) (N : News h₀ L s.heap news) (hl : h₀.IsList l its) (h0 : 0 ≤ a) (hab : a ≤ b)
    (h : ∀ D h', Fr h₀ L h' m → News h₀ L h' ((D, W.listOf ((its.toList.drop a.toNat).take (b - a).toNat).toArray 0) :: news) → (∀ p ∈ news, p.1 < D) → Q (.ref D) { s with heap := h' })
    (hs : subscripted slice false (.ref l) (.ref s.heap.objs.size) = operate [.ref s.heap.objs.size, .ref l] (getItem (.ref l) (.ref s.heap.objs.size))) (ht : ∀ r, letTemporaryGo value (.ref l) r = pure ()) (hz : its.size ≤ sizeLine) :
    wpAny (model prog w) A (subscriptTail value slice (.ref l) (.ref s.heap.objs.size)) Q E { s with heap := s.heap.push { cls := .type "slice", data := .fields #[.int a t, .int b u, .none] } } :=
  kms_slice_lit (its := its) F N (at_up hl F) (.int _ _) (.int _ _) rfl (fun D h' F' N' l1 => h D h' F' (by rw [← pick_part _ h0 hab]; exact N') l1) hs ht hz
end
section
variable {prog : Program} {w : World} {A : Around} {E : Value → Shared → Prop} {s : Shared} {h₀ : Heap} {L D : Addr} {m : Str → Option Value} {news news' : List (Addr × Obj)} {n : Nat} {zs : List Value}
end

section
variable {prog : Program} {w : World} {A : Around} {E : Value → Shared → Prop} {s : Shared} {h₀ : Heap} {L D : Addr} {m : Str → Option Value} {news news' : List (Addr × Obj)} {n : Nat} {zs : List Value}
end
end Mine
end
section
namespace Mine
open PySem.Calls PySem.Spec
section
variable {prog : Program} {w : World} {A : Around} {s : Shared} {env : Env} {h₀ : Heap} {L : Addr}
theorem codeAny_forK {R : Result → Shared → Prop} {target : Expr} {body : List Stmt} {I : Addr} {fp wr : List Addr} {n : Nat} {P : Nat → Value → Prop} {St : Nat → Heap → Prop} {m : Str → Option Value}
    {news : List (Addr × Obj)} (W : Walks prog w A I fp wr n P St) (hLf : L ∉ fp) (hwr : ∀ b ∈ wr, h₀.get? b = none) (hnw : ∀ p ∈ news, p.1 ∉ wr)
    (hst : St 0 s.heap) (F : Fr h₀ L s.heap m) (N : News h₀ L s.heap news)
    (J : Nat → (Str → Option Value) → List (Addr × Obj) → Prop) (h0 : J 0 m news)
    (step : ∀ i v m₁ news₁ s₁ own, (∃ h tk, s.toks ≤ tk ∧ s₁ = { s with heap := h, toks := tk }) → i < n → P i v → J i m₁ news₁ → (∀ p ∈ news₁, p.1 ∉ wr) → (∀ p ∈ own, p.1 ∈ fp) → (∀ p ∈ own, s₁.heap.get? p.1 = some p.2) → (∀ b ∈ fp, h₀.get? b = none → ∀ o, s₁.heap.get? b = some o → (b, o) ∈ own) → St (i + 1) s₁.heap →
      Fr h₀ L s₁.heap m₁ → News h₀ L s₁.heap (own ++ news₁) →
      wpAny (model prog w) A (assign target env v) (fun _ s₂ => wpAny (model prog w) A (execs body env) (LoopStepV h₀ L wr own (J (i + 1)) s₁ (fun v s' => R (.ok (.ret v)) s') fun s' => R (.ok .next) s') (notedBy (model prog w) A env fun e s' => R (.error e) s') s₂) (notedBy (model prog w) A env fun e s' => R (.error e) s') s₁)
    (hR : ∀ h' tk m' news', s.toks ≤ tk → Fr h₀ L h' m' → News h₀ L h' news' → (∀ p ∈ news', p.1 ∉ wr) → J n m' news' → R (.ok .next) { s with heap := h', toks := tk })
    (ht : ∀ v, letOwnedTupleGo target (.ref I) v = pure ()) :
    codeAny (model prog w) A (.forLoop target (.ref I) body [] env) R s := by
  have hLw : L ∉ wr := fun h => hLf (W.sub _ h)
  have old : ∀ b o, h₀.get? b = some o → b ∉ wr := fun b o e hb => by rw [hwr b hb] at e; cases e
  refine codeAny_forLoop
    (fun k s' => ∃ h' tk m' news' i, s.toks ≤ tk ∧ s' = { s with heap := h', toks := tk } ∧ St i h' ∧ Fr h₀ L h' m' ∧ News h₀ L h' news' ∧ (∀ p ∈ news', p.1 ∉ wr) ∧ J i m' news' ∧ i ≤ n ∧ k = n + 1 - i) ?_ (n + 1)
    ⟨s.heap, s.toks, m, news, 0, Nat.le_refl _, rfl, hst, F, N, hnw, h0, Nat.zero_le _, rfl⟩ ht
  rintro k s' ⟨h', tk, m', news', i, htk, rfl, hst', F', N', hnw', hJ, hi, rfl⟩
  have next : ∀ h₁ : Heap, (∀ b o, b ∉ wr → h'.get? b = some o → h₁.get? b = some o) → Fr h₀ L h₁ m' ∧ News h₀ L h₁ news' := fun h₁ hk₁ =>
    ⟨⟨F'.ns.at' fun o e => hk₁ _ o hLw e, fun b o e => hk₁ b o (old b o e) (F'.keep b o e), F'.above⟩, fun p hp => ⟨hk₁ _ _ (hnw' p hp) (N' p hp).1, (N' p hp).2⟩⟩
  by_cases hlt : i < n
  · refine wpAny_with_toks (n := s.toks) htk (W.item i _ _ _ hlt hst' fun v h₁ tk₁ hP hst₁ hk₁ => fun htk₁ => ?_)
    have htk₁ : s.toks ≤ tk₁ := htk₁
    obtain ⟨F₁, N₁⟩ := next h₁ hk₁
    have Nown : News h₀ L h₁ (ownOf h₀ fp h₁) := news_ownOf hLf
    have hstep := step i v m' news' _ (ownOf h₀ fp h₁) ⟨_, _, htk₁, rfl⟩ hlt hP hJ hnw' ownOf_sub (fun p hp => (Nown p hp).1) (fun b hb hn o e => mem_ownOf hb hn e) hst₁ F₁ (Nown.append N₁)
    refine wpAny_mono (wpAny_toks_of (n := s.toks) htk₁ hstep) (fun _ s₂ ⟨hk2, h₂⟩ => wpAny_mono (wpAny_toks_of hk2 h₂) (fun f s₃ ⟨hk3, h₃⟩ => ?_) fun e' s9 ⟨hk9, e⟩ => e) fun e' s9 ⟨hk9, e⟩ => e
    have fin : LoopStepU h₀ L wr (ownOf h₀ fp h₁) (J (i + 1)) { s with heap := h₁, toks := tk₁ } .next s₃ → ∃ m, m < n + 1 - i ∧ ∃ h' tk m' news' i, s.toks ≤ tk ∧ s₃ = { s with heap := h', toks := tk } ∧ St i h' ∧ Fr h₀ L h' m' ∧ News h₀ L h' news' ∧ (∀ p ∈ news', p.1 ∉ wr) ∧ J i m' news' ∧ i ≤ n ∧ m = n + 1 - i := by
      rintro ⟨_, h₃', tk₃, m₂, news₂, rfl, F₃, N₃, ha₃, hJ₃⟩
      refine ⟨n + 1 - (i + 1), by omega, h₃', tk₃, m₂, news₂, i + 1, hk3, rfl, ?_, F₃, N₃.right, ha₃, hJ₃, hlt, rfl⟩
      refine W.frame _ _ _ hst₁ fun b hb o e => ?_
      cases hn : h₀.get? b with
      | some o₀ =>
        have : o₀ = o := by have := F₁.keep b o₀ hn; rw [e] at this; exact (Option.some.inj this).symm
        exact this ▸ F₃.keep b o₀ hn
      | none => exact (N₃ _ (List.mem_append_left _ (mem_ownOf hb hn e))).1
    cases f with
    | ret v => exact h₃
    | brk => exact h₃
    | cont => exact fin h₃
    | next => exact fin h₃
  · have hin : i = n := by omega
    subst hin
    refine wpAny_with_toks (n := s.toks) htk (W.done _ _ _ hst' fun h₁ tk₁ hk₁ => fun htk₁ => wpAny_execs_nil ?_)
    have htk₁ : s.toks ≤ tk₁ := htk₁
    obtain ⟨F₁, N₁⟩ := next h₁ hk₁
    exact hR h₁ tk₁ m' news' htk₁ F₁ N₁ hnw' hJ

def LoopAtK (prog : Program) (w : World) (A : Around) (h₀ : Heap) (L : Addr) (env : Env) (target : Expr) (body : List Stmt) (Q : Flow → Shared → Prop) (E : Value → Shared → Prop) (it : Value) (s₂ : Shared) : Prop :=
  ∃ (I : Addr) (fp wr : List Addr) (n : Nat) (P : Nat → Value → Prop) (St : Nat → Heap → Prop) (m : Str → Option Value) (news : List (Addr × Obj)) (J : Nat → (Str → Option Value) → List (Addr × Obj) → Prop),
    it = .ref I ∧ Walks prog w A I fp wr n P St ∧ L ∉ fp ∧ (∀ b ∈ wr, h₀.get? b = none) ∧ (∀ p ∈ news, p.1 ∉ wr) ∧ St 0 s₂.heap ∧ Fr h₀ L s₂.heap m ∧ News h₀ L s₂.heap news ∧ J 0 m news ∧
    (∀ i v m₁ news₁ s₁ own, (∃ h tk, s₂.toks ≤ tk ∧ s₁ = { s₂ with heap := h, toks := tk }) → i < n → P i v → J i m₁ news₁ → (∀ p ∈ news₁, p.1 ∉ wr) → (∀ p ∈ own, p.1 ∈ fp) → (∀ p ∈ own, s₁.heap.get? p.1 = some p.2) → (∀ b ∈ fp, h₀.get? b = none → ∀ o, s₁.heap.get? b = some o → (b, o) ∈ own) → St (i + 1) s₁.heap →
      Fr h₀ L s₁.heap m₁ → News h₀ L s₁.heap (own ++ news₁) →
      wpAny (model prog w) A (assign target env v) (fun _ s₃ => wpAny (model prog w) A (execs body env) (LoopStepV h₀ L wr own (J (i + 1)) s₁ (fun v s' => Q (.ret v) s') fun s' => Q .next s') E s₃) E s₁) ∧
    ∀ h' tk m' news', s₂.toks ≤ tk → Fr h₀ L h' m' → News h₀ L h' news' → (∀ p ∈ news', p.1 ∉ wr) → J n m' news' → Q .next { s₂ with heap := h', toks := tk }

theorem For_K {E : Value → Shared → Prop} {Q : Flow → Shared → Prop} {target : Expr} {pos : Pos} {iter : Expr} {body : List Stmt} {m : Str → Option Value} (_F : Fr h₀ L s.heap m)
    (ht : ∀ it v, letOwnedTupleGo target it v = pure ())
    (h : wpAny (model prog w) A (eval iter env) (fun xv s₁ => wpAny (model prog w) A (pyIter xv) (fun it s₂ => LoopAtK prog w A h₀ L env target body Q E it s₂) E s₁) E s)
    (hs : ∀ x, foldedSetIterable iter env x = pure x := by intro _; rfl)
    (hE : PassesOwn (model prog w) A env E := by passes_own) :
    wpAny (model prog w) A (exec (.For target iter body [] pos) env) Q E s := by
  refine wpAny_For (wpAny_mono h (fun xv s₁ h₁ => wpAny_mono h₁ (fun it s₂ h₂ => ?_) fun _ _ e => e) fun _ _ e => e) hs
  obtain ⟨I, fp, wr, n, P, St, m, news, J, rfl, W, hLf, hwr, hnw, hst, F, N, h0, step, hQ⟩ := h₂
  refine codeAny_forK (R := fun r s' => match r with | .ok f => Q f s' | .error e => cameBackBy (model prog w) A env E e s') W hLf hwr hnw hst F N J h0 ?_ hQ (ht _)
  intro i v m₁ news₁ s₁ own a b c d e f g k st F₁ N₁
  exact wpAny_passesOwn hE (wpAny_mono (step i v m₁ news₁ s₁ own a b c d e f g k st F₁ N₁) (fun _ s₃ h₃ => wpAny_passesOwn hE h₃) fun _ _ e => e)
end
section
variable {prog : Program} {w : World} {A : Around} {E : Value → Shared → Prop} {s : Shared} {env : Env} {h₀ : Heap} {L : Addr} {target : Expr} {body : List Stmt} {Q : Flow → Shared → Prop}
theorem forK_list (stored : List Str) {l : Addr} {its : Array Value} {m₀ : Str → Option Value} {news : List (Addr × Obj)} (J : Nat → (Str → Option Value) → List (Addr × Obj) → Prop)
    (hh : A.handled = none) (src : h₀.IsList l its ∨ ∃ ol k, ol.cls = .type "list" ∧ ol.data = .seq its k ∧ ∀ i m nx, J i m nx → (l, ol) ∈ nx)
    (F : Fr h₀ L s.heap m₀) (N : News h₀ L s.heap news) (hj : J 0 m₀ news)
    (turn : ∀ i v u nw I oI h tk, its[i]? = some v → J i u nw → Off I nw → s.toks ≤ tk → Fr h₀ L h (over u m₀ stored) → News h₀ L h ((I, oI) :: nw) →
      wpAny (model prog w) A (assign target env v) (fun _ s₂ => wpAny (model prog w) A (execs body env) (TurnPost h₀ L I oI (fun m' nx => SameT stored m₀ m' ∧ J (i + 1) m' nx) { s with heap := h, toks := tk } Q) E s₂) E { s with heap := h, toks := tk })
    (done : ∀ u nw h tk, J its.size u nw → s.toks ≤ tk → Fr h₀ L h (over u m₀ stored) → News h₀ L h nw → Q .next { s with heap := h, toks := tk }) :
    wpAny (model prog w) A (pyIter (.ref l)) (fun it s₂ => LoopAtK prog w A h₀ L env target body Q E it s₂) E s := by
  have hls : s.heap.IsList l its := by
    rcases src with hl | ⟨ol, k, hc, hd, hm⟩
    · exact hl.at fun o e => F.keep l o e
    · exact ⟨ol, (N _ (hm _ _ _ hj)).1, hc, k, hd⟩
  obtain ⟨ol', hol, _⟩ := id hls
  have hlt : l < s.heap.objs.size := Heap.lt_size hol
  have hne : l ≠ s.heap.objs.size := Nat.ne_of_lt hlt
  have hLl : L ≠ l := by
    rcases src with hl | ⟨ol, k, hc, hd, hm⟩
    · obtain ⟨o, e, _⟩ := hl
      exact fun q => absurd (Nat.lt_of_lt_of_le (Heap.lt_size e) F.above) (q ▸ Nat.lt_irrefl _)
    · exact fun q => (N _ (hm _ _ _ hj)).2.1 q.symm
  refine wpAny_pyIter_list hls ?_
  have W := Walks.list (prog := prog) (w := w) hh s.heap.objs.size l hne its
  refine ⟨_, _, _, its.size, _, _, m₀, news, (fun i m nx => SameT stored m₀ m ∧ J i m nx), rfl, W, ?_, ?_, ?_, ⟨⟨_, Heap.get?_push_size _ rfl, rfl, rfl⟩, hls.at fun o e => Heap.get?_push_of_some _ e⟩, F.push _, (fun p hp => ⟨Heap.get?_push_of_some _ (N p hp).1, (N p hp).2⟩), ⟨fun _ _ => rfl, hj⟩, ?_, ?_⟩
  · intro hm
    rcases List.mem_cons.mp hm with e | hm
    · exact absurd F.ns.lt (e ▸ Nat.lt_irrefl _)
    · exact hLl (List.mem_singleton.mp hm)
  · intro b hb
    rw [List.mem_singleton.mp hb]
    exact next_is_new F
  · intro p hp hI
    exact absurd (Heap.lt_size (N p hp).1) ((List.mem_singleton.mp hI) ▸ Nat.lt_irrefl _)
  · rintro i v m₁ news₁ s₁ own ⟨hh', tk', htk, rfl⟩ hin hP ⟨hs, hJ⟩ hoff hown hget hin' hst F₁ N₁
    obtain ⟨oI, heI, _⟩ := hst.1
    have hIown : (s.heap.objs.size, oI) ∈ own := hin' _ (by simp) (next_is_new F) oI heI
    have hoffI : Off s.heap.objs.size news₁ := Off.of fun p hp q => hoff p hp (List.mem_singleton.mpr q)
    rw [over_T hs] at F₁
    refine wpAny_mono (turn i v m₁ news₁ _ oI hh' tk' hP hJ hoffI htk F₁ (fun p hp => by
      rcases List.mem_cons.mp hp with rfl | hp
      · exact N₁ _ (List.mem_append_left _ hIown)
      · exact N₁ _ (List.mem_append_right _ hp))) (fun _ s₂ h₂ => wpAny_mono h₂ (fun f s₃ p => ?_) fun _ _ e => e) fun _ _ e => e
    have fin : TurnEnd h₀ L s.heap.objs.size oI (fun m' nx => SameT stored m₀ m' ∧ J (i + 1) m' nx) { s with heap := hh', toks := tk' } s₃ → LoopStepU h₀ L [s.heap.objs.size] own (fun m nx => SameT stored m₀ m ∧ J (i + 1) m nx) { s with heap := hh', toks := tk' } .next s₃ := by
      rintro ⟨h', tk, m', nx, e, F', N', hoff', hj'⟩
      refine ⟨rfl, h', tk, m', nx, e, F', fun p hp => ?_, fun p hp q => hoff'.mem p hp (List.mem_singleton.mp q), hj'⟩
      rcases List.mem_append.mp hp with hp | hp
      · have hg := hget p hp
        have h0 := (N₁ p (List.mem_append_left _ hp)).2.2
        rcases List.mem_cons.mp (hown p hp) with h1 | h1
        · have e1 : p = (s.heap.objs.size, oI) := by
            obtain ⟨a, o⟩ := p
            dsimp only at h1 hg
            subst h1
            have := heI.symm.trans hg
            rw [Option.some.inj this]
          rw [e1]; exact N' _ List.mem_cons_self
        · have h2 : p.1 = l := List.mem_singleton.mp h1
          rcases src with hl | ⟨ol, k, hc, hd, hm⟩
          · obtain ⟨o, e, _⟩ := hl
            rw [h2, e] at h0; cases h0
          · have e1 : p = (l, ol) := by
              obtain ⟨a, o⟩ := p
              dsimp only at h2 hg
              subst h2
              have := (N₁ _ (List.mem_append_right _ (hm _ _ _ hJ))).1
              have := hg.symm.trans this
              rw [Option.some.inj this]
            rw [e1]; exact N' _ (List.mem_cons_of_mem _ (hm _ _ _ hj'.2))
      · exact N' p (List.mem_cons_of_mem _ hp)
    cases f with
    | ret v => exact .ret p
    | brk => exact .brk p
    | next => exact .next (fin p)
    | cont => exact .cont (fin p)
  · rintro h' tk m' news' htk F' N' _ ⟨hs, hJ⟩
    rw [over_T hs] at F'
    exact done m' news' h' tk hJ htk F' N'

theorem forK_pd {α : Type} {G : α → Value → Prop} {as : List α} {its : Array Value} (hi : Pd G as its.toList) (stored : List Str) {l : Addr} {m₀ : Str → Option Value} {news : List (Addr × Obj)} (J : List α → (Str → Option Value) → List (Addr × Obj) → Prop)
    (hh : A.handled = none) (src : h₀.IsList l its ∨ ∃ ol k, ol.cls = .type "list" ∧ ol.data = .seq its k ∧ ∀ pre m nx, J pre m nx → (l, ol) ∈ nx)
    (F : Fr h₀ L s.heap m₀) (N : News h₀ L s.heap news) (hj : J [] m₀ news)
    (turn : ∀ pre a post v u nw I oI h tk, as = pre ++ a :: post → G a v → J pre u nw → Off I nw → s.toks ≤ tk → Fr h₀ L h (over u m₀ stored) → News h₀ L h ((I, oI) :: nw) →
      wpAny (model prog w) A (assign target env v) (fun _ s₂ => wpAny (model prog w) A (execs body env) (TurnPost h₀ L I oI (fun m' nx => SameT stored m₀ m' ∧ J (pre ++ [a]) m' nx) { s with heap := h, toks := tk } Q) E s₂) E { s with heap := h, toks := tk })
    (done : ∀ u nw h tk, J as u nw → s.toks ≤ tk → Fr h₀ L h (over u m₀ stored) → News h₀ L h nw → Q .next { s with heap := h, toks := tk }) :
    wpAny (model prog w) A (pyIter (.ref l)) (fun it s₂ => LoopAtK prog w A h₀ L env target body Q E it s₂) E s := by
  have hl := pd_len hi
  refine forK_list stored (its := its) (fun i m nx => J (as.take i) m nx) hh (src.imp id fun ⟨ol, k, a, b, c⟩ => ⟨ol, k, a, b, fun i m nx h => c _ m nx h⟩) F N (by simpa using hj) ?_ ?_
  · intro i v u nw I oI h tk hv hJ hoff htk F₁ N₁
    obtain ⟨a, ha, hF⟩ := pd_at hi i v (by simpa using hv)
    rw [take_next ha]
    exact turn _ a _ v u nw I oI h tk (take_split ha) hF hJ hoff htk F₁ N₁
  · intro u nw h tk hJ htk F₁ N₁
    refine done u nw h tk ?_ htk F₁ N₁
    have e : as.take its.size = as := List.take_of_length_le (by rw [hl]; simp)
    rwa [e] at hJ
theorem forK_step (stored : List Str) {r : Addr} {a b c : Int} {t u v : Tok} (n : Nat) {m₀ : Str → Option Value} {news : List (Addr × Obj)} (J : Nat → (Str → Option Value) → List (Addr × Obj) → Prop)
    (hh : A.handled = none) (hr : IsRange s.heap r a b c t u v) (hsm : Builtin.Range.small a b c = true) (hn' : Builtin.Range.rangeSize a b c = ((n : Nat) : Int))
    (F : Fr h₀ L s.heap m₀) (N : News h₀ L s.heap news) (hj : J 0 m₀ news)
    (turn : ∀ (i : Nat) (t : Tok) u nw I oI h tk, i < n → J i u nw → Off I nw → s.toks ≤ tk → Fr h₀ L h (over u m₀ stored) → News h₀ L h ((I, oI) :: nw) →
      wpAny (model prog w) A (assign target env (.int (a + (i : Int) * c) t)) (fun _ s₂ => wpAny (model prog w) A (execs body env) (TurnPost h₀ L I oI (fun m' nx => SameT stored m₀ m' ∧ J (i + 1) m' nx) { s with heap := h, toks := tk } Q) E s₂) E { s with heap := h, toks := tk })
    (done : ∀ u nw h tk, J n u nw → s.toks ≤ tk → Fr h₀ L h (over u m₀ stored) → News h₀ L h nw → Q .next { s with heap := h, toks := tk }) :
    wpAny (model prog w) A (pyIter (.ref r)) (fun it s₂ => LoopAtK prog w A h₀ L env target body Q E it s₂) E s := by
  refine wpAny_pyIter_range hr hsm ?_
  have W := Walks.range (prog := prog) (w := w) hh s.heap.objs.size a c n
  refine ⟨_, _, _, n, _, _, m₀, news, (fun i m nx => SameT stored m₀ m ∧ J i m nx), rfl, W, ?_, ?_, ?_, (by show IsRangeIter _ _ _ _ _; rw [hn']; simpa using Heap.get?_push_size _ rfl), F.push _, (fun p hp => ⟨Heap.get?_push_of_some _ (N p hp).1, (N p hp).2⟩), ⟨fun _ _ => rfl, hj⟩, ?_, ?_⟩
  · intro hm
    exact absurd F.ns.lt ((List.mem_singleton.mp hm) ▸ Nat.lt_irrefl _)
  · intro b hb
    rw [List.mem_singleton.mp hb]
    exact next_is_new F
  · intro p hp hI
    exact absurd (Heap.lt_size (N p hp).1) ((List.mem_singleton.mp hI) ▸ Nat.lt_irrefl _)
  · rintro i v m₁ news₁ s₁ own ⟨hh', tk', htk, rfl⟩ hin hP ⟨hs, hJ⟩ hoff hown hget hin' hst F₁ N₁
    obtain ⟨t, rfl⟩ := hP
    have heI : hh'.get? s.heap.objs.size = some _ := hst
    have hIown := hin' _ (by simp) (next_is_new F) _ heI
    have hoffI : Off s.heap.objs.size news₁ := Off.of fun p hp q => hoff p hp (List.mem_singleton.mpr q)
    generalize hoI : ({ cls := .type "range_iterator", data := .fields #[rawInt (a + ((i + 1 : Nat) : Int) * c), rawInt ((n : Int) - ((i + 1 : Nat) : Int)), rawInt c] } : Obj) = oI at heI hIown
    rw [over_T hs] at F₁
    refine wpAny_mono (turn i t m₁ news₁ s.heap.objs.size oI hh' tk' hin hJ hoffI htk F₁ (fun p hp => by
      rcases List.mem_cons.mp hp with rfl | hp
      · exact N₁ _ (List.mem_append_left _ hIown)
      · exact N₁ _ (List.mem_append_right _ hp))) (fun _ s₂ h₂ => wpAny_mono h₂ (fun f s₃ p => ?_) fun _ _ e => e) fun _ _ e => e
    have fin : TurnEnd h₀ L s.heap.objs.size oI (fun m' nx => SameT stored m₀ m' ∧ J (i + 1) m' nx) { s with heap := hh', toks := tk' } s₃ → LoopStepU h₀ L [s.heap.objs.size] own (fun m nx => SameT stored m₀ m ∧ J (i + 1) m nx) { s with heap := hh', toks := tk' } .next s₃ := by
      rintro ⟨h', tk, m', nx, e, F', N', hoff', hj'⟩
      refine ⟨rfl, h', tk, m', nx, e, F', fun p hp => ?_, fun p hp q => hoff'.mem p hp (List.mem_singleton.mp q), hj'⟩
      rcases List.mem_append.mp hp with hp | hp
      · have hg := hget p hp
        have h1 := List.mem_singleton.mp (hown p hp)
        obtain ⟨a, o⟩ := p
        dsimp only at h1 hg
        subst h1
        have e9 : o = oI := by
          have := heI.symm.trans hg
          exact (Option.some.inj this).symm
        rw [e9]
        exact N' _ List.mem_cons_self
      · exact N' p (List.mem_cons_of_mem _ hp)
    cases f with
    | ret v => exact .ret p
    | brk => exact .brk p
    | next => exact .next (fin p)
    | cont => exact .cont (fin p)
  · rintro h' tk m' news' htk F' N' _ ⟨hs, hJ⟩
    rw [over_T hs] at F'
    exact done m' news' h' tk hJ htk F' N'

theorem forK_rng (stored : List Str) {r : Addr} {a b : Int} {t u v : Tok} {m₀ : Str → Option Value} {news : List (Addr × Obj)} (J : Nat → (Str → Option Value) → List (Addr × Obj) → Prop)
    (hh : A.handled = none) (hr : IsRange s.heap r a b 1 t u v) (ha : -1000000 ≤ a ∧ a ≤ 1000000) (hb : -1000000 ≤ b ∧ b ≤ 1000000)
    (F : Fr h₀ L s.heap m₀) (N : News h₀ L s.heap news) (hj : J 0 m₀ news)
    (turn : ∀ (i : Nat) (k : Int) (t : Tok) u nw I oI h tk, k = a + (i : Int) → a ≤ k → k < b → J i u nw → Off I nw → s.toks ≤ tk → Fr h₀ L h (over u m₀ stored) → News h₀ L h ((I, oI) :: nw) →
      wpAny (model prog w) A (assign target env (.int k t)) (fun _ s₂ => wpAny (model prog w) A (execs body env) (TurnPost h₀ L I oI (fun m' nx => SameT stored m₀ m' ∧ J (i + 1) m' nx) { s with heap := h, toks := tk } Q) E s₂) E { s with heap := h, toks := tk })
    (done : ∀ u nw h tk, J (b - a).toNat u nw → s.toks ≤ tk → Fr h₀ L h (over u m₀ stored) → News h₀ L h nw → Q .next { s with heap := h, toks := tk }) :
    wpAny (model prog w) A (pyIter (.ref r)) (fun it s₂ => LoopAtK prog w A h₀ L env target body Q E it s₂) E s :=
  forK_step stored _ J hh hr (small_one (by omega) (by omega) (by omega) (by omega)) (rangeSize_nat a b) F N hj (fun i t u nw I oI h tk hi hJ ho htk F₁ N₁ => by
    rw [Int.mul_one]
    exact turn i _ t u nw I oI h tk rfl (by omega) (by omega) hJ ho htk F₁ N₁) done

end
end Mine
end
section
namespace Mine
/-- every sign of the text is a sign -/
def Good (a : Str) : Prop := ∀ c ∈ a.cps.toList, c < 0x110000
theorem strs_layAll {ns : List Str} (ho : ∀ a ∈ ns, Good a) : PyData.canLayAll0 (ns.map PyData.str) = true := by
  rw [canLayAll_strs', List.all_eq_true]
  intro a ha
  unfold PyData.strOk
  rw [Array.all_eq_true']
  intro c hc
  simpa using ho a ha c (by simpa using hc)
theorem strs_depthAll : ∀ ns : List Str, PyData.depthAll (ns.map PyData.str) = 0
  | [] => rfl
  | _ :: r => by simp [PyData.depthAll, PyData.depth, strs_depthAll r]
theorem strs_shaped {ns : List Str} (ho : ∀ a ∈ ns, Good a) : PySem.SeqAt.shaped (.list (ns.map PyData.str)) = true := by
  simp [PySem.SeqAt.shaped, PyData.canLay0, PyData.depth, strs_layAll ho, strs_depthAll]
theorem strs_sameAll : ∀ ns ms : List Str, PySem.Spec.sameAll (ns.map PyData.str) (ms.map PyData.str) = decide (ns = ms)
  | [], [] => by simp [PySem.Spec.sameAll]
  | [], _ :: _ => by simp [PySem.Spec.sameAll]
  | _ :: _, [] => by simp [PySem.Spec.sameAll]
  | a :: r, b :: t => by
    simp only [List.map_cons, PySem.Spec.sameAll, PySem.Spec.same, strs_sameAll r t]
    by_cases h : a = b <;> by_cases h' : r = t <;> simp [h, h']
theorem strs_carried : ∀ {ns : List Str} {vs : List Value}, Pd StrV ns vs → PyProof.Rows.CarriedAll vs (ns.map PyData.str)
  | _, _, .nil => .nil
  | _, _, .cons ⟨t, e⟩ r => by subst e; exact .cons (.str _ t) (strs_carried r)
/-- == of two lists of texts -/
theorem eq_strs {prog : Program} {w : World} {A : Around} {E : Value → Shared → Prop} {s : Shared} {a b : Addr} {xs ys : List Value} {ns ms : List Str} {Q : Value → Shared → Prop}
    (ha : s.heap.IsList a xs.toArray) (hb : s.heap.IsList b ys.toArray) (hi : Pd StrV ns xs) (hj : Pd StrV ms ys) (ho : ∀ a ∈ ns, Good a) (ho' : ∀ a ∈ ms, Good a) (hu : A.units + 64 < cLine) (h : Q (.bool (decide (ns = ms))) s) :
    wpAny (model prog w) A (compareOp .Eq (.ref a) (.ref b)) Q E s :=
  PyProof.Rows.eq_dataH_same (PyProof.Rows.reads_newData ha (strs_carried hi)) (PyProof.Rows.reads_newData hb (strs_carried hj)) (strs_shaped ho) (strs_shaped ho') hu (PySem.SeqAt.noMix_of_shape (.list .str) rfl _ _ (list_map_has fun _ => rfl) (list_map_has fun _ => rfl)) (by simp only [PySem.Spec.same]; rw [strs_sameAll]; exact h)
/-- != of two lists of texts -/
theorem ne_strs {prog : Program} {w : World} {A : Around} {E : Value → Shared → Prop} {s : Shared} {a b : Addr} {xs ys : List Value} {ns ms : List Str} {Q : Value → Shared → Prop}
    (ha : s.heap.IsList a xs.toArray) (hb : s.heap.IsList b ys.toArray) (hi : Pd StrV ns xs) (hj : Pd StrV ms ys) (ho : ∀ a ∈ ns, Good a) (ho' : ∀ a ∈ ms, Good a) (hu : A.units + 64 < cLine) (h : Q (.bool (!decide (ns = ms))) s) :
    wpAny (model prog w) A (compareOp .NotEq (.ref a) (.ref b)) Q E s :=
  PyProof.Rows.ne_dataH_same (PyProof.Rows.reads_newData ha (strs_carried hi)) (PyProof.Rows.reads_newData hb (strs_carried hj)) (strs_shaped ho) (strs_shaped ho') hu (PySem.SeqAt.noMix_of_shape (.list .str) rfl _ _ (list_map_has fun _ => rfl) (list_map_has fun _ => rfl)) (by simp only [PySem.Spec.same]; rw [strs_sameAll]; exact h)
end Mine
end
section
namespace Mine
/-- the name's part ahead of its first slash, in small letters -/
def token (name : Str) : Str := Txt.lower (((Txt.split name (Str.ofString "/"))[0]?).getD Str.empty)
theorem token_of {name y : Str} (e : (Txt.split name (Str.ofString "/"))[0]? = some y) : token name = Txt.lower y := by unfold token; rw [e]; rfl
def fitsOne (name a : Str) : Bool := a != Str.ofString "*" && !(Builtin.Str.occurrences (token name) (Txt.lower a) 0 (token name).length 1).isEmpty

/-- p lies in r -/
def Lies (p r : List Nat) : Prop := ∃ i, i + p.length ≤ r.length ∧ (r.drop i).take p.length = p
theorem occ_lies (x y : Str) : (!(Builtin.Str.occurrences x y 0 x.length 1).isEmpty) = true ↔ Lies y.cps.toList x.cps.toList := by
  rw [StrLaws.found_iff]
  unfold Lies
  constructor
  · rintro ⟨i, h1, h2⟩
    rw [StrLaws.subAt_eq, beq_iff_eq] at h2
    exact ⟨i, h1, h2⟩
  · rintro ⟨i, h1, h2⟩
    exact ⟨i, h1, by rw [StrLaws.subAt_eq, beq_iff_eq]; exact h2⟩
theorem slash_is : Str.ofString "/" = ⟨#[47]⟩ := by decide +kernel
theorem star_is : Str.ofString "*" = ⟨#[42]⟩ := by decide +kernel

theorem takeWhile_at {l : List Nat} {c i : Nat} (h : l[i]? = some c) (hn : ∀ k, k < i → l[k]? ≠ some c) : l.takeWhile (· != c) = l.take i := by
  induction l generalizing i with
  | nil => simp at h
  | cons a r ih =>
    cases i with
    | zero =>
      simp at h; subst h
      simp
    | succ i =>
      have ha : a ≠ c := fun e => hn 0 (by omega) (by simp [e])
      rw [List.takeWhile_cons_of_pos (by simpa using ha), List.take_succ_cons]
      rw [ih (by simpa using h) fun k hk => by have := hn (k + 1) (by omega); simpa using this]
theorem takeWhile_none {l : List Nat} {c : Nat} (hn : c ∉ l) : l.takeWhile (· != c) = l := by
  induction l with
  | nil => rfl
  | cons a r ih =>
    simp only [List.mem_cons, not_or] at hn
    rw [List.takeWhile_cons_of_pos (by simpa using Ne.symm hn.1), ih hn.2]

theorem split_head (x : Str) : (Txt.split x (Str.ofString "/"))[0]? = some ⟨(x.cps.toList.takeWhile (· != 47)).toArray⟩ := by
  rw [slash_is]
  have whole : 47 ∉ x.cps.toList → some x = some (⟨(x.cps.toList.takeWhile (· != 47)).toArray⟩ : Str) := fun h => by
    rw [takeWhile_none h]
  have hk : ¬ (Builtin.Str.strKind x < Builtin.Str.strKind ⟨#[47]⟩) := by
    have h1 : Builtin.Str.strKind ⟨#[47]⟩ = 1 := by decide +kernel
    rw [h1]
    unfold Builtin.Str.strKind
    split
    · omega
    · split <;> omega
  unfold Txt.split
  by_cases hl : x.length < 1
  · have : x.cps.toList = [] := by
      have h : x.cps.size = 0 := by unfold Str.length at hl; omega
      apply List.eq_nil_of_length_eq_zero; simpa using h
    rw [if_pos (by simp only [Bool.or_eq_true, decide_eq_true_eq]; left; exact hl)]
    simpa using whole (by rw [this]; simp)
  · rw [if_neg (by
      simp only [Bool.or_eq_true, decide_eq_true_eq]
      rintro (h | h)
      · exact hl h
      · exact hk h)]
    have hat : ∀ i, StrLaws.At x ⟨#[47]⟩ x.length i ↔ x.cps.toList[i]? = some 47 := fun i => StrLaws.subAt_one x 47 i
    rcases StrLaws.occ_head x ⟨#[47]⟩ (x.length + 1) (by omega) with ⟨h0, hn⟩ | ⟨i, r, h0, ha, hn⟩
    · rw [if_pos (by rw [h0]; rfl)]
      refine whole fun hm => ?_
      obtain ⟨i, hi⟩ := List.mem_iff_getElem?.mp hm
      exact hn i ((hat i).mpr hi)
    · rw [if_neg (by rw [h0]; simp), h0, StrLaws.partsBetween_eq]
      show some (Builtin.Str.strSub x 0 i) = _
      refine congrArg some (Str.ext' ?_)
      have h1 := StrLaws.strSub_toList x 0 i
      rw [takeWhile_at ((hat i).mp ha) fun k hk q => hn k hk ((hat k).mpr q)]
      have h2 : (Builtin.Str.strSub x 0 i).cps.toList = x.cps.toList.take i := by rw [h1]; simp
      rw [← h2]

theorem placed_map (x : Str) (f : Nat → Nat → List Nat) (g : Nat → Nat) (h : ∀ i c, x.cps.toList[i]? = some c → f i c = [g c]) : (placed x f).toList = x.cps.toList.map g := by
  unfold placed
  have e : x.cps.mapIdx (fun i c => (f i c).toArray) = x.cps.map fun c => #[g c] := by
    apply Array.ext
    · simp
    · intro i h1 h2
      simp only [Array.getElem_mapIdx, Array.getElem_map]
      have hi : i < x.cps.size := by simpa using h1
      rw [h i x.cps[i] (by simp [hi])]
  rw [e]
  have : ∀ l : List Nat, ((l.map fun c => #[g c]).toArray.flatten).toList = l.map g := by
    intro l
    induction l with
    | nil => rfl
    | cons a r ih => simp at ih ⊢; exact ih
  have h3 := this x.cps.toList
  rw [← h3]
  simp

/-- a letter whose small form is one sign -/
theorem lower_map (x : Str) (g : Nat → Nat) (h : ∀ c ∈ x.cps.toList, c ≠ 0x3A3 ∧ Unicode.lowerOf c = [g c]) : (Txt.lower x).cps.toList = x.cps.toList.map g := by
  refine placed_map x _ g fun i c hc => ?_
  unfold Unicode.lowerAt
  have h1 : x.cps[i]? = some c := by simpa using hc
  rw [h1]
  obtain ⟨h2, h3⟩ := h c (List.mem_of_getElem? hc)
  have : (c == 0x3A3) = false := by simpa using h2
  simp [this, h3]

theorem token_cps (name : Str) (g : Nat → Nat) (h : ∀ c ∈ name.cps.toList, c ≠ 0x3A3 ∧ Unicode.lowerOf c = [g c]) : (token name).cps.toList = (name.cps.toList.takeWhile (· != 47)).map g := by
  rw [token_of (split_head name)]
  exact lower_map ⟨_⟩ g fun c hc => h c ((List.takeWhile_sublist _).subset (by simpa using hc))

theorem fits_iff (name a : Str) (g : Nat → Nat) (hn : ∀ c ∈ name.cps.toList, c ≠ 0x3A3 ∧ Unicode.lowerOf c = [g c]) (ha : ∀ c ∈ a.cps.toList, c ≠ 0x3A3 ∧ Unicode.lowerOf c = [g c]) :
    fitsOne name a = true ↔ a.cps.toList ≠ [42] ∧ Lies (a.cps.toList.map g) ((name.cps.toList.takeWhile (· != 47)).map g) := by
  unfold fitsOne
  rw [Bool.and_eq_true, occ_lies, token_cps name g hn, lower_map a g ha]
  refine and_congr_left fun _ => ?_
  rw [star_is, bne_iff_ne]
  refine not_congr ⟨fun e => by rw [e], fun e => Str.ext' (by show a.cps = #[42]; rw [← Array.toArray_toList (xs := a.cps), e])⟩
theorem sign_eq (a b : Nat) : (({ cps := #[a] } : Str) == { cps := #[b] }) = (a == b) := by
  by_cases h : a = b
  · simp [h]
  · have h1 : ({ cps := #[a] } : Str) ≠ { cps := #[b] } := fun e => h (by injection e with e; simpa using e)
    rw [beq_eq_false_iff_ne.mpr h1, beq_eq_false_iff_ne.mpr h]
theorem sign_slash (a : Nat) : (({ cps := #[a] } : Str) == Str.ofString "/") = (a == 47) := by rw [slash_is]; exact sign_eq a 47
end Mine
end
section
namespace Mine
theorem inst_up {g h : Heap} {L : Addr} {m : Str → Option Value} {x C : Addr} {ox : Obj} {od : Option Obj} (I : InstAt g x ox C od) (F : Fr g L h m) : InstAt h x ox C od :=
  ⟨F.keep _ _ I.at_, I.cls, I.no, by
    have := I.dict
    revert this
    cases ox.dict with
    | none => cases od with
      | none => exact id
      | some o => exact id
    | some a => cases od with
      | none => exact id
      | some o => exact fun e => F.keep _ _ e⟩
/-- an Entry's own dict, as __init__ leaves it -/
abbrev entryDict (h1 h2 h3 h4 : Int) (t1 t2 t3 t4 : Tok) (ua rl dl rr : Value) (n : Nat) : Obj :=
  dictOf [⟨h1, .str (Str.ofString "useragents") t1, ua⟩, ⟨h2, .str (Str.ofString "rulelines") t2, rl⟩, ⟨h3, .str (Str.ofString "delay") t3, dl⟩, ⟨h4, .str (Str.ofString "req_rate") t4, rr⟩] n
end Mine
local macro_rules | `(tactic| k_inst) => `(tactic| first | exact Mine.inst_up (by assumption) (by assumption) | exact Mine.inst_up (Mine.inst_up (by assumption) (by assumption)) (by assumption))
local macro_rules | `(tactic| walk_at "pyIter ref") => `(tactic| (k_here; refine Mine.stop ?_))
local macro_rules | `(tactic| walk_at "call builtin:str.lower") => `(tactic| first
  | ((rename (∀ a, a ∈ _ → Str.length a ≤ _) => hs'); (rename (_[_]? = some _) => hy'); (have hk' := hs' _ (List.mem_of_getElem? hy')); refine SCL.lower (by omega) ?_; intro _)
  | (refine SCL.lower (by omega) ?_; intro _))
set_option maxRecDepth 100000 in
set_option maxHeartbeats 8000000 in
theorem Mine.applies {w : World} {p : Program} {loose : List Str} {mean : ExcName → Option Value} {mg mb : Str → Option Value} {base h₀ : Heap} {L : Addr} {m : Str → Option Value} {env : Env} {s : Shared} {Q : Value → Shared → Prop} {E : Value → Shared → Prop}
  (hf : env.frame = some L) (hke : env.scope.kind = .function) (B : Below callerA base [] h₀) (F : Fr h₀ L s.heap m) (X : (Mine.hd06.heap_39 w.params).In h₀) (T : Top p loose mean mg mb h₀)
  {x d l : Addr} {h1 h2 h3 h4 : Int} {t1 t2 t3 t4 : Tok} {rl dl rr : Value} {n : Nat} {its : Array Value} {xs : List Str} {name : Str} {tn : Tok}
  (I : InstAt s.heap x (instObj 59 d) 59 (some (Mine.entryDict h1 h2 h3 h4 t1 t2 t3 t4 (.ref l) rl dl rr n))) (hl : s.heap.IsList l its) (hv : Mine.Pd Mine.StrV xs its.toList)
  (hlen : ∀ x ∈ xs, x.length ≤ 1000) (hnm : name.length ≤ 1000)
  (hpost : ∀ h' tk, (∀ b o, s.heap.get? b = some o → h'.get? b = some o) → Q (.bool (xs.any (Mine.fitsOne name))) { s with heap := h', toks := tk }) :
  wpAny (model PySem.Challenge.rw_kn0091_06.row.prog w) (callerA.deeper env) (call (.ref 49) [.ref x, .str name tn] []) Q E s := by
  w_top off
  revert X; k_fill; intro X
  refine wpAny_call (Mine.code_base (K := Mine.hd06.heap_39 w.params) B F X T rfl hf hke (by k_is) (by k_is) (by k_room) (BindsTo.of_eq rfl) (locs rfl) ?_ rfl rfl rfl (by decide))
  intro L' h₁ F' N' B' X' T'
  dsimp only
  clear F B X T
  repeat' (first | (k_unfold; (try dsimp only)) | walk1 | (dsimp only; walk1) | fail "no step")
  rename Fr _ _ _ _ => F9
  rename News _ _ _ _ => N9
  rename (List.map _ _ = Txt.split _ _) => hlk
  rename (_[_]? = some _) => hy9
  have htok := Mine.token_of (by rw [← hlk]; exact hy9)
  refine Mine.unstop (Mine.iter_list_s [] (its := its) (fun i u => ∀ j b, j < i → xs[j]? = some b → Mine.fitsOne name b = false) rfl (.inl hl) F9 N9 (fun j b hj => absurd hj (Nat.not_lt_zero j)) ?_ ?_)
  · intro i v u I' oI' h tk hv' hJ hoff0 F N
    have hoff := hoff0
    simp only [Mine.Off, and_true] at hoff
    simp only [Mine.over] at F
    obtain ⟨a, ha, t, rfl⟩ := Mine.pd_at hv i v (by simpa using hv')
    have hal := hlen a (List.mem_of_getElem? ha)
    have hnext : Mine.fitsOne name a = false → ∀ j b, j < i + 1 → xs[j]? = some b → Mine.fitsOne name b = false := fun e j b hj hb => by
      rcases Nat.lt_or_ge j i with q | q
      · exact hJ j b q hb
      · obtain rfl : j = i := by omega
        rw [ha] at hb; cases hb; exact e
    (repeat' (first | (k_unfold; (try dsimp only)) | walk1 | (dsimp only; walk1) | fail "no step"))
    · rename ((a != Str.ofString "*") = true) => e1
      rename (List.isEmpty _ = true) => e2
      dsimp only [Mine.TurnPost]
      refine Mine.TurnEnd.mk' [] (by assumption) (by assumption) hoff0 ⟨fun z z1 _ => (if_neg z1).trans (if_neg z1), rfl, hnext ?_⟩
      unfold Mine.fitsOne
      rw [htok, e2]; simp
    · rename ((a != Str.ofString "*") = true) => e1
      rename (List.isEmpty _ = false) => e2
      rename Fr s.heap _ _ _ => F8
      dsimp only [Mine.TurnPost]
      refine Mine.LeaveB.intro F8 ?_
      have e3 : xs.any (Mine.fitsOne name) = true := List.any_eq_true.mpr ⟨a, List.mem_of_getElem? ha, by unfold Mine.fitsOne; rw [htok, e2, e1]; rfl⟩
      rw [e3] at hpost
      exact hpost _ _ F8.keep
    · rename ((a != Str.ofString "*") = false) => e1
      dsimp only [Mine.TurnPost]
      refine Mine.TurnEnd.mk' [] (by assumption) (by assumption) hoff0 ⟨fun z z1 _ => if_neg z1, rfl, hnext ?_⟩
      unfold Mine.fitsOne
      rw [e1]; rfl
  · intro u h tk hJ F N
    simp only [Mine.over] at F
    dsimp only
    repeat' (first | (k_unfold; (try dsimp only)) | walk1 | (dsimp only; walk1) | fail "no step")
    refine Mine.LeaveB.intro F ?_
    have e3 : xs.any (Mine.fitsOne name) = false := List.any_eq_false.mpr fun a ha q => by
      obtain ⟨j, hj⟩ := List.mem_iff_getElem?.mp ha
      have hjl : j < xs.length := by
        rcases Nat.lt_or_ge j xs.length with q | q
        · exact q
        · rw [List.getElem?_eq_none q] at hj; cases hj
      have := hJ j a (by have := Mine.pd_len hv; simp at this; omega) hj
      rw [this] at q; cases q
    rw [e3] at hpost
    exact hpost _ _ F.keep
local macro_rules | `(tactic| walk_at "compareOp In str ref") => `(tactic| (k_here; k_dflt (refine Mine.in_b (by assumption) (by k_asm) (by assumption) ?_)))
set_option maxRecDepth 100000 in
set_option maxHeartbeats 8000000 in
theorem Mine.appliesNone {w : World} {p : Program} {loose : List Str} {mean : ExcName → Option Value} {mg mb : Str → Option Value} {base h₀ : Heap} {L : Addr} {m : Str → Option Value} {env : Env} {s : Shared} {Q : Value → Shared → Prop} {E : Value → Shared → Prop}
  (hf : env.frame = some L) (hke : env.scope.kind = .function) (B : Below callerA base [] h₀) (F : Fr h₀ L s.heap m) (X : (Mine.hd06.heap_39 w.params).In h₀) (T : Top p loose mean mg mb h₀)
  {x d l : Addr} {h1 h2 h3 h4 : Int} {t1 t2 t3 t4 : Tok} {rl dl rr : Value} {n : Nat} {its : Array Value} {xs : List Str}
  (I : InstAt s.heap x (instObj 59 d) 59 (some (Mine.entryDict h1 h2 h3 h4 t1 t2 t3 t4 (.ref l) rl dl rr n))) (hl : s.heap.IsList l its) (hv : Mine.Pd Mine.StrV xs its.toList)
  (hpost : ∀ h' tk, (∀ b o, s.heap.get? b = some o → h'.get? b = some o) → Q (.bool (xs.any (· == Str.ofString "*"))) { s with heap := h', toks := tk }) :
  wpAny (model PySem.Challenge.rw_kn0091_06.row.prog w) (callerA.deeper env) (call (.ref 49) [.ref x, .none] []) Q E s := by
  w_top off
  revert X; k_fill; intro X
  refine wpAny_call (Mine.code_base (K := Mine.hd06.heap_39 w.params) B F X T rfl hf hke (by k_is) (by k_is) (by k_room) (BindsTo.of_eq rfl) (locs rfl) ?_ rfl rfl rfl (by decide))
  intro L' h₁ F' N' B' X' T'
  dsimp only
  clear F B X T
  repeat' (first | (k_unfold; (try dsimp only)) | walk1 | (dsimp only; walk1) | fail "no step")
  rename Fr _ _ _ _ => F9
  exact Mine.LeaveB.intro F9 (hpost _ _ F9.keep)
end
section
namespace Mine
def abAB : List Nat := [97, 98, 65, 66]
def g6 (c : Nat) : Nat := if c = 65 then 97 else if c = 66 then 98 else c
def alph6 : List Nat := [97, 98, 65, 66, 42]
theorem alph6_low : ∀ c ∈ alph6, c ≠ 0x3A3 ∧ Unicode.lowerOf c = [g6 c] := by decide +kernel
theorem ab6 : ∀ c ∈ abAB, c ∈ alph6 := by decide
theorem ab6_42 : ∀ c ∈ abAB, c ≠ 42 ∧ c ≠ 47 := by decide
theorem g6_ab : ∀ c ∈ abAB, g6 c ∈ [97, 98] := by decide
theorem g6_same : ∀ c ∈ [97, 98], g6 c = c ∧ c ∈ abAB := by decide
theorem str_eq {x y : Str} (h : x.cps.toList = y.cps.toList) : x = y := Str.ext' (by rw [← Array.toArray_toList (xs := x.cps), h])
def mk (l : List Nat) : Str := ⟨l.toArray⟩
theorem mk_cps (l : List Nat) : (mk l).cps.toList = l := rfl
theorem mk_self (x : Str) : mk x.cps.toList = x := str_eq rfl
/-- an agent's letters -/
def AgentW (u : Str) : Prop := 1 ≤ u.length ∧ u.length ≤ 3 ∧ ∀ c ∈ u.cps.toList, c ∈ abAB
def small (u : Str) : Str := mk (u.cps.toList.map g6)
/-- a word in small letters -/
def SmallW (a : Str) : Prop := 1 ≤ a.length ∧ a.length ≤ 3 ∧ ∀ c ∈ a.cps.toList, c ∈ [97, 98]
theorem small_w {u : Str} (h : AgentW u) : SmallW (small u) := by
  obtain ⟨h1, h2, h3⟩ := h
  have e : (small u).length = u.length := by unfold small mk Str.length; simp
  refine ⟨by omega, by omega, fun c hc => ?_⟩
  rw [small, mk_cps] at hc
  obtain ⟨d, hd, rfl⟩ := List.mem_map.mp hc
  exact g6_ab d (h3 d hd)
theorem lies_step (a r : List Nat) : Lies a r ↔ a = r ∨ (r ≠ [] ∧ (Lies a r.dropLast ∨ Lies a r.tail)) := by
  unfold Lies
  constructor
  · rintro ⟨i, h1, h2⟩
    rcases Nat.eq_zero_or_pos i with rfl | hi
    · rcases Nat.lt_or_ge a.length r.length with q | q
      · have hr : r ≠ [] := fun e => by subst e; simp at q
        refine .inr ⟨hr, .inl ⟨0, by rw [List.length_dropLast]; omega, ?_⟩⟩
        rw [List.drop_zero] at h2 ⊢
        rw [List.dropLast_eq_take, List.take_take, Nat.min_eq_left (by omega)]
        exact h2
      · refine .inl ?_
        rw [List.drop_zero, List.take_of_length_le q] at h2
        exact h2.symm
    · have hr : r ≠ [] := fun e => by subst e; simp at h1; omega
      refine .inr ⟨hr, .inr ⟨i - 1, by rw [List.length_tail]; omega, ?_⟩⟩
      rw [← List.drop_one, List.drop_drop, show 1 + (i - 1) = i by omega]
      exact h2
  · rintro (rfl | ⟨hr, ⟨i, h1, h2⟩ | ⟨i, h1, h2⟩⟩)
    · exact ⟨0, by omega, by simp⟩
    · rw [List.length_dropLast] at h1
      have hp := List.length_pos_iff.mpr hr
      refine ⟨i, by omega, ?_⟩
      rw [List.dropLast_eq_take, List.drop_take, List.take_take, Nat.min_eq_left (by omega)] at h2
      exact h2
    · rw [List.length_tail] at h1
      have hp := List.length_pos_iff.mpr hr
      refine ⟨i + 1, by omega, ?_⟩
      rw [← List.drop_one, List.drop_drop, Nat.add_comm] at h2
      exact h2
theorem lies_len {a r : List Nat} (h : Lies a r) : a.length ≤ r.length := by obtain ⟨i, h1, _⟩ := h; omega
theorem lies_refl (a : List Nat) : Lies a a := ⟨0, by omega, by simp⟩
/-- the state of the law's two lists behind a record's numbers -/
def Inv6 (us as : List Str) : Prop := (∀ u ∈ us, u = Str.ofString "*" ∨ AgentW u) ∧ as.Nodup ∧ (∀ a ∈ as, SmallW a) ∧ ∀ a, a ∈ as ↔ ∃ u ∈ us, u ≠ Str.ofString "*" ∧ small u = a
theorem inv_nil : Inv6 [] [] := ⟨fun _ h => absurd h List.not_mem_nil, .nil, fun _ h => absurd h List.not_mem_nil, fun a => ⟨fun h => absurd h List.not_mem_nil, fun ⟨_, h, _⟩ => absurd h List.not_mem_nil⟩⟩
theorem inv_star {us as : List Str} (h : Inv6 us as) : Inv6 (us ++ [Str.ofString "*"]) as := by
  obtain ⟨h1, h2, h3, h4⟩ := h
  refine ⟨fun u hu => ?_, h2, h3, fun a => (h4 a).trans ⟨?_, ?_⟩⟩
  · rcases List.mem_append.mp hu with hu | hu
    · exact h1 u hu
    · exact .inl (List.mem_singleton.mp hu)
  · rintro ⟨u, hu, r⟩; exact ⟨u, List.mem_append_left _ hu, r⟩
  · rintro ⟨u, hu, n, e⟩
    rcases List.mem_append.mp hu with hu | hu
    · exact ⟨u, hu, n, e⟩
    · exact absurd (List.mem_singleton.mp hu) n
theorem agent_ns {u : Str} (h : AgentW u) : u ≠ Str.ofString "*" := fun e => by
  rw [e, star_is] at h
  exact absurd (h.2.2 42 (by simp)) (by decide)
theorem inv_old {us as : List Str} {u : Str} (h : Inv6 us as) (hu : AgentW u) (hm : small u ∈ as) : Inv6 (us ++ [u]) as := by
  obtain ⟨h1, h2, h3, h4⟩ := h
  refine ⟨fun v hv => ?_, h2, h3, fun a => (h4 a).trans ⟨?_, ?_⟩⟩
  · rcases List.mem_append.mp hv with hv | hv
    · exact h1 v hv
    · exact .inr (List.mem_singleton.mp hv ▸ hu)
  · rintro ⟨v, hv, r⟩; exact ⟨v, List.mem_append_left _ hv, r⟩
  · rintro ⟨v, hv, n, e⟩
    rcases List.mem_append.mp hv with hv | hv
    · exact ⟨v, hv, n, e⟩
    · rw [List.mem_singleton.mp hv] at e
      exact (h4 a).mp (e ▸ hm)
theorem inv_new {us as : List Str} {u : Str} (h : Inv6 us as) (hu : AgentW u) (hm : small u ∉ as) : Inv6 (us ++ [u]) (as ++ [small u]) := by
  obtain ⟨h1, h2, h3, h4⟩ := h
  refine ⟨fun v hv => ?_, ?_, fun a ha => ?_, fun a => ⟨fun ha => ?_, ?_⟩⟩
  · rcases List.mem_append.mp hv with hv | hv
    · exact h1 v hv
    · exact .inr (List.mem_singleton.mp hv ▸ hu)
  · refine List.nodup_append.mpr ⟨h2, by simp, fun a ha b hb => ?_⟩
    rw [List.mem_singleton.mp hb]
    exact fun e => hm (e ▸ ha)
  · rcases List.mem_append.mp ha with ha | ha
    · exact h3 a ha
    · exact List.mem_singleton.mp ha ▸ small_w hu
  · rcases List.mem_append.mp ha with ha | ha
    · obtain ⟨v, hv, r⟩ := (h4 a).mp ha
      exact ⟨v, List.mem_append_left _ hv, r⟩
    · exact ⟨u, by simp, agent_ns hu, (List.mem_singleton.mp ha).symm⟩
  · rintro ⟨v, hv, n, e⟩
    rcases List.mem_append.mp hv with hv | hv
    · exact List.mem_append_left _ ((h4 a).mpr ⟨v, hv, n, e⟩)
    · rw [List.mem_singleton.mp hv] at e
      exact List.mem_append_right _ (List.mem_singleton.mpr e.symm)
/-- the fifteen words -/
def words15 : List Str := [[], [97], [98], [97, 97], [97, 98], [98, 97], [98, 98], [97, 97, 97], [97, 97, 98], [97, 98, 97], [97, 98, 98], [98, 97, 97], [98, 97, 98], [98, 98, 97], [98, 98, 98]].map mk
def told (us : List Str) (w : Str) : Bool := us.any (fitsOne w)
def Low (w : Str) : Prop := ∀ c ∈ w.cps.toList, c ∈ [97, 98]
theorem fits6 {w u : Str} (hw : Low w) (hu : u = Str.ofString "*" ∨ AgentW u) : fitsOne w u = true ↔ u ≠ Str.ofString "*" ∧ Lies (small u).cps.toList w.cps.toList := by
  have hab : ∀ c ∈ w.cps.toList, c ∈ abAB := fun c hc => (g6_same c (hw c hc)).2
  have h1 := fits_iff w u g6 (fun c hc => alph6_low c (ab6 c (hab c hc))) (fun c hc => by
    rcases hu with rfl | ⟨_, _, hu⟩
    · rw [star_is] at hc; simp at hc; subst hc; exact alph6_low 42 (by decide)
    · exact alph6_low c (ab6 c (hu c hc)))
  rw [tw_all fun q => (ab6_42 _ (hab _ q)).2 rfl] at h1
  rw [h1, small, mk_cps]
  have e : w.cps.toList.map g6 = w.cps.toList := by
    conv => rhs; rw [← List.map_id w.cps.toList]
    exact List.map_congr_left fun c hc => (g6_same c (hw c hc)).1
  rw [e]
  refine and_congr_left fun _ => not_congr ⟨fun e => str_eq (by rw [e, star_is]), fun e => by rw [e, star_is]⟩
theorem told_iff {us as : List Str} (h : Inv6 us as) {w : Str} (hw : Low w) : told us w = true ↔ ∃ a ∈ as, Lies a.cps.toList w.cps.toList := by
  obtain ⟨h1, _, _, h4⟩ := h
  unfold told
  rw [List.any_eq_true]
  constructor
  · rintro ⟨u, hu, hf⟩
    obtain ⟨n, l⟩ := (fits6 hw (h1 u hu)).mp hf
    exact ⟨small u, (h4 _).mpr ⟨u, hu, n, rfl⟩, l⟩
  · rintro ⟨a, ha, l⟩
    obtain ⟨u, hu, n, rfl⟩ := (h4 a).mp ha
    exact ⟨u, hu, (fits6 hw (h1 u hu)).mpr ⟨n, l⟩⟩
def tl (w : Str) : Str := mk w.cps.toList.tail
def dl (w : Str) : Str := mk w.cps.toList.dropLast
def isLeast (us : List Str) (w : Str) : Bool := told us w && !told us (tl w) && !told us (dl w)
def liesD (o a : Str) : Bool := !(Builtin.Str.occurrences a o 0 a.length 1).isEmpty
theorem liesD_iff (o a : Str) : liesD o a = true ↔ Lies o.cps.toList a.cps.toList := occ_lies a o
def others (as : List Str) (a : Str) : List Str := as.filter fun o => o != a && liesD o a
def isDue (as : List Str) (a : Str) : Bool := decide (others as a = [])
theorem words_low : ∀ w ∈ words15, Low w := by unfold Low; decide +kernel
theorem words_len : ∀ w ∈ words15, w.length ≤ 3 := by decide +kernel
theorem words_nodup : words15.Nodup := by decide +kernel
theorem all_words : ∀ l : List Nat, l.length ≤ 3 → (∀ c ∈ l, c ∈ [97, 98]) → mk l ∈ words15 := by
  have two : ∀ c : Nat, c ∈ [97, 98] → c = 97 ∨ c = 98 := fun c h => by simpa using h
  intro l hl hc
  match l, hl, hc with
  | [], _, _ => decide +kernel
  | [a], _, hc =>
    rcases two a (hc a (by simp)) with rfl | rfl <;> decide +kernel
  | [a, b], _, hc =>
    rcases two a (hc a (by simp)) with rfl | rfl <;> rcases two b (hc b (by simp)) with rfl | rfl <;> decide +kernel
  | [a, b, c], _, hc =>
    rcases two a (hc a (by simp)) with rfl | rfl <;> rcases two b (hc b (by simp)) with rfl | rfl <;> rcases two c (hc c (by simp)) with rfl | rfl <;> decide +kernel
  | _ :: _ :: _ :: _ :: _, hl, _ => simp at hl
theorem small_words {a : Str} (h : SmallW a) : a ∈ words15 := by
  have := all_words a.cps.toList (by have := h.2.1; unfold Str.length at this; simpa using this) h.2.2
  rwa [mk_self] at this
theorem tl_low {w : Str} (h : Low w) : Low (tl w) := fun c hc => h c (List.mem_of_mem_tail (by rw [tl, mk_cps] at hc; exact hc))
theorem dl_low {w : Str} (h : Low w) : Low (dl w) := fun c hc => h c (List.dropLast_subset _ (by rw [dl, mk_cps] at hc; exact hc))
theorem len_cps (a : Str) : a.cps.toList.length = a.length := by unfold Str.length; simp
theorem least_iff {us as : List Str} (h : Inv6 us as) {w : Str} (hw : w ∈ words15) : isLeast us w = true ↔ w ∈ as ∧ isDue as w = true := by
  have hl := words_low w hw
  have t0 := told_iff h hl
  have t1 := told_iff h (tl_low hl)
  have t2 := told_iff h (dl_low hl)
  have hne : ∀ a ∈ as, a.cps.toList ≠ [] := fun a ha e => by
    have := (h.2.2.1 a ha).1
    rw [← len_cps, e] at this; simp at this
  have due : isDue as w = true ↔ ∀ o ∈ as, o ≠ w → ¬ Lies o.cps.toList w.cps.toList := by
    unfold isDue others
    rw [decide_eq_true_iff, List.filter_eq_nil_iff]
    constructor
    · intro k o ho hn hL
      exact k o ho (by rw [Bool.and_eq_true, liesD_iff]; exact ⟨by simpa using hn, hL⟩)
    · intro k o ho q
      rw [Bool.and_eq_true, liesD_iff] at q
      exact k o ho (by simpa using q.1) q.2
  unfold isLeast
  rw [Bool.and_eq_true, Bool.and_eq_true, Bool.not_eq_true', Bool.not_eq_true', due]
  have f1 : told us (tl w) = false ↔ ∀ a ∈ as, ¬ Lies a.cps.toList w.cps.toList.tail := by
    rw [← Bool.not_eq_true, t1]
    exact ⟨fun k a ha l => k ⟨a, ha, l⟩, fun k ⟨a, ha, l⟩ => k a ha l⟩
  have f2 : told us (dl w) = false ↔ ∀ a ∈ as, ¬ Lies a.cps.toList w.cps.toList.dropLast := by
    rw [← Bool.not_eq_true, t2]
    exact ⟨fun k a ha l => k ⟨a, ha, l⟩, fun k ⟨a, ha, l⟩ => k a ha l⟩
  rw [t0, f1, f2]
  constructor
  · rintro ⟨⟨⟨a, ha, l⟩, k1⟩, k2⟩
    have same : ∀ b ∈ as, Lies b.cps.toList w.cps.toList → b = w := fun b hb l => by
      rcases (lies_step _ _).mp l with e | ⟨_, e | e⟩
      · exact str_eq e
      · exact absurd e (k2 b hb)
      · exact absurd e (k1 b hb)
    have := same a ha l
    subst this
    exact ⟨ha, fun o ho hn hL => hn (same o ho hL)⟩
  · rintro ⟨ha, k⟩
    have step : ∀ b ∈ as, ∀ r : List Nat, (r = w.cps.toList.tail ∨ r = w.cps.toList.dropLast) → ¬ Lies b.cps.toList r := fun b hb r hr l => by
      have hw0 := hne w ha
      have hlen : r.length + 1 = w.cps.toList.length := by
        have := List.length_pos_iff.mpr hw0
        rcases hr with rfl | rfl
        · rw [List.length_tail]; omega
        · rw [List.length_dropLast]; omega
      have h1 := lies_len l
      have hn : b ≠ w := fun e => by rw [e] at h1; omega
      refine k b hb hn ((lies_step _ _).mpr (.inr ⟨hw0, ?_⟩))
      rcases hr with rfl | rfl
      · exact .inr l
      · exact .inl l
    exact ⟨⟨⟨w, ha, lies_refl _⟩, fun a ha' => step a ha' _ (.inl rfl)⟩, fun a ha' => step a ha' _ (.inr rfl)⟩
theorem least_perm {us as : List Str} (h : Inv6 us as) : (words15.filter (isLeast us)).Perm (as.filter (isDue as)) := by
  refine (List.perm_ext_iff_of_nodup (List.Pairwise.filter _ words_nodup) (List.Pairwise.filter _ h.2.1)).mpr fun w => ?_
  rw [List.mem_filter, List.mem_filter]
  constructor
  · rintro ⟨hw, k⟩; exact (least_iff h hw).mp k
  · rintro ⟨ha, k⟩
    have hw := small_words (h.2.2.1 w ha)
    exact ⟨hw, (least_iff h hw).mpr ⟨ha, k⟩⟩
theorem rising_pair : ∀ (l : List Str) (p : Str), PyProof.Rows.risingS p l = true → (p :: l).Pairwise (fun a b => ¬ (b.cps.toList < a.cps.toList))
  | [], p, _ => by simp
  | x :: r, p, h => by
    have h' : (!PySem.Spec.ltCps x.cps.toList p.cps.toList && PyProof.Rows.risingS x r) = true := h
    rw [Bool.and_eq_true, Bool.not_eq_true', PyProof.Rows.ltCps_eq, decide_eq_false_iff_not] at h'
    have ih := rising_pair r x h'.2
    refine List.pairwise_cons.mpr ⟨fun b hb => ?_, ih⟩
    rcases List.mem_cons.mp hb with rfl | hb
    · exact h'.1
    · have h2 := (List.pairwise_cons.mp ih).1 b hb
      exact List.not_lt.mpr (List.le_trans (List.not_lt.mp h'.1) (List.not_lt.mp h2))
theorem sorted_pair : ∀ (l : List Str), PyProof.Rows.sortedS l = true → l.Pairwise (fun a b => ¬ (b.cps.toList < a.cps.toList))
  | [], _ => .nil
  | x :: r, h => rising_pair r x h
theorem sorted_uniq {a b : List Str} (ha : PyProof.Rows.sortedS a = true) (hb : PyProof.Rows.sortedS b = true) (h : a.Perm b) : a = b :=
  List.Perm.eq_of_pairwise (fun _ _ _ _ h1 h2 => str_eq (List.le_antisymm (List.not_lt.mp h1) (List.not_lt.mp h2))) (sorted_pair a ha) (sorted_pair b hb) h
theorem words_next : ∀ m, m < 7 → ∃ w, words15[m]? = some w ∧ w.length ≤ 3 ∧ words15.take (2 * m + 3) = words15.take (2 * m + 1) ++ [w ++ Str.ofString "a", w ++ Str.ofString "b"] := by
  intro m hm
  have : ∀ m ∈ List.range 7, (match words15[m]? with | some w => decide (w.length ≤ 3) && decide (words15.take (2 * m + 3) = words15.take (2 * m + 1) ++ [w ++ Str.ofString "a", w ++ Str.ofString "b"]) | none => false) = true := by decide +kernel
  have h := this m (List.mem_range.mpr hm)
  cases e : words15[m]? with
  | none => rw [e] at h; cases h
  | some w =>
    rw [e] at h
    simp only [Bool.and_eq_true, decide_eq_true_eq] at h
    exact ⟨w, rfl, h.1, h.2⟩
theorem words_first : words15.take 1 = [Str.ofString ""] := by decide +kernel
theorem words_15 : words15.length = 15 := by decide
theorem small_five {e : Int} (h0 : 1 ≤ e) (h1 : e ≤ 63) : Builtin.Range.small 0 e 5 = true ∧ Builtin.Range.rangeSize 0 e 5 = (((e.toNat + 4) / 5 : Nat) : Int) := by
  have h2 : Builtin.Range.rangeSize 0 e 5 = (((e.toNat + 4) / 5 : Nat) : Int) := by
    unfold Builtin.Range.rangeSize
    rw [if_pos (by decide), if_pos (by omega)]
    omega
  refine ⟨?_, h2⟩
  unfold Builtin.Range.small
  rw [h2]
  simp only [Builtin.Range.rangeFitsLong, Bool.and_eq_true, Bool.or_eq_true, decide_eq_true_eq, beq_iff_eq, show (5 : Int) > 0 by decide, if_true]
  omega
theorem e_bounds6 {n : Nat} (h : n ≤ 63) : 1 ≤ (if (n : Int) > 1 then (n : Int) else 1) ∧ (if (n : Int) > 1 then (n : Int) else 1) ≤ 63 := by
  constructor <;> split <;> omega
theorem part_of5 {ns : List Int} {vs : List Value} (h : Pd IntV ns vs) (k n : Nat) (hn : n = 5) : ∃ part, Pd IntV part ((vs.drop k).take n) ∧ part.length ≤ 5 :=
  ⟨(ns.drop k).take n, pd_take (pd_drop h k) n, by rw [List.length_take]; omega⟩
/-- between the records: the words, and the cell of the name agent -/
def JO6 (wl : Addr) (ow : Obj) (cA : Addr) (nw : List (Addr × Obj)) : Prop := ∃ oA v, nw = [(wl, ow), (cA, oA)] ∧ oA.data = .cell v
/-- an agent's letters, one by one -/
def lett (x : Int) (j : Nat) : Str := Txt.item (Str.ofString "abAB") (Int.fmod (Int.fdiv (Int.fdiv x 9) (4 ^ j)) 4)
def letts (x : Int) : Nat → Str
  | 0 => Str.ofString ""
  | j + 1 => letts x j ++ lett x j
theorem item_abAB (k : Int) (h0 : 0 ≤ k) (h1 : k < 4) : ∃ c, Txt.item (Str.ofString "abAB") k = mk [c] ∧ c ∈ abAB := by
  have : k = 0 ∨ k = 1 ∨ k = 2 ∨ k = 3 := by omega
  rcases this with rfl | rfl | rfl | rfl
  · exact ⟨97, by decide +kernel, by decide⟩
  · exact ⟨98, by decide +kernel, by decide⟩
  · exact ⟨65, by decide +kernel, by decide⟩
  · exact ⟨66, by decide +kernel, by decide⟩
theorem lett_is (x : Int) (j : Nat) : ∃ c, lett x j = mk [c] ∧ c ∈ abAB :=
  item_abAB _ (Int.fmod_nonneg_of_pos _ (by decide)) (Int.fmod_lt_of_pos _ (by decide))
theorem letts_is (x : Int) : ∀ j, (letts x j).length = j ∧ ∀ c ∈ (letts x j).cps.toList, c ∈ abAB
  | 0 => ⟨by show (Str.ofString "").length = 0; decide +kernel, by show ∀ c ∈ (Str.ofString "").cps.toList, c ∈ abAB; decide +kernel⟩
  | j + 1 => by
    obtain ⟨h1, h2⟩ := letts_is x j
    obtain ⟨c, e, hc⟩ := lett_is x j
    refine ⟨?_, fun d hd => ?_⟩
    · show (letts x j ++ lett x j).length = _
      rw [Str.length_append, h1, e]; rfl
    · have e2 : (letts x (j + 1)).cps.toList = (letts x j).cps.toList ++ [c] := by
        show (letts x j ++ lett x j).cps.toList = _
        rw [e]
        show ((letts x j).cps ++ (mk [c]).cps).toList = _
        rw [Array.toList_append]; rfl
      rw [e2] at hd
      rcases List.mem_append.mp hd with hd | hd
      · exact h2 d hd
      · rw [List.mem_singleton.mp hd]; exact hc
theorem agent_w {x : Int} {n : Nat} (h1 : 1 ≤ n) (h2 : n ≤ 3) : AgentW (letts x n) := by
  obtain ⟨e, h⟩ := letts_is x n
  exact ⟨by omega, by omega, h⟩
/-- the 84 texts -/
def all84 : List (List Nat) := abAB.map (fun a => [a]) ++ abAB.flatMap (fun a => abAB.map fun b => [a, b]) ++ abAB.flatMap (fun a => abAB.flatMap fun b => abAB.map fun c => [a, b, c])
def rep6 (u : Str) : Str := Txt.replace (Txt.replace u (Str.ofString "A") (Str.ofString "a")) (Str.ofString "B") (Str.ofString "b")
theorem rep_all : ∀ l ∈ all84, rep6 (mk l) = mk (l.map g6) := by decide +kernel
theorem rep_small {u : Str} (h : AgentW u) : rep6 u = small u := by
  obtain ⟨h1, h2, h3⟩ := h
  rw [← len_cps] at h1 h2
  have hm : u.cps.toList ∈ all84 := by
    unfold all84
    match u.cps.toList, h1, h2, h3 with
    | [], h1, _, _ => simp at h1
    | [a], _, _, h => exact List.mem_append_left _ (List.mem_append_left _ (List.mem_map.mpr ⟨a, h a (by simp), rfl⟩))
    | [a, b], _, _, h => exact List.mem_append_left _ (List.mem_append_right _ (List.mem_flatMap.mpr ⟨a, h a (by simp), List.mem_map.mpr ⟨b, h b (by simp), rfl⟩⟩))
    | [a, b, c], _, _, h => exact List.mem_append_right _ (List.mem_flatMap.mpr ⟨a, h a (by simp), List.mem_flatMap.mpr ⟨b, h b (by simp), List.mem_map.mpr ⟨c, h c (by simp), rfl⟩⟩⟩)
    | _ :: _ :: _ :: _ :: _, _, h, _ => simp at h
  have := rep_all _ hm
  rw [mk_self] at this
  exact this
/-- between the turns over a record's numbers -/
def JX6 (p1 p3 p5 p6 p7 p8 : Addr × Obj) (agl ual cA : Addr) (k : Nat) (nw : List (Addr × Obj)) : Prop :=
  ∃ oA v us as zs ys c1 c2, nw = [p1, (agl, W.listOf zs.toArray c1), p3, (ual, W.listOf ys.toArray c2), p5, p6, p7, p8, (cA, oA)] ∧ oA.data = .cell v ∧ Pd StrV as zs ∧ Pd StrV us ys ∧ Inv6 us as ∧ us.length ≤ k ∧ as.length ≤ k
def JS6 (p0 p1 p2 p3 p4 p5 p6 p7 p8 : Addr × Obj) (cA : Addr) (x : Int) (j : Nat) (nw : List (Addr × Obj)) : Prop :=
  ∃ oA t, nw = [p0, p1, p2, p3, p4, p5, p6, p7, p8, (cA, oA)] ∧ oA.data = .cell (some (.str (letts x j) t))
theorem agent_84 {u : Str} (h : AgentW u) : u.cps.toList ∈ all84 := by
  obtain ⟨h1, h2, h3⟩ := h
  rw [← len_cps] at h1 h2
  unfold all84
  match u.cps.toList, h1, h2, h3 with
  | [], h1, _, _ => simp at h1
  | [a], _, _, h => exact List.mem_append_left _ (List.mem_append_left _ (List.mem_map.mpr ⟨a, h a (by simp), rfl⟩))
  | [a, b], _, _, h => exact List.mem_append_left _ (List.mem_append_right _ (List.mem_flatMap.mpr ⟨a, h a (by simp), List.mem_map.mpr ⟨b, h b (by simp), rfl⟩⟩))
  | [a, b, c], _, _, h => exact List.mem_append_right _ (List.mem_flatMap.mpr ⟨a, h a (by simp), List.mem_flatMap.mpr ⟨b, h b (by simp), List.mem_map.mpr ⟨c, h c (by simp), rfl⟩⟩⟩)
  | _ :: _ :: _ :: _ :: _, _, h, _ => simp at h
theorem rep_len84 : ∀ l ∈ all84, (Txt.replace (mk l) (Str.ofString "A") (Str.ofString "a")).length ≤ 3 := by decide +kernel
theorem rep1_len {u : Str} (h : AgentW u) : (Txt.replace u (Str.ofString "A") (Str.ofString "a")).length ≤ 3 := by
  have := rep_len84 _ (agent_84 h)
  rwa [mk_self] at this
section
variable {M : Model} {A : Around} {E : Value → Shared → Prop} {s : Shared} {h₀ : Heap} {L a : Addr} {cn : Str} {cs : Scope} {ccd : Value} {cl : List (Str × Addr)} {x : Str} {v : Value} {Q : Value → Shared → Prop} {news : List (Addr × Obj)} {c : Addr} {o : Obj}
/-- a captured name of the frame's own, loaded -/
theorem loadX_C (N : News h₀ L s.heap news) (hc : cl.lookup x = some c) (hm : (c, o) ∈ news) (hd : o.data = .cell (some v)) (h : Q v s)
    (hk : cs.kind = .function := by rfl) (hx : (envX cn cs L a ccd cl).kindOf x = some .cell := by rfl) :
    wpAny M A (loadName (envX cn cs L a ccd cl) x) Q E s := wpAny_loadName_cell hk hx hc ⟨o, N.get hm, hd⟩ h
end
section
variable {prog : Program} {w : World} {A : Around} {E : Value → Shared → Prop} {s : Shared} {h₀ : Heap} {L : Addr} {m : Str → Option Value}
theorem range1_k {Q : Value → Shared → Prop} {n : Int} {t : Tok} {news : List (Addr × Obj)} (hn : 1 ≤ s.toks) (F : Fr h₀ L s.heap m) (N : News h₀ L s.heap news)
    (h : ∀ h' tk t₁ u₁ v₁, 1 ≤ tk → IsRange h' s.heap.objs.size 0 n 1 t₁ u₁ v₁ → Fr h₀ L h' m → News h₀ L h' news → (∀ b o, s.heap.get? b = some o → h'.get? b = some o) → Q (.ref s.heap.objs.size) { s with heap := h', toks := tk }) :
    wpAny (model prog w) A (call (.type "range") [.int n t]) Q E s :=
  wpAny_with_toks hn (PyProof.Rows.range1_rows F N fun h' tk t₁ u₁ v₁ a b c d => fun htk => h h' tk t₁ u₁ v₁ htk a b c d)
theorem range2_k {Q : Value → Shared → Prop} {a b : Int} {t u : Tok} {news : List (Addr × Obj)} (hn : 1 ≤ s.toks) (F : Fr h₀ L s.heap m) (N : News h₀ L s.heap news)
    (h : ∀ h' tk t₁ u₁ v₁, 1 ≤ tk → IsRange h' s.heap.objs.size a b 1 t₁ u₁ v₁ → Fr h₀ L h' m → News h₀ L h' news → (∀ b o, s.heap.get? b = some o → h'.get? b = some o) → Q (.ref s.heap.objs.size) { s with heap := h', toks := tk }) :
    wpAny (model prog w) A (call (.type "range") [.int a t, .int b u]) Q E s :=
  wpAny_with_toks hn (PyProof.Rows.range2_rows F N fun h' tk t₁ u₁ v₁ a b c d => fun htk => h h' tk t₁ u₁ v₁ htk a b c d)
end
section
variable {prog : Program} {w : World} {A : Around} {E : Value → Shared → Prop} {s : Shared} {x y z : Str} {t u v : Tok} {Q : Value → Shared → Prop}
theorem rep_k (hn : 1 ≤ s.toks) (hu : u ≠ 0) (hv : v ≠ 0) (huv : u ≠ v) (hyz : (y == z) = false) (hx : x.length ≤ 1048576) (hz : z.length ≤ 14)
    (hq : ∀ t' k, 1 ≤ k → Q (.str (Txt.replace x y z) t') { s with toks := k }) : wpAny (model prog w) A (call (.builtin "str.replace") [.str x t, .str y u, .str z v]) Q E s :=
  wpAny_with_toks hn (SC.replaceW hu hv huv hyz hx hz fun t' k => fun hk => hq t' k hk)
end
theorem not_in_of {as : List Str} {a : Str} (h : (!(as.any (· == a))) = true) : a ∉ as := fun hm => by
  rw [Bool.not_eq_true'] at h
  have := List.any_eq_false.mp h a hm
  exact this (beq_self_eq_true a)
theorem in_of {as : List Str} {a : Str} (h : (!(as.any (· == a))) = false) : a ∈ as := by
  rw [Bool.not_eq_false'] at h
  obtain ⟨b, hb, e⟩ := List.any_eq_true.mp h
  exact eq_of_beq e ▸ hb
theorem not_in_of2 {as : List Str} {a : Str} (h : as.any (· == a) = false) : a ∉ as := not_in_of (by rw [h]; rfl)
theorem in_of2 {as : List Str} {a : Str} (h : as.any (· == a) = true) : a ∈ as := in_of (by rw [h]; rfl)
def up (w : Str) : Str := Txt.replace (Txt.replace w (Str.ofString "a") (Str.ofString "A")) (Str.ofString "b") (Str.ofString "B")
theorem word_up : ∀ w ∈ words15, (Txt.replace w (Str.ofString "a") (Str.ofString "A")).length ≤ 3 ∧ (up w).length ≤ 3 ∧ token (up w) = token w := by decide +kernel
theorem told_up {us : List Str} {w : Str} (h : w ∈ words15) : us.any (fitsOne (up w)) = told us w := by
  unfold told
  congr 1
  funext a
  unfold fitsOne
  rw [(word_up w h).2.2]
theorem word_cut : ∀ k ∈ List.range 15, (match words15[k]? with | some w => w == Str.ofString "" || (Txt.slice w (some 1) none == tl w && Txt.slice w none (some (-1)) == dl w && (words15.take k).contains (tl w) && (words15.take k).contains (dl w)) | none => false) = true := by decide +kernel
theorem word_at {k : Nat} (hk : k < 15) : ∃ w, words15[k]? = some w ∧ w ∈ words15 ∧ w.length ≤ 3 ∧ (w = Str.ofString "" ∨ Txt.slice w (some 1) none = tl w ∧ Txt.slice w none (some (-1)) = dl w ∧ tl w ∈ words15.take k ∧ dl w ∈ words15.take k) := by
  have h := word_cut k (List.mem_range.mpr hk)
  cases e : words15[k]? with
  | none => rw [e] at h; cases h
  | some w =>
    rw [e] at h
    have hm := List.mem_of_getElem? e
    refine ⟨w, rfl, hm, words_len w hm, ?_⟩
    simp only [Bool.or_eq_true, Bool.and_eq_true, beq_iff_eq, List.contains_iff_mem] at h
    rcases h with h | ⟨⟨⟨a, b⟩, c⟩, d⟩
    · exact .inl h
    · exact .inr ⟨a, b, c, d⟩
theorem told_empty {us as : List Str} (h : Inv6 us as) : told us (Str.ofString "") = false := by
  rw [← Bool.not_eq_true, told_iff h (by unfold Low; decide +kernel)]
  rintro ⟨a, ha, l⟩
  have h1 := lies_len l
  have h2 := (h.2.2.1 a ha).1
  rw [len_cps] at h1
  have h3 : (Str.ofString "").cps.toList.length = 0 := by decide +kernel
  omega
def kvsOf (us : List Str) (ws : List Str) : List (Str × Value) := ws.map fun w => (w, Value.bool (told us w))
theorem kvs_len (us ws : List Str) : (kvsOf us ws).length = ws.length := List.length_map ..
theorem kvs_at {us : List Str} : ∀ {ws : List Str} {w : Str}, w ∈ ws → PySem.valueAt (kvsOf us ws) w = some (.bool (told us w))
  | a :: r, w, h => by
    unfold PySem.valueAt kvsOf
    rw [List.map_cons, List.find?_cons]
    by_cases e : a = w
    · subst e; simp
    · have : decide (a = w) = false := decide_eq_false e
      simp only [this]
      have hm : w ∈ r := (List.mem_cons.mp h).resolve_left fun q => e q.symm
      exact kvs_at (us := us) hm
theorem kvs_new {us ws : List Str} {w : Str} (h : w ∉ ws) : PySem.stored (kvsOf us ws) w (.bool (told us w)) = kvsOf us (ws ++ [w]) := by
  unfold PySem.stored kvsOf
  rw [if_neg, List.map_append]; · rfl
  rw [List.any_map, List.any_eq_true]
  rintro ⟨a, ha, e⟩
  simp only [Function.comp, decide_eq_true_eq] at e
  exact h (e ▸ ha)
theorem word_fresh {k : Nat} {w : Str} (h : words15[k]? = some w) : w ∉ words15.take k ∧ words15.take (k + 1) = words15.take k ++ [w] := by
  refine ⟨fun hm => ?_, by rw [List.take_add_one, h]; rfl⟩
  have hk : k < words15.length := (List.getElem?_eq_some_iff.mp h).1
  have hn := words_nodup
  rw [← List.take_append_drop k words15] at hn
  have hd : w ∈ words15.drop k := by
    rw [List.mem_iff_getElem?]
    exact ⟨0, by rw [List.getElem?_drop]; exact h⟩
  exact (List.nodup_append.mp hn).2.2 w hm w hd rfl
theorem us_len {us as : List Str} (h : Inv6 us as) : ∀ u ∈ us, u.length ≤ 1000 := fun u hu => by
  rcases h.1 u hu with rfl | ⟨_, h2, _⟩
  · decide +kernel
  · omega
end Mine
end
section
namespace Mine
theorem slice_mk {t : Str} {i j : Int} {s e : Nat} (hi : i = (s : Int)) (hj : j = (e : Int)) (h1 : s ≤ e) (h : e ≤ t.length) : Txt.slice t (some i) (some j) = mk ((t.cps.toList.drop s).take (e - s)) := by
  have := eq_of_beq (slice_closesL (x := t) (i := i) (j := j) (by omega) (by omega) (by omega))
  rw [this]
  unfold mk
  rw [show i.toNat = s by omega, show (j - i).toNat = e - s by omega]
theorem found_lies {p t : Str} {s e : Nat} (h1 : s ≤ e) (h : e ≤ t.length) (hq : mk ((t.cps.toList.drop s).take (e - s)) = p) : liesD p t = true := by
  rw [liesD_iff, ← hq, mk_cps]
  have hl := len_cps t
  refine ⟨s, by rw [List.length_take, List.length_drop]; omega, ?_⟩
  rw [List.length_take, List.length_drop, Nat.min_eq_left (by omega)]
theorem none_lies {p t : Str} (hp : 1 ≤ p.length) (h : ∀ s e, s < e → e ≤ t.length → mk ((t.cps.toList.drop s).take (e - s)) ≠ p) : liesD p t = false := by
  rw [← Bool.not_eq_true, liesD_iff]
  rintro ⟨i, h1, h2⟩
  have hl := len_cps t
  have hl2 := len_cps p
  refine h i (i + p.length) (by omega) (by omega) (str_eq ?_)
  rw [mk_cps, Nat.add_sub_cancel_left, ← hl2]
  exact h2
theorem small_good {a : Str} (h : SmallW a) : Good a := fun c hc => by
  have := h.2.2 c hc
  simp at this
  omega
end Mine
local macro_rules | `(tactic| walk_at "pyIter ref") => `(tactic| (k_here; refine Mine.stop ?_))
local macro_rules | `(tactic| walk_at "exec For Name Call cons nil") => `(tactic| (k_here; k_dflt (refine Mine.For_T (by k_asm) (by intro _ _; rfl) ?_)))
local macro_rules | `(tactic| walk_at "execs cons") => `(tactic| ((with_reducible refine wpAny_execs_cons ?_); try dsimp only))
set_option maxRecDepth 100000 in
set_option maxHeartbeats 8000000 in
theorem Mine.lies06 {w : World} {p : Program} {loose : List Str} {mean : ExcName → Option Value} {mg mb : Str → Option Value} {base h₀ : Heap} {L : Addr} {m : Str → Option Value} {env : Env} {s : Shared} {Q : Value → Shared → Prop} {E : Value → Shared → Prop}
  (hf : env.frame = some L) (hke : env.scope.kind = .function) (B : Below callerA base [] h₀) (F : Fr h₀ L s.heap m) (X : (Mine.hd06.heap_39 w.params).In h₀) (T : Top p loose mean mg mb h₀)
  {pc tx : Str} {t1 t2 : Tok} (hp1 : 1 ≤ pc.length) (hp2 : pc.length ≤ 3) (ht : tx.length ≤ 3)
  (hpost : ∀ h' tk, (∀ b o, s.heap.get? b = some o → h'.get? b = some o) → Q (.bool (Mine.liesD pc tx)) { s with heap := h', toks := tk }) :
  wpAny (model PySem.Challenge.rw_kn0091_06.row.prog w) (callerA.deeper env) (call (.ref 70) [.str pc t1, .str tx t2] []) Q E s := by
  w_top off
  revert X; k_fill; intro X
  refine wpAny_call (Mine.code_base (K := Mine.hd06.heap_39 w.params) B F X T rfl hf hke (by k_is) (by k_is) (by k_room) (BindsTo.of_eq rfl) (locs rfl) ?_ rfl rfl rfl (by decide))
  intro L' h₁ F' N' B' X' T'
  dsimp only
  clear F B X T
  repeat' (first | (k_unfold; (try dsimp only)) | walk1 | (dsimp only; walk1) | fail "no step")
  rename Fr _ _ _ _ => F9
  rename News _ _ _ _ => N9
  rename IsRange _ _ _ _ _ _ _ _ => hrg
  refine Mine.unstop (Mine.forT_rng [Str.ofString "start", Str.ofString "end"] (fun i u nw => nw = [] ∧ ∀ a e, a < i → a < e → e ≤ tx.length → Mine.mk ((tx.cps.toList.drop a).take (e - a)) ≠ pc) rfl hrg (by omega) (by omega) F9 N9 ⟨rfl, fun _ _ h => absurd h (Nat.not_lt_zero _)⟩ ?_ ?_)
  · intro i k t u nw I oI h tk hk hk0 hk1 hJ hoff0 F N
    obtain ⟨rfl, hno⟩ := hJ
    simp only [Mine.over] at F
    clear F9 N9 hrg
    repeat' (first | (k_unfold; (try dsimp only)) | walk1 | (dsimp only; walk1) | fail "no step")
    rename Fr _ _ _ _ => F9
    rename News _ _ _ _ => N9
    rename IsRange _ _ _ _ _ _ _ _ => hrg
    refine Mine.unstop (Mine.forT_rng [Str.ofString "end"] (fun j u nw => nw = [(I, oI)] ∧ ∀ e, i < e → e < i + 1 + j → Mine.mk ((tx.cps.toList.drop i).take (e - i)) ≠ pc) rfl hrg (by omega) (by omega) F9 N9 ⟨rfl, fun e h1 h2 => by omega⟩ ?_ ?_)
    · intro j q t u2 nw I2 oI2 h2 tk2 hq hq0 hq1 hJ hoff2 F N
      obtain ⟨rfl, hno2⟩ := hJ
      simp only [Mine.over] at F
      clear F9 N9 hrg
      have hsl := Mine.slice_mk (t := tx) (i := k) (j := q) (s := i) (e := i + 1 + j) (by omega) (by omega) (by omega) (by omega)
      repeat' (first | (k_unfold; (try dsimp only)) | walk1 | (dsimp only; walk1) | fail "no step")
      · rename ((Txt.slice tx (some k) (some q) == pc) = true) => e1
        rw [hsl] at e1
        have hres : Mine.liesD pc tx = true := Mine.found_lies (s := i) (e := i + 1 + j) (by omega) (by omega) (eq_of_beq e1)
        rw [hres] at hpost
        rename Fr s.heap _ _ _ => F8
        (try dsimp only [Mine.TurnPost])
        refine Mine.LeaveB.intro F8 ?_
        exact hpost _ _ F8.keep
      · rename ((Txt.slice tx (some k) (some q) == pc) = false) => e1
        rw [hsl] at e1
        (try dsimp only [Mine.TurnPost])
        refine Mine.TurnEnd.mk' [] (by assumption) (by assumption) hoff2 ⟨fun z1 q1 => ?_, rfl, fun e h1 h2 => ?_⟩
        · simp only [List.mem_cons, not_or, List.not_mem_nil, not_false_iff, and_true] at q1
          simp only [if_neg q1]
        · rcases Nat.lt_or_ge e (i + 1 + j) with g | g
          · exact hno2 e h1 g
          · have : e = i + 1 + j := by omega
            subst this
            exact ne_of_beq_false e1
    · intro u2 nw h2 tk2 hJ F N
      obtain ⟨rfl, hno2⟩ := hJ
      simp only [Mine.over] at F
      clear F9 N9 hrg
      dsimp only
      repeat' (first | (k_unfold; (try dsimp only)) | walk1 | (dsimp only; walk1) | fail "no step")
      (try dsimp only [Mine.TurnPost])
      refine Mine.TurnEnd.mk' [] (by assumption) (by assumption) hoff0 ⟨fun z1 q1 => ?_, rfl, fun a e h1 h3 h4 => ?_⟩
      · simp only [List.mem_cons, not_or, List.not_mem_nil, not_false_iff, and_true] at q1
        obtain ⟨n1, n2⟩ := q1
        simp only [if_neg n1, if_neg n2]
      · rcases Nat.lt_or_ge a i with g | g
        · exact hno a e g h3 h4
        · have : a = i := by omega
          subst this
          exact hno2 e h3 (by omega)
  · intro u nw h tk hJ F N
    obtain ⟨rfl, hno⟩ := hJ
    simp only [Mine.over] at F
    dsimp only
    repeat' (first | (k_unfold; (try dsimp only)) | walk1 | (dsimp only; walk1) | fail "no step")
    have hres : Mine.liesD pc tx = false := Mine.none_lies hp1 fun a e h1 h2 => hno a e (by omega) h1 h2
    rw [hres] at hpost
    refine Mine.LeaveB.intro F ?_
    exact hpost _ _ F.keep
end
section
namespace Mine
theorem star_told {us as : List Str} (h : Inv6 us as) : us.any (fitsOne (Str.ofString "*")) = false := by
  rw [← Bool.not_eq_true, List.any_eq_true]
  rintro ⟨u, hu, hf⟩
  have h1 := (fits_iff (Str.ofString "*") u g6 (fun c hc => by
    rw [star_is] at hc; simp at hc; subst hc; exact alph6_low 42 (by decide)) (fun c hc => by
    rcases h.1 u hu with rfl | ⟨_, _, hu⟩
    · rw [star_is] at hc; simp at hc; subst hc; exact alph6_low 42 (by decide)
    · exact alph6_low c (ab6 c (hu c hc)))).mp hf
  obtain ⟨n, i, h2, h3⟩ := h1
  rcases h.1 u hu with rfl | ⟨a1, a2, a3⟩
  · exact n (by rw [star_is])
  · have e : (((Str.ofString "*").cps.toList.takeWhile (· != 47)).map g6) = [42] := by rw [star_is]; decide +kernel
    rw [e] at h2 h3
    rw [List.length_map, len_cps] at h2
    simp at h2
    obtain rfl : i = 0 := by omega
    obtain ⟨c, r, hc⟩ : ∃ c r, u.cps.toList = c :: r := by
      match hh : u.cps.toList with
      | [] => rw [← len_cps, hh] at a1; simp at a1
      | c :: r => exact ⟨c, r, rfl⟩
    rw [hc] at h3
    simp at h3
    have hcc := a3 c (by rw [hc]; simp)
    have := g6_ab c hcc
    rw [← h3.1] at this
    revert this; decide
theorem any_len6 {α : Type} {p : α → Bool} {l : List α} {n : Nat} (h : (l.filter p).length = n) : l.any p = decide (0 < (n : Int)) := by
  subst h
  rw [Bool.eq_iff_iff, List.any_eq_true, decide_eq_true_iff]
  constructor
  · rintro ⟨a, ha, hp⟩
    have := List.length_pos_of_mem (List.mem_filter.mpr ⟨ha, hp⟩)
    omega
  · intro hn
    obtain ⟨a, ha⟩ := List.exists_mem_of_length_pos (l := l.filter p) (by omega)
    exact ⟨a, (List.mem_filter.mp ha).1, (List.mem_filter.mp ha).2⟩
theorem words_good {w : Str} (h : w ∈ words15) : Good w := fun c hc => by
  have := words_low w h c hc
  simp at this
  omega
end Mine
end
section
local macro_rules | `(tactic| walk_at "subscriptTail") => `(tactic| (k_here; (with_reducible show wpAny _ _ (subscriptTail _ _ (Value.ref _) (Value.int _ _)) _ _ _); refine Mine.stop ?_))
local macro_rules | `(tactic| walk_at "pyIter ref") => `(tactic| (k_here; refine Mine.stop ?_))
local macro_rules | `(tactic| walk_at "call builtin:list.append") => `(tactic| (k_here; (with_reducible show wpAny _ _ (call (Value.builtin _) [Value.ref _, _]) _ _ _); k_dflt (refine' Mine.append_l ?k1 ?k2 ?k3 ?_ ?z; (case k1 => k_asm); (case k2 => k_asm); (case k3 => k_upd); (case z => (rw [PySem.sizeLine_eq]; (try simp only [List.length_append, List.length_cons, List.length_nil]); omega)); k_whole); intro h' F' N'; (try k_sweep)))
local macro_rules | `(tactic| walk_at "call builtin:len") => `(tactic| (k_here; (with_reducible show wpAny _ _ (call (Value.builtin "len") [Value.ref _]) _ _ _); k_dflt (refine' Mine.len_l ?k1 ?k2 ?k3 ?_; (case k1 => k_asm); (case k2 => k_mem); (case k3 => (rw [PySem.sizeLine_eq]; (try simp only [List.length_append, List.length_cons, List.length_nil]); omega)); k_whole)))
local macro_rules | `(tactic| walk_at "binaryOp Add ref ref") => `(tactic| (k_here; k_dflt (refine' Mine.add_l ?k1 ?k2 ?k3 ?k4 ?k5 ?_; (case k1 => k_asm); (case k2 => k_asm); (case k3 => k_mem); (case k4 => k_mem); (case k5 => (rw [PySem.sizeLine_eq]; (try simp only [List.length_append, List.length_cons, List.length_nil, List.length_take, List.length_drop]); omega)); k_whole); intro D' h' F' N' l1; (try k_lt l1); (try k_sweep)))
local macro_rules | `(tactic| walk_at "call type:list") => `(tactic| (k_here; (with_reducible show wpAny _ _ (call (Value.type _) [Value.ref _]) _ _ _); k_dflt (refine' Mine.copy_l ?k1 ?k2 ?k3 ?k4 ?_; (case k1 => k_asm); (case k2 => k_asm); (case k3 => k_mem); (case k4 => (rw [PySem.sizeLine_eq]; (try simp only [List.length_append, List.length_cons, List.length_nil, List.length_take, List.length_drop]); omega)); k_whole); intro D' c' h' F' N' l1; (try k_lt l1); (try k_sweep)))
local macro_rules | `(tactic| walk_at "subscriptTail Name Slice ref ref") => `(tactic| (k_here; (with_reducible show wpAny _ _ (subscriptTail _ (PySem.Expr.Slice _ _ none _) (Value.ref _) (Value.ref _)) _ _ _); k_dflt ((first | refine' Mine.slice_to ?F ?N ?l ?p ?_ ?s ?t ?z | refine' Mine.slice_from ?F ?N ?l ?p ?_ ?s ?t ?z); (case F => k_asm); (case N => k_asm); (case l => k_mem); (case p => omega); (case s => with_unfolding_all rfl); (case t => kmk_pure); (case z => (rw [PySem.sizeLine_eq]; omega))); intro D' h' F' N' l1; (try k_lt l1); (try k_sweep)))
local macro_rules | `(tactic| walk_at "eval ListComp") => `(tactic| (k_here; first
  | (lcg_look; k_dflt (refine LCg.ListComp_U (F₀ := by k_asm) (by with_unfolding_all rfl) (by decide) (by rfl) (by decide) (by rfl) ?_))
  | (lcf_look; k_dflt (refine LCg.ListComp_U (F₀ := by k_asm) (by with_unfolding_all rfl) (by decide) (by rfl) (by decide) (by rfl) ?_))
  | (lct_look; k_dflt (refine LCt.ListComp_T (F₀ := by k_asm) (by with_unfolding_all rfl) (by decide) (by rfl) (by decide) (by rfl) ?_))))
local macro_rules | `(tactic| walk_at "exec Assign cons ListComp") => `(tactic| (k_here; first
  | (lcg_look; k_dflt (refine LCg.Assign_ListComp_U (F₀ := by k_asm) (by rfl) (by with_unfolding_all rfl) (by with_unfolding_all rfl) (by decide) (by rfl) (by decide) (by rfl) (by rfl) (by rfl) ?_))
  | (lcf_look; k_dflt (refine LCg.Assign_ListComp_U (F₀ := by k_asm) (by rfl) (by with_unfolding_all rfl) (by with_unfolding_all rfl) (by decide) (by rfl) (by decide) (by rfl) (by rfl) (by rfl) ?_))
  | (lct_look; k_dflt (refine LCt.Assign_ListComp_T (F₀ := by k_asm) (by rfl) (by with_unfolding_all rfl) (by with_unfolding_all rfl) (by decide) (by rfl) (by decide) (by rfl) (by rfl) (by rfl) ?_))))
local macro_rules | `(tactic| walk_at "CompSrc") => `(tactic| (k_here; k_dflt (first
  | (refine LCg.CompSrc.ledger (by rfl) (by k_asm) (by k_asm) (by k_mem) (by first | (simp only [List.size_toArray, List.length_append, List.length_cons, List.length_nil, List.length_take, List.length_drop, PySem.sizeLine_eq]; omega) | size_fits) ?_; intro g'; refine Mine.stop ?_)
  | (refine LCg.CompSrc.base (by rfl) (by k_asm) (by k_asm) (by assumption) (by first | (simp only [List.size_toArray, List.length_append, List.length_cons, List.length_nil, List.length_take, List.length_drop, PySem.sizeLine_eq]; omega) | size_fits) ?_; intro g'; refine Mine.stop ?_))))
local macro_rules | `(tactic| walk_at "CompSrcT") => `(tactic| (k_here; k_dflt (first
  | (refine LCt.CompSrcT.ledger (by rfl) (by k_asm) (by k_asm) (by k_mem) (by first | (simp only [List.size_toArray, List.length_append, List.length_cons, List.length_nil, List.length_take, List.length_drop, PySem.sizeLine_eq]; omega) | size_fits) ?_; intro g'; refine Mine.stop ?_)
  | (refine LCt.CompSrcT.base (by rfl) (by k_asm) (by k_asm) (by assumption) (by first | (simp only [List.size_toArray, List.length_append, List.length_cons, List.length_nil, List.length_take, List.length_drop, PySem.sizeLine_eq]; omega) | size_fits) ?_; intro g'; refine Mine.stop ?_))))
local macro_rules | `(tactic| walk_at "exec Assign") => `(tactic| (k_here; with_reducible refine plainObj_wpAny_Assign_Attribute ?_ ?_; rotate_left; with_unfolding_all rfl))
local macro_rules | `(tactic| walk_at "exec For Name Call cons nil") => `(tactic| (k_here; k_dflt (refine Mine.For_K (by k_asm) (by intro _ _; rfl) ?_)))
local macro_rules | `(tactic| walk_at "exec For Name Name cons nil") => `(tactic| (k_here; k_dflt (refine Mine.For_K (by k_asm) (by intro _ _; rfl) ?_)))
local macro_rules | `(tactic| walk_at "exec For Name Attribute cons nil") => `(tactic| (k_here; k_dflt (refine Mine.For_K (by k_asm) (by intro _ _; rfl) ?_)))
local macro_rules | `(tactic| walk_at "CompEnd") => `(tactic| (k_here; refine Mine.stop ?_))
local macro_rules | `(tactic| ktr_rel) => `(tactic| first
  | ((with_reducible show wpAny _ _ (subscriptTail _ _ (Value.ref _) (Value.int _ _)) _ _ _); refine Mine.stop ?_)
  | ((with_reducible show wpAny _ _ (call (Value.ref 70) _ _) _ _ _); refine Mine.stop ?_)
  | ((with_reducible show wpAny _ _ (subscriptTail _ (PySem.Expr.Slice _ _ _ _) (Value.ref _) (Value.ref _)) _ _ _); refine Mine.stop ?_)
  | ((with_reducible show wpAny _ _ (call (Value.ref 49) _ _) _ _ _); refine Mine.stop ?_)
  | ((with_reducible show wpAny _ _ (setItem (Value.ref _) (Value.str _ _) _) _ _ _); refine Mine.stop ?_)
  | ((with_reducible show wpAny _ _ (subscriptTail _ _ (Value.ref _) (Value.str _ _)) _ _ _); refine Mine.stop ?_)
  | ((with_reducible show wpAny _ _ (compareOp CmpOp.NotIn (Value.str _ _) (Value.ref _)) _ _ _); refine Mine.stop ?_)
  | ((with_reducible show wpAny _ _ (call (Value.builtin "str.replace") _ _) _ _ _); refine Mine.stop ?_)
  | ((with_reducible show wpAny _ _ (compareOp CmpOp.Eq (Value.ref _) (Value.ref _)) _ _ _); refine Mine.stop ?_)
  | ((with_reducible show wpAny _ _ (call (Value.builtin "sorted") [Value.ref _] _) _ _ _); refine Mine.stop ?_)
  | ((with_reducible show wpAny _ _ (call (Value.builtin "list.insert") _ _) _ _ _); refine Mine.stop ?_)
  | ((with_reducible show wpAny _ _ (call (Value.builtin "max") [Value.ref _] _) _ _ _); refine Mine.stop ?_)
  | ((with_reducible show wpAny _ _ (delItem (Value.ref _) (Value.int _ _)) _ _ _); refine Mine.stop ?_)
  | ((with_reducible show wpAny _ _ (setItem (Value.ref _) (Value.int _ _) _) _ _ _); refine Mine.stop ?_)
  | ((with_reducible show wpAny _ _ (eval (PySem.Expr.ListComp _ _ _ _) _) _ _ _); refine Mine.stop ?_)
  | ((with_reducible show wpAny _ _ (compareOp CmpOp.NotEq (Value.ref _) (Value.ref _)) _ _ _); refine Mine.stop ?_)
  | ((with_reducible show wpAny _ _ (compareOp CmpOp.In (Value.str _ _) (Value.ref _)) _ _ _); refine Mine.stop ?_)
  | fail "none")
local macro_rules | `(tactic| walk_at "compareOp In str ref") => `(tactic| (k_here; refine Mine.stop ?_))
local macro_rules | `(tactic| ktr_unf) => `(tactic| repeat' (first | (k_unfold; (try dsimp only)) | ktr_rel | walk1 | (dsimp only; walk1) | fail "no step"))
local macro_rules | `(tactic| walk_at "subscriptTail Name Slice ref ref") => `(tactic| (k_here; (with_reducible show wpAny _ _ (subscriptTail _ (PySem.Expr.Slice _ _ none _) (Value.ref _) (Value.ref _)) _ _ _); k_dflt (refine' Mine.slice_p ?F ?N ?l ?p ?q ?_ ?s ?t ?z; (case F => k_asm); (case N => k_asm); (case l => assumption); (case p => omega); (case q => omega); (case s => with_unfolding_all rfl); (case t => kmk_pure); (case z => (rw [PySem.sizeLine_eq]; omega))); intro D' h' F' N' l1; (try k_lt l1); (try k_sweep)))
local macro_rules | `(tactic| walk_at "CompSrc") => `(tactic| (k_here; refine Mine.stop ?_))
local macro_rules | `(tactic| walk_at "CompSrcT") => `(tactic| (k_here; refine Mine.stop ?_))
local macro_rules | `(tactic| walk_at "exec While") => `(tactic| (k_here; refine Mine.stop ?_))
local macro_rules | `(tactic| walk_at "exec While Compare cons nil") => `(tactic| (k_here; refine Mine.stop ?_))
local macro_rules | `(tactic| walk_at "exec While Compare cons cons") => `(tactic| (k_here; refine Mine.stop ?_))
local macro_rules | `(tactic| walk_at "exec For Name Subscript cons nil") => `(tactic| (k_here; k_dflt (refine Mine.For_K (by k_asm) (by intro _ _; rfl) ?_)))
local macro_rules | `(tactic| walk_at "loadName") => `(tactic| (k_here; k_dflt (refine' Mine.loadX_C ?N ?c ?m ?d ?_ ?a ?b; (case a => rfl); (case b => rfl); (case N => k_asm); (case c => rfl); (case m => k_mem); (case d => k_asm); k_whole)))
local macro_rules | `(tactic| walk_at "call type:range") => `(tactic| (k_here; (rename Fr _ _ _ _ => F'); (rename News _ _ _ _ => N'); first
  | (with_unfolding_all refine Mine.range1_k (by dsimp only; omega) F' N' ?_; intro _ _ _ _ _ _ _ _ _ _)
  | (with_unfolding_all refine Mine.range2_k (by dsimp only; omega) F' N' ?_; intro _ _ _ _ _ _ _ _ _ _)))
local macro_rules | `(tactic| k_mem) => `(tactic| assumption)
local macro_rules | `(tactic| walk_at "execs cons") => `(tactic| ((with_reducible refine wpAny_execs_cons ?_); try dsimp only))
local macro_rules | `(tactic| walk_at "execs cons Assign cons") => `(tactic| (k_here; walk_at "execs cons"))
local macro_rules | `(tactic| k_all) => `(tactic| exact Mine.Off.mem (by assumption))
local macro_rules | `(tactic| walk_at "newList") => `(tactic| (k_here; k_dflt (refine' newList_K ?k1 ?k2 ?_; (case k1 => k_asm); (case k2 => k_asm); k_whole); intro l' h' F' N' l1; (try k_lt l1); (try k_sweep)))
set_option maxRecDepth 100000 in
set_option maxHeartbeats 8000000 in
theorem PySem.Challenge.cw_kn0091_06_holds : PySem.Challenge.rw_kn0091_06.Holds := by
  refine Mine.hd06 (by
  k_go0
  (all_goals try k_fold)
  rename ¬ ((_ : Nat) : Int) < _ => hle
  rename IntsAre _ _ => hI
  have hlv := hI.length
  have hpi := Mine.pd_ints hI
  ktr_unf
  rename Fr _ _ _ _ => F9
  rename News _ _ _ _ => N9
  refine Mine.unstop (Mine.while_T [Str.ofString "at"] (n₀ := 7) (fun n u nx => ∃ (m : Nat) (zs : List Value) (c : Nat) (t : Tok), n + m = 7 ∧ nx = [(_, W.listOf zs.toArray c), (_, _)] ∧ Mine.Pd Mine.StrV (Mine.words15.take (2 * m + 1)) zs ∧ u (Str.ofString "at") = some (.int (m : Int) t)) F9 N9 ⟨0, [_], 0, _, rfl, rfl, .cons ⟨_, by rfl⟩ .nil, (by repeat (first | exact if_pos rfl | refine (if_neg (by decide +kernel)).trans ?_))⟩ ?_)
  rintro n u nx h tk ⟨m, zs, c, t, hnm, rfl, hz, hat⟩ F N
  simp only [Mine.over] at F
  rw [hat] at F
  have hzl := Mine.pd_len hz
  rw [List.length_take, Mine.words_15] at hzl
  clear F9 N9
  ktr_unf
  · obtain ⟨wd, hw, hwl, hnext⟩ := Mine.words_next m (by omega)
    rename Fr _ _ _ _ => F5
    rename News _ _ _ _ => N5
    have hw' : (Mine.words15.take (2 * m + 1))[m]? = some wd := by rw [List.getElem?_take_of_lt (by omega)]; exact hw
    refine Mine.unstop (Mine.tail_pd (j := m) N5 (by k_mem) hz hw' rfl (by omega) ?_)
    rintro v ⟨tw, rfl⟩
    ktr_unf
    rename News _ _ _ _ => N6
    have hz2 : ∀ t, Mine.Pd Mine.StrV (Mine.words15.take (2 * m + 1) ++ [wd ++ Str.ofString "a"]) (zs ++ [Value.str (wd ++ Str.ofString "a") t]) := fun t => PySem.Paired.snoc hz ⟨t, rfl⟩
    refine Mine.unstop (Mine.tail_pd (j := m) N6 (by k_mem) (hz2 _) (by rw [List.getElem?_append_left (by rw [List.length_take, Mine.words_15]; omega)]; exact hw') rfl (by omega) ?_)
    rintro v ⟨tw2, rfl⟩
    ktr_unf
    rename Fr _ _ _ _ => F8
    rename News _ _ _ _ => N8
    refine ⟨_, _, _, _, n - 1, rfl, F8, N8, by omega, fun z hz => ?_, m + 1, _, _, _, by omega, rfl, ?_, (by exact if_pos rfl)⟩
    · simp only [List.mem_cons, List.not_mem_nil, or_false] at hz
      simp only [if_neg hz]
    · rw [show 2 * (m + 1) + 1 = 2 * m + 3 by omega, hnext]
      rw [show Mine.words15.take (2 * m + 1) ++ [wd ++ Str.ofString "a", wd ++ Str.ofString "b"] = (Mine.words15.take (2 * m + 1) ++ [wd ++ Str.ofString "a"]) ++ [wd ++ Str.ofString "b"] by simp]
      exact PySem.Paired.snoc (hz2 _) ⟨_, rfl⟩
  · have hm7 : m = 7 := by omega
    subst hm7
    have hz15 : Mine.Pd Mine.StrV Mine.words15 zs := hz
    clear hz
    rename Fr _ _ _ _ => F9
    rename News _ _ _ _ => N9
    rename IsRange _ _ _ _ _ _ _ _ => hrg
    refine Mine.unstop (Mine.forK_step [Str.ofString "start", Str.ofString "one", Str.ofString "agents", Str.ofString "x", Str.ofString "step", Str.ofString "small", Str.ofString "told", Str.ofString "least", Str.ofString "k", Str.ofString "word", Str.ofString "asked", Str.ofString "due"] _
      (fun _ u nw => Mine.JO6 _ _ _ nw) rfl hrg (Mine.small_five (Mine.e_bounds6 (by omega)).1 (Mine.e_bounds6 (by omega)).2).1 (Mine.small_five (Mine.e_bounds6 (by omega)).1 (Mine.e_bounds6 (by omega)).2).2 F9 N9 ⟨_, _, rfl, by assumption⟩ ?_ ?_)
    · intro i t2 u2 nw I oI h2 tk2 hi hJ hoff htk2 F N
      obtain ⟨oA, vA, rfl, hoA⟩ := hJ
      simp only [Mine.over] at F
      have hoff0 := hoff
      simp only [Mine.Off, and_true] at hoff
      clear F9 N9 hrg
      ktr_unf
      rename Fr _ _ _ _ => F5
      rename News _ _ _ _ => N5
      refine Mine.unstop (Mine.slice_p F5 N5 (by assumption) (by omega) (by omega) ?_ (by with_unfolding_all rfl) (by kmk_pure) (by rw [PySem.sizeLine_eq, List.size_toArray]; omega))
      intro D9 h9 F9 N9 l9
      (try k_lt l9)
      clear F5 N5
      obtain ⟨part, hpp, hplen⟩ := Mine.part_of5 hpi (0 + (i : Int) * 5).toNat (0 + (i : Int) * 5 + 5 - (0 + (i : Int) * 5)).toNat (by omega)
      generalize (List.take _ (List.drop _ _) : List Value) = pvs at hpp N9
      have hpvl := Mine.pd_len hpp
      ktr_unf
      rename Fr _ _ _ _ => F5
      rename News _ _ _ _ => N5
      refine Mine.unstop (Mine.forK_pd (G := Mine.IntV) (its := _) (by exact hpp) [Str.ofString "x", Str.ofString "step", Str.ofString "small"]
        (fun pre u nw => Mine.JX6 _ _ _ _ _ _ _ _ _ pre.length nw) rfl (.inr ⟨W.listOf _ _, _, rfl, rfl, by rintro pre m nx ⟨oA, v, us, as, zs, ys, c1, c2, rfl, _⟩; exact .head _⟩) F5 N5
        ⟨_, _, [], [], [], [], _, _, rfl, hoA, .nil, .nil, Mine.inv_nil, by simp, by simp⟩ ?_ ?_)
      · intro pre x post v u3 nw I3 oI3 h3 tk3 hsp hv hJ hoff3 htk3 F N
        obtain ⟨oB, vB, us, as, zs, ys, c1, c2, rfl, hoB, hzs, hys, hinv, hus, has⟩ := hJ
        obtain ⟨tx, rfl⟩ := hv
        have hpre : pre.length < 5 := by have := congrArg List.length hsp; simp only [List.length_append, List.length_cons] at this; omega
        simp only [Mine.over] at F
        have hoff3' := hoff3
        simp only [Mine.Off, and_true] at hoff3
        have hzl := Mine.pd_len hzs
        have hyl := Mine.pd_len hys
        clear F5 N5
        dsimp only at htk3
        ktr_unf
        · rename Fr _ _ _ _ => F5
          rename News _ _ _ _ => N5
          rename IsRange _ _ _ _ _ _ _ _ => hrg
          have hm0 := Int.fmod_nonneg_of_pos x (b := 3) (by decide)
          have hm1 := Int.fmod_lt_of_pos x (b := 3) (by decide)
          refine Mine.unstop (Mine.forK_rng [Str.ofString "step"] (fun j u nw => Mine.JS6 _ _ _ _ _ _ _ _ _ _ x j nw) rfl hrg (by omega) (by omega) F5 N5 ⟨_, _, rfl, by assumption⟩ ?_ ?_)
          · intro j q t4 u4 nw I4 oI4 h4 tk4 hq hq0 hq1 hJ hoff4 htk4 F N
            obtain ⟨oC, tc, rfl, hoC⟩ := hJ
            simp only [Mine.over] at F
            have hoff4' := hoff4
            simp only [Mine.Off, and_true] at hoff4
            have hll := (Mine.letts_is x j).1
            have hj : j = 0 ∨ j = 1 ∨ j = 2 := by omega
            clear F5 N5 hrg
            rcases hj with rfl | rfl | rfl
            · obtain rfl : q = 0 := by omega
              ktr_unf
              (try dsimp only [Mine.TurnPost])
              refine Mine.TurnEnd.mk' [] (by assumption) (by assumption) (by exact hoff4') ⟨fun z1 q1 => ?_, _, _, rfl, by assumption⟩
              simp only [List.mem_cons, not_or, List.not_mem_nil, not_false_iff, and_true] at q1
              simp only [if_neg q1]
            · obtain rfl : q = 1 := by omega
              ktr_unf
              (try dsimp only [Mine.TurnPost])
              refine Mine.TurnEnd.mk' [] (by assumption) (by assumption) (by exact hoff4') ⟨fun z1 q1 => ?_, _, _, rfl, by assumption⟩
              simp only [List.mem_cons, not_or, List.not_mem_nil, not_false_iff, and_true] at q1
              simp only [if_neg q1]
            · obtain rfl : q = 2 := by omega
              ktr_unf
              (try dsimp only [Mine.TurnPost])
              refine Mine.TurnEnd.mk' [] (by assumption) (by assumption) (by exact hoff4') ⟨fun z1 q1 => ?_, _, _, rfl, by assumption⟩
              simp only [List.mem_cons, not_or, List.not_mem_nil, not_false_iff, and_true] at q1
              simp only [if_neg q1]
          · intro u4 nw h4 tk4 hJ htk4 F N
            obtain ⟨oC, tc, rfl, hoC⟩ := hJ
            simp only [Mine.over] at F
            clear F5 N5 hrg
            have hnn : (Int.fmod x 3 + 1 - 0).toNat = (Int.fmod x 3 + 1).toNat := by omega
            have hag := Mine.agent_w (x := x) (n := (Int.fmod x 3 + 1 - 0).toNat) (by omega) (by omega)
            generalize Mine.letts x (Int.fmod x 3 + 1 - 0).toNat = ag at hag hoC
            have hagl := hag.2.1
            dsimp only at htk4
            dsimp only
            ktr_unf
            refine Mine.unstop (Mine.rep_k (by dsimp only; omega) (by show @Ne Nat _ _; omega) (by show @Ne Nat _ _; omega) (by show @Ne Nat _ _; omega) (by decide +kernel) (by omega) (by decide +kernel) ?_)
            intro t5 k5 hk5
            ktr_unf
            refine Mine.unstop (Mine.rep_k (by dsimp only; omega) (by show @Ne Nat _ _; omega) (by show @Ne Nat _ _; omega) (by show @Ne Nat _ _; omega) (by decide +kernel) (by have := Mine.rep1_len hag; omega) (by decide +kernel) ?_)
            intro t6 k6 hk6
            have hrs := Mine.rep_small hag
            unfold Mine.rep6 at hrs
            rw [hrs]
            ktr_unf
            rename News _ _ _ _ => N5
            refine Mine.unstop (PyProof.Rows.notin_list_strs (Mine.is_l N5 (by k_mem)) (Mine.strs_pd hzs) ?_)
            ktr_unf
            · (try dsimp only [Mine.TurnPost])
              refine Mine.TurnEnd.mk' [] (by assumption) (by assumption) (by exact hoff3') ⟨fun z1 q1 => by
                simp only [List.mem_cons, not_or, List.not_mem_nil, not_false_iff, and_true] at q1
                obtain ⟨n1, n2, n3⟩ := q1
                simp only [if_neg n1, if_neg n2, if_neg n3], oC, _, us ++ [ag], as, zs, ys ++ [_], _, _, rfl, hoC, hzs, PySem.Paired.snoc hys ⟨_, rfl⟩, Mine.inv_old hinv hag (by first | exact Mine.in_of2 (by assumption) | exact Mine.in_of (by assumption)), by simp; omega, by simp; omega⟩
            · (try dsimp only [Mine.TurnPost])
              refine Mine.TurnEnd.mk' [] (by assumption) (by assumption) (by exact hoff3') ⟨fun z1 q1 => by
                simp only [List.mem_cons, not_or, List.not_mem_nil, not_false_iff, and_true] at q1
                obtain ⟨n1, n2, n3⟩ := q1
                simp only [if_neg n1, if_neg n2, if_neg n3], oC, _, us ++ [ag], as ++ [Mine.small ag], zs ++ [_], ys ++ [_], _, _, rfl, hoC, PySem.Paired.snoc hzs ⟨_, rfl⟩, PySem.Paired.snoc hys ⟨_, rfl⟩, Mine.inv_new hinv hag (by first | exact Mine.not_in_of2 (by assumption) | exact Mine.not_in_of (by assumption)), by simp; omega, by simp; omega⟩
        · (try dsimp only [Mine.TurnPost])
          refine Mine.TurnEnd.mk' [] (by assumption) (by assumption) (by exact hoff3') ⟨fun z1 q1 => by
                simp only [List.mem_cons, not_or, List.not_mem_nil, not_false_iff, and_true] at q1
                obtain ⟨n1, n2, n3⟩ := q1
                simp only [if_neg n1, if_neg n2, if_neg n3], _, _, us ++ [Str.ofString "*"], as, zs, ys ++ [_], _, _, rfl, by assumption, hzs, PySem.Paired.snoc hys ⟨_, rfl⟩, Mine.inv_star hinv, by simp; omega, by simp; omega⟩
      · intro u3 nw h3 tk3 hJ htk3 F N
        obtain ⟨oB, vB, us, as, zs, ys, c1, c2, rfl, hoB, hzs, hys, hinv, hus, has⟩ := hJ
        simp only [Mine.over] at F
        dsimp only at htk3
        have hus5 : us.length ≤ 5 := by omega
        have has5 : as.length ≤ 5 := by omega
        have hzl := Mine.pd_len hzs
        have hyl := Mine.pd_len hys
        clear F5 N5
        dsimp only
        ktr_unf
        rename (∀ p ∈ (_ : List (PySem.Addr × PySem.Obj)), p.1 ≠ _) => lT
        have lT0 := lT
        simp only [List.forall_mem_cons, List.not_mem_nil, false_implies, implies_true, and_true, List.forall_mem_nil] at lT
        rename Fr _ _ _ _ => F5
        rename News _ _ _ _ => N5
        rename IsRange _ _ _ _ _ _ _ _ => hrg
        rename Obj.IsDictOf (PySem.strKind _ _) _ _ => hd0
        refine Mine.unstop (Mine.forK_rng [Str.ofString "k", Str.ofString "word", Str.ofString "asked"] (fun k u nw => ∃ oT zl cl, nw = [(_, W.listOf zl.toArray cl), (_, oT), _, _, _, _, _, _, _, _, _] ∧ oT.IsDictOf (PySem.strKind _ _) (Mine.kvsOf us (Mine.words15.take k)) ∧ Mine.Pd Mine.StrV ((Mine.words15.take k).filter (Mine.isLeast us)) zl) rfl hrg (by omega) (by omega) F5 N5 ⟨_, [], _, rfl, hd0, .nil⟩ ?_ ?_)
        · intro k q t3 u4 nw I5 oI5 h5 tk5 hq hq0 hq1 hJ hoff5 htk5 F N
          obtain ⟨oT, zl, cl, rfl, hoT, hpl⟩ := hJ
          simp only [Mine.over] at F
          dsimp only at htk5
          have hoff5' := hoff5
          simp only [Mine.Off, and_true] at hoff5
          obtain ⟨wd, hw, hwm, hwl, hcut⟩ := Mine.word_at (k := k) (by omega)
          obtain rfl : q = (k : Int) := by omega
          have hk15 : k < 15 := by omega
          obtain ⟨hfr, htn⟩ := Mine.word_fresh hw
          clear F5 N5 hrg hd0 hq hq0 hq1
          have hzl2 : zl.length ≤ k := by
            rw [← Mine.pd_len hpl]
            exact Nat.le_trans (List.length_filter_le _ _) (by rw [List.length_take]; omega)
          ktr_unf
          rename News _ _ _ _ => N5
          refine Mine.unstop (Mine.tail_pd (j := k) N5 (by k_mem) hz15 hw rfl (by omega) ?_)
          rintro v ⟨tw, rfl⟩
          ktr_unf
          · refine Mine.unstop (Mine.rep_k (by dsimp only; omega) (by show @Ne Nat _ _; omega) (by show @Ne Nat _ _; omega) (by show @Ne Nat _ _; omega) (by decide +kernel) (by omega) (by decide +kernel) ?_)
            intro t5 k5 hk5
            ktr_unf
            refine Mine.unstop (Mine.rep_k (by dsimp only; omega) (by show @Ne Nat _ _; omega) (by show @Ne Nat _ _; omega) (by show @Ne Nat _ _; omega) (by decide +kernel) (by have := (Mine.word_up wd hwm).1; omega) (by decide +kernel) ?_)
            intro t6 k6 hk6
            ktr_unf
            rename Fr _ _ _ _ => F5
            rename News _ _ _ _ => N5
            refine Mine.unstop (Mine.applies (xs := us) (name := Txt.replace (Txt.replace wd (Str.ofString "a") (Str.ofString "A")) (Str.ofString "b") (Str.ofString "B")) rfl rfl (by assumption) F5 (by assumption) (by assumption) (InstAt.of_news N5 (by k_mem) (by k_mem)) (Mine.is_l N5 (by k_mem)) (by exact hys) (Mine.us_len hinv) (by have := (Mine.word_up wd hwm).2.1; unfold Mine.up at this; omega) ?_)
            intro h6 tk6 keep6
            obtain ⟨F6, N6⟩ := Mine.after_keep F5 N5 keep6
            clear F5 N5 keep6
            rw [show us.any (Mine.fitsOne (Txt.replace (Txt.replace wd (Str.ofString "a") (Str.ofString "A")) (Str.ofString "b") (Str.ofString "B"))) = Mine.told us wd from Mine.told_up hwm]
            ktr_unf
            rename Fr _ _ _ _ => F5
            rename News _ _ _ _ => N5
            refine Mine.unstop (kda_set (knd := PySem.strKind _ _) F5 N5 (.tail (by k_ne) (.tail (by k_ne) (.head (by exact lT0)))) hoT (strKind_is _ _ _ _) (by rw [Mine.kvs_len, List.length_take, PySem.sizeLine_eq, Mine.words_15]; omega) ?_)
            intro h7 oT2 F7 N7 hoT2
            rw [Mine.kvs_new hfr] at hoT2
            (try dsimp only [List.nil_append, List.cons_append] at N7)
            clear F5 N5
            ktr_unf
            rename News _ _ _ _ => N5
            refine Mine.unstop (kda_item (knd := PySem.strKind _ _) N5 (by k_mem) hoT2 (strKind_is _ _ _ _) (Mine.kvs_at (by simp)) ?_)
            cases htd : Mine.told us wd with
            | true =>
              rcases hcut with rfl | ⟨e1, e2, m1, m2⟩
              · rw [Mine.told_empty hinv] at htd; cases htd
              have hne : (wd == Str.ofString "") = false := by
                cases hh : wd == Str.ofString "" with
                | false => rfl
                | true => rw [eq_of_beq hh, Mine.told_empty hinv] at htd; cases htd
              ktr_unf
              · rename News _ _ _ _ => N5
                refine Mine.unstop (kda_item (knd := PySem.strKind _ _) N5 (by k_mem) hoT2 (strKind_is _ _ _ _) (Mine.kvs_at (by rw [e1]; simp [m1])) ?_)
                rw [e1]
                cases ht1 : Mine.told us (Mine.tl wd) with
                | true =>
                  ktr_unf
                  all_goals (try dsimp only [Mine.TurnPost])
                  all_goals refine Mine.TurnEnd.mk' [] (by assumption) (by assumption) (by exact hoff5') ⟨fun z1 q1 => by
                      simp only [List.mem_cons, not_or, List.not_mem_nil, not_false_iff, and_true] at q1
                      obtain ⟨n1, n2, n3⟩ := q1
                      simp only [if_neg n1, if_neg n2, if_neg n3], oT2, _, _, rfl, by rw [htn]; exact hoT2, by rw [htn, List.filter_append, show [wd].filter (Mine.isLeast us) = [] by simp [Mine.isLeast, ht1], List.append_nil]; exact hpl⟩
                | false =>
                  ktr_unf
                  rename News _ _ _ _ => N5
                  refine Mine.unstop (kda_item (knd := PySem.strKind _ _) N5 (by k_mem) hoT2 (strKind_is _ _ _ _) (Mine.kvs_at (by rw [e2]; simp [m2])) ?_)
                  rw [e2]
                  cases ht2 : Mine.told us (Mine.dl wd) with
                  | true =>
                    ktr_unf
                    all_goals (try dsimp only [Mine.TurnPost])
                    all_goals refine Mine.TurnEnd.mk' [] (by assumption) (by assumption) (by exact hoff5') ⟨fun z1 q1 => by
                        simp only [List.mem_cons, not_or, List.not_mem_nil, not_false_iff, and_true] at q1
                        obtain ⟨n1, n2, n3⟩ := q1
                        simp only [if_neg n1, if_neg n2, if_neg n3], oT2, _, _, rfl, by rw [htn]; exact hoT2, by rw [htn, List.filter_append, show [wd].filter (Mine.isLeast us) = [] by simp [Mine.isLeast, ht2], List.append_nil]; exact hpl⟩
                  | false =>
                    ktr_unf
                    all_goals (try dsimp only [Mine.TurnPost])
                    all_goals refine Mine.TurnEnd.mk' [] (by assumption) (by assumption) (by exact hoff5') ⟨fun z1 q1 => by
                        simp only [List.mem_cons, not_or, List.not_mem_nil, not_false_iff, and_true] at q1
                        obtain ⟨n1, n2, n3⟩ := q1
                        simp only [if_neg n1, if_neg n2, if_neg n3], oT2, _, _, rfl, by rw [htn]; exact hoT2, by rw [htn, List.filter_append, show [wd].filter (Mine.isLeast us) = [wd] by simp [Mine.isLeast, htd, ht1, ht2]]; exact PySem.Paired.snoc hpl ⟨_, rfl⟩⟩
            | false =>
              ktr_unf
              rename News _ _ _ _ => N5
              refine Mine.unstop (kda_item (knd := PySem.strKind _ _) N5 (by k_mem) hoT2 (strKind_is _ _ _ _) (Mine.kvs_at (by simp)) ?_)
              rw [htd]
              ktr_unf
              all_goals (try dsimp only [Mine.TurnPost])
              all_goals refine Mine.TurnEnd.mk' [] (by assumption) (by assumption) (by exact hoff5') ⟨fun z1 q1 => by
                  simp only [List.mem_cons, not_or, List.not_mem_nil, not_false_iff, and_true] at q1
                  obtain ⟨n1, n2, n3⟩ := q1
                  simp only [if_neg n1, if_neg n2, if_neg n3], oT2, _, _, rfl, by rw [htn]; exact hoT2, by rw [htn, List.filter_append, show [wd].filter (Mine.isLeast us) = [] by simp [Mine.isLeast, htd], List.append_nil]; exact hpl⟩
          · rename Fr _ _ _ _ => F5
            rename News _ _ _ _ => N5
            refine Mine.unstop (Mine.applies (xs := us) (name := wd) rfl rfl (by assumption) F5 (by assumption) (by assumption) (InstAt.of_news N5 (by k_mem) (by k_mem)) (Mine.is_l N5 (by k_mem)) (by exact hys) (Mine.us_len hinv) (by omega) ?_)
            intro h6 tk6 keep6
            obtain ⟨F6, N6⟩ := Mine.after_keep F5 N5 keep6
            clear F5 N5 keep6
            rw [show us.any (Mine.fitsOne (wd)) = Mine.told us wd from rfl]
            ktr_unf
            rename Fr _ _ _ _ => F5
            rename News _ _ _ _ => N5
            refine Mine.unstop (kda_set (knd := PySem.strKind _ _) F5 N5 (.tail (by k_ne) (.tail (by k_ne) (.head (by exact lT0)))) hoT (strKind_is _ _ _ _) (by rw [Mine.kvs_len, List.length_take, PySem.sizeLine_eq, Mine.words_15]; omega) ?_)
            intro h7 oT2 F7 N7 hoT2
            rw [Mine.kvs_new hfr] at hoT2
            (try dsimp only [List.nil_append, List.cons_append] at N7)
            clear F5 N5
            ktr_unf
            rename News _ _ _ _ => N5
            refine Mine.unstop (kda_item (knd := PySem.strKind _ _) N5 (by k_mem) hoT2 (strKind_is _ _ _ _) (Mine.kvs_at (by simp)) ?_)
            cases htd : Mine.told us wd with
            | true =>
              rcases hcut with rfl | ⟨e1, e2, m1, m2⟩
              · rw [Mine.told_empty hinv] at htd; cases htd
              have hne : (wd == Str.ofString "") = false := by
                cases hh : wd == Str.ofString "" with
                | false => rfl
                | true => rw [eq_of_beq hh, Mine.told_empty hinv] at htd; cases htd
              ktr_unf
              · rename News _ _ _ _ => N5
                refine Mine.unstop (kda_item (knd := PySem.strKind _ _) N5 (by k_mem) hoT2 (strKind_is _ _ _ _) (Mine.kvs_at (by rw [e1]; simp [m1])) ?_)
                rw [e1]
                cases ht1 : Mine.told us (Mine.tl wd) with
                | true =>
                  ktr_unf
                  all_goals (try dsimp only [Mine.TurnPost])
                  all_goals refine Mine.TurnEnd.mk' [] (by assumption) (by assumption) (by exact hoff5') ⟨fun z1 q1 => by
                      simp only [List.mem_cons, not_or, List.not_mem_nil, not_false_iff, and_true] at q1
                      obtain ⟨n1, n2, n3⟩ := q1
                      simp only [if_neg n1, if_neg n2, if_neg n3], oT2, _, _, rfl, by rw [htn]; exact hoT2, by rw [htn, List.filter_append, show [wd].filter (Mine.isLeast us) = [] by simp [Mine.isLeast, ht1], List.append_nil]; exact hpl⟩
                | false =>
                  ktr_unf
                  rename News _ _ _ _ => N5
                  refine Mine.unstop (kda_item (knd := PySem.strKind _ _) N5 (by k_mem) hoT2 (strKind_is _ _ _ _) (Mine.kvs_at (by rw [e2]; simp [m2])) ?_)
                  rw [e2]
                  cases ht2 : Mine.told us (Mine.dl wd) with
                  | true =>
                    ktr_unf
                    all_goals (try dsimp only [Mine.TurnPost])
                    all_goals refine Mine.TurnEnd.mk' [] (by assumption) (by assumption) (by exact hoff5') ⟨fun z1 q1 => by
                        simp only [List.mem_cons, not_or, List.not_mem_nil, not_false_iff, and_true] at q1
                        obtain ⟨n1, n2, n3⟩ := q1
                        simp only [if_neg n1, if_neg n2, if_neg n3], oT2, _, _, rfl, by rw [htn]; exact hoT2, by rw [htn, List.filter_append, show [wd].filter (Mine.isLeast us) = [] by simp [Mine.isLeast, ht2], List.append_nil]; exact hpl⟩
                  | false =>
                    ktr_unf
                    all_goals (try dsimp only [Mine.TurnPost])
                    all_goals refine Mine.TurnEnd.mk' [] (by assumption) (by assumption) (by exact hoff5') ⟨fun z1 q1 => by
                        simp only [List.mem_cons, not_or, List.not_mem_nil, not_false_iff, and_true] at q1
                        obtain ⟨n1, n2, n3⟩ := q1
                        simp only [if_neg n1, if_neg n2, if_neg n3], oT2, _, _, rfl, by rw [htn]; exact hoT2, by rw [htn, List.filter_append, show [wd].filter (Mine.isLeast us) = [wd] by simp [Mine.isLeast, htd, ht1, ht2]]; exact PySem.Paired.snoc hpl ⟨_, rfl⟩⟩
            | false =>
              ktr_unf
              rename News _ _ _ _ => N5
              refine Mine.unstop (kda_item (knd := PySem.strKind _ _) N5 (by k_mem) hoT2 (strKind_is _ _ _ _) (Mine.kvs_at (by simp)) ?_)
              rw [htd]
              ktr_unf
              all_goals (try dsimp only [Mine.TurnPost])
              all_goals refine Mine.TurnEnd.mk' [] (by assumption) (by assumption) (by exact hoff5') ⟨fun z1 q1 => by
                  simp only [List.mem_cons, not_or, List.not_mem_nil, not_false_iff, and_true] at q1
                  obtain ⟨n1, n2, n3⟩ := q1
                  simp only [if_neg n1, if_neg n2, if_neg n3], oT2, _, _, rfl, by rw [htn]; exact hoT2, by rw [htn, List.filter_append, show [wd].filter (Mine.isLeast us) = [] by simp [Mine.isLeast, htd], List.append_nil]; exact hpl⟩
        · intro u5 nw h5 tk5 hJ htk5 F N
          obtain ⟨oT, zl, cl, rfl, hoT, hpl⟩ := hJ
          simp only [Mine.over] at F
          dsimp only at htk5
          rw [show List.take ((15 : Int) - 0).toNat Mine.words15 = Mine.words15 by decide +kernel] at hpl
          clear F5 N5 hrg hd0 hoT
          obtain ⟨g1, g2, g3, g4, g5, g6, g7, g8, g9⟩ := lT
          have g9 : @Ne Nat _ _ := g9
          dsimp only
          ktr_unf
          rename Fr _ _ _ _ => F5
          rename News _ _ _ _ => N5
          refine Mine.unstop (Mine.forK_pd (G := Mine.StrV) (its := _) (by exact hzs) []
            (fun pre u nw => ∃ oB vB zd cd, nw = [(_, W.listOf zd.toArray cd), _, _, _, _, _, _, _, _, _, _, (_, oB)] ∧ oB.data = .cell vB ∧ Mine.Pd Mine.StrV (pre.filter (Mine.isDue as)) zd) rfl (.inr ⟨W.listOf _ _, _, rfl, rfl, by rintro pre m nx ⟨oB, vB, zd, cd, rfl, _⟩; exact .tail _ (.tail _ (.tail _ (.tail _ (.head _))))⟩) F5 N5
            ⟨_, _, [], _, rfl, hoB, .nil⟩ ?_ ?_)
          · intro pre a post v u6 nw I6 oI6 h6 tk6 hsp hv hJ hoff6 htk6 F N
            obtain ⟨tv, rfl⟩ := hv
            obtain ⟨oB6, vB6, zd, cd, rfl, hoB6, hpd⟩ := hJ
            have hzdl : zd.length ≤ 5 := by
              rw [← Mine.pd_len hpd]
              refine Nat.le_trans (List.length_filter_le _ _) ?_
              have := congrArg List.length hsp
              rw [List.length_append] at this
              omega
            have hoff6' := hoff6
            simp only [Mine.Off, and_true] at hoff6
            clear F5 N5
            simp only [Mine.over] at F
            dsimp only at htk6
            dsimp only at N
            ktr_unf
            refine Mine.unstop ?_
            lct_look
            k_dflt (refine LCt.ListComp_T (F₀ := by k_asm) (by with_unfolding_all rfl) (by decide) (by rfl) (by decide) (by rfl) ?_)
            ktr_unf
            refine Mine.unstop (LCt.CompSrcT.ledger (by rfl) (by k_asm) (by k_asm) (by k_mem) (by simp only [List.size_toArray, PySem.sizeLine_eq]; omega) ?_)
            intro g7
            refine Mine.compT_pd Mine.StrV (fun o => o != a && Mine.liesD o a) id hzs ?_ ?_
            · intro o v I7 oI7 C7 oC7 D7 ys7 m₇ h7 tk7 E7 ho hv hyl7 hC7 hx7 F7 N7 off7 ne7
              obtain ⟨to, rfl⟩ := hv
              have off70 := off7
              simp only [LCg.Off3, and_true] at off7
              ktr_unf
              · rename (o != a) = true => e7
                rename Fr _ _ _ _ => F8
                rename News _ _ _ _ => N8
                have hso := hinv.2.2.1 o ho
                have hsa := hinv.2.2.1 a (by rw [hsp]; simp)
                refine Mine.unstop (Mine.lies06 (pc := o) (tx := a) rfl rfl (by assumption) F8 (by assumption) (by assumption) hso.1 hso.2.1 hsa.2.1 ?_)
                intro h8 tk8 keep8
                obtain ⟨F10, N10⟩ := Mine.after_keep F8 N8 keep8
                clear F8 N8 keep8
                ktr_unf
                · refine Mine.unstop (Mine.cend [] (by assumption) (by assumption) off70 (.inr ⟨W.listOf _ _, by k_mem, rfl, _, rfl⟩) ⟨rfl, by rw [e7]; assumption, to, rfl⟩)
                · refine Mine.unstop (Mine.cend [] (by assumption) (by assumption) off70 (.inr ⟨W.listOf _ _, by k_mem, rfl, _, rfl⟩) ⟨rfl, by rw [e7]; assumption⟩)
              · rename (o != a) = false => e7
                refine Mine.unstop (Mine.cend [] (by assumption) (by assumption) off70 (.inr ⟨W.listOf _ _, by k_mem, rfl, _, rfl⟩) ⟨rfl, by rw [e7]; rfl⟩)
            · intro ys7 hy7
              rw [List.map_id] at hy7
              change Mine.Pd Mine.StrV (Mine.others as a) ys7 at hy7
              ktr_unf
              rename News _ _ _ _ => N8
              refine Mine.unstop (Mine.eq_strs (xs := ys7) (ys := []) (ms := []) (Mine.is_l N8 (.tail _ (.head _))) (Mine.is_l N8 (.head _)) hy7 .nil (fun o ho => Mine.small_good (hinv.2.2.1 o (List.mem_filter.mp ho).1)) (fun o ho => absurd ho List.not_mem_nil) (by ke_room) ?_)
              rw [show decide (Mine.others as a = []) = Mine.isDue as a from rfl]
              ktr_unf
              · rename Mine.isDue as a = true => e9
                (try dsimp only [Mine.TurnPost])
                refine Mine.TurnEnd.mk' [_, _] (by assumption) (by assumption) (by exact hoff6') ⟨fun _ _ => rfl, _, _, _, _, rfl, by assumption, by rw [List.filter_append, show [a].filter (Mine.isDue as) = [a] by simp [e9]]; exact PySem.Paired.snoc hpd ⟨_, rfl⟩⟩
              · rename Mine.isDue as a = false => e9
                (try dsimp only [Mine.TurnPost])
                refine Mine.TurnEnd.mk' [_, _] (by assumption) (by assumption) (by exact hoff6') ⟨fun _ _ => rfl, _, _, _, _, rfl, by assumption, by rw [List.filter_append, show [a].filter (Mine.isDue as) = [] by simp [e9], List.append_nil]; exact hpd⟩
          · intro u6 nw h6 tk6 hJ htk6 F N
            obtain ⟨oB6, vB6, zd, cd, rfl, hoB6, hpd⟩ := hJ
            simp only [Mine.over] at F
            dsimp only at htk6
            dsimp only at N
            have hzdl : zd.length ≤ 5 := by
              rw [← Mine.pd_len hpd]
              exact Nat.le_trans (List.length_filter_le _ _) has5
            have hzll : zl.length ≤ 15 := by
              rw [← Mine.pd_len hpl]
              exact Nat.le_trans (List.length_filter_le _ _) (by rw [Mine.words_15]; omega)
            clear F5 N5
            dsimp only
            ktr_unf
            rename Fr _ _ _ _ => F5
            rename News _ _ _ _ => N5
            refine Mine.unstop (PyProof.Rows.sorted_N_str F5 N5 (Mine.is_l N5 (.tail _ (.head _))) (Mine.strs_pd hpl) (by omega) ?_)
            intro h7 v1 s1 e1 F7 N7 hs1 hp1 hq1
            clear F5 N5
            ktr_unf
            rename Fr _ _ _ _ => F5
            rename News _ _ _ _ => N5
            refine Mine.unstop (PyProof.Rows.sorted_N_str F5 N5 (Mine.is_l N5 (.tail _ (.head _))) (Mine.strs_pd hpd) (by omega) ?_)
            intro h8 v2 s2 e2 F8 N8 hs2 hp2 hq2
            clear F5 N5
            have heq : s1 = s2 := Mine.sorted_uniq hq1 hq2 (hp1.trans ((Mine.least_perm hinv).trans hp2.symm))
            subst heq
            ktr_unf
            rename News _ _ _ _ => N5
            refine Mine.unstop (Mine.ne_strs (Mine.is_l N5 (.tail _ (.head _))) (Mine.is_l N5 (.head _)) (Mine.pd_strs hs1) (Mine.pd_strs hs2) (fun o ho => Mine.words_good (List.mem_filter.mp (hp1.mem_iff.mp ho)).1) (fun o ho => Mine.words_good (List.mem_filter.mp (hp1.mem_iff.mp ho)).1) (by ke_room) ?_)
            rw [decide_eq_true rfl, Bool.not_true]
            ktr_unf
            rename Fr _ _ _ _ => F5
            rename News _ _ _ _ => N5
            refine Mine.unstop (Mine.applies (xs := us) (name := Str.ofString "*") rfl rfl (by assumption) F5 (by assumption) (by assumption) (InstAt.of_news N5 (by k_mem) (by k_mem)) (Mine.is_l N5 (by k_mem)) (by exact hys) (Mine.us_len hinv) (by decide +kernel) ?_)
            intro h9 tk9 keep9
            obtain ⟨F9, N9⟩ := Mine.after_keep F5 N5 keep9
            clear F5 N5 keep9
            rw [Mine.star_told hinv]
            ktr_unf
            rename Fr _ _ _ _ => F5
            rename News _ _ _ _ => N5
            refine Mine.unstop (Mine.appliesNone (xs := us) rfl rfl (by assumption) F5 (by assumption) (by assumption) (InstAt.of_news N5 (by k_mem) (by k_mem)) (Mine.is_l N5 (by k_mem)) (by exact hys) ?_)
            intro h10 tk10 keep10
            obtain ⟨F10, N10⟩ := Mine.after_keep F5 N5 keep10
            clear F5 N5 keep10
            ktr_unf
            refine Mine.unstop ?_
            lct_look
            k_dflt (refine LCt.ListComp_T (F₀ := by k_asm) (by with_unfolding_all rfl) (by decide) (by rfl) (by decide) (by rfl) ?_)
            ktr_unf
            refine Mine.unstop (LCt.CompSrcT.ledger (by rfl) (by k_asm) (by k_asm) (by k_mem) (by simp only [List.size_toArray, PySem.sizeLine_eq]; omega) ?_)
            intro g7
            refine Mine.compT_pd Mine.StrV (fun t => t == Str.ofString "*") id hys ?_ ?_
            · intro o v I7 oI7 C7 oC7 D7 ys7 m₇ h7 tk7 E7 ho hv hyl7 hC7 hx7 F7 N7 off7 ne7
              obtain ⟨to, rfl⟩ := hv
              have off70 := off7
              simp only [LCg.Off3, and_true] at off7
              ktr_unf
              · refine Mine.unstop (Mine.cend [] (by assumption) (by assumption) off70 (.inr ⟨W.listOf _ _, by k_mem, rfl, _, rfl⟩) ⟨rfl, by assumption, to, rfl⟩)
              · refine Mine.unstop (Mine.cend [] (by assumption) (by assumption) off70 (.inr ⟨W.listOf _ _, by k_mem, rfl, _, rfl⟩) ⟨rfl, by assumption⟩)
            · intro ys9 hy9
              rw [List.map_id] at hy9
              have hstar := Mine.any_len6 (Mine.pd_len hy9)
              have hyl9 : ys9.length ≤ 64 := by
                rw [← Mine.pd_len hy9]
                exact Nat.le_trans (List.length_filter_le _ _) (by omega)
              ktr_unf
              · rename ((_ != _) = true) => e7
                rw [hstar, bne_self_eq_false] at e7
                cases e7
              · (try dsimp only [Mine.TurnPost])
                refine Mine.TurnEnd.mk' [_, _, _, _, _, _, _, _, _, _, _, _] (by assumption) (by assumption) (by exact hoff0) ⟨fun z1 q1 => ?_, _, _, rfl, hoB6⟩
                simp only [List.mem_cons, not_or, List.not_mem_nil, not_false_iff, and_true] at q1
                obtain ⟨n1, n2, n3, n4, n5, n6, n7, n8, n9, n10, n11, n12⟩ := q1
                simp only [if_neg n1, if_neg n2, if_neg n3, if_neg n4, if_neg n5, if_neg n6, if_neg n7, if_neg n8, if_neg n9, if_neg n10, if_neg n11, if_neg n12]
    · intro u2 nw h2 tk2 hJ htk2 F N
      obtain ⟨oA, vA, rfl, hoA⟩ := hJ
      simp only [Mine.over] at F
      clear F9 N9 hrg
      dsimp only
      ktr_unf
      all_goals (k_end; kc_close)
)
end
