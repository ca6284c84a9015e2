import PyProof.Rows.All
import Wide.All
import OpenK.AllK
import Wide.FinOn
import PySem.Challenge.RW_kn0091_02
open PySem PySem.W PyProof.Rows
set_option Elab.async false
section
set_option maxRecDepth 100000 in
set_option maxHeartbeats 8000000 in
open_top Mine.hd02 for PySem.Challenge.rw_kn0091_02
end
section
namespace Mine
open PySem.Calls PySem.Spec

def Stop (P : Prop) : Prop := P
theorem stop {P : Prop} (h : Stop P) : P := h
theorem unstop {P : Prop} (h : P) : Stop P := h

/-- no entry of the ledger stands at I -/
def Off (I : Addr) : List (Addr × Obj) → Prop
  | [] => True
  | p :: r => (@Ne Nat p.1 I) ∧ Off I r
theorem Off.mem {I : Addr} : ∀ {l : List (Addr × Obj)}, Off I l → ∀ p ∈ l, p.1 ≠ I
  | [], _, _, h => nomatch h
  | _ :: _, x, p, h => by
    rcases List.mem_cons.mp h with rfl | h
    · exact x.1
    · exact Off.mem x.2 p h
theorem Off.of {I : Addr} : ∀ {l : List (Addr × Obj)}, (∀ p ∈ l, p.1 ≠ I) → Off I l
  | [], _ => trivial
  | _ :: _, h => ⟨h _ List.mem_cons_self, Off.of fun p hp => h p (List.mem_cons_of_mem _ hp)⟩

section
variable {prog : Program} {w : World} {A : Around} {E : Value → Shared → Prop} {s : Shared} {env : Env} {h₀ : Heap} {x : Str} {body : List Stmt} {Q : Flow → Shared → Prop}

def TurnEnd (h₀ : Heap) (L I : Addr) (oI : Obj) (J : (Str → Option Value) → List (Addr × Obj) → Prop) (s₁ s₂ : Shared) : Prop :=
  ∃ h' tk m' nx, s₂ = { s₁ with heap := h', toks := tk } ∧ Fr h₀ L h' m' ∧ News h₀ L h' ((I, oI) :: nx) ∧ Off I nx ∧ J m' nx
def TurnPost (h₀ : Heap) (L I : Addr) (oI : Obj) (J : (Str → Option Value) → List (Addr × Obj) → Prop) (s₁ : Shared) (Q : Flow → Shared → Prop) (f : Flow) (s₂ : Shared) : Prop :=
  match f with
  | .ret v => Q (.ret v) s₂
  | .brk => Q .next s₂
  | .next => TurnEnd h₀ L I oI J s₁ s₂
  | .cont => TurnEnd h₀ L I oI J s₁ s₂

end

section
open LCg
variable {prog : Program} {w : World} {A : Around} {h₀ : Heap} {L : Addr} {m : Str → Option Value} {env : Env} {ct elt : Expr} {x : Str} {scope : Scope} {cl : List (Str × Addr)} {s : Shared} {S : List (Addr × Obj) → Prop} {P : Nat → Value → Prop} {Fin : List Value → List (Addr × Obj) → Prop} {news : List (Addr × Obj)}

end

/-! lists of values by what they stand for -/
abbrev Pd {α : Type} (F : α → Value → Prop) (as : List α) (vs : List Value) : Prop := PySem.Paired F as vs
theorem pd_len {α : Type} {F : α → Value → Prop} {as : List α} {vs : List Value} (h : Pd F as vs) : as.length = vs.length := PySem.Paired.length h
theorem pd_at {α : Type} {F : α → Value → Prop} : ∀ {as : List α} {vs : List Value}, Pd F as vs → ∀ (i : Nat) (v : Value), vs[i]? = some v → ∃ a, as[i]? = some a ∧ F a v
  | _, _, .nil, i, v, h => by simp at h
  | _, _, .cons h₁ t, 0, v, h => by simp at h; subst h; exact ⟨_, by simp, h₁⟩
  | _, _, .cons h₁ t, i + 1, v, h => by simp at h; obtain ⟨a, e, f⟩ := pd_at t i v h; exact ⟨a, by simpa using e, f⟩
theorem pd_get {α : Type} {F : α → Value → Prop} : ∀ {as : List α} {vs : List Value}, Pd F as vs → ∀ (i : Nat) (a : α), as[i]? = some a → ∃ v, vs[i]? = some v ∧ F a v
  | _, _, .nil, i, v, h => by simp at h
  | _, _, .cons h₁ t, 0, v, h => by simp at h; subst h; exact ⟨_, by simp, h₁⟩
  | _, _, .cons h₁ t, i + 1, v, h => by simp at h; obtain ⟨a, e, f⟩ := pd_get t i v h; exact ⟨a, by simpa using e, f⟩
def IntV (n : Int) (v : Value) : Prop := ∃ t, v = .int n t
def StrV (x : Str) (v : Value) : Prop := ∃ t, v = .str x t
theorem pd_ints : ∀ {vs : List Value} {ns : List Int}, IntsAre vs ns → Pd IntV ns vs
  | _, _, .nil => .nil
  | _, _, .cons n t h => .cons ⟨t, rfl⟩ (pd_ints h)
section
open LCg
variable {prog : Program} {w : World} {A : Around} {h₀ : Heap} {L : Addr} {m : Str → Option Value} {env : Env} {ct elt : Expr} {x : Str} {scope : Scope} {cl : List (Str × Addr)} {s : Shared} {S : List (Addr × Obj) → Prop} {Fin : List Value → List (Addr × Obj) → Prop} {news : List (Addr × Obj)}

end

/-! a call whose body leaves all that stood as it stood: the whole heap is its ground -/
def LeaveB (g : Heap) (R : Result → Shared → Prop) (v : Value) (s' : Shared) : Prop := ∃ L' m', Fr g L' s'.heap m' ∧ R (.ok (.ret v)) s'
theorem LeaveB.intro {g : Heap} {R : Result → Shared → Prop} {v : Value} {s' : Shared} {L' : Addr} {m' : Str → Option Value} (F : Fr g L' s'.heap m') (h : R (.ok (.ret v)) s') : LeaveB g R v s' := ⟨L', m', F, h⟩
section
variable {prog : Program} {w : World} {A A₀ : Around} {s : Shared} {K : Frag} {L : Addr} {h₀ base : Heap} {m mg mb : Str → Option Value} {p : Program} {loose : List Str} {mean : ExcName → Option Value}

theorem code_base {env : Env} {outer : List Env} {R : Result → Shared → Prop} {name qual : Str} {params : Arguments} {body : List Stmt} {scope : Scope} {dV kV doc pm cdv ct oc : Value} {an od : Option Addr} {osl : Array (Option Value)} {f : Addr} {args : Args} {binds : List (Str × Value)}
    (B : Below A₀ base outer h₀) (F : Fr h₀ L s.heap m) (X₀ : K.In h₀) (T : Top p loose mean mg mb h₀) (hA : A.frames = some (env :: outer)) (hf : env.frame = some L) (hke : env.scope.kind = .function)
    (ho : K.lookup f = some ⟨oc, od, .func (fnOf name qual params body scope dV kV doc pm an cdv ct), osl⟩) (hcd : codeIn K cdv qual = true) (hroom : A.depth < recursionLimit)
    (hbind : BindsTo s (fnOf name qual params body scope dV kV doc pm an cdv ct) args binds) (hloc : ∀ y ∈ binds, scope.names.lookup y.1 = some .local)
    (h : ∀ L' h₁, Fr s.heap L' h₁ (fun y => binds.reverse.lookup y) → News s.heap L' h₁ [] → Below A base (env :: outer) s.heap → K.In s.heap → Top p loose mean mg mb s.heap →
      wpAny (model prog w) (A.deeper (envOf qual scope L' f cdv)) (execs body (envOf qual scope L' f cdv))
        (fun fl s' => LeaveB s.heap R (match fl with | .ret v => v | _ => .none) s')
        (fun e s' => wpAny (model prog w) (A.deeper (envOf qual scope L' f cdv)) (leaving (envOf qual scope L' f cdv) e) (fun _ s'' => R (.error e) s'') (fun e' s'' => R (.error e') s'') s')
        { s with heap := h₁, toks := s.toks + binds.length })
    (hco : scope.isCoroutine = false := by rfl) (hgen : scope.isGenerator = false := by rfl) (hk : scope.kind = .function := by rfl)
    (hcell : ∀ x ∈ scope.names, x.2 ≠ .cell := by decide) : codeAny (model prog w) A (.call (.ref f) args) R s := by
  obtain ⟨FG, BG, st, lv⟩ := groundX (R := R) B F (News.nil (h₀ := h₀) (L := L) (h := s.heap)) hA hf hke
  refine codeAny_call_def (fd := fnOf name qual params body scope dV kV doc pm an cdv ct) (body := body) (binds := binds) hroom ((X₀.keeps F.keep) _ _ ho) rfl (T.nolimit.keeps F.keep) (codeRec_of (X₀.keeps F.keep) hcd) rfl hbind hcell hloc (fun h₁ hns hk₁ => ?_) hco hgen hk
  exact wpAny_mono (h s.heap.objs.size h₁ ⟨hns, hk₁, Nat.le_refl _⟩ News.nil BG (X₀.keeps F.keep) (T.keeps F.keep)) (fun fl s' ⟨_, _, _, hr⟩ => hr) fun _ _ y => y
end

/-! the frame's map between turns: the stored names by u, all else by m₀ -/
def over (u m₀ : Str → Option Value) : List Str → Str → Option Value
  | [], y => m₀ y
  | a :: r, y => if y = a then u a else over u m₀ r y
theorem over_in {u m₀ : Str → Option Value} : ∀ {l : List Str} {y : Str}, (y ∉ l → u y = m₀ y) → over u m₀ l y = u y
  | [], y, h => (h List.not_mem_nil).symm
  | a :: r, y, h => by
    unfold over
    by_cases e : y = a
    · rw [if_pos e, e]
    · rw [if_neg e]
      exact over_in fun hn => h fun hm => (List.mem_cons.mp hm).elim e hn
section
variable {prog : Program} {w : World} {A : Around} {E : Value → Shared → Prop} {s : Shared} {env : Env} {h₀ : Heap} {x : Str} {body : List Stmt} {Q : Flow → Shared → Prop}
end

/-- a turn's end: what the turn has made and dropped stands ahead (ext) -/
theorem TurnEnd.mk' {h₀ : Heap} {L I : Addr} {oI : Obj} {J : (Str → Option Value) → List (Addr × Obj) → Prop} {s₁ : Shared} {h' : Heap} {tk : Nat} {m' : Str → Option Value} (ext : List (Addr × Obj)) {nx : List (Addr × Obj)}
    (F : Fr h₀ L h' m') (N : News h₀ L h' (ext ++ (I, oI) :: nx)) (off : Off I nx) (hj : J m' nx) :
    TurnEnd h₀ L I oI J s₁ { s₁ with heap := h', toks := tk } := ⟨h', tk, m', nx, rfl, F, fun p hp => N p (List.mem_append_right _ hp), off, hj⟩

section
variable {prog : Program} {w : World} {A : Around} {E : Value → Shared → Prop} {s : Shared} {env : Env} {h₀ : Heap} {x : Str} {body : List Stmt} {Q : Flow → Shared → Prop}
theorem take_split {α : Type} {as : List α} {i : Nat} {a : α} (h : as[i]? = some a) : as = as.take i ++ a :: as.drop (i + 1) := by
  have hi : i < as.length := by
    rcases Nat.lt_or_ge i as.length with q | q
    · exact q
    · rw [List.getElem?_eq_none q] at h; cases h
  have : as[i] = a := by rw [List.getElem?_eq_getElem hi] at h; exact Option.some.inj h
  rw [← this, ← List.drop_eq_getElem_cons hi, List.take_append_drop]
theorem take_next {α : Type} {as : List α} {i : Nat} {a : α} (h : as[i]? = some a) : as.take (i + 1) = as.take i ++ [a] := by rw [List.take_add_one, h]; rfl

end

section
variable {prog : Program} {w : World} {A : Around} {E : Value → Shared → Prop} {s : Shared} {h₀ : Heap} {L D : Addr} {m : Str → Option Value} {news news' : List (Addr × Obj)} {n : Nat} {k : Int} {t : Tok}
theorem get_at {its : Array Value} {v : Value} {Q : Value → Shared → Prop} (hl : s.heap.IsList D its) (h0 : 0 ≤ k) (hfit : k < 2 ^ 63) (hx : its[k.toNat]? = some v) (h : Q v s) :
    wpAny (model prog w) A (getItem (.ref D) (.int k t)) Q E s := wpAny_getItem_list hl h0 hfit hx h
theorem tail_at {value slice : PySem.Expr} {its : Array Value} {v : Value} {Q : Value → Shared → Prop} (hl : s.heap.IsList D its) (h0 : 0 ≤ k) (hfit : k < 2 ^ 63) (hx : its[k.toNat]? = some v) (h : Q v s)
    (hs : subscripted slice false (.ref D) (.int k t) = operate [.ref D, .int k t] (getItem (.ref D) (.int k t)) := by with_unfolding_all rfl) :
    wpAny (model prog w) A (subscriptTail value slice (.ref D) (.int k t)) Q E s :=
  tail_any hl.typeIs slot_list_getitem.lookup (get_at hl h0 hfit hx h) hs
end

section
variable {prog : Program} {w : World} {A : Around} {E : Value → Shared → Prop} {s : Shared} {h₀ : Heap} {L D : Addr} {m : Str → Option Value} {news news' : List (Addr × Obj)} {n : Nat}
theorem append_l {zs : List Value} {x : Value} {Q : Value → Shared → Prop} (F : Fr h₀ L s.heap m) (N : News h₀ L s.heap news) (U : Upd D (listOf zs.toArray n) (listOf (zs ++ [x]).toArray (n + 1)) news news')
    (h : ∀ h', Fr h₀ L h' m → News h₀ L h' news' → Q .none { s with heap := h' }) (hsz : zs.length ≤ sizeLine) : wpAny (model prog w) A (call (.builtin "list.append") [.ref D, x]) Q E s :=
  append_K F N (by rw [List.push_toArray]; exact U) h (by rw [List.size_toArray]; exact hsz)
end

section
variable {prog : Program} {w : World} {A : Around} {E : Value → Shared → Prop} {s : Shared} {h₀ : Heap} {L D a b l : Addr} {m : Str → Option Value} {news news' : List (Addr × Obj)} {n k : Nat} {xs zs : List Value} {Q : Value → Shared → Prop}
theorem is_l (N : News h₀ L s.heap news) (ha : (a, listOf xs.toArray n) ∈ news) : s.heap.IsList a xs.toArray := PySem.IsL.isList (n := n) (N _ ha).1
end

section
variable {prog : Program} {w : World} {A : Around} {E : Value → Shared → Prop} {s : Shared} {env : Env} {h₀ : Heap} {x : Str} {body : List Stmt} {Q : Flow → Shared → Prop}
end

section
open LCg
variable {prog : Program} {w : World} {A : Around} {E : Value → Shared → Prop} {s : Shared} {h₀ : Heap} {L : Addr} {m : Str → Option Value} {env : Env}
end
section
open LCg
variable {prog : Program} {w : World} {A : Around} {h₀ : Heap} {L : Addr} {m : Str → Option Value} {env : Env} {elt : Expr} {x : Str} {scope : Scope} {cl : List (Str × Addr)} {s : Shared} {S : List (Addr × Obj) → Prop} {Fin : List Value → List (Addr × Obj) → Prop} {news : List (Addr × Obj)}
end

section
variable {prog : Program} {w : World} {A A₀ : Around} {s : Shared} {K : Frag} {L : Addr} {h₀ base : Heap} {m mg mb : Str → Option Value} {p : Program} {loose : List Str} {mean : ExcName → Option Value}
end

section
open LCg
variable {prog : Program} {w : World} {A : Around} {h₀ : Heap} {L : Addr} {m : Str → Option Value} {env : Env} {ct elt : Expr} {x : Str} {scope : Scope} {cl : List (Str × Addr)} {s : Shared} {S : List (Addr × Obj) → Prop} {Fin : List Value → List (Addr × Obj) → Prop} {news : List (Addr × Obj)}
end
section
variable {prog : Program} {w : World} {A : Around} {E : Value → Shared → Prop} {s : Shared} {g : Heap} {L D : Addr} {m : Str → Option Value} {its : Array Value} {k : Int} {j : Nat} {t : Tok} {v : Value} {Q : Value → Shared → Prop}
end

/-! a for with any target (a local, a captured name, a tuple) -/
section
variable {prog : Program} {w : World} {A : Around} {s : Shared} {env : Env} {h₀ : Heap} {L : Addr}

theorem codeAny_forT {R : Result → Shared → Prop} {target : Expr} {body : List Stmt} {I : Addr} {fp wr : List Addr} {n : Nat} {P : Nat → Value → Prop} {St : Nat → Heap → Prop} {m : Str → Option Value}
    {news : List (Addr × Obj)} (W : Walks prog w A I fp wr n P St) (hLf : L ∉ fp) (hwr : ∀ b ∈ wr, h₀.get? b = none) (hnw : ∀ p ∈ news, p.1 ∉ wr)
    (hst : St 0 s.heap) (F : Fr h₀ L s.heap m) (N : News h₀ L s.heap news)
    (J : Nat → (Str → Option Value) → List (Addr × Obj) → Prop) (h0 : J 0 m news)
    (step : ∀ i v m₁ news₁ s₁ own, (∃ h tk, s₁ = { s with heap := h, toks := tk }) → i < n → P i v → J i m₁ news₁ → (∀ p ∈ news₁, p.1 ∉ wr) → (∀ p ∈ own, p.1 ∈ fp) → (∀ p ∈ own, s₁.heap.get? p.1 = some p.2) → (∀ b ∈ fp, h₀.get? b = none → ∀ o, s₁.heap.get? b = some o → (b, o) ∈ own) → St (i + 1) s₁.heap →
      Fr h₀ L s₁.heap m₁ → News h₀ L s₁.heap (own ++ news₁) →
      wpAny (model prog w) A (assign target env v) (fun _ s₂ => wpAny (model prog w) A (execs body env) (LoopStepV h₀ L wr own (J (i + 1)) s₁ (fun v s' => R (.ok (.ret v)) s') fun s' => R (.ok .next) s') (notedBy (model prog w) A env fun e s' => R (.error e) s') s₂) (notedBy (model prog w) A env fun e s' => R (.error e) s') s₁)
    (hR : ∀ h' tk m' news', Fr h₀ L h' m' → News h₀ L h' news' → (∀ p ∈ news', p.1 ∉ wr) → J n m' news' → R (.ok .next) { s with heap := h', toks := tk })
    (ht : ∀ v, letOwnedTupleGo target (.ref I) v = pure ()) :
    codeAny (model prog w) A (.forLoop target (.ref I) body [] env) R s := by
  have hLw : L ∉ wr := fun h => hLf (W.sub _ h)
  have old : ∀ b o, h₀.get? b = some o → b ∉ wr := fun b o e hb => by rw [hwr b hb] at e; cases e
  refine codeAny_forLoop
    (fun k s' => ∃ h' tk m' news' i, s' = { s with heap := h', toks := tk } ∧ St i h' ∧ Fr h₀ L h' m' ∧ News h₀ L h' news' ∧ (∀ p ∈ news', p.1 ∉ wr) ∧ J i m' news' ∧ i ≤ n ∧ k = n + 1 - i) ?_ (n + 1)
    ⟨s.heap, s.toks, m, news, 0, rfl, hst, F, N, hnw, h0, Nat.zero_le _, rfl⟩ ht
  rintro k s' ⟨h', tk, m', news', i, rfl, hst', F', N', hnw', hJ, hi, rfl⟩
  have next : ∀ h₁ : Heap, (∀ b o, b ∉ wr → h'.get? b = some o → h₁.get? b = some o) → Fr h₀ L h₁ m' ∧ News h₀ L h₁ news' := fun h₁ hk₁ =>
    ⟨⟨F'.ns.at' fun o e => hk₁ _ o hLw e, fun b o e => hk₁ b o (old b o e) (F'.keep b o e), F'.above⟩, fun p hp => ⟨hk₁ _ _ (hnw' p hp) (N' p hp).1, (N' p hp).2⟩⟩
  by_cases hlt : i < n
  · refine W.item i _ _ _ hlt hst' fun v h₁ tk₁ hP hst₁ hk₁ => ?_
    obtain ⟨F₁, N₁⟩ := next h₁ hk₁
    have Nown : News h₀ L h₁ (ownOf h₀ fp h₁) := news_ownOf hLf
    refine wpAny_mono (step i v m' news' _ (ownOf h₀ fp h₁) ⟨_, _, rfl⟩ hlt hP hJ hnw' ownOf_sub (fun p hp => (Nown p hp).1) (fun b hb hn o e => mem_ownOf hb hn e) hst₁ F₁ (Nown.append N₁)) (fun _ s₂ h₂ => wpAny_mono h₂ (fun f s₃ h₃ => ?_) fun _ _ e => e) fun _ _ e => e
    have fin : LoopStepU h₀ L wr (ownOf h₀ fp h₁) (J (i + 1)) { s with heap := h₁, toks := tk₁ } .next s₃ → ∃ m, m < n + 1 - i ∧ ∃ h' tk m' news' i, s₃ = { s with heap := h', toks := tk } ∧ St i h' ∧ Fr h₀ L h' m' ∧ News h₀ L h' news' ∧ (∀ p ∈ news', p.1 ∉ wr) ∧ J i m' news' ∧ i ≤ n ∧ m = n + 1 - i := by
      rintro ⟨_, h₃', tk₃, m₂, news₂, rfl, F₃, N₃, ha₃, hJ₃⟩
      refine ⟨n + 1 - (i + 1), by omega, h₃', tk₃, m₂, news₂, i + 1, rfl, ?_, F₃, N₃.right, ha₃, hJ₃, hlt, rfl⟩
      refine W.frame _ _ _ hst₁ fun b hb o e => ?_
      cases hn : h₀.get? b with
      | some o₀ =>
        have : o₀ = o := by have := F₁.keep b o₀ hn; rw [e] at this; exact (Option.some.inj this).symm
        exact this ▸ F₃.keep b o₀ hn
      | none => exact (N₃ _ (List.mem_append_left _ (mem_ownOf hb hn e))).1
    cases f with
    | ret v => exact h₃
    | brk => exact h₃
    | cont => exact fin h₃
    | next => exact fin h₃
  · have hin : i = n := by omega
    subst hin
    refine W.done _ _ _ hst' fun h₁ tk₁ hk₁ => wpAny_execs_nil ?_
    obtain ⟨F₁, N₁⟩ := next h₁ hk₁
    exact hR h₁ tk₁ m' news' F₁ N₁ hnw' hJ

def LoopAtT (prog : Program) (w : World) (A : Around) (h₀ : Heap) (L : Addr) (env : Env) (target : Expr) (body : List Stmt) (Q : Flow → Shared → Prop) (E : Value → Shared → Prop) (it : Value) (s₂ : Shared) : Prop :=
  ∃ (I : Addr) (fp wr : List Addr) (n : Nat) (P : Nat → Value → Prop) (St : Nat → Heap → Prop) (m : Str → Option Value) (news : List (Addr × Obj)) (J : Nat → (Str → Option Value) → List (Addr × Obj) → Prop),
    it = .ref I ∧ Walks prog w A I fp wr n P St ∧ L ∉ fp ∧ (∀ b ∈ wr, h₀.get? b = none) ∧ (∀ p ∈ news, p.1 ∉ wr) ∧ St 0 s₂.heap ∧ Fr h₀ L s₂.heap m ∧ News h₀ L s₂.heap news ∧ J 0 m news ∧
    (∀ i v m₁ news₁ s₁ own, (∃ h tk, s₁ = { s₂ with heap := h, toks := tk }) → i < n → P i v → J i m₁ news₁ → (∀ p ∈ news₁, p.1 ∉ wr) → (∀ p ∈ own, p.1 ∈ fp) → (∀ p ∈ own, s₁.heap.get? p.1 = some p.2) → (∀ b ∈ fp, h₀.get? b = none → ∀ o, s₁.heap.get? b = some o → (b, o) ∈ own) → St (i + 1) s₁.heap →
      Fr h₀ L s₁.heap m₁ → News h₀ L s₁.heap (own ++ news₁) →
      wpAny (model prog w) A (assign target env v) (fun _ s₃ => wpAny (model prog w) A (execs body env) (LoopStepV h₀ L wr own (J (i + 1)) s₁ (fun v s' => Q (.ret v) s') fun s' => Q .next s') E s₃) E s₁) ∧
    ∀ h' tk m' news', Fr h₀ L h' m' → News h₀ L h' news' → (∀ p ∈ news', p.1 ∉ wr) → J n m' news' → Q .next { s₂ with heap := h', toks := tk }

theorem For_T {E : Value → Shared → Prop} {Q : Flow → Shared → Prop} {target : Expr} {pos : Pos} {iter : Expr} {body : List Stmt} {m : Str → Option Value} (_F : Fr h₀ L s.heap m)
    (ht : ∀ it v, letOwnedTupleGo target it v = pure ())
    (h : wpAny (model prog w) A (eval iter env) (fun xv s₁ => wpAny (model prog w) A (pyIter xv) (fun it s₂ => LoopAtT prog w A h₀ L env target body Q E it s₂) E s₁) E s)
    (hs : ∀ x, foldedSetIterable iter env x = pure x := by intro _; rfl)
    (hE : PassesOwn (model prog w) A env E := by passes_own) :
    wpAny (model prog w) A (exec (.For target iter body [] pos) env) Q E s := by
  refine wpAny_For (wpAny_mono h (fun xv s₁ h₁ => wpAny_mono h₁ (fun it s₂ h₂ => ?_) fun _ _ e => e) fun _ _ e => e) hs
  obtain ⟨I, fp, wr, n, P, St, m, news, J, rfl, W, hLf, hwr, hnw, hst, F, N, h0, step, hQ⟩ := h₂
  refine codeAny_forT (R := fun r s' => match r with | .ok f => Q f s' | .error e => cameBackBy (model prog w) A env E e s') W hLf hwr hnw hst F N J h0 ?_ hQ (ht _)
  intro i v m₁ news₁ s₁ own a b c d e f g k st F₁ N₁
  exact wpAny_passesOwn hE (wpAny_mono (step i v m₁ news₁ s₁ own a b c d e f g k st F₁ N₁) (fun _ s₃ h₃ => wpAny_passesOwn hE h₃) fun _ _ e => e)
end

section
variable {prog : Program} {w : World} {A : Around} {E : Value → Shared → Prop} {s : Shared} {env : Env} {h₀ : Heap} {L : Addr} {target : Expr} {body : List Stmt} {Q : Flow → Shared → Prop}
def SameT (stored : List Str) (m₀ m' : Str → Option Value) : Prop := ∀ z, z ∉ stored → m' z = m₀ z
theorem over_T {u m₀ : Str → Option Value} {l : List Str} (h : SameT l m₀ u) : u = over u m₀ l := funext fun y => (over_in fun hn => h y hn).symm

/-- over a list's items -/
theorem forT_list (stored : List Str) {l : Addr} {its : Array Value} {m₀ : Str → Option Value} {news : List (Addr × Obj)} (J : Nat → (Str → Option Value) → List (Addr × Obj) → Prop)
    (hh : A.handled = none) (src : h₀.IsList l its ∨ ∃ ol k, ol.cls = .type "list" ∧ ol.data = .seq its k ∧ ∀ i m nx, J i m nx → (l, ol) ∈ nx)
    (F : Fr h₀ L s.heap m₀) (N : News h₀ L s.heap news) (hj : J 0 m₀ news)
    (turn : ∀ i v u nw I oI h tk, its[i]? = some v → J i u nw → Off I nw → Fr h₀ L h (over u m₀ stored) → News h₀ L h ((I, oI) :: nw) →
      wpAny (model prog w) A (assign target env v) (fun _ s₂ => wpAny (model prog w) A (execs body env) (TurnPost h₀ L I oI (fun m' nx => SameT stored m₀ m' ∧ J (i + 1) m' nx) { s with heap := h, toks := tk } Q) E s₂) E { s with heap := h, toks := tk })
    (done : ∀ u nw h tk, J its.size u nw → Fr h₀ L h (over u m₀ stored) → News h₀ L h nw → Q .next { s with heap := h, toks := tk }) :
    wpAny (model prog w) A (pyIter (.ref l)) (fun it s₂ => LoopAtT prog w A h₀ L env target body Q E it s₂) E s := by
  have hls : s.heap.IsList l its := by
    rcases src with hl | ⟨ol, k, hc, hd, hm⟩
    · exact hl.at fun o e => F.keep l o e
    · exact ⟨ol, (N _ (hm _ _ _ hj)).1, hc, k, hd⟩
  obtain ⟨ol', hol, _⟩ := id hls
  have hlt : l < s.heap.objs.size := Heap.lt_size hol
  have hne : l ≠ s.heap.objs.size := Nat.ne_of_lt hlt
  have hLl : L ≠ l := by
    rcases src with hl | ⟨ol, k, hc, hd, hm⟩
    · obtain ⟨o, e, _⟩ := hl
      exact fun q => absurd (Nat.lt_of_lt_of_le (Heap.lt_size e) F.above) (q ▸ Nat.lt_irrefl _)
    · exact fun q => (N _ (hm _ _ _ hj)).2.1 q.symm
  refine wpAny_pyIter_list hls ?_
  have W := Walks.list (prog := prog) (w := w) hh s.heap.objs.size l hne its
  refine ⟨_, _, _, its.size, _, _, m₀, news, (fun i m nx => SameT stored m₀ m ∧ J i m nx), rfl, W, ?_, ?_, ?_, ⟨⟨_, Heap.get?_push_size _ rfl, rfl, rfl⟩, hls.at fun o e => Heap.get?_push_of_some _ e⟩, F.push _, (fun p hp => ⟨Heap.get?_push_of_some _ (N p hp).1, (N p hp).2⟩), ⟨fun _ _ => rfl, hj⟩, ?_, ?_⟩
  · intro hm
    rcases List.mem_cons.mp hm with e | hm
    · exact absurd F.ns.lt (e ▸ Nat.lt_irrefl _)
    · exact hLl (List.mem_singleton.mp hm)
  · intro b hb
    rw [List.mem_singleton.mp hb]
    exact next_is_new F
  · intro p hp hI
    exact absurd (Heap.lt_size (N p hp).1) ((List.mem_singleton.mp hI) ▸ Nat.lt_irrefl _)
  · rintro i v m₁ news₁ s₁ own ⟨hh', tk', rfl⟩ hin hP ⟨hs, hJ⟩ hoff hown hget hin' hst F₁ N₁
    obtain ⟨oI, heI, _⟩ := hst.1
    have hIown : (s.heap.objs.size, oI) ∈ own := hin' _ (by simp) (next_is_new F) oI heI
    have hoffI : Off s.heap.objs.size news₁ := Off.of fun p hp q => hoff p hp (List.mem_singleton.mpr q)
    rw [over_T hs] at F₁
    refine wpAny_mono (turn i v m₁ news₁ _ oI hh' tk' hP hJ hoffI F₁ (fun p hp => by
      rcases List.mem_cons.mp hp with rfl | hp
      · exact N₁ _ (List.mem_append_left _ hIown)
      · exact N₁ _ (List.mem_append_right _ hp))) (fun _ s₂ h₂ => wpAny_mono h₂ (fun f s₃ p => ?_) fun _ _ e => e) fun _ _ e => e
    have fin : TurnEnd h₀ L s.heap.objs.size oI (fun m' nx => SameT stored m₀ m' ∧ J (i + 1) m' nx) { s with heap := hh', toks := tk' } s₃ → LoopStepU h₀ L [s.heap.objs.size] own (fun m nx => SameT stored m₀ m ∧ J (i + 1) m nx) { s with heap := hh', toks := tk' } .next s₃ := by
      rintro ⟨h', tk, m', nx, e, F', N', hoff', hj'⟩
      refine ⟨rfl, h', tk, m', nx, e, F', fun p hp => ?_, fun p hp q => hoff'.mem p hp (List.mem_singleton.mp q), hj'⟩
      rcases List.mem_append.mp hp with hp | hp
      · have hg := hget p hp
        have h0 := (N₁ p (List.mem_append_left _ hp)).2.2
        rcases List.mem_cons.mp (hown p hp) with h1 | h1
        · have e1 : p = (s.heap.objs.size, oI) := by
            obtain ⟨a, o⟩ := p
            dsimp only at h1 hg
            subst h1
            have := heI.symm.trans hg
            rw [Option.some.inj this]
          rw [e1]; exact N' _ List.mem_cons_self
        · have h2 : p.1 = l := List.mem_singleton.mp h1
          rcases src with hl | ⟨ol, k, hc, hd, hm⟩
          · obtain ⟨o, e, _⟩ := hl
            rw [h2, e] at h0; cases h0
          · have e1 : p = (l, ol) := by
              obtain ⟨a, o⟩ := p
              dsimp only at h2 hg
              subst h2
              have := (N₁ _ (List.mem_append_right _ (hm _ _ _ hJ))).1
              have := hg.symm.trans this
              rw [Option.some.inj this]
            rw [e1]; exact N' _ (List.mem_cons_of_mem _ (hm _ _ _ hj'.2))
      · exact N' p (List.mem_cons_of_mem _ hp)
    cases f with
    | ret v => exact .ret p
    | brk => exact .brk p
    | next => exact .next (fin p)
    | cont => exact .cont (fin p)
  · rintro h' tk m' news' F' N' _ ⟨hs, hJ⟩
    rw [over_T hs] at F'
    exact done m' news' h' tk hJ F' N'

theorem forT_pd {α : Type} {G : α → Value → Prop} {as : List α} {its : Array Value} (hi : Pd G as its.toList) (stored : List Str) {l : Addr} {m₀ : Str → Option Value} {news : List (Addr × Obj)} (J : List α → (Str → Option Value) → List (Addr × Obj) → Prop)
    (hh : A.handled = none) (src : h₀.IsList l its ∨ ∃ ol k, ol.cls = .type "list" ∧ ol.data = .seq its k ∧ ∀ pre m nx, J pre m nx → (l, ol) ∈ nx)
    (F : Fr h₀ L s.heap m₀) (N : News h₀ L s.heap news) (hj : J [] m₀ news)
    (turn : ∀ pre a post v u nw I oI h tk, as = pre ++ a :: post → G a v → J pre u nw → Off I nw → Fr h₀ L h (over u m₀ stored) → News h₀ L h ((I, oI) :: nw) →
      wpAny (model prog w) A (assign target env v) (fun _ s₂ => wpAny (model prog w) A (execs body env) (TurnPost h₀ L I oI (fun m' nx => SameT stored m₀ m' ∧ J (pre ++ [a]) m' nx) { s with heap := h, toks := tk } Q) E s₂) E { s with heap := h, toks := tk })
    (done : ∀ u nw h tk, J as u nw → Fr h₀ L h (over u m₀ stored) → News h₀ L h nw → Q .next { s with heap := h, toks := tk }) :
    wpAny (model prog w) A (pyIter (.ref l)) (fun it s₂ => LoopAtT prog w A h₀ L env target body Q E it s₂) E s := by
  have hl := pd_len hi
  refine forT_list stored (its := its) (fun i m nx => J (as.take i) m nx) hh (src.imp id fun ⟨ol, k, a, b, c⟩ => ⟨ol, k, a, b, fun i m nx h => c _ m nx h⟩) F N (by simpa using hj) ?_ ?_
  · intro i v u nw I oI h tk hv hJ hoff F₁ N₁
    obtain ⟨a, ha, hF⟩ := pd_at hi i v (by simpa using hv)
    rw [take_next ha]
    exact turn _ a _ v u nw I oI h tk (take_split ha) hF hJ hoff F₁ N₁
  · intro u nw h tk hJ F₁ N₁
    refine done u nw h tk ?_ F₁ N₁
    have e : as.take its.size = as := List.take_of_length_le (by rw [hl]; simp)
    rwa [e] at hJ
end

theorem strs_pd : ∀ {xs : List Str} {vs : List Value}, Pd StrV xs vs → StrsAre vs xs
  | _, _, .nil => .nil
  | _, _, .cons ⟨_, e⟩ h => by rw [e]; exact .cons _ _ (strs_pd h)
section
variable {prog : Program} {w : World} {A : Around} {E : Value → Shared → Prop} {s : Shared} {g : Heap} {L D : Addr} {m : Str → Option Value} {its : Array Value} {xs : List Str} {k : Str} {t : Tok} {Q : Value → Shared → Prop}
end

section
variable {h₀ h h' : Heap} {L D : Addr} {m : Str → Option Value} {news : List (Addr × Obj)} {o : Obj}
theorem after_keep (F : Fr h₀ L h m) (N : News h₀ L h news) (k : ∀ b o, h.get? b = some o → h'.get? b = some o) : Fr h₀ L h' m ∧ News h₀ L h' news := ⟨F.keeps k, N.grown k⟩
end
theorem off1 {a z : Str} (h : z ∉ [a]) : z ≠ a := fun e => h (by rw [e]; exact List.mem_cons_self)

section
variable {prog : Program} {w : World} {A : Around} {E : Value → Shared → Prop} {s : Shared} {env : Env} {h₀ : Heap} {L : Addr} {target : Expr} {body : List Stmt} {Q : Flow → Shared → Prop}
end
theorem news_tail {h₀ h : Heap} {L : Addr} {p : Addr × Obj} {news : List (Addr × Obj)} (N : News h₀ L h (p :: news)) : News h₀ L h news := fun q hq => N q (List.mem_cons_of_mem _ hq)
section
variable {prog : Program} {w : World} {A : Around} {E : Value → Shared → Prop} {s : Shared} {h₀ : Heap} {L D : Addr} {m : Str → Option Value} {news : List (Addr × Obj)} {vs : List Value} {n : Nat} {k : Int} {j : Nat} {t : Tok} {v : Value} {Q : Value → Shared → Prop}
theorem tail_l {value slice : PySem.Expr} (N : News h₀ L s.heap news) (hm : (D, listOf vs.toArray n) ∈ news) (hx : vs[j]? = some v) (hk : k = (j : Int)) (hj : (j : Int) < 1000000) (h : Q v s)
    (hs : subscripted slice false (.ref D) (.int k t) = operate [.ref D, .int k t] (getItem (.ref D) (.int k t)) := by with_unfolding_all rfl) :
    wpAny (model prog w) A (subscriptTail value slice (.ref D) (.int k t)) Q E s :=
  tail_at (is_l N hm) (by omega) (by omega) (by rw [hk, Int.toNat_natCast]; simpa using hx) h hs
theorem tail_pd {value slice : PySem.Expr} {α : Type} {F : α → Value → Prop} {as : List α} {a : α} (N : News h₀ L s.heap news) (hm : (D, listOf vs.toArray n) ∈ news) (hp : Pd F as vs) (ha : as[j]? = some a) (hk : k = (j : Int)) (hj : (j : Int) < 1000000) (h : ∀ v, F a v → Q v s)
    (hs : subscripted slice false (.ref D) (.int k t) = operate [.ref D, .int k t] (getItem (.ref D) (.int k t)) := by with_unfolding_all rfl) :
    wpAny (model prog w) A (subscriptTail value slice (.ref D) (.int k t)) Q E s := by
  obtain ⟨v, hv, hF⟩ := pd_get hp j a ha
  exact tail_l N hm hv hk hj (h v hF) hs
end

section
variable {prog : Program} {w : World} {A : Around} {E : Value → Shared → Prop} {s : Shared} {h₀ : Heap} {L l : Addr} {m : Str → Option Value} {news : List (Addr × Obj)} {n : Nat} {xs : List Value} {Q : Value → Shared → Prop} {value slice : PySem.Expr} {k : Int} {t : Tok}
end

theorem pd_take {α : Type} {F : α → Value → Prop} : ∀ {as : List α} {vs : List Value}, Pd F as vs → ∀ n, Pd F (as.take n) (vs.take n)
  | _, _, .nil, n => by simp; exact .nil
  | _, _, .cons h t, 0 => by simp; exact .nil
  | _, _, .cons h t, n + 1 => .cons h (pd_take t n)
theorem pd_drop {α : Type} {F : α → Value → Prop} : ∀ {as : List α} {vs : List Value}, Pd F as vs → ∀ n, Pd F (as.drop n) (vs.drop n)
  | _, _, .nil, n => by simp; exact .nil
  | _, _, .cons h t, 0 => .cons h t
  | _, _, .cons h t, n + 1 => pd_drop t n
theorem pd_app {α : Type} {F : α → Value → Prop} : ∀ {as bs : List α} {vs ws : List Value}, Pd F as vs → Pd F bs ws → Pd F (as ++ bs) (vs ++ ws)
  | _, _, _, _, .nil, h => h
  | _, _, _, _, .cons h t, k => .cons h (pd_app t k)
section
variable {prog : Program} {w : World} {A : Around} {E : Value → Shared → Prop} {s : Shared} {env : Env} {h₀ : Heap} {L : Addr} {target : Expr} {body : List Stmt} {Q Q' : Flow → Shared → Prop}
end

section
variable {prog : Program} {w : World} {A : Around} {E : Value → Shared → Prop} {s : Shared} {env : Env} {h₀ : Heap} {L : Addr} {target : Expr} {body : List Stmt} {Q : Flow → Shared → Prop}
/-- a for over a list that turns one other list of the ledger -/
theorem forT_pd_l {α : Type} {G : α → Value → Prop} {as : List α} {its : Array Value} (hi : Pd G as its.toList) (stored : List Str) (lead : List (Addr × Obj)) {rest : List (Addr × Obj)} {lt : Addr} {zs₀ : List Value} {c₀ : Nat} {l : Addr} {m₀ : Str → Option Value} (J : List α → (Str → Option Value) → List Value → Prop)
    (hh : A.handled = none) (src : h₀.IsList l its ∨ ∃ ol k, ol.cls = .type "list" ∧ ol.data = .seq its k ∧ ((l, ol) ∈ lead ∨ (l, ol) ∈ rest))
    (F : Fr h₀ L s.heap m₀) (N : News h₀ L s.heap (lead ++ (lt, W.listOf zs₀.toArray c₀) :: rest)) (hj : J [] m₀ zs₀)
    (turn : ∀ pre a post v u zs c I oI h tk, as = pre ++ a :: post → G a v → J pre u zs → Off I (lead ++ (lt, W.listOf zs.toArray c) :: rest) → Fr h₀ L h (over u m₀ stored) → News h₀ L h ((I, oI) :: (lead ++ (lt, W.listOf zs.toArray c) :: rest)) →
      wpAny (model prog w) A (assign target env v) (fun _ s₂ => wpAny (model prog w) A (execs body env) (TurnPost h₀ L I oI (fun m' nx => SameT stored m₀ m' ∧ ∃ zs' c', nx = lead ++ (lt, W.listOf zs'.toArray c') :: rest ∧ J (pre ++ [a]) m' zs') { s with heap := h, toks := tk } Q) E s₂) E { s with heap := h, toks := tk })
    (done : ∀ u zs c h tk, J as u zs → Fr h₀ L h (over u m₀ stored) → News h₀ L h (lead ++ (lt, W.listOf zs.toArray c) :: rest) → Q .next { s with heap := h, toks := tk }) :
    wpAny (model prog w) A (pyIter (.ref l)) (fun it s₂ => LoopAtT prog w A h₀ L env target body Q E it s₂) E s := by
  refine forT_pd hi stored (fun pre m nx => ∃ zs c, nx = lead ++ (lt, W.listOf zs.toArray c) :: rest ∧ J pre m zs) hh (src.imp id fun ⟨ol, k, a, b, c⟩ => ⟨ol, k, a, b, fun _ _ nx ⟨zs, c1, e, _⟩ => by
    rw [e]
    exact c.elim (fun q => List.mem_append_left _ q) fun q => List.mem_append_right _ (List.mem_cons_of_mem _ q)⟩) F N ⟨_, _, rfl, hj⟩ ?_ ?_
  · rintro pre a post v u nw I oI h tk e hG ⟨zs, c, rfl, hJ⟩ hoff F₁ N₁
    exact turn pre a post v u zs c I oI h tk e hG hJ hoff F₁ N₁
  · rintro u nw h tk ⟨zs, c, rfl, hJ⟩ F₁ N₁
    exact done u zs c h tk hJ F₁ N₁
end
section
variable {prog : Program} {w : World} {A : Around} {E : Value → Shared → Prop} {s : Shared} {env : Env} {h₀ : Heap} {L : Addr} {target : Expr} {body : List Stmt} {Q : Flow → Shared → Prop}
end
end Mine
end
section
set_option maxRecDepth 100000
namespace Mine
open PySem.Calls PySem.Spec
open PySem.AutoSeq1 (wpAny_loadPart')
theorem owner_map : Manifest.owners.lookup (String.ofList ['p', 'a', 'm'].reverse) = some Manifest.sig_map := by kernel_rfl
theorem slot_map_iter : Slot "map" "__iter__" "map.__iter__" :=
  .of (owner := "map") (n := "__iter__") (by rw [typeLookup_type, builtinLookup_eq_fast]; kernel_rfl) (by decide +kernel) (by decide +kernel) (by decide +kernel)
    (by first | exact .inl (by decide +kernel) | exact .inr (by decide +kernel)) (by rw [isSubtype_type]; kernel_rfl)
theorem slot_map_next : Slot "map" "__next__" "map.__next__" :=
  .of (owner := "map") (n := "__next__") (by rw [typeLookup_type, builtinLookup_eq_fast]; kernel_rfl) (by decide +kernel) (by decide +kernel) (by decide +kernel)
    (by first | exact .inl (by decide +kernel) | exact .inr (by decide +kernel)) (by rw [isSubtype_type]; kernel_rfl)
theorem slot_map_init : Slot "map" "__init__" "object.__init__" :=
  .of (owner := "object") (n := "__init__") (by rw [typeLookup_type, builtinLookup_eq_fast]; kernel_rfl) (by decide +kernel) (by decide +kernel) (by decide +kernel)
    (by first | exact .inl (by decide +kernel) | exact .inr (by decide +kernel)) (by rw [isSubtype_type]; kernel_rfl)
theorem args_map_iter_1 (a : Value) : argsOk "map.__iter__" ⟨[a], []⟩ := by
  unfold argsOk; rw [signature?_of (id := "map.__iter__") (n := ['_', '_', 'r', 'e', 't', 'i', '_', '_']) (o := ['p', 'a', 'm']) (by kernel_rfl) owner_map]; kernel_rfl
theorem args_map_next_1 (a : Value) : argsOk "map.__next__" ⟨[a], []⟩ := by
  unfold argsOk; rw [signature?_of (id := "map.__next__") (n := ['_', '_', 't', 'x', 'e', 'n', '_', '_']) (o := ['p', 'a', 'm']) (by kernel_rfl) owner_map]; kernel_rfl
theorem entry_map_iter : entryFor table "map.__iter__" = some Builtin.«dict_keyiterator.__iter__» :=
  entryFor_alias (id' := "dict_keyiterator.__iter__") (by kernel_rfl) (by first | rfl | decide +kernel | (unfold String.splitOn; simp +decide [String.splitOnAux])) (by decide +kernel) (by kernel_rfl)
theorem entry_map_next : entryFor table "map.__next__" = some Builtin.«map.__next__» := entryFor_of_tree (by kernel_rfl)
theorem entry_map_new : entryFor table "map.__new__" = some Builtin.«map.__new__» := entryFor_of_tree (by kernel_rfl)
theorem mro_map : mroOf (.type "map") = pure [.type "map", .type "object"] := by rw [mroOf_type]; kernel_rfl
theorem lookup_map_new : typeLookup (.type "map") "__new__" = pure (some (.builtin "map.__new__")) := by rw [typeLookup_type, builtinLookup_eq_fast]; kernel_rfl
theorem called_map : TypeCalled "map" "map.__new__" "object.__init__" :=
  ⟨by decide +kernel, by decide +kernel, ⟨_, _, mro_map⟩, madeBy_type mro_map lookup_map_new (by decide +kernel), by decide +kernel, by rw [isSubtype_type]; kernel_rfl, slot_map_init⟩
theorem typeCall_map_2 (a b : Value) : checkTypeCall "map" ⟨[a, b], []⟩ = pure () := by kernel_rfl
theorem newCall_map_2 (a b : Value) : checkBuiltinCall "map.__new__" ⟨[.type "map", a, b], []⟩ = pure () := by kernel_rfl
theorem sub_map : isSubtype (.type "map") (.type "map") = pure true := by rw [isSubtype_type]; kernel_rfl
theorem nolen_map : typeLookup (.type "map") "__len__" = pure none := by rw [typeLookup_type, builtinLookup_eq_fast]; kernel_rfl
theorem nohint_map : typeLookup (.type "map") "__length_hint__" = pure none := by rw [typeLookup_type, builtinLookup_eq_fast]; kernel_rfl
end Mine
end
section
set_option maxRecDepth 100000
namespace Mine
open PySem.Calls PySem.Spec
open PySem.AutoSeq1 (wpAny_loadPart')
abbrev IsMap (h : Heap) (M T : Addr) : Prop := h.get? M = some { cls := .type "map", dict := none, data := .fields #[.ref T, .type "str"], slots := #[] }
abbrev IsOne (h : Heap) (T : Addr) (a : Value) : Prop := h.get? T = some { cls := .type "tuple", dict := none, data := .seq #[a], slots := #[] }
section
variable {prog : Program} {w : World} {A : Around} {E : Value → Shared → Prop} {s : Shared}
theorem map_next_item {M T it l : Addr} {i : Nat} {items : Array Value} {x : Str} {t : Tok} {Q : Value → Shared → Prop}
    (hM : IsMap s.heap M T) (hT : IsOne s.heap T (.ref it)) (hit : s.heap.IsListIter it l i) (hl : s.heap.IsList l items) (hx : items[i]? = some (.str x t)) (hMi : M ≠ it)
    (hQ : ∀ h', h'.IsListIter it l (i + 1) → Heap.SameBut it s.heap h' → Q (.str x t) { s with heap := h' }) :
    wpAny (model prog w) A (Builtin.«map.__next__» ⟨[.ref M], []⟩) (fun fin s' => ∃ v, fin = .done (.ret v) ∧ Q v s') E s := by
  show wpAny _ _ (field (.ref M) 0 >>= _) _ _ _
  refine wpAny_bind (wpAny_field hM rfl (x := .ref T) rfl ?_)
  refine wpAny_bind (wpAny_seqItems hT rfl ?_)
  simp only [List.forIn_toArray, List.forIn_cons, List.forIn_nil]
  refine wpAny_bind (wpAny_bind (wpAny_bind (wpAny_holding (wpAny_nextOf_list_item hit hl hx fun h₁ hit₁ hs₁ => ?_))))
  refine wpAny_pure (wpAny_pure ?_)
  have hM₁ : IsMap h₁ M T := (hs₁.2 M hMi).trans hM
  refine wpAny_bind (wpAny_field hM₁ rfl (x := .type "str") rfl ?_)
  refine wpAny_bind (wpAny_holding (PySem.P.str_of_str ?_))
  refine wpAny_bind (wpAny_letGo ?_)
  exact wpAny_pure ⟨_, rfl, hQ _ hit₁ hs₁⟩
theorem map_next_end {M T it l : Addr} {i : Nat} {items : Array Value} {Q : Fin → Shared → Prop} (hh : A.handled = none)
    (hM : IsMap s.heap M T) (hT : IsOne s.heap T (.ref it)) (hit : s.heap.IsListIter it l i) (hl : s.heap.IsList l items) (hx : items[i]? = none)
    (hE : ∀ h' e, Heap.ExtBut it s.heap h' → (∃ o, h'.get? e = some o ∧ o.cls = .type "StopIteration") → E (.ref e) { s with heap := h' }) :
    wpAny (model prog w) A (Builtin.«map.__next__» ⟨[.ref M], []⟩) Q E s := by
  show wpAny _ _ (field (.ref M) 0 >>= _) _ _ _
  refine wpAny_bind (wpAny_field hM rfl (x := .ref T) rfl ?_)
  refine wpAny_bind (wpAny_seqItems hT rfl ?_)
  simp only [List.forIn_toArray, List.forIn_cons, List.forIn_nil]
  exact wpAny_bind (wpAny_bind (wpAny_bind (wpAny_holding (wpAny_nextOf_list_end hh hit hl hx hE))))
theorem pyIter_map {M T : Addr} {Q : Value → Shared → Prop} (hM : IsMap s.heap M T) (h : Q (.ref M) s) : wpAny (model prog w) A (pyIter (.ref M)) Q E s := by
  have hT : s.TypeIs (.ref M) "map" := ⟨_, hM, rfl⟩
  refine wpAny_pyIter_slot hT slot_map_iter (wpAny_call_entry slot_map_iter hT entry_map_iter ?_ (args_map_iter_1 _))
  show wpAny _ _ (ret (.ref M)) _ _ s
  exact wpAny_pure ⟨_, rfl, "map", _, hT, slot_map_next.lookup, h⟩
theorem pyNext_map_item {M T it l : Addr} {i : Nat} {items : Array Value} {x : Str} {t : Tok} {Q : Option Value → Shared → Prop}
    (hM : IsMap s.heap M T) (hT : IsOne s.heap T (.ref it)) (hit : s.heap.IsListIter it l i) (hl : s.heap.IsList l items) (hx : items[i]? = some (.str x t)) (hMi : M ≠ it)
    (hQ : ∀ h', h'.IsListIter it l (i + 1) → Heap.SameBut it s.heap h' → Q (some (.str x t)) { s with heap := h' }) :
    wpAny (model prog w) A (pyNext (.ref M)) Q E s := by
  have hy : s.TypeIs (.ref M) "map" := ⟨_, hM, rfl⟩
  unfold pyNext
  exact wpAny_bind (wpAny_attempt (wpAny_callSpecial?_slot (name := Str.ofString "__next__") hy slot_map_next
    (wpAny_call_entry slot_map_next hy entry_map_next
      (map_next_item hM hT hit hl hx hMi fun h' a b => wpAny_pure (hQ h' a b)) (args_map_next_1 _))))
theorem pyNext_map_end {M T it l : Addr} {i : Nat} {items : Array Value} {Q : Option Value → Shared → Prop} (hh : A.handled = none)
    (hM : IsMap s.heap M T) (hT : IsOne s.heap T (.ref it)) (hit : s.heap.IsListIter it l i) (hl : s.heap.IsList l items) (hx : items[i]? = none)
    (hQ : ∀ h', Heap.ExtBut it s.heap h' → Q none { s with heap := h' }) : wpAny (model prog w) A (pyNext (.ref M)) Q E s := by
  have hy : s.TypeIs (.ref M) "map" := ⟨_, hM, rfl⟩
  unfold pyNext
  refine wpAny_bind (wpAny_attempt (wpAny_callSpecial?_slot (name := Str.ofString "__next__") hy slot_map_next
    (wpAny_call_entry slot_map_next hy entry_map_next ?_ (args_map_next_1 _))))
  refine map_next_end hh hM hT hit hl hx fun h' x he' hx' => ?_
  obtain ⟨o, ho, hc⟩ := hx'
  refine wpAny_bind (wpAny_isInstance (T := "StopIteration") (b := true) ⟨o, ho, hc⟩ isSubtype_stop ?_)
  exact wpAny_pure (hQ _ he')
end
/-- map(str, list of texts) as a walk -/
theorem Walks.map {prog : Program} {w : World} {A : Around} (hh : A.handled = none) {M T it l : Addr} (hMi : M ≠ it) (hTi : T ≠ it) (hli : l ≠ it) (items : Array Value) (hs : ∀ (i : Nat) v, items[i]? = some v → ∃ x t, v = .str x t) :
    Walks prog w A M [M, T, it, l] [it] items.size (fun i v => items[i]? = some v) (fun i h => IsMap h M T ∧ IsOne h T (.ref it) ∧ h.IsListIter it l i ∧ h.IsList l items) where
  sub := fun b hb => by simp at hb; simp [hb]
  frame := fun _ _ _ st hk => ⟨hk M (by simp) _ st.1, hk T (by simp) _ st.2.1, st.2.2.1.at fun o e => hk it (by simp) o e, st.2.2.2.at fun o e => hk l (by simp) o e⟩
  item := fun i s Q E hi st hQ => by
    obtain ⟨x, t, e⟩ := hs i items[i] (by simp [hi])
    have hx : items[i]? = some (.str x t) := by rw [← e]; simp [hi]
    refine pyNext_map_item st.1 st.2.1 st.2.2.1 st.2.2.2 hx hMi fun h' hit' hs' => ?_
    exact hQ _ h' s.toks hx ⟨hs'.extBut M _ hMi st.1, hs'.extBut T _ hTi st.2.1, hit', st.2.2.2.extBut hs'.extBut hli⟩ fun b o hb e => hs'.extBut b o (fun h => hb (by simp [h])) e
  done := fun s Q E st hQ => pyNext_map_end hh st.1 st.2.1 st.2.2.1 st.2.2.2 (by simp) fun h' he' => hQ h' s.toks fun b o hb e => he' b o (fun h => hb (by simp [h])) e
  self := fun _ _ _ _ st hQ => pyIter_map st.1 hQ
end Mine
end
section
set_option maxRecDepth 100000
namespace Mine
open PySem.Calls PySem.Spec
section
variable {prog : Program} {w : World} {A : Around} {R : Result → Shared → Prop}
theorem extend_map_loop (hh : A.handled = none) {S M T it l : Addr} (hMi : M ≠ it) (hTi : T ≠ it) (hli : l ≠ it) (hSM : S ≠ M) (hST : S ≠ T) (hSi : S ≠ it) (hSl : S ≠ l) {vs : List Value} (hs : ∀ (i : Nat) v, vs.toArray[i]? = some v → ∃ x t, v = .str x t) (zs : List Value) (hz : zs.length + vs.length ≤ sizeLine) :
    ∀ (k i : Nat) (s : Shared) (c : Nat), vs.length - i = k → i ≤ vs.length → IsMap s.heap M T → IsOne s.heap T (.ref it) → s.heap.IsListIter it l i → s.heap.IsList l vs.toArray →
    s.heap.get? S = some (W.listOf (zs ++ vs.take i).toArray c) →
    (∀ h' tk c', (∀ b o, b ≠ S → b ≠ it → s.heap.get? b = some o → h'.get? b = some o) → h'.get? S = some (W.listOf (zs ++ vs).toArray c') → R (.ok (.ret .none)) { s with heap := h', toks := tk }) →
    codeAny (model prog w) A (.builtin "list.extend.loop" ⟨[.ref S, .ref M, .none], []⟩) R s := by
  have Wk := Walks.map (prog := prog) (w := w) (A := A.in1) hh hMi hTi hli vs.toArray hs
  intro k
  induction k with
  | zero =>
    intro i s c hk hi hM hT hit hl hS hR
    have hin : i = vs.length := by omega
    subst hin
    refine codeAny_builtin PySem.F.entry_extend_loop ?_
    rw [Around.under_plainId PySem.F.plain_extend_loop _]
    show wpAny _ A.in1 (pyNext (.ref M) >>= _) _ _ s
    refine wpAny_bind (Wk.done s _ _ (by rw [List.size_toArray]; exact ⟨hM, hT, hit, hl⟩) fun h' tk hm => ?_)
    refine wpAny_pure (hR h' tk c (fun b o _ hb e => hm b o (by simpa using hb) e) ?_)
    rw [hm S _ (by simpa using hSi) hS, List.take_of_length_le (Nat.le_refl _)]
  | succ k ih =>
    intro i s c hk hi hM hT hit hl hS hR
    have hlt : i < vs.length := by omega
    refine codeAny_builtin PySem.F.entry_extend_loop ?_
    rw [Around.under_plainId PySem.F.plain_extend_loop _]
    show wpAny _ A.in1 (pyNext (.ref M) >>= _) _ _ s
    refine wpAny_bind (Wk.item i s _ _ (by simpa using hlt) ⟨hM, hT, hit, hl⟩ fun v h' tk hP hst' hm => ?_)
    have hS' : h'.get? S = some (W.listOf (zs ++ vs.take i).toArray c) := hm S _ (by simpa using hSi) hS
    show wpAny _ A.in1 (updateSeq S (·.push v) >>= _) _ _ _
    refine wpAny_bind ?_
    have hv : vs[i]? = some v := by simpa using hP
    have oth : ∀ b o, b ≠ S → h'.get? b = some o → (h'.update S (Obj.mapSeq (·.push v))).get? b = some o := fun b o hb e => (Heap.get?_update_other _ _ (fun h : S = b => hb h.symm)).trans e
    have hS₂ : (h'.update S (Obj.mapSeq (·.push v))).get? S = some (W.listOf (zs ++ vs.take (i + 1)).toArray (c + 1)) := by
      rw [Heap.get?_update_self _ hS' rfl, List.take_add_one, hv]
      simp [Obj.mapSeq, W.listOf]
    refine wpAny_updateSeq hS' rfl (wpAny_pure ⟨plainId_quiet PySem.F.plain_extend_loop _, ih (i + 1) _ (c + 1) (by omega) hlt (oth _ _ (Ne.symm hSM) hst'.1) (oth _ _ (Ne.symm hST) hst'.2.1) (hst'.2.2.1.at fun o e => oth _ _ (Ne.symm hSi) e) (hst'.2.2.2.at fun o e => oth _ _ (Ne.symm hSl) e) hS₂ fun h'' tk'' c'' hk'' hS'' => ?_⟩)
      (by rw [List.size_toArray, List.length_append, List.length_take]; omega) (by rw [Array.size_push, List.size_toArray, List.length_append, List.length_take]; omega)
    exact hR h'' tk'' c'' (fun b o hb hb' e => hk'' b o hb hb' (oth b o hb (hm b o (by simpa using hb') e))) hS''
end
section
variable {prog : Program} {w : World} {A : Around} {E : Value → Shared → Prop} {s : Shared}
theorem extend_map (hh : A.handled = none) {S M T it l : Addr} {c : Nat} {Q : Value → Shared → Prop} (hMi : M ≠ it) (hTi : T ≠ it) (hli : l ≠ it) (hSM : S ≠ M) (hST : S ≠ T) (hSi : S ≠ it) (hSl : S ≠ l) {vs : List Value} (hs : ∀ (i : Nat) v, vs.toArray[i]? = some v → ∃ x t, v = .str x t) (zs : List Value) (hz : zs.length + vs.length + 8 ≤ sizeLine)
    (hM : IsMap s.heap M T) (hT : IsOne s.heap T (.ref it)) (hit : s.heap.IsListIter it l 0) (hl : s.heap.IsList l vs.toArray) (hS : s.heap.get? S = some (W.listOf zs.toArray c))
    (hQ : ∀ h' tk c', (∀ b o, b ≠ S → b ≠ it → s.heap.get? b = some o → h'.get? b = some o) → h'.get? S = some (W.listOf (zs ++ vs).toArray c') → Q .none { s with heap := h', toks := tk }) :
    wpAny (model prog w) A (call (.builtin "list.extend") [.ref S, .ref M]) Q E s := by
  have hTy : s.TypeIs (.ref M) "map" := ⟨_, hM, rfl⟩
  refine wpAny_call (codeAny_call_builtin PySem.F.slot_list_extend.plain PySem.F.entry_list_extend (PySem.F.slot_list_extend.check _ _ _ _ _ _ _ _ ⟨_, hS, rfl⟩ (PySem.F.args_list_extend_2 _ _) ?_))
  show wpAny _ A.in1 (Builtin.List.listExtendWith (.ref S) (.ref M) .none) _ _ s
  unfold Builtin.List.listExtendWith
  refine wpAny_bind (wpAny_typeOf hTy ?_)
  have h1 : Builtin.List.listSameRef (.ref S) (.ref M) = false := by simp [Builtin.List.listSameRef, hSM]
  have h2 : (Value.type "map" == Value.type "list") = false := by decide
  have h3 : (Value.type "map" == Value.type "tuple") = false := by decide
  simp only [h1, h2, h3, Bool.or_false, Bool.false_eq_true, if_false]
  refine wpAny_bind (pyIter_map hM ?_)
  refine wpAny_bind (wpAny_holding ?_)
  unfold Builtin.List.listLengthHint
  refine wpAny_bind (wpAny_specialOf hTy nolen_map ?_)
  show wpAny _ A.in1 (specialOf (Value.ref M) (Str.ofString "__length_hint__") >>= _) _ _ _
  refine wpAny_bind (wpAny_specialOf hTy nohint_map ?_)
  refine wpAny_pure ?_
  show wpAny _ A.in1 (rule "list.extend.makes-room" >>= fun _ => Builtin.List.listTouch (.ref S) >>= fun _ =>
    again (.builtin "list.extend.loop" ⟨[.ref S, .ref M, .none], []⟩)) _ _ _
  refine wpAny_bind (wpAny_rule ?_)
  refine wpAny_bind ?_
  show wpAny _ A.in1 (updateSeq S (·.push .none) >>= fun _ => updateSeq S (·.pop)) _ _ _
  refine wpAny_bind (wpAny_updateSeq hS rfl ?_ (by rw [List.size_toArray]; omega) (by rw [Array.size_push, List.size_toArray]; omega))
  have hS₂ := Heap.get?_update_self (Obj.mapSeq (·.push Value.none)) hS rfl
  refine wpAny_updateSeq hS₂ rfl ?_ (by rw [Array.size_push, List.size_toArray]; omega) (by rw [Array.size_pop, Array.size_push, List.size_toArray]; omega)
  have hS₃ := Heap.get?_update_self (Obj.mapSeq (·.pop)) hS₂ rfl
  have oth : ∀ b o, b ≠ S → s.heap.get? b = some o → ((s.heap.update S (Obj.mapSeq (·.push Value.none))).update S (Obj.mapSeq (·.pop))).get? b = some o :=
    fun b o hb e => (Heap.get?_update_other _ _ (Ne.symm hb)).trans ((Heap.get?_update_other _ _ (Ne.symm hb)).trans e)
  have hS₄ : ((s.heap.update S (Obj.mapSeq (·.push Value.none))).update S (Obj.mapSeq (·.pop))).get? S = some (W.listOf (zs ++ vs.take 0).toArray (c + 1 + 1)) := by
    rw [hS₃]; simp [Obj.mapSeq, W.listOf]
  refine wpAny_pure ⟨plainId_quiet PySem.F.plain_extend_loop _, extend_map_loop hh hMi hTi hli hSM hST hSi hSl hs zs (by omega) vs.length 0 _ _ (Nat.sub_zero _) (Nat.zero_le _) (oth _ _ (Ne.symm hSM) hM) (oth _ _ (Ne.symm hST) hT) (hit.at fun o e => oth _ _ (Ne.symm hSi) e) (hl.at fun o e => oth _ _ (Ne.symm hSl) e) hS₄ fun h' tk c' hk' hS' => hQ h' tk c' (fun b o hb hb' e => hk' b o hb hb' (oth b o hb e)) hS'⟩
end
end Mine
end
section
set_option maxRecDepth 100000
namespace Mine
open PySem.Calls PySem.Spec
open PySem.AutoSeq1 (wpAny_loadPart')
theorem meets_map_new (l : Addr) (items : Array Value) :
    Meets (Builtin.«map.__new__» ⟨[.type "map", .type "str", .ref l], []⟩) (fun _ R s => s.heap.IsList l items ∧
      R (.ok (.ret (.ref ((s.heap.push { cls := .type "list_iterator", data := .fields #[.ref l, .int 0 0] }).push { cls := .type "tuple", data := .seq #[.ref s.heap.objs.size] }).objs.size)))
        { s with heap := ((s.heap.push { cls := .type "list_iterator", data := .fields #[.ref l, .int 0 0] }).push { cls := .type "tuple", data := .seq #[.ref s.heap.objs.size] }).push { cls := .type "map", data := .fields #[.ref (s.heap.push { cls := .type "list_iterator", data := .fields #[.ref l, .int 0 0] }).objs.size, .type "str"] } }) :=
  .of_wp fun prog w A R s h => by
    obtain ⟨hp, g, d, tk, os⟩ := s; obtain ⟨hL, h⟩ := h
    have hsub := sub_map
    have hL' : Heap.IsList (Shared.heap ⟨hp, g, d, tk, os⟩) l items := hL
    unfold Builtin.«map.__new__»
    wp_walk using wpAny_pyIter_list hL'
    exact ⟨_, rfl, h⟩
theorem args_object_init_3 (a b c : Value) : argsOk "object.__init__" ⟨[a, b, c], []⟩ := by
  unfold argsOk; rw [signature?_of (id := "object.__init__") (n := ['_', '_', 't', 'i', 'n', 'i', '_', '_']) (o := ['t', 'c', 'e', 'j', 'b', 'o']) (by kernel_rfl) PySem.F.owner_object]; kernel_rfl
section
variable {prog : Program} {w : World} {A : Around} {E : Value → Shared → Prop} {s : Shared}
theorem call_map_str {l : Addr} {items : Array Value} {Q : Value → Shared → Prop} (hl : s.heap.IsList l items)
    (h : ∀ h' M T it, s.heap.objs.size ≤ it → T ≠ it → M ≠ it → s.heap.objs.size ≤ T → s.heap.objs.size ≤ M → IsMap h' M T → IsOne h' T (.ref it) → h'.IsListIter it l 0 →
      (∀ b o, s.heap.get? b = some o → h'.get? b = some o) → Q (.ref M) { s with heap := h' }) :
    wpAny (model prog w) A (call (.type "map") [.type "str", .ref l]) Q E s := by
  refine callType_new called_map (by decide) (typeCall_map_2 _ _) (newCall_map_2 _ _) (fun obj => args_object_init_3 obj _ _) entry_map_new (meets_map_new l items) ⟨hl, ?_⟩
  have z1 : (s.heap.push { cls := .type "list_iterator", data := .fields #[.ref l, .int 0 0] }).objs.size = s.heap.objs.size + 1 := Heap.size_push ..
  have z2 : ((s.heap.push { cls := .type "list_iterator", data := .fields #[.ref l, .int 0 0] }).push { cls := .type "tuple", data := .seq #[.ref s.heap.objs.size] }).objs.size = s.heap.objs.size + 1 + 1 := by rw [Heap.size_push, z1]
  show _ ∧ _
  have g1 := Heap.get?_push_size s.heap (o := { cls := .type "list_iterator", data := .fields #[.ref l, .int 0 0] }) rfl
  have g2 := Heap.get?_push_size (s.heap.push { cls := .type "list_iterator", data := .fields #[.ref l, .int 0 0] }) (o := { cls := .type "tuple", data := .seq #[.ref s.heap.objs.size] }) rfl
  have g3 := Heap.get?_push_size ((s.heap.push { cls := .type "list_iterator", data := .fields #[.ref l, .int 0 0] }).push { cls := .type "tuple", data := .seq #[.ref s.heap.objs.size] }) (o := { cls := .type "map", data := .fields #[.ref (s.heap.push { cls := .type "list_iterator", data := .fields #[.ref l, .int 0 0] }).objs.size, .type "str"] }) rfl
  refine ⟨⟨_, g3, rfl⟩, h _ _ (s.heap.push { cls := .type "list_iterator", data := .fields #[.ref l, .int 0 0] }).objs.size s.heap.objs.size (Nat.le_refl _) (by rw [z1]; exact Nat.succ_ne_self _) (by rw [z2]; omega) (by rw [z1]; omega) (by rw [z2]; omega) g3 (Heap.get?_push_of_some _ g2) ⟨_, Heap.get?_push_of_some _ (Heap.get?_push_of_some _ g1), rfl, rfl⟩ fun b o x => Heap.get?_push_of_some _ (Heap.get?_push_of_some _ (Heap.get?_push_of_some _ x))⟩
end
end Mine
end
section
namespace Mine
open PySem.Calls PySem.Spec
def MapAt (h₀ : Heap) (L : Addr) (news : List (Addr × Obj)) (h : Heap) (M l : Addr) : Prop :=
  ∃ T it, IsMap h M T ∧ IsOne h T (.ref it) ∧ h.IsListIter it l 0 ∧ h₀.get? it = none ∧ L ≠ it ∧ Off it news ∧ Off M news ∧ Off T news ∧ M ≠ it ∧ T ≠ it ∧ l ≠ it
section
variable {prog : Program} {w : World} {A : Around} {E : Value → Shared → Prop} {s : Shared} {h₀ : Heap} {L l : Addr} {m : Str → Option Value} {news : List (Addr × Obj)} {vs : List Value}
theorem map_step {Q : Value → Shared → Prop} (F : Fr h₀ L s.heap m) (N : News h₀ L s.heap news) (hl : h₀.IsList l vs.toArray)
    (h : ∀ h' M, Fr h₀ L h' m → News h₀ L h' news → MapAt h₀ L news h' M l → Q (.ref M) { s with heap := h' }) : wpAny (model prog w) A (call (.type "map") [.type "str", .ref l]) Q E s := by
  have hl' : s.heap.IsList l vs.toArray := hl.at fun o e => F.keep _ _ e
  refine call_map_str hl' fun h' M T it a b c d e hM hT hit k => h h' M (F.keeps k) (N.grown k) ⟨T, it, hM, hT, hit, ?_, ?_, ?_, ?_, ?_, c, b, ?_⟩
  · cases q : h₀.get? it with
    | none => rfl
    | some o => exact absurd (Nat.lt_of_lt_of_le (Heap.lt_size q) (Nat.le_trans F.above (Nat.le_trans (Nat.le_of_lt F.ns.lt) a))) (Nat.lt_irrefl _)
  · intro q; exact absurd (Nat.lt_of_lt_of_le F.ns.lt a) (q ▸ Nat.lt_irrefl _)
  · exact Off.of fun p hp q => absurd (Nat.lt_of_lt_of_le (Heap.lt_size (N p hp).1) a) (q ▸ Nat.lt_irrefl _)
  · exact Off.of fun p hp q => absurd (Nat.lt_of_lt_of_le (Heap.lt_size (N p hp).1) e) (q ▸ Nat.lt_irrefl _)
  · exact Off.of fun p hp q => absurd (Nat.lt_of_lt_of_le (Heap.lt_size (N p hp).1) d) (q ▸ Nat.lt_irrefl _)
  · obtain ⟨o, ho, _⟩ := hl'
    intro q; exact absurd (Nat.lt_of_lt_of_le (Heap.lt_size ho) a) (q ▸ Nat.lt_irrefl _)
theorem extend_step {Q : Value → Shared → Prop} {S M : Addr} {zs : List Value} {n : Nat} {xs : List Str} {g : Obj → List (Addr × Obj)} (hh : A.handled = none) (F : Fr h₀ L s.heap m) (N : News h₀ L s.heap news) (hl : h₀.IsList l vs.toArray) (hv : Pd StrV xs vs)
    (hM : MapAt h₀ L news s.heap M l) (U : UpdF S (W.listOf zs.toArray n) news g) (hz : zs.length + vs.length + 8 ≤ sizeLine)
    (h : ∀ h' tk c', Fr h₀ L h' m → News h₀ L h' (g (W.listOf (zs ++ vs).toArray c')) → Q .none { s with heap := h', toks := tk }) : wpAny (model prog w) A (call (.builtin "list.extend") [.ref S, .ref M]) Q E s := by
  obtain ⟨T, it, hMM, hT, hit, hbi, hLi, oi, oM, oT, hMi, hTi, hli⟩ := hM
  obtain ⟨pre, post, rfl, hg, h1, h2⟩ := U.split
  have hmem : (S, W.listOf zs.toArray n) ∈ pre ++ (S, W.listOf zs.toArray n) :: post := List.mem_append_right _ (.head _)
  have hS := N _ hmem
  have hl' : s.heap.IsList l vs.toArray := hl.at fun o e => F.keep _ _ e
  have hSl : S ≠ l := fun q => by obtain ⟨o, ho, _⟩ := hl; rw [← q] at ho; have := hS.2.2; rw [this] at ho; cases ho
  have hstr : ∀ (i : Nat) v, vs.toArray[i]? = some v → ∃ x t, v = .str x t := fun i v e => by
    obtain ⟨a, _, t, q⟩ := pd_at hv i v (by simpa using e)
    exact ⟨a, t, q⟩
  refine extend_map hh hMi hTi hli (fun q => oM.mem _ hmem q) (fun q => oT.mem _ hmem q) (fun q => oi.mem _ hmem q) hSl hstr zs hz hMM hT hit hl' hS.1 fun h' tk c' hk hS' => ?_
  have keepB : ∀ b o, h₀.get? b = some o → h'.get? b = some o := fun b o e => hk b o (fun q => by rw [q] at e; have := hS.2.2; rw [this] at e; cases e) (fun q => by rw [q, hbi] at e; cases e) (F.keep b o e)
  refine h h' tk c' ⟨F.ns.at' fun o e => hk _ _ (fun q => hS.2.1 q.symm) hLi e, keepB, F.above⟩ ?_
  rw [hg]
  intro p hp
  rcases List.mem_append.mp hp with hp | hp
  · have := N p (List.mem_append_left _ hp)
    exact ⟨hk _ _ (h1 p hp) (oi.mem _ (List.mem_append_left _ hp)) this.1, this.2⟩
  · rcases List.mem_cons.mp hp with rfl | hp
    · exact ⟨hS', hS.2⟩
    · have := N p (List.mem_append_right _ (List.mem_cons_of_mem _ hp))
      exact ⟨hk _ _ (h2 p hp) (oi.mem _ (List.mem_append_right _ (List.mem_cons_of_mem _ hp))) this.1, this.2⟩
end
end Mine
end
section
namespace Mine
theorem inst_up {g h : Heap} {L : Addr} {m : Str → Option Value} {x C : Addr} {ox : Obj} {od : Option Obj} (I : InstAt g x ox C od) (F : Fr g L h m) : InstAt h x ox C od :=
  ⟨F.keep _ _ I.at_, I.cls, I.no, by
    have := I.dict
    revert this
    cases ox.dict with
    | none => cases od with
      | none => exact id
      | some o => exact id
    | some a => cases od with
      | none => exact id
      | some o => exact fun e => F.keep _ _ e⟩
/-- an Entry's own dict, as __init__ leaves it -/
abbrev entryDict (h1 h2 h3 h4 : Int) (t1 t2 t3 t4 : Tok) (ua rl dl rr : Value) (n : Nat) : Obj :=
  dictOf [⟨h1, .str (Str.ofString "useragents") t1, ua⟩, ⟨h2, .str (Str.ofString "rulelines") t2, rl⟩, ⟨h3, .str (Str.ofString "delay") t3, dl⟩, ⟨h4, .str (Str.ofString "req_rate") t4, rr⟩] n
end Mine
namespace Mine
def uaLine (a : Str) : Str := Str.ofString "User-agent: " ++ a
def dlLine (k : Int) : Str := Str.ofString "Crawl-delay: " ++ Str.ofString (toString k)
def rrLine (p : Int × Int) : Str := Str.ofString "Request-rate: " ++ Str.ofString (toString p.1) ++ Str.ofString "/" ++ Str.ofString (toString p.2)
def linesOf (agents : List Str) (dly : Option Int) (rate : Option (Int × Int)) (rules : List Str) : List Str :=
  agents.map uaLine ++ (dly.map dlLine).toList ++ (rate.map rrLine).toList ++ (if rules = [] then [Str.ofString "Allow:"] else rules)
def strText (agents : List Str) (dly : Option Int) (rate : Option (Int × Int)) (rules : List Str) : Str :=
  if agents = [] then Str.ofString "" else Txt.join ⟨#[10]⟩ (linesOf agents dly rate rules)
def DelayV (v : Value) (d : Option Int) : Prop := (v = .none ∧ d = none) ∨ ∃ k t, v = .int k t ∧ d = some k ∧ 0 ≤ k ∧ k ≤ 1000
def rateDict (h1 h2 h3 h4 h5 h6 : Int) (t1 t2 t3 t4 t5 t6 : Tok) (ua rl dl rr : Value) (a b : Int) (ta tb : Tok) (n : Nat) : Obj :=
  dictOf [⟨h1, .str (Str.ofString "useragents") t1, ua⟩, ⟨h2, .str (Str.ofString "rulelines") t2, rl⟩, ⟨h3, .str (Str.ofString "delay") t3, dl⟩, ⟨h4, .str (Str.ofString "req_rate") t4, rr⟩, ⟨h5, .str (Str.ofString "requests") t5, .int a ta⟩, ⟨h6, .str (Str.ofString "seconds") t6, .int b tb⟩] n
def RateV (h : Heap) (v : Value) (r : Option (Int × Int)) : Prop := (v = .none ∧ r = none) ∨
  ∃ y d h1 h2 h3 h4 h5 h6 t1 t2 t3 t4 t5 t6 ua rl dl rr a b ta tb n, v = .ref y ∧ r = some (a, b) ∧ InstAt h y (instObj 59 d) 59 (some (rateDict h1 h2 h3 h4 h5 h6 t1 t2 t3 t4 t5 t6 ua rl dl rr a b ta tb n)) ∧ 0 ≤ a ∧ a ≤ 1000 ∧ 0 ≤ b ∧ b ≤ 1000
theorem num_len {k : Int} (h0 : 0 ≤ k) (h1 : k ≤ 1000) : (Str.ofString (toString k)).length ≤ 5 := by
  rw [PySem.ofString_length]
  exact int_text_length_le10 (k := 4) (by decide) (by omega)
theorem sum_le {l : List Str} {b : Nat} (h : ∀ x ∈ l, x.length ≤ b) : (l.map (·.length)).sum ≤ b * l.length := by
  induction l with
  | nil => simp
  | cons a r ih =>
    have := ih fun x hx => h x (List.mem_cons_of_mem _ hx)
    have := h a List.mem_cons_self
    simp only [List.map_cons, List.sum_cons, List.length_cons, Nat.mul_succ]
    omega
theorem lines_len {agents : List Str} {dly : Option Int} {rate : Option (Int × Int)} {rules : List Str} (hta : ∀ a ∈ agents, a.length ≤ 100) (htb : ∀ a ∈ rules, a.length ≤ 100)
    (hd : ∀ k, dly = some k → 0 ≤ k ∧ k ≤ 1000) (hr : ∀ p, rate = some p → (0 ≤ p.1 ∧ p.1 ≤ 1000) ∧ 0 ≤ p.2 ∧ p.2 ≤ 1000) : ∀ x ∈ linesOf agents dly rate rules, x.length ≤ 200 := fun x hx => by
  have e1 : (Str.ofString "User-agent: ").length = 12 := by decide +kernel
  have e2 : (Str.ofString "Crawl-delay: ").length = 13 := by decide +kernel
  have e3 : (Str.ofString "Request-rate: ").length = 14 := by decide +kernel
  have e4 : (Str.ofString "/").length = 1 := by decide +kernel
  have e5 : (Str.ofString "Allow:").length = 6 := by decide +kernel
  unfold linesOf at hx
  rcases List.mem_append.mp hx with hx | hx
  · rcases List.mem_append.mp hx with hx | hx
    · rcases List.mem_append.mp hx with hx | hx
      · obtain ⟨a, ha, rfl⟩ := List.mem_map.mp hx
        have := hta a ha
        unfold uaLine; rw [Str.length_append, e1]; omega
      · cases dly with
        | none => simp at hx
        | some k =>
          simp at hx; subst hx
          obtain ⟨a, b⟩ := hd k rfl
          have := num_len a b
          unfold dlLine; rw [Str.length_append, e2]; omega
    · cases rate with
      | none => simp at hx
      | some p =>
        simp at hx; subst hx
        obtain ⟨⟨a, b⟩, c, d⟩ := hr p rfl
        have := num_len a b
        have := num_len c d
        unfold rrLine; rw [Str.length_append, Str.length_append, Str.length_append, e3, e4]; omega
  · split at hx
    · rw [List.mem_singleton.mp hx, e5]; omega
    · have := htb x hx; omega
theorem lines_num {agents : List Str} {dly : Option Int} {rate : Option (Int × Int)} {rules : List Str} : (linesOf agents dly rate rules).length ≤ agents.length + rules.length + 3 := by
  unfold linesOf
  cases dly <;> cases rate <;> (split <;> simp <;> omega)
theorem lines_w {agents : List Str} {dly : Option Int} {rate : Option (Int × Int)} {rules : List Str} (hla : agents.length ≤ 100) (hlb : rules.length ≤ 100) (hta : ∀ a ∈ agents, a.length ≤ 100) (htb : ∀ a ∈ rules, a.length ≤ 100)
    (hd : ∀ k, dly = some k → 0 ≤ k ∧ k ≤ 1000) (hr : ∀ p, rate = some p → (0 ≤ p.1 ∧ p.1 ≤ 1000) ∧ 0 ≤ p.2 ∧ p.2 ≤ 1000) : ((linesOf agents dly rate rules).map (·.length)).sum + (linesOf agents dly rate rules).length ≤ 1048576 := by
  have h1 := sum_le (lines_len hta htb hd hr)
  have h2 := lines_num (agents := agents) (dly := dly) (rate := rate) (rules := rules)
  omega
theorem lf_is : Str.ofString "
" = ⟨#[10]⟩ := by decide +kernel
theorem truth_nil {vs : List Value} (h : vs.length = 0) : vs = [] := List.eq_nil_of_length_eq_zero h
end Mine
local macro_rules | `(tactic| k_inst) => `(tactic| first | exact Mine.inst_up (by assumption) (by assumption) | exact Mine.inst_up (Mine.inst_up (by assumption) (by assumption)) (by assumption))
local macro_rules | `(tactic| walk_at "pyIter ref") => `(tactic| (k_here; refine Mine.stop ?_))
local macro_rules | `(tactic| walk_at "exec For Name Attribute cons nil") => `(tactic| (k_here; k_dflt (refine Mine.For_T (by k_asm) (by intro _ _; rfl) ?_)))
local macro_rules | `(tactic| walk_at "call builtin:list.append") => `(tactic| (k_here; (with_reducible show wpAny _ _ (call (Value.builtin _) [Value.ref _, _]) _ _ _); k_dflt (refine' Mine.append_l ?k1 ?k2 ?k3 ?_ ?z; (case k1 => k_asm); (case k2 => k_asm); (case k3 => k_upd); (case z => (rw [PySem.sizeLine_eq]; (try simp only [List.length_append, List.length_cons, List.length_nil]); omega)); k_whole); intro h' F' N'; (try k_sweep)))
local macro_rules | `(tactic| walk_at "call type:map") => `(tactic| (k_here; k_dflt (refine Mine.map_step (by k_asm) (by k_asm) (by assumption) ?_); intro h' M' F' N' m'; (try k_sweep)))
local macro_rules | `(tactic| walk_at "call builtin:list.extend") => `(tactic| (k_here; refine Mine.stop ?_))
local macro_rules | `(tactic| walk_at "execs cons Assign cons") => `(tactic| (k_here; walk_at "execs cons"))
local macro_rules | `(tactic| walk_at "call builtin:str.join") => `(tactic| (k_here; refine Mine.stop ?_))
set_option maxRecDepth 100000 in
set_option maxHeartbeats 8000000 in
theorem Mine.strC {w : World} {p : Program} {loose : List Str} {mean : ExcName → Option Value} {mg mb : Str → Option Value} {base h₀ : Heap} {L : Addr} {m : Str → Option Value} {env : Env} {s : Shared} {Q : Value → Shared → Prop} {E : Value → Shared → Prop}
  (hf : env.frame = some L) (hke : env.scope.kind = .function) (B : Below callerA base [] h₀) (F : Fr h₀ L s.heap m) (X : (Mine.hd02.heap_39 w.params).In h₀) (T : Top p loose mean mg mb h₀)
  {x d l lr : Addr} {h1 h2 h3 h4 : Int} {t1 t2 t3 t4 : Tok} {dl rr : Value} {n : Nat} {ua ru : List Value} {agents rules : List Str} {dly : Option Int} {rate : Option (Int × Int)}
  (I : InstAt s.heap x (instObj 59 d) 59 (some (Mine.entryDict h1 h2 h3 h4 t1 t2 t3 t4 (.ref l) (.ref lr) dl rr n))) (hl : s.heap.IsList l ua.toArray) (hlr : s.heap.IsList lr ru.toArray)
  (hu : Mine.Pd Mine.StrV agents ua) (hv : Mine.Pd Mine.StrV rules ru) (hd : Mine.DelayV dl dly) (hr : Mine.RateV s.heap rr rate)
  (hla : agents.length ≤ 100) (hlb : rules.length ≤ 100) (hta : ∀ a ∈ agents, a.length ≤ 100) (htb : ∀ a ∈ rules, a.length ≤ 100)
  (hpost : ∀ h' tk t', (∀ b o, s.heap.get? b = some o → h'.get? b = some o) → Q (.str (Mine.strText agents dly rate rules) t') { s with heap := h', toks := tk }) :
  wpAny (model PySem.Challenge.rw_kn0091_02.row.prog w) (callerA.deeper env).in1.in1 (call (.ref 42) [.ref x] []) Q E s := by
  w_top off
  revert X; k_fill; intro X
  refine wpAny_call (Mine.code_base (K := Mine.hd02.heap_39 w.params) B F X T rfl hf hke (by k_is) (by k_is) (by k_room) (BindsTo.of_eq rfl) (locs rfl) ?_ rfl rfl rfl (by decide))
  intro L' h₁ F' N' B' X' T'
  dsimp only
  clear F B X T
  have hul := Mine.pd_len hu
  have hvl := Mine.pd_len hv
  repeat' (first | (k_unfold; (try dsimp only)) | walk1 | (dsimp only; walk1) | fail "no step")
  · rename Fr _ _ _ _ => F9
    rename (_ = true) => e0
    have hag : agents = [] := by
      have : ua = [] := by simpa using e0
      subst this
      exact List.eq_nil_of_length_eq_zero hul
    refine Mine.LeaveB.intro F9 ?_
    have e3 : Mine.strText agents dly rate rules = Str.ofString "" := if_pos hag
    rw [e3] at hpost
    exact hpost _ _ _ F9.keep
  · rename (_ = false) => e0
    have hag : agents ≠ [] := fun q => by
      subst q
      have : ua = [] := List.eq_nil_of_length_eq_zero hul.symm
      rw [this] at e0; cases e0
    rename Fr _ _ _ _ => F9
    rename News _ _ _ _ => N9
    refine Mine.unstop (Mine.forT_pd_l (its := ua.toArray) hu [Str.ofString "agent"] [] (fun pre u zs => Mine.Pd Mine.StrV (pre.map Mine.uaLine) zs) rfl (.inl (by assumption)) F9 (by exact N9) .nil ?_ ?_)
    · intro pre a post v u zs c I1 oI1 h2 tk2 hsp hv1 hJ hoff0 F2 N2
      clear F9 N9
      simp only [List.nil_append] at N2
      have hoff := hoff0
      simp only [Mine.Off, List.nil_append, and_true] at hoff
      simp only [Mine.over] at F2
      obtain ⟨t, rfl⟩ := hv1
      have hal := hta a (by rw [hsp]; simp)
      have hzl := Mine.pd_len hJ
      rw [List.length_map] at hzl
      have hpl : zs.length ≤ 200 := by have := congrArg List.length hsp; simp at this; omega
      repeat' (first | (k_unfold; (try dsimp only)) | walk1 | (dsimp only; walk1) | fail "no step")
      dsimp only [Mine.TurnPost]
      refine Mine.TurnEnd.mk' [] (by assumption) (by assumption) (by exact hoff0) ⟨fun z1 h1 => by simp only [if_neg (Mine.off1 h1)], zs ++ [_], c + 1, rfl, ?_⟩
      rw [List.map_append]
      exact PySem.Paired.snoc hJ ⟨_, by rw [Str.empty_append]; rfl⟩
    · intro u zs c h2 tk2 hJ F2 N2
      clear F9 N9
      simp only [List.nil_append] at N2
      simp only [Mine.over] at F2
      have hzl := Mine.pd_len hJ
      rw [List.length_map] at hzl
      have hpl : zs.length ≤ 200 := by omega
      dsimp only
      rcases hd with ⟨rfl, rfl⟩ | ⟨k, tk9, rfl, rfl, hk0, hk1⟩
      · rcases hr with ⟨rfl, rfl⟩ | ⟨y, d9, g1, g2, g3, g4, g5, g6, q1, q2, q3, q4, q5, q6, ua9, rl9, dl9, rr9, a9, b9, ta9, tb9, n9, rfl, rfl, I9, hr1, hr2, hr3, hr4⟩
        · (repeat' (first | (k_unfold; (try dsimp only)) | walk1 | (dsimp only; walk1) | fail "no step"))
          · rename (List.isEmpty ru = true) => e7
            have e8 : ru = [] := by simpa using e7
            subst e8
            have e9 : rules = [] := List.eq_nil_of_length_eq_zero hvl
            subst e9
            have hw := Mine.lines_w (agents := agents) (rules := []) (dly := none) (rate := none) hla hlb hta htb (fun k q => by cases q) (fun p q => by cases q)
            rename News _ _ _ _ => N6
            refine Mine.unstop (join_listW (Mine.is_l N6 (by k_mem)) (Mine.strs_pd (xs := Mine.linesOf agents none none []) ?_) (by decide) hw ?_)
            · simp only [Mine.linesOf, Option.map, Option.toList, if_true, List.append_nil]
              exact PySem.Paired.snoc hJ ⟨_, rfl⟩
            · intro t' k'
              (repeat' (first | (k_unfold; (try dsimp only)) | walk1 | (dsimp only; walk1) | fail "no step"))
              rename Fr _ _ _ _ => F5
              refine Mine.LeaveB.intro F5 ?_
              have e3 : Mine.strText agents none none [] = Txt.join ⟨#[10]⟩ (Mine.linesOf agents none none []) := if_neg hag
              rw [e3] at hpost
              exact hpost _ _ _ F5.keep
          · rename (List.isEmpty ru = false) => e7
            have e9 : rules ≠ [] := fun q => by
              subst q
              have : ru = [] := List.eq_nil_of_length_eq_zero hvl.symm
              rw [this] at e7; cases e7
            have hw := Mine.lines_w (agents := agents) (rules := rules) (dly := none) (rate := none) hla hlb hta htb (fun k q => by cases q) (fun p q => by cases q)
            rename Fr _ _ _ _ => F6
            rename News _ _ _ _ => N6
            refine Mine.unstop (Mine.extend_step rfl F6 N6 (by assumption) hv (by assumption) (by k_updF) (by rw [PySem.sizeLine_eq]; (try simp only [List.length_append, List.length_cons, List.length_nil]); omega) ?_)
            intro h3 tk3 c3 F3 N3
            clear F6 N6
            (repeat' (first | (k_unfold; (try dsimp only)) | walk1 | (dsimp only; walk1) | fail "no step"))
            rename News _ _ _ _ => N6
            refine Mine.unstop (join_listW (Mine.is_l N6 (by k_mem)) (Mine.strs_pd (xs := Mine.linesOf agents none none rules) ?_) (by decide) hw ?_)
            · simp only [Mine.linesOf, Option.map, Option.toList, if_neg e9, List.append_nil]
              exact Mine.pd_app hJ hv
            · intro t' k'
              (repeat' (first | (k_unfold; (try dsimp only)) | walk1 | (dsimp only; walk1) | fail "no step"))
              rename Fr _ _ _ _ => F5
              refine Mine.LeaveB.intro F5 ?_
              have e3 : Mine.strText agents none none rules = Txt.join ⟨#[10]⟩ (Mine.linesOf agents none none rules) := if_neg hag
              rw [e3] at hpost
              exact hpost _ _ _ F5.keep
        · (repeat' (first | (k_unfold; (try dsimp only)) | walk1 | (dsimp only; walk1) | fail "no step"))
          · rename (List.isEmpty ru = true) => e7
            have e8 : ru = [] := by simpa using e7
            subst e8
            have e9 : rules = [] := List.eq_nil_of_length_eq_zero hvl
            subst e9
            have hw := Mine.lines_w (agents := agents) (rules := []) (dly := none) (rate := (some (a9, b9))) hla hlb hta htb (fun k q => by cases q) (fun p q => by cases q; exact ⟨⟨hr1, hr2⟩, hr3, hr4⟩)
            rename News _ _ _ _ => N6
            refine Mine.unstop (join_listW (Mine.is_l N6 (by k_mem)) (Mine.strs_pd (xs := Mine.linesOf agents none (some (a9, b9)) []) ?_) (by decide) hw ?_)
            · simp only [Mine.linesOf, Option.map, Option.toList, if_true, List.append_nil]
              exact PySem.Paired.snoc (PySem.Paired.snoc hJ ⟨_, by simp only [Str.empty_append]; rfl⟩) ⟨_, rfl⟩
            · intro t' k'
              (repeat' (first | (k_unfold; (try dsimp only)) | walk1 | (dsimp only; walk1) | fail "no step"))
              rename Fr _ _ _ _ => F5
              refine Mine.LeaveB.intro F5 ?_
              have e3 : Mine.strText agents none (some (a9, b9)) [] = Txt.join ⟨#[10]⟩ (Mine.linesOf agents none (some (a9, b9)) []) := if_neg hag
              rw [e3] at hpost
              exact hpost _ _ _ F5.keep
          · rename (List.isEmpty ru = false) => e7
            have e9 : rules ≠ [] := fun q => by
              subst q
              have : ru = [] := List.eq_nil_of_length_eq_zero hvl.symm
              rw [this] at e7; cases e7
            have hw := Mine.lines_w (agents := agents) (rules := rules) (dly := none) (rate := (some (a9, b9))) hla hlb hta htb (fun k q => by cases q) (fun p q => by cases q; exact ⟨⟨hr1, hr2⟩, hr3, hr4⟩)
            rename Fr _ _ _ _ => F6
            rename News _ _ _ _ => N6
            refine Mine.unstop (Mine.extend_step rfl F6 N6 (by assumption) hv (by assumption) (by k_updF) (by rw [PySem.sizeLine_eq]; (try simp only [List.length_append, List.length_cons, List.length_nil]); omega) ?_)
            intro h3 tk3 c3 F3 N3
            clear F6 N6
            (repeat' (first | (k_unfold; (try dsimp only)) | walk1 | (dsimp only; walk1) | fail "no step"))
            rename News _ _ _ _ => N6
            refine Mine.unstop (join_listW (Mine.is_l N6 (by k_mem)) (Mine.strs_pd (xs := Mine.linesOf agents none (some (a9, b9)) rules) ?_) (by decide) hw ?_)
            · simp only [Mine.linesOf, Option.map, Option.toList, if_neg e9, List.append_nil]
              exact Mine.pd_app (PySem.Paired.snoc hJ ⟨_, by simp only [Str.empty_append]; rfl⟩) hv
            · intro t' k'
              (repeat' (first | (k_unfold; (try dsimp only)) | walk1 | (dsimp only; walk1) | fail "no step"))
              rename Fr _ _ _ _ => F5
              refine Mine.LeaveB.intro F5 ?_
              have e3 : Mine.strText agents none (some (a9, b9)) rules = Txt.join ⟨#[10]⟩ (Mine.linesOf agents none (some (a9, b9)) rules) := if_neg hag
              rw [e3] at hpost
              exact hpost _ _ _ F5.keep
      · rcases hr with ⟨rfl, rfl⟩ | ⟨y, d9, g1, g2, g3, g4, g5, g6, q1, q2, q3, q4, q5, q6, ua9, rl9, dl9, rr9, a9, b9, ta9, tb9, n9, rfl, rfl, I9, hr1, hr2, hr3, hr4⟩
        · (repeat' (first | (k_unfold; (try dsimp only)) | walk1 | (dsimp only; walk1) | fail "no step"))
          · rename (List.isEmpty ru = true) => e7
            have e8 : ru = [] := by simpa using e7
            subst e8
            have e9 : rules = [] := List.eq_nil_of_length_eq_zero hvl
            subst e9
            have hw := Mine.lines_w (agents := agents) (rules := []) (dly := (some k)) (rate := none) hla hlb hta htb (fun k q => by cases q; exact ⟨hk0, hk1⟩) (fun p q => by cases q)
            rename News _ _ _ _ => N6
            refine Mine.unstop (join_listW (Mine.is_l N6 (by k_mem)) (Mine.strs_pd (xs := Mine.linesOf agents (some k) none []) ?_) (by decide) hw ?_)
            · simp only [Mine.linesOf, Option.map, Option.toList, if_true, List.append_nil]
              exact PySem.Paired.snoc (PySem.Paired.snoc hJ ⟨_, by simp only [Str.empty_append]; rfl⟩) ⟨_, rfl⟩
            · intro t' k'
              (repeat' (first | (k_unfold; (try dsimp only)) | walk1 | (dsimp only; walk1) | fail "no step"))
              rename Fr _ _ _ _ => F5
              refine Mine.LeaveB.intro F5 ?_
              have e3 : Mine.strText agents (some k) none [] = Txt.join ⟨#[10]⟩ (Mine.linesOf agents (some k) none []) := if_neg hag
              rw [e3] at hpost
              exact hpost _ _ _ F5.keep
          · rename (List.isEmpty ru = false) => e7
            have e9 : rules ≠ [] := fun q => by
              subst q
              have : ru = [] := List.eq_nil_of_length_eq_zero hvl.symm
              rw [this] at e7; cases e7
            have hw := Mine.lines_w (agents := agents) (rules := rules) (dly := (some k)) (rate := none) hla hlb hta htb (fun k q => by cases q; exact ⟨hk0, hk1⟩) (fun p q => by cases q)
            rename Fr _ _ _ _ => F6
            rename News _ _ _ _ => N6
            refine Mine.unstop (Mine.extend_step rfl F6 N6 (by assumption) hv (by assumption) (by k_updF) (by rw [PySem.sizeLine_eq]; (try simp only [List.length_append, List.length_cons, List.length_nil]); omega) ?_)
            intro h3 tk3 c3 F3 N3
            clear F6 N6
            (repeat' (first | (k_unfold; (try dsimp only)) | walk1 | (dsimp only; walk1) | fail "no step"))
            rename News _ _ _ _ => N6
            refine Mine.unstop (join_listW (Mine.is_l N6 (by k_mem)) (Mine.strs_pd (xs := Mine.linesOf agents (some k) none rules) ?_) (by decide) hw ?_)
            · simp only [Mine.linesOf, Option.map, Option.toList, if_neg e9, List.append_nil]
              exact Mine.pd_app (PySem.Paired.snoc hJ ⟨_, by simp only [Str.empty_append]; rfl⟩) hv
            · intro t' k'
              (repeat' (first | (k_unfold; (try dsimp only)) | walk1 | (dsimp only; walk1) | fail "no step"))
              rename Fr _ _ _ _ => F5
              refine Mine.LeaveB.intro F5 ?_
              have e3 : Mine.strText agents (some k) none rules = Txt.join ⟨#[10]⟩ (Mine.linesOf agents (some k) none rules) := if_neg hag
              rw [e3] at hpost
              exact hpost _ _ _ F5.keep
        · (repeat' (first | (k_unfold; (try dsimp only)) | walk1 | (dsimp only; walk1) | fail "no step"))
          · rename (List.isEmpty ru = true) => e7
            have e8 : ru = [] := by simpa using e7
            subst e8
            have e9 : rules = [] := List.eq_nil_of_length_eq_zero hvl
            subst e9
            have hw := Mine.lines_w (agents := agents) (rules := []) (dly := (some k)) (rate := (some (a9, b9))) hla hlb hta htb (fun k q => by cases q; exact ⟨hk0, hk1⟩) (fun p q => by cases q; exact ⟨⟨hr1, hr2⟩, hr3, hr4⟩)
            rename News _ _ _ _ => N6
            refine Mine.unstop (join_listW (Mine.is_l N6 (by k_mem)) (Mine.strs_pd (xs := Mine.linesOf agents (some k) (some (a9, b9)) []) ?_) (by decide) hw ?_)
            · simp only [Mine.linesOf, Option.map, Option.toList, if_true, List.append_nil]
              exact PySem.Paired.snoc (PySem.Paired.snoc (PySem.Paired.snoc hJ ⟨_, by simp only [Str.empty_append]; rfl⟩) ⟨_, by simp only [Str.empty_append]; rfl⟩) ⟨_, rfl⟩
            · intro t' k'
              (repeat' (first | (k_unfold; (try dsimp only)) | walk1 | (dsimp only; walk1) | fail "no step"))
              rename Fr _ _ _ _ => F5
              refine Mine.LeaveB.intro F5 ?_
              have e3 : Mine.strText agents (some k) (some (a9, b9)) [] = Txt.join ⟨#[10]⟩ (Mine.linesOf agents (some k) (some (a9, b9)) []) := if_neg hag
              rw [e3] at hpost
              exact hpost _ _ _ F5.keep
          · rename (List.isEmpty ru = false) => e7
            have e9 : rules ≠ [] := fun q => by
              subst q
              have : ru = [] := List.eq_nil_of_length_eq_zero hvl.symm
              rw [this] at e7; cases e7
            have hw := Mine.lines_w (agents := agents) (rules := rules) (dly := (some k)) (rate := (some (a9, b9))) hla hlb hta htb (fun k q => by cases q; exact ⟨hk0, hk1⟩) (fun p q => by cases q; exact ⟨⟨hr1, hr2⟩, hr3, hr4⟩)
            rename Fr _ _ _ _ => F6
            rename News _ _ _ _ => N6
            refine Mine.unstop (Mine.extend_step rfl F6 N6 (by assumption) hv (by assumption) (by k_updF) (by rw [PySem.sizeLine_eq]; (try simp only [List.length_append, List.length_cons, List.length_nil]); omega) ?_)
            intro h3 tk3 c3 F3 N3
            clear F6 N6
            (repeat' (first | (k_unfold; (try dsimp only)) | walk1 | (dsimp only; walk1) | fail "no step"))
            rename News _ _ _ _ => N6
            refine Mine.unstop (join_listW (Mine.is_l N6 (by k_mem)) (Mine.strs_pd (xs := Mine.linesOf agents (some k) (some (a9, b9)) rules) ?_) (by decide) hw ?_)
            · simp only [Mine.linesOf, Option.map, Option.toList, if_neg e9, List.append_nil]
              exact Mine.pd_app (PySem.Paired.snoc (PySem.Paired.snoc hJ ⟨_, by simp only [Str.empty_append]; rfl⟩) ⟨_, by simp only [Str.empty_append]; rfl⟩) hv
            · intro t' k'
              (repeat' (first | (k_unfold; (try dsimp only)) | walk1 | (dsimp only; walk1) | fail "no step"))
              rename Fr _ _ _ _ => F5
              refine Mine.LeaveB.intro F5 ?_
              have e3 : Mine.strText agents (some k) (some (a9, b9)) rules = Txt.join ⟨#[10]⟩ (Mine.linesOf agents (some k) (some (a9, b9)) rules) := if_neg hag
              rw [e3] at hpost
              exact hpost _ _ _ F5.keep
end
section
namespace Mine
open PySem.Calls PySem.Spec
def insAt {α : Type} (l : List α) (p : Nat) (y : α) : List α := l.take p ++ y :: l.drop p
def delAt {α : Type} (l : List α) (p : Nat) : List α := l.take p ++ l.drop (p + 1)
theorem ins_len {α : Type} (l : List α) (p : Nat) (y : α) : (insAt l p y).length = l.length + 1 := by
  unfold insAt; rw [List.length_append, List.length_cons, List.length_take, List.length_drop]; omega
theorem del_len {α : Type} (l : List α) (p : Nat) (h : p < l.length) : (delAt l p).length + 1 = l.length := by
  unfold delAt; rw [List.length_append, List.length_take, List.length_drop]; omega
theorem ins_left {α : Type} {l r : List α} {p : Nat} {y : α} (h : p ≤ l.length) : insAt (l ++ r) p y = insAt l p y ++ r := by
  unfold insAt
  rw [List.take_append_of_le_length h, List.drop_append_of_le_length h, List.append_assoc]; rfl
theorem ins_right {α : Type} {l r : List α} {p : Nat} {y : α} : insAt (l ++ r) (l.length + p) y = l ++ insAt r p y := by
  unfold insAt
  rw [List.take_append, List.drop_append, List.take_of_length_le (by omega), List.drop_eq_nil_of_le (by omega), Nat.add_sub_cancel_left]
  simp
theorem del_left {α : Type} {l r : List α} {p : Nat} (h : p < l.length) : delAt (l ++ r) p = delAt l p ++ r := by
  unfold delAt
  rw [List.take_append_of_le_length (by omega), List.drop_append_of_le_length (by omega), List.append_assoc]
theorem del_right {α : Type} {l r : List α} {p : Nat} : delAt (l ++ r) (l.length + p) = l ++ delAt r p := by
  unfold delAt
  rw [List.take_append, List.drop_append, List.take_of_length_le (by omega), List.drop_eq_nil_of_le (by omega), Nat.add_sub_cancel_left, show l.length + p + 1 - l.length = p + 1 by omega]
  simp
theorem map_ins {α β : Type} (f : α → β) (l : List α) (p : Nat) (y : α) : (insAt l p y).map f = insAt (l.map f) p (f y) := by
  unfold insAt; rw [List.map_append, List.map_cons, List.map_take, List.map_drop]
theorem map_del {α β : Type} (f : α → β) (l : List α) (p : Nat) : (delAt l p).map f = delAt (l.map f) p := by
  unfold delAt; rw [List.map_append, List.map_take, List.map_drop]
theorem pd_ins {α : Type} {F : α → Value → Prop} {as : List α} {vs : List Value} (h : Pd F as vs) (p : Nat) {a : α} {v : Value} (hv : F a v) : Pd F (insAt as p a) (insAt vs p v) :=
  pd_app (pd_take h p) (.cons hv (pd_drop h p))
theorem pd_del {α : Type} {F : α → Value → Prop} {as : List α} {vs : List Value} (h : Pd F as vs) (p : Nat) : Pd F (delAt as p) (delAt vs p) :=
  pd_app (pd_take h p) (pd_drop h (p + 1))
theorem ins_mem {α : Type} {l : List α} {p : Nat} {y x : α} (h : x ∈ insAt l p y) : x = y ∨ x ∈ l := by
  unfold insAt at h
  rcases List.mem_append.mp h with h | h
  · exact .inr (List.mem_of_mem_take h)
  · rcases List.mem_cons.mp h with h | h
    · exact .inl h
    · exact .inr (List.mem_of_mem_drop h)
theorem del_mem {α : Type} {l : List α} {p : Nat} {x : α} (h : x ∈ delAt l p) : x ∈ l := by
  unfold delAt at h
  rcases List.mem_append.mp h with h | h
  · exact List.mem_of_mem_take h
  · exact List.mem_of_mem_drop h
section
variable {prog : Program} {w : World} {A : Around} {E : Value → Shared → Prop} {s : Shared} {h₀ : Heap} {L D : Addr} {m : Str → Option Value} {news news' : List (Addr × Obj)} {n : Nat} {zs : List Value}
theorem insert_l {x : Int} {p : Nat} {u : Tok} {y : Value} {Q : Value → Shared → Prop} (F : Fr h₀ L s.heap m) (N : News h₀ L s.heap news) (U : Upd D (W.listOf zs.toArray n) (W.listOf (insAt zs p y).toArray (n + 1)) news news')
    (hx : x = (p : Int)) (hp : p ≤ zs.length) (hz : zs.length ≤ 1000)
    (h : ∀ h', Fr h₀ L h' m → News h₀ L h' news' → Q .none { s with heap := h' }) : wpAny (model prog w) A (call (.builtin "list.insert") [.ref D, .int x u, y]) Q E s := by
  subst hx
  refine kl_insert F N ?_ ?_ U (by rw [PySem.sizeLine_eq]; show zs.length ≤ _; omega) h
  · unfold Builtin.List.listFitsIndex
    simp only [Bool.and_eq_true, decide_eq_true_eq]; omega
  · show kl_ins zs _ y = _
    unfold kl_ins insAt
    rw [if_neg (by omega), Int.toNat_natCast, Nat.min_eq_left hp]
theorem del_is (zs : List Value) : ∀ (p : Nat), p < zs.length → ki_delL zs p = some (delAt zs p) := by
  induction zs with
  | nil => intro p h; simp at h
  | cons a r ih =>
    intro p h
    cases p with
    | zero => simp [ki_delL, delAt]
    | succ p =>
      have := ih p (by simpa using h)
      unfold ki_delL
      rw [this]
      simp [delAt]
theorem del_l {x : Int} {p : Nat} {u : Tok} {Q : Unit → Shared → Prop} (F : Fr h₀ L s.heap m) (N : News h₀ L s.heap news) (U : Upd D (W.listOf zs.toArray n) (W.listOf (delAt zs p).toArray (n + 1)) news news')
    (hx : x = (p : Int)) (hp : p < zs.length) (hz : zs.length ≤ 1000)
    (h : ∀ h', Fr h₀ L h' m → News h₀ L h' news' → Q () { s with heap := h' }) : wpAny (model prog w) A (delItem (.ref D) (.int x u)) Q E s := by
  subst hx
  refine ki_del F N ?_ (k := p) ?_ (del_is zs p hp) U (by rw [PySem.sizeLine_eq]; show zs.length ≤ _; omega) h
  · unfold Builtin.List.listFitsIndex
    simp only [Bool.and_eq_true, decide_eq_true_eq]; omega
  · unfold seqIndex?
    have h1 : ¬ ((p : Int) < 0) := by omega
    simp only [h1, if_false]
    rw [if_pos (by simp; omega)]; simp
end
/-! the lines, as the record changes -/
def headOf (A : List Str) (d : Option Int) (r : Option (Int × Int)) : List Str := A.map uaLine ++ (d.map dlLine).toList ++ (r.map rrLine).toList
theorem lines_is (A : List Str) (d : Option Int) (r : Option (Int × Int)) (R : List Str) : linesOf A d r R = headOf A d r ++ (if R = [] then [Str.ofString "Allow:"] else R) := rfl
def one? {α : Type} : Option α → Nat
  | none => 0
  | some _ => 1
theorem one_len {α β : Type} (o : Option α) (f : α → β) : ((o.map f).toList).length = one? o := by cases o <;> rfl
theorem head_len (A : List Str) (d : Option Int) (r : Option (Int × Int)) : (headOf A d r).length = A.length + one? d + one? r := by
  unfold headOf; rw [List.length_append, List.length_append, List.length_map, one_len, one_len]
theorem lines_insA {A : List Str} {d : Option Int} {r : Option (Int × Int)} {R : List Str} {p : Nat} {a : Str} (h : p ≤ A.length) : insAt (linesOf A d r R) p (uaLine a) = linesOf (insAt A p a) d r R := by
  unfold linesOf
  rw [map_ins, ins_left (by simp; omega), ins_left (by simp; omega), ins_left (by simpa using h)]
theorem lines_delA {A : List Str} {d : Option Int} {r : Option (Int × Int)} {R : List Str} {p : Nat} (h : p < A.length) : delAt (linesOf A d r R) p = linesOf (delAt A p) d r R := by
  unfold linesOf
  rw [map_del, del_left (by simp; omega), del_left (by simp; omega), del_left (by simpa using h)]
theorem lines_pop {A : List Str} {d : Option Int} {r : Option (Int × Int)} : linesOf A d r [] = headOf A d r ++ [Str.ofString "Allow:"] := rfl
theorem lines_first {A : List Str} {d : Option Int} {r : Option (Int × Int)} {x : Str} {p : Nat} (h : p = A.length + one? d + one? r) : insAt (headOf A d r) p x = linesOf A d r (insAt [] 0 x) := by
  rw [h, ← head_len]
  have := ins_right (l := headOf A d r) (r := []) (p := 0) (y := x)
  simpa [lines_is, insAt] using this
theorem lines_insR {A : List Str} {d : Option Int} {r : Option (Int × Int)} {R : List Str} {p q : Nat} {x : Str} (h : p = A.length + one? d + one? r + q) (hR : R ≠ []) : insAt (linesOf A d r R) p x = linesOf A d r (insAt R q x) := by
  have hn : insAt R q x ≠ [] := fun e => by have := ins_len R q x; rw [e] at this; cases this
  rw [lines_is, lines_is, if_neg hR, if_neg hn, h, ← head_len]
  exact ins_right
theorem lines_delR {A : List Str} {d : Option Int} {r : Option (Int × Int)} {R : List Str} {p q : Nat} (h : p = A.length + one? d + one? r + q) (hR : R ≠ []) : delAt (linesOf A d r R) p = headOf A d r ++ delAt R q := by
  rw [lines_is, if_neg hR, h, ← head_len]
  exact del_right
theorem lines_some {A : List Str} {d : Option Int} {r : Option (Int × Int)} {R : List Str} (h : R ≠ []) : headOf A d r ++ R = linesOf A d r R := by rw [lines_is, if_neg h]
theorem lines_delD {A : List Str} {k : Int} {r : Option (Int × Int)} {R : List Str} : delAt (linesOf A (some k) r R) A.length = linesOf A none r R := by
  have e : ∀ (X Y : List Str) (b : Str), delAt (X ++ [b] ++ Y) X.length = X ++ Y := fun X Y b => by
    rw [List.append_assoc]
    have := del_right (l := X) (r := [b] ++ Y) (p := 0)
    simpa [delAt] using this
  have h1 := e (A.map uaLine) ((r.map rrLine).toList ++ (if R = [] then [Str.ofString "Allow:"] else R)) (dlLine k)
  rw [List.length_map] at h1
  unfold linesOf
  simp only [Option.map, Option.toList, List.append_assoc, List.append_nil, List.nil_append] at h1 ⊢
  exact h1
theorem lines_insD {A : List Str} {k : Int} {r : Option (Int × Int)} {R : List Str} : insAt (linesOf A none r R) A.length (dlLine k) = linesOf A (some k) r R := by
  have e : ∀ (X Y : List Str) (b : Str), insAt (X ++ Y) X.length b = X ++ [b] ++ Y := fun X Y b => by
    have := ins_right (l := X) (r := Y) (p := 0) (y := b)
    simpa [insAt] using this
  have h1 := e (A.map uaLine) ((r.map rrLine).toList ++ (if R = [] then [Str.ofString "Allow:"] else R)) (dlLine k)
  rw [List.length_map] at h1
  unfold linesOf
  simp only [Option.map, Option.toList, List.append_assoc, List.append_nil, List.nil_append] at h1 ⊢
  exact h1
theorem lines_delE {A : List Str} {d : Option Int} {p : Int × Int} {R : List Str} {i : Nat} (h : i = A.length + one? d) : delAt (linesOf A d (some p) R) i = linesOf A d none R := by
  have e : ∀ (X Y : List Str) (b : Str), delAt (X ++ [b] ++ Y) X.length = X ++ Y := fun X Y b => by
    rw [List.append_assoc]
    have := del_right (l := X) (r := [b] ++ Y) (p := 0)
    simpa [delAt] using this
  have h1 := e (A.map uaLine ++ (d.map dlLine).toList) (if R = [] then [Str.ofString "Allow:"] else R) (rrLine p)
  rw [List.length_append, List.length_map, one_len, ← h] at h1
  unfold linesOf
  simp only [Option.map, Option.toList, List.append_assoc, List.append_nil, List.nil_append] at h1 ⊢
  exact h1
theorem lines_insE {A : List Str} {d : Option Int} {p : Int × Int} {R : List Str} {i : Nat} (h : i = A.length + one? d) : insAt (linesOf A d none R) i (rrLine p) = linesOf A d (some p) R := by
  have e : ∀ (X Y : List Str) (b : Str), insAt (X ++ Y) X.length b = X ++ [b] ++ Y := fun X Y b => by
    have := ins_right (l := X) (r := Y) (p := 0) (y := b)
    simpa [insAt] using this
  have h1 := e (A.map uaLine ++ (d.map dlLine).toList) (if R = [] then [Str.ofString "Allow:"] else R) (rrLine p)
  rw [List.length_append, List.length_map, one_len, ← h] at h1
  unfold linesOf
  simp only [Option.map, Option.toList, List.append_assoc, List.append_nil, List.nil_append] at h1 ⊢
  exact h1
end Mine
namespace Mine
def RateE (es : List (Addr × Obj)) (v : Value) (r : Option (Int × Int)) : Prop := (v = .none ∧ r = none) ∨
  ∃ y d h1 h2 h3 h4 h5 h6 t1 t2 t3 t4 t5 t6 ua rl dl rr a b ta tb n, v = .ref y ∧ r = some (a, b) ∧ (y, instObj 59 d) ∈ es ∧ (d, rateDict h1 h2 h3 h4 h5 h6 t1 t2 t3 t4 t5 t6 ua rl dl rr a b ta tb n) ∈ es ∧ 0 ≤ a ∧ a ≤ 1000 ∧ 0 ≤ b ∧ b ≤ 1000
theorem rate_of {g h : Heap} {L : Addr} {es news : List (Addr × Obj)} {v : Value} {r : Option (Int × Int)} (N : News g L h news) (sub : ∀ p ∈ es, p ∈ news) (e : RateE es v r) : RateV h v r := by
  rcases e with e | ⟨y, d, h1, h2, h3, h4, h5, h6, t1, t2, t3, t4, t5, t6, ua, rl, dl, rr, a, b, ta, tb, n, e1, e2, e3, e4, e5⟩
  · exact .inl e
  · exact .inr ⟨y, d, h1, h2, h3, h4, h5, h6, t1, t2, t3, t4, t5, t6, ua, rl, dl, rr, a, b, ta, tb, n, e1, e2, InstAt.of_news N (sub _ e3) (sub _ e4), e5⟩
def J02 (ll lu lr x d : Addr) (h1 h2 h3 h4 : Int) (t1 t2 t3 t4 : Tok) (n : Nat) (u : Str → Option Value) (nw : List (Addr × Obj)) : Prop :=
  ∃ (A R : List Str) (dly : Option Int) (rate : Option (Int × Int)) (zs ua ru : List Value) (dl rr : Value) (c1 c2 c3 : Nat) (es : List (Addr × Obj)) (k1 k2 k3 k4 : Tok),
    nw = (ll, W.listOf zs.toArray c1) :: (lr, W.listOf ru.toArray c3) :: (lu, W.listOf ua.toArray c2) :: (x, instObj 59 d) :: (d, entryDict h1 h2 h3 h4 t1 t2 t3 t4 (.ref lu) (.ref lr) dl rr n) :: es ∧
    Pd StrV A ua ∧ Pd StrV R ru ∧ Pd StrV (linesOf A dly rate R) zs ∧ DelayV dl dly ∧ RateE es rr rate ∧ A.length ≤ 5 ∧ R.length ≤ 5 ∧ (∀ a ∈ A, a.length ≤ 100) ∧ (∀ a ∈ R, a.length ≤ 100) ∧
    (u (Str.ofString "agents") = some (.int (A.length : Int) k1) ∧ u (Str.ofString "delays") = some (.int (one? dly : Nat) k2) ∧ u (Str.ofString "rates") = some (.int (one? rate : Nat) k3) ∧ u (Str.ofString "rules") = some (.int (R.length : Int) k4)) ∧
    Off ll es ∧ Off lu es ∧ Off lr es ∧ Off x es ∧ Off d es
def Cut02 (h₀ : Heap) (L : Addr) (stored : List Str) (m₀ : Str → Option Value) (s : Shared) (I : Addr) (oI : Obj) (J : (Str → Option Value) → List (Addr × Obj) → Prop) (f : Flow) (s' : Shared) : Prop :=
  f = .next ∧ ∃ h tk m' nx, s' = { s with heap := h, toks := tk } ∧ Fr h₀ L h m' ∧ News h₀ L h ((I, oI) :: nx) ∧ SameT stored m₀ m' ∧ Off I nx ∧ J m' nx
theorem cut02 {prog : Program} {w : World} {A : Around} {E : Value → Shared → Prop} {s : Shared} {h₀ : Heap} {L : Addr} {m : Str → Option Value} {tree : Sem Flow} {Q : Flow → Shared → Prop} {ll lu lr x d : Addr} {h1 h2 h3 h4 : Int} {t1 t2 t3 t4 : Tok} {n : Nat} {u : Str → Option Value} {nw : List (Addr × Obj)} {I : Addr} {oI : Obj}
    (stored : List Str) (_F : Fr h₀ L s.heap m) (_N : News h₀ L s.heap ((I, oI) :: nw)) (_hJ : J02 ll lu lr x d h1 h2 h3 h4 t1 t2 t3 t4 n u nw)
    (a : wpAny (model prog w) A tree (Cut02 h₀ L stored m s I oI (J02 ll lu lr x d h1 h2 h3 h4 t1 t2 t3 t4 n)) E s)
    (b : ∀ h tk u' nx, J02 ll lu lr x d h1 h2 h3 h4 t1 t2 t3 t4 n u' nx → Fr h₀ L h (over u' m stored) → News h₀ L h ((I, oI) :: nx) → Off I nx → Q .next { s with heap := h, toks := tk }) : wpAny (model prog w) A tree Q E s := by
  refine wpAny_mono a (fun f s' ⟨e, h, tk, m', nx, e', F', N', hs, ho, hj⟩ => ?_) fun _ _ e => e
  subst e e'
  rw [over_T hs] at F'
  exact b h tk m' nx hj F' N' ho
def Mark : Prop := True
end Mine
namespace Mine
theorem last_is (p : List Value) (y : Value) : kl_last (p ++ [y]).toArray.toList = some (p, y) := by
  show kl_last (p ++ [y]) = some (p, y)
  induction p with
  | nil => rfl
  | cons a r ih =>
    cases r with
    | nil => rfl
    | cons b t =>
      show kl_last (a :: b :: (t ++ [y])) = _
      have ih' : kl_last (b :: (t ++ [y])) = some (b :: t, y) := ih
      unfold kl_last
      rw [ih']
end Mine
namespace Mine
theorem ua_fig : uaLine (Str.ofString "fig") = Str.ofString "User-agent: fig" := by decide +kernel
end Mine
namespace Mine
theorem int_eq {a b : Int} {t : Tok} (h : a = b) : some (Value.int a t) = some (Value.int b t) := by rw [h]
def names3 : List Str := [Str.ofString "*", Str.ofString "plum", Str.ofString ""]
def rules3 : List Str := [Str.ofString "Allow: /", Str.ofString "Disallow: /x", Str.ofString "Allow:"]
theorem menu3 {l : List Str} (hl : l.length = 3) {r : Int} (h0 : 0 ≤ r) (h1 : r < 3) : ∃ a, l[r.toNat]? = some a ∧ a ∈ l := by
  have : r.toNat < l.length := by omega
  exact ⟨_, List.getElem?_eq_getElem this, List.getElem_mem this⟩
theorem names_len : ∀ a ∈ names3, a.length ≤ 100 := by decide +kernel
theorem rules_len : ∀ a ∈ rules3, a.length ≤ 100 := by decide +kernel
theorem pd_snoc_inv {α : Type} {F : α → Value → Prop} {as : List α} {a : α} : ∀ {vs : List Value}, Pd F (as ++ [a]) vs → ∃ vs' v, vs = vs' ++ [v] ∧ Pd F as vs' ∧ F a v := by
  induction as with
  | nil => intro vs h; cases h with | cons h1 t => cases t; exact ⟨[], _, rfl, .nil, h1⟩
  | cons b r ih => intro vs h; cases h with
    | cons h1 t =>
      obtain ⟨vs', v, rfl, h2, h3⟩ := ih t
      exact ⟨_ :: vs', v, rfl, .cons h1 h2, h3⟩
theorem news_rate {g h : Heap} {L : Addr} {a1 a2 a3 a4 a5 y dy i l1 l2 l3 x d : Addr × Obj} {es : List (Addr × Obj)} (N : News g L h (a1 :: a2 :: a3 :: a4 :: a5 :: y :: dy :: i :: l1 :: l2 :: l3 :: x :: d :: es)) : News g L h (i :: l1 :: l2 :: l3 :: x :: d :: [y, dy]) := fun p hp => N p (by
  simp only [List.mem_cons, List.not_mem_nil, or_false] at hp ⊢
  rcases hp with q | q | q | q | q | q | q | q <;> simp [q])
theorem dl0 : Str.ofString "Crawl-delay: " ++ Str.ofString "0" = dlLine 0 := by decide +kernel
theorem dl12 : Str.ofString "Crawl-delay: " ++ Str.ofString "12" = dlLine 12 := by decide +kernel
theorem rr0 : Str.ofString "Request-rate: " ++ Str.ofString "0/1" = rrLine (0, 1) := by decide +kernel
theorem rr1 : Str.ofString "Request-rate: " ++ Str.ofString "30/7" = rrLine (30, 7) := by decide +kernel
theorem len_nil {A : List Str} (h : ¬ (0 : Int) < (A.length : Int)) : A = [] := List.eq_nil_of_length_eq_zero (by omega)
theorem len_pos {A : List Str} (h : (0 : Int) < (A.length : Int)) : A ≠ [] := fun e => by rw [e] at h; simp at h
end Mine
namespace Mine
theorem lines_min {A : List Str} {d : Option Int} {r : Option (Int × Int)} {R : List Str} : A.length + one? d + one? r + 1 ≤ (linesOf A d r R).length := by
  rw [lines_is, List.length_append, head_len]
  by_cases h : R = []
  · rw [if_pos h]; simp
  · rw [if_neg h]
    have := List.length_pos_iff.mpr h
    omega
theorem nat_of {a : Int} (h : 0 ≤ a) : ∃ p : Nat, a = (p : Int) := ⟨_, (Int.toNat_of_nonneg h).symm⟩
theorem six (x : Int) : Int.fmod x 6 = 0 ∨ Int.fmod x 6 = 1 ∨ Int.fmod x 6 = 2 ∨ Int.fmod x 6 = 3 ∨ Int.fmod x 6 = 4 ∨ Int.fmod x 6 = 5 := by
  have h0 := Int.fmod_nonneg_of_pos x (b := 6) (by decide)
  have h1 := Int.fmod_lt_of_pos x (b := 6) (by decide)
  omega
end Mine
namespace Mine
theorem menu3l {l : List Str} (hl : l.length = 3) (hb : ∀ a ∈ l, a.length ≤ 100) {r : Int} (h0 : 0 ≤ r) (h1 : r < 3) : ∃ a, l[r.toNat]? = some a ∧ a.length ≤ 100 := by
  obtain ⟨a, h, m⟩ := menu3 hl h0 h1
  exact ⟨a, h, hb a m⟩
end Mine
end
section
local macro_rules | `(tactic| walk_at "subscriptTail") => `(tactic| (k_here; (with_reducible show wpAny _ _ (subscriptTail _ _ (Value.ref _) (Value.int _ _)) _ _ _); refine Mine.stop ?_))
local macro_rules | `(tactic| walk_at "pyIter ref") => `(tactic| (k_here; refine Mine.stop ?_))
local macro_rules | `(tactic| walk_at "call builtin:list.append") => `(tactic| (k_here; (with_reducible show wpAny _ _ (call (Value.builtin _) [Value.ref _, _]) _ _ _); k_dflt (refine' Mine.append_l ?k1 ?k2 ?k3 ?_ ?z; (case k1 => k_asm); (case k2 => k_asm); (case k3 => k_upd); (case z => (rw [PySem.sizeLine_eq]; (try simp only [List.length_append, List.length_cons, List.length_nil]); omega)); k_whole); intro h' F' N'; (try k_sweep)))
local macro_rules | `(tactic| walk_at "getItem ref int") => `(tactic| (k_here; k_dflt (refine Mine.get_last (by k_asm) (by k_mem) ?_)))
local macro_rules | `(tactic| walk_at "subscriptTail") => `(tactic| (k_here; (with_reducible show wpAny _ _ (subscriptTail _ _ (Value.ref _) (Value.int _ _)) _ _ _); k_dflt (refine Mine.tail_last (by k_asm) (by k_mem) ?_)))
local macro_rules | `(tactic| walk_at "setItem ref int") => `(tactic| (k_here; k_dflt (refine' Mine.set_last ?k1 ?k2 ?k3 ?_; (case k1 => k_asm); (case k2 => k_asm); (case k3 => k_upd); k_whole); intro h' F' N'; (try k_sweep)))
local macro_rules | `(tactic| walk_at "call builtin:len") => `(tactic| (k_here; (with_reducible show wpAny _ _ (call (Value.builtin "len") [Value.ref _]) _ _ _); k_dflt (refine' Mine.len_l ?k1 ?k2 ?k3 ?_; (case k1 => k_asm); (case k2 => k_mem); (case k3 => (rw [PySem.sizeLine_eq]; (try simp only [List.length_append, List.length_cons, List.length_nil]); omega)); k_whole)))
local macro_rules | `(tactic| walk_at "binaryOp Add ref ref") => `(tactic| (k_here; k_dflt (refine' Mine.add_l ?k1 ?k2 ?k3 ?k4 ?k5 ?_; (case k1 => k_asm); (case k2 => k_asm); (case k3 => k_mem); (case k4 => k_mem); (case k5 => (rw [PySem.sizeLine_eq]; (try simp only [List.length_append, List.length_cons, List.length_nil, List.length_take, List.length_drop]); omega)); k_whole); intro D' h' F' N' l1; (try k_lt l1); (try k_sweep)))
local macro_rules | `(tactic| walk_at "call type:list") => `(tactic| (k_here; (with_reducible show wpAny _ _ (call (Value.type _) [Value.ref _]) _ _ _); k_dflt (refine' Mine.copy_l ?k1 ?k2 ?k3 ?k4 ?_; (case k1 => k_asm); (case k2 => k_asm); (case k3 => k_mem); (case k4 => (rw [PySem.sizeLine_eq]; (try simp only [List.length_append, List.length_cons, List.length_nil, List.length_take, List.length_drop]); omega)); k_whole); intro D' c' h' F' N' l1; (try k_lt l1); (try k_sweep)))
local macro_rules | `(tactic| walk_at "subscriptTail Name Slice ref ref") => `(tactic| (k_here; (with_reducible show wpAny _ _ (subscriptTail _ (PySem.Expr.Slice _ _ none _) (Value.ref _) (Value.ref _)) _ _ _); k_dflt ((first | refine' Mine.slice_to ?F ?N ?l ?p ?_ ?s ?t ?z | refine' Mine.slice_from ?F ?N ?l ?p ?_ ?s ?t ?z); (case F => k_asm); (case N => k_asm); (case l => k_mem); (case p => omega); (case s => with_unfolding_all rfl); (case t => kmk_pure); (case z => (rw [PySem.sizeLine_eq]; omega))); intro D' h' F' N' l1; (try k_lt l1); (try k_sweep)))
local macro_rules | `(tactic| walk_at "eval ListComp") => `(tactic| (k_here; first
  | (lcg_look; k_dflt (refine LCg.ListComp_U (F₀ := by k_asm) (by with_unfolding_all rfl) (by decide) (by rfl) (by decide) (by rfl) ?_); k_dflt lcg_toSrc)
  | (lcf_look; k_dflt (refine LCg.ListComp_U (F₀ := by k_asm) (by with_unfolding_all rfl) (by decide) (by rfl) (by decide) (by rfl) ?_); k_dflt lcg_toSrc)
  | (lct_look; k_dflt (refine LCt.ListComp_T (F₀ := by k_asm) (by with_unfolding_all rfl) (by decide) (by rfl) (by decide) (by rfl) ?_); k_dflt lct_toSrc)))
local macro_rules | `(tactic| walk_at "exec Assign cons ListComp") => `(tactic| (k_here; first
  | (lcg_look; k_dflt (refine LCg.Assign_ListComp_U (F₀ := by k_asm) (by rfl) (by with_unfolding_all rfl) (by with_unfolding_all rfl) (by decide) (by rfl) (by decide) (by rfl) (by rfl) (by rfl) ?_); k_dflt lcg_toSrc)
  | (lcf_look; k_dflt (refine LCg.Assign_ListComp_U (F₀ := by k_asm) (by rfl) (by with_unfolding_all rfl) (by with_unfolding_all rfl) (by decide) (by rfl) (by decide) (by rfl) (by rfl) (by rfl) ?_); k_dflt lcg_toSrc)
  | (lct_look; k_dflt (refine LCt.Assign_ListComp_T (F₀ := by k_asm) (by rfl) (by with_unfolding_all rfl) (by with_unfolding_all rfl) (by decide) (by rfl) (by decide) (by rfl) (by rfl) (by rfl) ?_); k_dflt lct_toSrc)))
local macro_rules | `(tactic| walk_at "CompSrc") => `(tactic| (k_here; k_dflt (first
  | (refine LCg.CompSrc.ledger (by rfl) (by k_asm) (by k_asm) (by k_mem) (by first | (simp only [List.size_toArray, List.length_append, List.length_cons, List.length_nil, List.length_take, List.length_drop, PySem.sizeLine_eq]; omega) | size_fits) ?_; intro g'; refine Mine.stop ?_)
  | (refine LCg.CompSrc.base (by rfl) (by k_asm) (by k_asm) (by assumption) (by first | (simp only [List.size_toArray, List.length_append, List.length_cons, List.length_nil, List.length_take, List.length_drop, PySem.sizeLine_eq]; omega) | size_fits) ?_; intro g'; refine Mine.stop ?_))))
local macro_rules | `(tactic| walk_at "CompSrcT") => `(tactic| (k_here; k_dflt (first
  | (refine LCt.CompSrcT.ledger (by rfl) (by k_asm) (by k_asm) (by k_mem) (by first | (simp only [List.size_toArray, List.length_append, List.length_cons, List.length_nil, List.length_take, List.length_drop, PySem.sizeLine_eq]; omega) | size_fits) ?_; intro g'; refine Mine.stop ?_)
  | (refine LCt.CompSrcT.base (by rfl) (by k_asm) (by k_asm) (by assumption) (by first | (simp only [List.size_toArray, List.length_append, List.length_cons, List.length_nil, List.length_take, List.length_drop, PySem.sizeLine_eq]; omega) | size_fits) ?_; intro g'; refine Mine.stop ?_))))
local macro_rules | `(tactic| walk_at "exec Assign") => `(tactic| (k_here; with_reducible refine plainObj_wpAny_Assign_Attribute ?_ ?_; rotate_left; with_unfolding_all rfl))
local macro_rules | `(tactic| walk_at "exec For Name Call cons nil") => `(tactic| (k_here; k_dflt (refine Mine.For_T (by k_asm) (by intro _ _; rfl) ?_)))
local macro_rules | `(tactic| walk_at "exec For Name Name cons nil") => `(tactic| (k_here; k_dflt (refine Mine.For_T (by k_asm) (by intro _ _; rfl) ?_)))
local macro_rules | `(tactic| walk_at "exec For Name Attribute cons nil") => `(tactic| (k_here; k_dflt (refine Mine.For_T (by k_asm) (by intro _ _; rfl) ?_)))
local macro_rules | `(tactic| walk_at "CompEnd") => `(tactic| (k_here; refine Mine.stop ?_))
local macro_rules | `(tactic| ktr_rel) => `(tactic| first
  | ((with_reducible show wpAny _ _ (subscriptTail _ _ (Value.ref _) (Value.int _ _)) _ _ _); (first | ((with_reducible show wpAny _ _ (subscriptTail _ _ (Value.ref _) (Value.int (-1) _)) _ _ _); k_dflt (refine Mine.tail_last (by k_asm) (by k_mem) ?_)) | refine Mine.stop ?_))
  | ((with_reducible show wpAny _ _ (call (Value.ref 42) _ _) _ _ _); refine Mine.stop ?_)
  | ((with_reducible show wpAny _ _ (call (Value.builtin "str.join") [Value.str _ _, Value.ref _] _) _ _ _); refine Mine.stop ?_)
  | ((with_reducible show wpAny _ _ (exec (PySem.Stmt.If _ _ _ _) _) _ _ _); (with_reducible rename Mine.Mark => mk9); clear mk9; refine Mine.stop ?_)
  | ((with_reducible show wpAny _ _ (call (Value.builtin "list.insert") _ _) _ _ _); refine Mine.stop ?_)
  | ((with_reducible show wpAny _ _ (delItem (Value.ref _) (Value.int _ _)) _ _ _); refine Mine.stop ?_)
  | ((with_reducible show wpAny _ _ (eval (PySem.Expr.ListComp _ _ _ _) _) _ _ _); refine Mine.stop ?_)
  | ((with_reducible show wpAny _ _ (compareOp CmpOp.NotEq (Value.ref _) (Value.ref _)) _ _ _); refine Mine.stop ?_)
  | ((with_reducible show wpAny _ _ (compareOp CmpOp.In (Value.str _ _) (Value.ref _)) _ _ _); refine Mine.stop ?_)
  | fail "none")
local macro_rules | `(tactic| walk_at "compareOp In str ref") => `(tactic| (k_here; refine Mine.stop ?_))
local macro_rules | `(tactic| ktr_unf) => `(tactic| repeat' (first | (k_unfold; (try dsimp only)) | ktr_rel | walk1 | (dsimp only; walk1) | fail "no step"))
local macro_rules | `(tactic| k_mem) => `(tactic| assumption)
local macro_rules | `(tactic| walk_at "execs cons") => `(tactic| ((with_reducible refine wpAny_execs_cons ?_); try dsimp only))
local macro_rules | `(tactic| k_all) => `(tactic| exact Mine.Off.mem (by assumption))
local macro_rules | `(tactic| walk_at "call builtin:list.pop") => `(tactic| (k_here; (with_reducible show wpAny _ _ (call (Value.builtin _) [Value.ref _]) _ _ _); k_dflt (refine' kl_pop ?F ?N ?e ?U ?z ?_; (case F => k_asm); (case N => k_asm); (case U => k_upd); (case e => exact Mine.last_is _ _); (case z => (rw [PySem.sizeLine_eq]; simp; omega))); intro h' F' N'; (try dsimp only [List.nil_append, List.cons_append] at N')))
set_option maxRecDepth 100000 in
set_option maxHeartbeats 8000000 in
theorem PySem.Challenge.cw_kn0091_02_holds : PySem.Challenge.rw_kn0091_02.Holds := by
  refine Mine.hd02 (by
  k_go0
  (all_goals try k_fold)
  rename ¬ ((_ : Nat) : Int) < _ => hle
  rename IntsAre _ _ => hI
  have hlv := hI.length
  ktr_unf
  rename Fr _ _ _ _ => F2
  rename News _ _ _ _ => N2
  refine Mine.unstop (Mine.strC (agents := [Str.ofString "fig"]) (rules := []) (dly := none) (rate := none) (ru := []) rfl rfl (by assumption) F2 (by assumption) (by assumption) (InstAt.of_news N2 (by k_mem) (by k_mem)) (Mine.is_l N2 (by k_mem)) (Mine.is_l (n := 0) (xs := []) N2 (by k_mem)) (.cons ⟨_, rfl⟩ .nil) .nil (.inl ⟨rfl, rfl⟩) (.inl ⟨rfl, rfl⟩) (by decide) (by decide) (fun a ha => by rw [List.mem_singleton.mp ha]; decide +kernel) (fun a ha => absurd ha List.not_mem_nil) ?_)
  intro h2 tk2 t2 keep2
  obtain ⟨F1, N1⟩ := Mine.after_keep F2 N2 keep2
  clear F2 N2 keep2
  dsimp only [StrBack]
  ktr_unf
  rename News _ _ _ _ => N2
  refine Mine.unstop (join_listW (Mine.is_l N2 (by k_mem)) (Mine.strs_pd (xs := Mine.linesOf [Str.ofString "fig"] none none []) (.cons ⟨_, by rw [Mine.ua_fig]⟩ (.cons ⟨_, rfl⟩ .nil))) (by decide) (by decide +kernel) ?_)
  intro t' k'
  rw [Mine.lf_is, show Mine.strText [Str.ofString "fig"] none none [] = Txt.join ⟨#[10]⟩ (Mine.linesOf [Str.ofString "fig"] none none []) from rfl]
  ktr_unf
  rename Fr _ _ _ _ => F9
  rename News _ _ _ _ => N9
  have hpi := Mine.pd_ints hI
  refine Mine.unstop (Mine.forT_pd (G := Mine.IntV) (its := _) (by exact hpi) [Str.ofString "x", Str.ofString "step", Str.ofString "rest", Str.ofString "agents", Str.ofString "delays", Str.ofString "rates", Str.ofString "rules", Str.ofString "place", Str.ofString "name", Str.ofString "base", Str.ofString "rule"]
    (fun pre u nw => Mine.J02 _ _ _ _ _ _ _ _ _ _ _ _ _ _ u nw) rfl (.inl (by assumption)) F9 N9
    ⟨[Str.ofString "fig"], [], none, none, [_, _], [_], [], .none, .none, _, _, _, [], _, _, _, _, rfl, .cons ⟨_, rfl⟩ .nil, .nil, .cons ⟨_, by rw [Mine.ua_fig]⟩ (.cons ⟨_, rfl⟩ .nil), .inl ⟨rfl, rfl⟩, .inl ⟨rfl, rfl⟩, by decide, by decide, (fun a ha => by rw [List.mem_singleton.mp ha]; decide +kernel), (fun a ha => absurd ha List.not_mem_nil), ⟨rfl, rfl, rfl, rfl⟩, True.intro, True.intro, True.intro, True.intro, True.intro⟩ ?_ ?_)
  · intro pre x post v u nw I oI h tk hsp hv hJ hoff0 F N
    have hJ0 := hJ
    obtain ⟨A, R, dly, rate, zs, ua, ru, dl, rr, c1, c2, c3, es, k1, k2, k3, k4, rfl, hA, hR, hL, hd, hr, hA5, hR5, hAl, hRl, ⟨e1, e2, e3, e4⟩, o1, o2, o3, o4, o5⟩ := hJ
    clear F9 N9
    have hoff := hoff0
    simp only [Mine.Off] at hoff
    simp only [Mine.over, e1, e2, e3, e4] at F
    obtain ⟨t, rfl⟩ := hv
    have hAll := Mine.pd_len hA
    have hRll := Mine.pd_len hR
    have hLll := Mine.pd_len hL
    have hmin := Mine.lines_min (A := A) (d := dly) (r := rate) (R := R)
    have hnum := Mine.lines_num (agents := A) (dly := dly) (rate := rate) (rules := R)
    have hzl : zs.length ≤ 100 := by omega
    have hzm : A.length + Mine.one? dly + Mine.one? rate + 1 ≤ zs.length := by omega
    clear hmin hnum
    have hmark : Mine.Mark := True.intro
    ktr_unf
    rename Fr _ _ _ _ => F2
    rename News _ _ _ _ => N2
    refine Mine.unstop (Mine.cut02 [Str.ofString "agents", Str.ofString "delays", Str.ofString "rates", Str.ofString "rules", Str.ofString "place", Str.ofString "name", Str.ofString "base", Str.ofString "rule"] F2 N2 hJ0 ?_ ?_)
    · rcases Mine.six x with h6 | h6 | h6 | h6 | h6 | h6
      · ktr_unf
        all_goals (first | (exfalso; omega) | skip)
        · obtain ⟨p, hpe⟩ := Mine.nat_of (Int.fmod_nonneg_of_pos (Int.fdiv x 6) (b := (A.length : Int) + 1) (by omega))
          have hpl : p < A.length + 1 := by have := Int.fmod_lt_of_pos (Int.fdiv x 6) (b := (A.length : Int) + 1) (by omega); omega
          rename Fr _ _ _ _ => Fz
          rw [hpe] at Fz
          (try rw [hpe])
          clear hpe
          obtain ⟨j, hje⟩ := Mine.nat_of (Int.fmod_nonneg_of_pos (Int.fdiv (Int.fdiv x 6) ((A.length : Int) + 1)) (b := 3) (by decide))
          have hjl := Int.fmod_lt_of_pos (Int.fdiv (Int.fdiv x 6) ((A.length : Int) + 1)) (b := 3) (by decide)
          obtain ⟨nm, hnm, hnl⟩ := Mine.menu3l (l := Mine.names3) rfl Mine.names_len (Int.fmod_nonneg_of_pos (Int.fdiv (Int.fdiv x 6) ((A.length : Int) + 1)) (b := 3) (by decide)) hjl
          rw [hje] at hjl hnm ⊢
          rw [Int.toNat_natCast] at hnm
          refine Mine.unstop (Mine.tail_pd (j := j) (F := Mine.StrV) (as := Mine.names3) (by k_asm) (by k_mem) (by unfold Mine.names3; repeat (first | exact .nil | refine .cons ⟨_, rfl⟩ ?_)) hnm rfl (by omega) ?_)
          rintro v ⟨tn, rfl⟩
          clear hje hjl hnm
          ktr_unf
          rename Fr _ _ _ _ => F5
          rename News _ _ _ _ => N5
          refine Mine.unstop (Mine.insert_l (p := p) F5 N5 (by k_upd) (by omega) (by omega) (by omega) ?_)
          intro h5 F4 N4
          clear F5 N5
          ktr_unf
          all_goals (first | (exfalso; omega) | skip)
          rename Fr _ _ _ _ => F5
          rename News _ _ _ _ => N5
          refine Mine.unstop (Mine.insert_l (p := p) F5 N5 (by k_upd) (by omega) (by omega) (by omega) ?_)
          intro h5 F4 N4
          clear F5 N5
          ktr_unf
          all_goals (first | (exfalso; omega) | skip)
          rename News _ _ _ _ => N6
          exact ⟨rfl, _, _, _, _, rfl, by assumption, (Mine.news_tail N6), (fun z1 q1 => by
            simp only [List.mem_cons, not_or, List.not_mem_nil, not_false_iff, and_true] at q1
            obtain ⟨n1, n2, n3, n4, n5, n6, n7, n8⟩ := q1
            simp only [if_neg n1, if_neg n2, if_neg n3, if_neg n4, if_neg n5, if_neg n6, if_neg n7, if_neg n8]), (by exact hoff0), Mine.insAt A p nm, R, dly, rate, Mine.insAt zs p _, Mine.insAt ua p _, ru, _, _, _, _, _, es, _, _, _, _, rfl, (Mine.pd_ins hA _ ⟨_, rfl⟩), hR, (by rw [← Mine.lines_insA (by omega)]; exact Mine.pd_ins hL _ ⟨_, rfl⟩), hd, hr, (by rw [Mine.ins_len]; omega), hR5, (fun a ha => (Mine.ins_mem ha).elim (fun q => by rw [q]; exact hnl) (hAl a)), hRl, ⟨(by exact Mine.int_eq (by rw [Mine.ins_len]; omega)), rfl, rfl, rfl⟩, o1, o2, o3, o4, o5⟩
        · obtain ⟨p, hpe⟩ := Mine.nat_of (Int.fmod_nonneg_of_pos (Int.fdiv x 6) (b := (A.length : Int)) (by omega))
          have hpl : p < A.length := by have := Int.fmod_lt_of_pos (Int.fdiv x 6) (b := (A.length : Int)) (by omega); omega
          rename Fr _ _ _ _ => Fz
          rw [hpe] at Fz
          (try rw [hpe])
          clear hpe
          rename Fr _ _ _ _ => F5
          rename News _ _ _ _ => N5
          refine Mine.unstop (Mine.del_l (p := p) F5 N5 (by k_upd) (by omega) (by omega) (by omega) ?_)
          intro h5 F4 N4
          clear F5 N5
          ktr_unf
          all_goals (first | (exfalso; omega) | skip)
          rename Fr _ _ _ _ => F5
          rename News _ _ _ _ => N5
          refine Mine.unstop (Mine.del_l (p := p) F5 N5 (by k_upd) (by omega) (by omega) (by omega) ?_)
          intro h5 F4 N4
          clear F5 N5
          ktr_unf
          all_goals (first | (exfalso; omega) | skip)
          rename News _ _ _ _ => N6
          have hdl := Mine.del_len A p (by omega)
          exact ⟨rfl, _, _, _, _, rfl, by assumption, N6, (fun z1 q1 => by
            simp only [List.mem_cons, not_or, List.not_mem_nil, not_false_iff, and_true] at q1
            obtain ⟨n1, n2, n3, n4, n5, n6, n7, n8⟩ := q1
            simp only [if_neg n1, if_neg n2, if_neg n3, if_neg n4, if_neg n5, if_neg n6, if_neg n7, if_neg n8]), (by exact hoff0), Mine.delAt A p, R, dly, rate, Mine.delAt zs p, Mine.delAt ua p, ru, _, _, _, _, _, es, _, _, _, _, rfl, (Mine.pd_del hA _), hR, (by rw [← Mine.lines_delA (by omega)]; exact Mine.pd_del hL _), hd, hr, (by omega), hR5, (fun a ha => hAl a (Mine.del_mem ha)), hRl, ⟨(by exact Mine.int_eq (by omega)), rfl, rfl, rfl⟩, o1, o2, o3, o4, o5⟩
      · ktr_unf
        all_goals (first | (exfalso; omega) | skip)
        · obtain ⟨p, hpe⟩ := Mine.nat_of (Int.fmod_nonneg_of_pos (Int.fdiv x 6) (b := (A.length : Int)) (by omega))
          have hpl : p < A.length := by have := Int.fmod_lt_of_pos (Int.fdiv x 6) (b := (A.length : Int)) (by omega); omega
          rename Fr _ _ _ _ => Fz
          rw [hpe] at Fz
          (try rw [hpe])
          clear hpe
          rename Fr _ _ _ _ => F5
          rename News _ _ _ _ => N5
          refine Mine.unstop (Mine.del_l (p := p) F5 N5 (by k_upd) (by omega) (by omega) (by omega) ?_)
          intro h5 F4 N4
          clear F5 N5
          ktr_unf
          all_goals (first | (exfalso; omega) | skip)
          rename Fr _ _ _ _ => F5
          rename News _ _ _ _ => N5
          refine Mine.unstop (Mine.del_l (p := p) F5 N5 (by k_upd) (by omega) (by omega) (by omega) ?_)
          intro h5 F4 N4
          clear F5 N5
          ktr_unf
          all_goals (first | (exfalso; omega) | skip)
          rename News _ _ _ _ => N6
          have hdl := Mine.del_len A p (by omega)
          exact ⟨rfl, _, _, _, _, rfl, by assumption, N6, (fun z1 q1 => by
            simp only [List.mem_cons, not_or, List.not_mem_nil, not_false_iff, and_true] at q1
            obtain ⟨n1, n2, n3, n4, n5, n6, n7, n8⟩ := q1
            simp only [if_neg n1, if_neg n2, if_neg n3, if_neg n4, if_neg n5, if_neg n6, if_neg n7, if_neg n8]), (by exact hoff0), Mine.delAt A p, R, dly, rate, Mine.delAt zs p, Mine.delAt ua p, ru, _, _, _, _, _, es, _, _, _, _, rfl, (Mine.pd_del hA _), hR, (by rw [← Mine.lines_delA (by omega)]; exact Mine.pd_del hL _), hd, hr, (by omega), hR5, (fun a ha => hAl a (Mine.del_mem ha)), hRl, ⟨(by exact Mine.int_eq (by omega)), rfl, rfl, rfl⟩, o1, o2, o3, o4, o5⟩
        · rename News _ _ _ _ => N6
          exact ⟨rfl, _, _, _, _, rfl, by assumption, N6, (fun z1 q1 => by
            simp only [List.mem_cons, not_or, List.not_mem_nil, not_false_iff, and_true] at q1
            obtain ⟨n1, n2, n3, n4, n5, n6, n7, n8⟩ := q1
            simp only [if_neg n1, if_neg n2, if_neg n3, if_neg n4, if_neg n5, if_neg n6, if_neg n7, if_neg n8]), (by exact hoff0), A, R, dly, rate, zs, ua, ru, _, _, _, _, _, es, _, _, _, _, rfl, hA, hR, hL, hd, hr, hA5, hR5, hAl, hRl, ⟨rfl, rfl, rfl, rfl⟩, o1, o2, o3, o4, o5⟩
      · ktr_unf
        all_goals (first | (exfalso; omega) | skip)
        · obtain ⟨p, hpe⟩ := Mine.nat_of (Int.fmod_nonneg_of_pos (Int.fdiv x 6) (b := (R.length : Int) + 1) (by omega))
          have hpl : p < R.length + 1 := by have := Int.fmod_lt_of_pos (Int.fdiv x 6) (b := (R.length : Int) + 1) (by omega); omega
          rename Fr _ _ _ _ => Fz
          rw [hpe] at Fz
          (try rw [hpe])
          clear hpe
          obtain ⟨j, hje⟩ := Mine.nat_of (Int.fmod_nonneg_of_pos (Int.fdiv (Int.fdiv x 6) ((R.length : Int) + 1)) (b := 3) (by decide))
          have hjl := Int.fmod_lt_of_pos (Int.fdiv (Int.fdiv x 6) ((R.length : Int) + 1)) (b := 3) (by decide)
          obtain ⟨nm, hnm, hnl⟩ := Mine.menu3l (l := Mine.rules3) rfl Mine.rules_len (Int.fmod_nonneg_of_pos (Int.fdiv (Int.fdiv x 6) ((R.length : Int) + 1)) (b := 3) (by decide)) hjl
          rw [hje] at hjl hnm ⊢
          rw [Int.toNat_natCast] at hnm
          refine Mine.unstop (Mine.tail_pd (j := j) (F := Mine.StrV) (as := Mine.rules3) (by k_asm) (by k_mem) (by unfold Mine.rules3; repeat (first | exact .nil | refine .cons ⟨_, rfl⟩ ?_)) hnm rfl (by omega) ?_)
          rintro v ⟨tn, rfl⟩
          clear hje hjl hnm
          have hhl := Mine.head_len A dly rate
          by_cases hR0 : R = []
          · have hR1 : R.length = 0 := by rw [hR0]; rfl
            have hR1i : ((R.length : Nat) : Int) = 0 := by omega
            rw [hR0, Mine.lines_pop] at hL
            obtain ⟨zs', vl, rfl, hL', hvl⟩ := Mine.pd_snoc_inv hL
            have hzl' := Mine.pd_len hL'
            ktr_unf
            rename Fr _ _ _ _ => F5
            rename News _ _ _ _ => N5
            refine Mine.unstop (Mine.insert_l (p := p) F5 N5 (by k_upd) (by omega) (by omega) (by omega) ?_)
            intro h5 F4 N4
            clear F5 N5
            ktr_unf
            all_goals (first | (exfalso; omega) | skip)
            rename Fr _ _ _ _ => F5
            rename News _ _ _ _ => N5
            refine Mine.unstop (Mine.insert_l (p := A.length + Mine.one? dly + Mine.one? rate + p) F5 N5 (by k_upd) (by omega) (by omega) (by omega) ?_)
            intro h5 F4 N4
            clear F5 N5
            ktr_unf
            all_goals (first | (exfalso; omega) | skip)
            rename News _ _ _ _ => N6
            exact ⟨rfl, _, _, _, _, rfl, by assumption, (Mine.news_tail N6), (fun z1 q1 => by
              simp only [List.mem_cons, not_or, List.not_mem_nil, not_false_iff, and_true] at q1
              obtain ⟨n1, n2, n3, n4, n5, n6, n7, n8⟩ := q1
              simp only [if_neg n1, if_neg n2, if_neg n3, if_neg n4, if_neg n5, if_neg n6, if_neg n7, if_neg n8]), (by exact hoff0), A, Mine.insAt R p nm, dly, rate, Mine.insAt zs' (A.length + Mine.one? dly + Mine.one? rate + p) _, ua, Mine.insAt ru p _, _, _, _, _, _, es, _, _, _, _, rfl, hA, (Mine.pd_ins hR _ ⟨_, rfl⟩), (by rw [show Mine.insAt R p nm = Mine.insAt [] 0 nm by rw [hR0]; simp [Mine.insAt], ← Mine.lines_first (p := A.length + Mine.one? dly + Mine.one? rate + p) (by omega)]; exact Mine.pd_ins hL' _ ⟨_, rfl⟩), hd, hr, hA5, (by rw [Mine.ins_len]; omega), hAl, (fun a ha => (Mine.ins_mem ha).elim (fun q => by rw [q]; exact hnl) (hRl a)), ⟨rfl, rfl, rfl, (by exact Mine.int_eq (by rw [Mine.ins_len]; omega))⟩, o1, o2, o3, o4, o5⟩
          · have hR1 : R.length ≠ 0 := fun q => hR0 (List.eq_nil_of_length_eq_zero q)
            have hR1i : ((R.length : Nat) : Int) ≠ 0 := by omega
            have hll : zs.length = A.length + Mine.one? dly + Mine.one? rate + R.length := by rw [← hLll, Mine.lines_is, if_neg hR0, List.length_append, hhl]
            ktr_unf
            rename Fr _ _ _ _ => F5
            rename News _ _ _ _ => N5
            refine Mine.unstop (Mine.insert_l (p := p) F5 N5 (by k_upd) (by omega) (by omega) (by omega) ?_)
            intro h5 F4 N4
            clear F5 N5
            ktr_unf
            all_goals (first | (exfalso; omega) | skip)
            rename Fr _ _ _ _ => F5
            rename News _ _ _ _ => N5
            refine Mine.unstop (Mine.insert_l (p := A.length + Mine.one? dly + Mine.one? rate + p) F5 N5 (by k_upd) (by omega) (by omega) (by omega) ?_)
            intro h5 F4 N4
            clear F5 N5
            ktr_unf
            all_goals (first | (exfalso; omega) | skip)
            rename News _ _ _ _ => N6
            exact ⟨rfl, _, _, _, _, rfl, by assumption, (Mine.news_tail N6), (fun z1 q1 => by
              simp only [List.mem_cons, not_or, List.not_mem_nil, not_false_iff, and_true] at q1
              obtain ⟨n1, n2, n3, n4, n5, n6, n7, n8⟩ := q1
              simp only [if_neg n1, if_neg n2, if_neg n3, if_neg n4, if_neg n5, if_neg n6, if_neg n7, if_neg n8]), (by exact hoff0), A, Mine.insAt R p nm, dly, rate, Mine.insAt zs (A.length + Mine.one? dly + Mine.one? rate + p) _, ua, Mine.insAt ru p _, _, _, _, _, _, es, _, _, _, _, rfl, hA, (Mine.pd_ins hR _ ⟨_, rfl⟩), (by rw [← Mine.lines_insR rfl hR0]; exact Mine.pd_ins hL _ ⟨_, rfl⟩), hd, hr, hA5, (by rw [Mine.ins_len]; omega), hAl, (fun a ha => (Mine.ins_mem ha).elim (fun q => by rw [q]; exact hnl) (hRl a)), ⟨rfl, rfl, rfl, (by exact Mine.int_eq (by rw [Mine.ins_len]; omega))⟩, o1, o2, o3, o4, o5⟩
        · obtain ⟨p, hpe⟩ := Mine.nat_of (Int.fmod_nonneg_of_pos (Int.fdiv x 6) (b := (R.length : Int)) (by omega))
          have hpl : p < R.length := by have := Int.fmod_lt_of_pos (Int.fdiv x 6) (b := (R.length : Int)) (by omega); omega
          rename Fr _ _ _ _ => Fz
          rw [hpe] at Fz
          (try rw [hpe])
          clear hpe
          have hhl := Mine.head_len A dly rate
          have hR0 : R ≠ [] := fun q => by rw [q] at hpl; simp at hpl
          have hll : zs.length = A.length + Mine.one? dly + Mine.one? rate + R.length := by rw [← hLll, Mine.lines_is, if_neg hR0, List.length_append, hhl]
          have hdl := Mine.del_len R p (by omega)
          have hdz := Mine.del_len zs (A.length + Mine.one? dly + Mine.one? rate + p) (by omega)
          rename Fr _ _ _ _ => F5
          rename News _ _ _ _ => N5
          refine Mine.unstop (Mine.del_l (p := p) F5 N5 (by k_upd) (by omega) (by omega) (by omega) ?_)
          intro h5 F4 N4
          clear F5 N5
          ktr_unf
          all_goals (first | (exfalso; omega) | skip)
          rename Fr _ _ _ _ => F5
          rename News _ _ _ _ => N5
          refine Mine.unstop (Mine.del_l (p := A.length + Mine.one? dly + Mine.one? rate + p) F5 N5 (by k_upd) (by omega) (by omega) (by omega) ?_)
          intro h5 F4 N4
          clear F5 N5
          ktr_unf
          all_goals (first | (exfalso; omega) | skip)
          · have hR1 : Mine.delAt R p ≠ [] := fun q => by rw [q] at hdl; simp at hdl; omega
            rename News _ _ _ _ => N6
            exact ⟨rfl, _, _, _, _, rfl, by assumption, N6, (fun z1 q1 => by
              simp only [List.mem_cons, not_or, List.not_mem_nil, not_false_iff, and_true] at q1
              obtain ⟨n1, n2, n3, n4, n5, n6, n7, n8⟩ := q1
              simp only [if_neg n1, if_neg n2, if_neg n3, if_neg n4, if_neg n5, if_neg n6, if_neg n7, if_neg n8]), (by exact hoff0), A, Mine.delAt R p, dly, rate, Mine.delAt zs (A.length + Mine.one? dly + Mine.one? rate + p), ua, Mine.delAt ru p, _, _, _, _, _, es, _, _, _, _, rfl, hA, (Mine.pd_del hR _), (by rw [← Mine.lines_some hR1, ← Mine.lines_delR rfl hR0]; exact Mine.pd_del hL _), hd, hr, hA5, (by omega), hAl, (fun a ha => hRl a (Mine.del_mem ha)), ⟨rfl, rfl, rfl, (by exact Mine.int_eq (by omega))⟩, o1, o2, o3, o4, o5⟩
      · ktr_unf
        all_goals (first | (exfalso; omega) | skip)
        · obtain ⟨p, hpe⟩ := Mine.nat_of (Int.fmod_nonneg_of_pos (Int.fdiv x 6) (b := (R.length : Int)) (by omega))
          have hpl : p < R.length := by have := Int.fmod_lt_of_pos (Int.fdiv x 6) (b := (R.length : Int)) (by omega); omega
          rename Fr _ _ _ _ => Fz
          rw [hpe] at Fz
          (try rw [hpe])
          clear hpe
          have hhl := Mine.head_len A dly rate
          have hR0 : R ≠ [] := fun q => by rw [q] at hpl; simp at hpl
          have hll : zs.length = A.length + Mine.one? dly + Mine.one? rate + R.length := by rw [← hLll, Mine.lines_is, if_neg hR0, List.length_append, hhl]
          have hdl := Mine.del_len R p (by omega)
          have hdz := Mine.del_len zs (A.length + Mine.one? dly + Mine.one? rate + p) (by omega)
          rename Fr _ _ _ _ => F5
          rename News _ _ _ _ => N5
          refine Mine.unstop (Mine.del_l (p := p) F5 N5 (by k_upd) (by omega) (by omega) (by omega) ?_)
          intro h5 F4 N4
          clear F5 N5
          ktr_unf
          all_goals (first | (exfalso; omega) | skip)
          rename Fr _ _ _ _ => F5
          rename News _ _ _ _ => N5
          refine Mine.unstop (Mine.del_l (p := A.length + Mine.one? dly + Mine.one? rate + p) F5 N5 (by k_upd) (by omega) (by omega) (by omega) ?_)
          intro h5 F4 N4
          clear F5 N5
          ktr_unf
          all_goals (first | (exfalso; omega) | skip)
          · have hR1 : Mine.delAt R p = [] := List.eq_nil_of_length_eq_zero (by omega)
            rename News _ _ _ _ => N6
            exact ⟨rfl, _, _, _, _, rfl, by assumption, N6, (fun z1 q1 => by
              simp only [List.mem_cons, not_or, List.not_mem_nil, not_false_iff, and_true] at q1
              obtain ⟨n1, n2, n3, n4, n5, n6, n7, n8⟩ := q1
              simp only [if_neg n1, if_neg n2, if_neg n3, if_neg n4, if_neg n5, if_neg n6, if_neg n7, if_neg n8]), (by exact hoff0), A, Mine.delAt R p, dly, rate, Mine.delAt zs (A.length + Mine.one? dly + Mine.one? rate + p) ++ [_], ua, Mine.delAt ru p, _, _, _, _, _, es, _, _, _, _, rfl, hA, (Mine.pd_del hR _), (by rw [hR1, Mine.lines_pop]; refine PySem.Paired.snoc ?_ ⟨_, rfl⟩; have := Mine.pd_del hL (A.length + Mine.one? dly + Mine.one? rate + p); rw [Mine.lines_delR rfl hR0, hR1, List.append_nil] at this; exact this), hd, hr, hA5, (by omega), hAl, (fun a ha => hRl a (Mine.del_mem ha)), ⟨rfl, rfl, rfl, (by exact Mine.int_eq (by omega))⟩, o1, o2, o3, o4, o5⟩
          · have hR1 : Mine.delAt R p ≠ [] := fun q => by rw [q] at hdl; simp at hdl; omega
            rename News _ _ _ _ => N6
            exact ⟨rfl, _, _, _, _, rfl, by assumption, N6, (fun z1 q1 => by
              simp only [List.mem_cons, not_or, List.not_mem_nil, not_false_iff, and_true] at q1
              obtain ⟨n1, n2, n3, n4, n5, n6, n7, n8⟩ := q1
              simp only [if_neg n1, if_neg n2, if_neg n3, if_neg n4, if_neg n5, if_neg n6, if_neg n7, if_neg n8]), (by exact hoff0), A, Mine.delAt R p, dly, rate, Mine.delAt zs (A.length + Mine.one? dly + Mine.one? rate + p), ua, Mine.delAt ru p, _, _, _, _, _, es, _, _, _, _, rfl, hA, (Mine.pd_del hR _), (by rw [← Mine.lines_some hR1, ← Mine.lines_delR rfl hR0]; exact Mine.pd_del hL _), hd, hr, hA5, (by omega), hAl, (fun a ha => hRl a (Mine.del_mem ha)), ⟨rfl, rfl, rfl, (by exact Mine.int_eq (by omega))⟩, o1, o2, o3, o4, o5⟩
        · rename News _ _ _ _ => N6
          exact ⟨rfl, _, _, _, _, rfl, by assumption, N6, (fun z1 q1 => by
            simp only [List.mem_cons, not_or, List.not_mem_nil, not_false_iff, and_true] at q1
            obtain ⟨n1, n2, n3, n4, n5, n6, n7, n8⟩ := q1
            simp only [if_neg n1, if_neg n2, if_neg n3, if_neg n4, if_neg n5, if_neg n6, if_neg n7, if_neg n8]), (by exact hoff0), A, R, dly, rate, zs, ua, ru, _, _, _, _, _, es, _, _, _, _, rfl, hA, hR, hL, hd, hr, hA5, hR5, hAl, hRl, ⟨rfl, rfl, rfl, rfl⟩, o1, o2, o3, o4, o5⟩
      · ktr_unf
        all_goals (first | (exfalso; omega) | skip)
        · cases dly with
          | none => rename (((Mine.one? _ : Nat) : Int) = 1) => q1; simp [Mine.one?] at q1
          | some kd =>
            have hL' := Mine.pd_del hL A.length
            rw [Mine.lines_delD] at hL'
            have hz' := Mine.del_len zs A.length (by omega)
            rename Fr _ _ _ _ => F5
            rename News _ _ _ _ => N5
            refine Mine.unstop (Mine.del_l (p := A.length) F5 N5 (by k_upd) (by omega) (by omega) (by omega) ?_)
            intro h5 F4 N4
            clear F5 N5
            ktr_unf
            all_goals (first | (exfalso; omega) | skip)
            have h30 := Int.fmod_nonneg_of_pos (Int.fdiv x 6) (b := 3) (by decide)
            have h31 := Int.fmod_lt_of_pos (Int.fdiv x 6) (b := 3) (by decide)
            have h3 : Int.fmod (Int.fdiv x 6) 3 = 0 ∨ Int.fmod (Int.fdiv x 6) 3 = 1 ∨ Int.fmod (Int.fdiv x 6) 3 = 2 := by omega
            clear h30 h31
            rcases h3 with h3 | h3 | h3
            · rename News _ _ _ _ => N5
              refine Mine.unstop (Mine.tail_l (j := 0) (v := Value.int 0 _) N5 (by k_mem) (by rfl) (by omega) (by omega) ?_)
              ktr_unf
              all_goals (first | (exfalso; omega) | skip)
              rename News _ _ _ _ => N5
              refine Mine.unstop (Mine.tail_l (j := 0) (v := Value.str _ _) N5 (by k_mem) (by rfl) (by omega) (by omega) ?_)
              ktr_unf
              all_goals (first | (exfalso; omega) | skip)
              rename Fr _ _ _ _ => F5
              rename News _ _ _ _ => N5
              refine Mine.unstop (Mine.insert_l (p := A.length) F5 N5 (by k_upd) (by omega) (by omega) (by omega) ?_)
              intro h5 F4 N4
              clear F5 N5
              ktr_unf
              all_goals (first | (exfalso; omega) | skip)
              rename News _ _ _ _ => N6
              exact ⟨rfl, _, _, _, _, rfl, by assumption, (Mine.news_tail (Mine.news_tail N6)), (fun z1 q1 => by
                simp only [List.mem_cons, not_or, List.not_mem_nil, not_false_iff, and_true] at q1
                obtain ⟨n1, n2, n3, n4, n5, n6, n7, n8⟩ := q1
                simp only [if_neg n1, if_neg n2, if_neg n3, if_neg n4, if_neg n5, if_neg n6, if_neg n7, if_neg n8]), (by exact hoff0), A, R, (some 0), rate, Mine.insAt (Mine.delAt zs A.length) A.length _, ua, ru, _, _, _, _, _, es, _, _, _, _, rfl, hA, hR, (by rw [← Mine.lines_insD]; exact Mine.pd_ins hL' _ ⟨_, by rw [← Mine.dl0]⟩), (.inr ⟨_, _, rfl, rfl, by decide, by decide⟩), hr, hA5, hR5, hAl, hRl, ⟨rfl, rfl, rfl, rfl⟩, o1, o2, o3, o4, o5⟩
            · rename News _ _ _ _ => N5
              refine Mine.unstop (Mine.tail_l (j := 1) (v := Value.int 12 _) N5 (by k_mem) (by rfl) (by omega) (by omega) ?_)
              ktr_unf
              all_goals (first | (exfalso; omega) | skip)
              rename News _ _ _ _ => N5
              refine Mine.unstop (Mine.tail_l (j := 1) (v := Value.str _ _) N5 (by k_mem) (by rfl) (by omega) (by omega) ?_)
              ktr_unf
              all_goals (first | (exfalso; omega) | skip)
              rename Fr _ _ _ _ => F5
              rename News _ _ _ _ => N5
              refine Mine.unstop (Mine.insert_l (p := A.length) F5 N5 (by k_upd) (by omega) (by omega) (by omega) ?_)
              intro h5 F4 N4
              clear F5 N5
              ktr_unf
              all_goals (first | (exfalso; omega) | skip)
              rename News _ _ _ _ => N6
              exact ⟨rfl, _, _, _, _, rfl, by assumption, (Mine.news_tail (Mine.news_tail N6)), (fun z1 q1 => by
                simp only [List.mem_cons, not_or, List.not_mem_nil, not_false_iff, and_true] at q1
                obtain ⟨n1, n2, n3, n4, n5, n6, n7, n8⟩ := q1
                simp only [if_neg n1, if_neg n2, if_neg n3, if_neg n4, if_neg n5, if_neg n6, if_neg n7, if_neg n8]), (by exact hoff0), A, R, (some 12), rate, Mine.insAt (Mine.delAt zs A.length) A.length _, ua, ru, _, _, _, _, _, es, _, _, _, _, rfl, hA, hR, (by rw [← Mine.lines_insD]; exact Mine.pd_ins hL' _ ⟨_, by rw [← Mine.dl12]⟩), (.inr ⟨_, _, rfl, rfl, by decide, by decide⟩), hr, hA5, hR5, hAl, hRl, ⟨rfl, rfl, rfl, rfl⟩, o1, o2, o3, o4, o5⟩
            · rename News _ _ _ _ => N5
              refine Mine.unstop (Mine.tail_l (j := 2) (v := Value.none) N5 (by k_mem) (by rfl) (by omega) (by omega) ?_)
              ktr_unf
              all_goals (first | (exfalso; omega) | skip)
              rename News _ _ _ _ => N6
              exact ⟨rfl, _, _, _, _, rfl, by assumption, (Mine.news_tail N6), (fun z1 q1 => by
                simp only [List.mem_cons, not_or, List.not_mem_nil, not_false_iff, and_true] at q1
                obtain ⟨n1, n2, n3, n4, n5, n6, n7, n8⟩ := q1
                simp only [if_neg n1, if_neg n2, if_neg n3, if_neg n4, if_neg n5, if_neg n6, if_neg n7, if_neg n8]), (by exact hoff0), A, R, none, rate, (Mine.delAt zs A.length), ua, ru, _, _, _, _, _, es, _, _, _, _, rfl, hA, hR, hL', (.inl ⟨rfl, rfl⟩), hr, hA5, hR5, hAl, hRl, ⟨rfl, rfl, rfl, rfl⟩, o1, o2, o3, o4, o5⟩
        · cases dly with
          | some kd => rename (((Mine.one? _ : Nat) : Int) ≠ 1) => q1; simp [Mine.one?] at q1
          | none =>
            have h30 := Int.fmod_nonneg_of_pos (Int.fdiv x 6) (b := 3) (by decide)
            have h31 := Int.fmod_lt_of_pos (Int.fdiv x 6) (b := 3) (by decide)
            have h3 : Int.fmod (Int.fdiv x 6) 3 = 0 ∨ Int.fmod (Int.fdiv x 6) 3 = 1 ∨ Int.fmod (Int.fdiv x 6) 3 = 2 := by omega
            clear h30 h31
            rcases h3 with h3 | h3 | h3
            · rename News _ _ _ _ => N5
              refine Mine.unstop (Mine.tail_l (j := 0) (v := Value.int 0 _) N5 (by k_mem) (by rfl) (by omega) (by omega) ?_)
              ktr_unf
              all_goals (first | (exfalso; omega) | skip)
              rename News _ _ _ _ => N5
              refine Mine.unstop (Mine.tail_l (j := 0) (v := Value.str _ _) N5 (by k_mem) (by rfl) (by omega) (by omega) ?_)
              ktr_unf
              all_goals (first | (exfalso; omega) | skip)
              rename Fr _ _ _ _ => F5
              rename News _ _ _ _ => N5
              refine Mine.unstop (Mine.insert_l (p := A.length) F5 N5 (by k_upd) (by omega) (by omega) (by omega) ?_)
              intro h5 F4 N4
              clear F5 N5
              ktr_unf
              all_goals (first | (exfalso; omega) | skip)
              rename News _ _ _ _ => N6
              exact ⟨rfl, _, _, _, _, rfl, by assumption, (Mine.news_tail (Mine.news_tail N6)), (fun z1 q1 => by
                simp only [List.mem_cons, not_or, List.not_mem_nil, not_false_iff, and_true] at q1
                obtain ⟨n1, n2, n3, n4, n5, n6, n7, n8⟩ := q1
                simp only [if_neg n1, if_neg n2, if_neg n3, if_neg n4, if_neg n5, if_neg n6, if_neg n7, if_neg n8]), (by exact hoff0), A, R, (some 0), rate, Mine.insAt zs A.length _, ua, ru, _, _, _, _, _, es, _, _, _, _, rfl, hA, hR, (by rw [← Mine.lines_insD]; exact Mine.pd_ins hL _ ⟨_, by rw [← Mine.dl0]⟩), (.inr ⟨_, _, rfl, rfl, by decide, by decide⟩), hr, hA5, hR5, hAl, hRl, ⟨rfl, rfl, rfl, rfl⟩, o1, o2, o3, o4, o5⟩
            · rename News _ _ _ _ => N5
              refine Mine.unstop (Mine.tail_l (j := 1) (v := Value.int 12 _) N5 (by k_mem) (by rfl) (by omega) (by omega) ?_)
              ktr_unf
              all_goals (first | (exfalso; omega) | skip)
              rename News _ _ _ _ => N5
              refine Mine.unstop (Mine.tail_l (j := 1) (v := Value.str _ _) N5 (by k_mem) (by rfl) (by omega) (by omega) ?_)
              ktr_unf
              all_goals (first | (exfalso; omega) | skip)
              rename Fr _ _ _ _ => F5
              rename News _ _ _ _ => N5
              refine Mine.unstop (Mine.insert_l (p := A.length) F5 N5 (by k_upd) (by omega) (by omega) (by omega) ?_)
              intro h5 F4 N4
              clear F5 N5
              ktr_unf
              all_goals (first | (exfalso; omega) | skip)
              rename News _ _ _ _ => N6
              exact ⟨rfl, _, _, _, _, rfl, by assumption, (Mine.news_tail (Mine.news_tail N6)), (fun z1 q1 => by
                simp only [List.mem_cons, not_or, List.not_mem_nil, not_false_iff, and_true] at q1
                obtain ⟨n1, n2, n3, n4, n5, n6, n7, n8⟩ := q1
                simp only [if_neg n1, if_neg n2, if_neg n3, if_neg n4, if_neg n5, if_neg n6, if_neg n7, if_neg n8]), (by exact hoff0), A, R, (some 12), rate, Mine.insAt zs A.length _, ua, ru, _, _, _, _, _, es, _, _, _, _, rfl, hA, hR, (by rw [← Mine.lines_insD]; exact Mine.pd_ins hL _ ⟨_, by rw [← Mine.dl12]⟩), (.inr ⟨_, _, rfl, rfl, by decide, by decide⟩), hr, hA5, hR5, hAl, hRl, ⟨rfl, rfl, rfl, rfl⟩, o1, o2, o3, o4, o5⟩
            · rename News _ _ _ _ => N5
              refine Mine.unstop (Mine.tail_l (j := 2) (v := Value.none) N5 (by k_mem) (by rfl) (by omega) (by omega) ?_)
              ktr_unf
              all_goals (first | (exfalso; omega) | skip)
              rename News _ _ _ _ => N6
              exact ⟨rfl, _, _, _, _, rfl, by assumption, (Mine.news_tail N6), (fun z1 q1 => by
                simp only [List.mem_cons, not_or, List.not_mem_nil, not_false_iff, and_true] at q1
                obtain ⟨n1, n2, n3, n4, n5, n6, n7, n8⟩ := q1
                simp only [if_neg n1, if_neg n2, if_neg n3, if_neg n4, if_neg n5, if_neg n6, if_neg n7, if_neg n8]), (by exact hoff0), A, R, none, rate, zs, ua, ru, _, _, _, _, _, es, _, _, _, _, rfl, hA, hR, hL, (.inl ⟨rfl, rfl⟩), hr, hA5, hR5, hAl, hRl, ⟨rfl, rfl, rfl, rfl⟩, o1, o2, o3, o4, o5⟩
      · ktr_unf
        all_goals (first | (exfalso; omega) | skip)
        · cases rate with
          | none => rename (((Mine.one? _ : Nat) : Int) = 1) => q1; simp [Mine.one?] at q1
          | some kd =>
            have hL' := Mine.pd_del hL (A.length + Mine.one? dly)
            rw [Mine.lines_delE rfl] at hL'
            have hz' := Mine.del_len zs (A.length + Mine.one? dly) (by omega)
            rename Fr _ _ _ _ => F5
            rename News _ _ _ _ => N5
            refine Mine.unstop (Mine.del_l (p := (A.length + Mine.one? dly)) F5 N5 (by k_upd) (by omega) (by omega) (by omega) ?_)
            intro h5 F4 N4
            clear F5 N5
            ktr_unf
            all_goals (first | (exfalso; omega) | skip)
            · have h3 : Int.fmod (Int.fdiv x 6) 3 = 0 ∨ Int.fmod (Int.fdiv x 6) 3 = 1 := by
                have h30 := Int.fmod_nonneg_of_pos (Int.fdiv x 6) (b := 3) (by decide)
                have h31 := Int.fmod_lt_of_pos (Int.fdiv x 6) (b := 3) (by decide)
                omega
              rcases h3 with h3 | h3
              · rename News _ _ _ _ => N5
                refine Mine.unstop (Mine.tail_l (j := 0) (v := Value.int 0 _) N5 (by k_mem) (by rfl) (by omega) (by omega) ?_)
                ktr_unf
                all_goals (first | (exfalso; omega) | skip)
                rename News _ _ _ _ => N5
                refine Mine.unstop (Mine.tail_l (j := 0) (v := Value.int 1 _) N5 (by k_mem) (by rfl) (by omega) (by omega) ?_)
                ktr_unf
                all_goals (first | (exfalso; omega) | skip)
                rename News _ _ _ _ => N5
                refine Mine.unstop (Mine.tail_l (j := 0) (v := Value.str _ _) N5 (by k_mem) (by rfl) (by omega) (by omega) ?_)
                ktr_unf
                all_goals (first | (exfalso; omega) | skip)
                rename Fr _ _ _ _ => F5
                rename News _ _ _ _ => N5
                refine Mine.unstop (Mine.insert_l (p := (A.length + Mine.one? dly)) F5 N5 (by k_upd) (by omega) (by omega) (by omega) ?_)
                intro h5 F4 N4
                clear F5 N5
                ktr_unf
                all_goals (first | (exfalso; omega) | skip)
                rename News _ _ _ _ => N6
                exact ⟨rfl, _, _, _, _, rfl, by assumption, (Mine.news_rate N6), (fun z1 q1 => by
                  simp only [List.mem_cons, not_or, List.not_mem_nil, not_false_iff, and_true] at q1
                  obtain ⟨n1, n2, n3, n4, n5, n6, n7, n8⟩ := q1
                  simp only [if_neg n1, if_neg n2, if_neg n3, if_neg n4, if_neg n5, if_neg n6, if_neg n7, if_neg n8]), (by simp only [Mine.Off, and_true]; omega), A, R, dly, (some (0, 1)), Mine.insAt (Mine.delAt zs (A.length + Mine.one? dly)) (A.length + Mine.one? dly) _, ua, ru, _, _, _, _, _, [_, _], _, _, _, _, rfl, hA, hR, (by rw [← Mine.lines_insE rfl]; exact Mine.pd_ins hL' _ ⟨_, by rw [← Mine.rr0]⟩), hd, (.inr ⟨_, _, _, _, _, _, _, _, _, _, _, _, _, _, _, _, _, _, _, _, _, _, _, rfl, rfl, List.mem_cons_self, List.mem_cons_of_mem _ List.mem_cons_self, by decide, by decide, by decide, by decide⟩), hA5, hR5, hAl, hRl, ⟨rfl, rfl, rfl, rfl⟩, (by simp only [Mine.Off, and_true]; omega), (by simp only [Mine.Off, and_true]; omega), (by simp only [Mine.Off, and_true]; omega), (by simp only [Mine.Off, and_true]; omega), (by simp only [Mine.Off, and_true]; omega)⟩
              · rename News _ _ _ _ => N5
                refine Mine.unstop (Mine.tail_l (j := 1) (v := Value.int 30 _) N5 (by k_mem) (by rfl) (by omega) (by omega) ?_)
                ktr_unf
                all_goals (first | (exfalso; omega) | skip)
                rename News _ _ _ _ => N5
                refine Mine.unstop (Mine.tail_l (j := 1) (v := Value.int 7 _) N5 (by k_mem) (by rfl) (by omega) (by omega) ?_)
                ktr_unf
                all_goals (first | (exfalso; omega) | skip)
                rename News _ _ _ _ => N5
                refine Mine.unstop (Mine.tail_l (j := 1) (v := Value.str _ _) N5 (by k_mem) (by rfl) (by omega) (by omega) ?_)
                ktr_unf
                all_goals (first | (exfalso; omega) | skip)
                rename Fr _ _ _ _ => F5
                rename News _ _ _ _ => N5
                refine Mine.unstop (Mine.insert_l (p := (A.length + Mine.one? dly)) F5 N5 (by k_upd) (by omega) (by omega) (by omega) ?_)
                intro h5 F4 N4
                clear F5 N5
                ktr_unf
                all_goals (first | (exfalso; omega) | skip)
                rename News _ _ _ _ => N6
                exact ⟨rfl, _, _, _, _, rfl, by assumption, (Mine.news_rate N6), (fun z1 q1 => by
                  simp only [List.mem_cons, not_or, List.not_mem_nil, not_false_iff, and_true] at q1
                  obtain ⟨n1, n2, n3, n4, n5, n6, n7, n8⟩ := q1
                  simp only [if_neg n1, if_neg n2, if_neg n3, if_neg n4, if_neg n5, if_neg n6, if_neg n7, if_neg n8]), (by simp only [Mine.Off, and_true]; omega), A, R, dly, (some (30, 7)), Mine.insAt (Mine.delAt zs (A.length + Mine.one? dly)) (A.length + Mine.one? dly) _, ua, ru, _, _, _, _, _, [_, _], _, _, _, _, rfl, hA, hR, (by rw [← Mine.lines_insE rfl]; exact Mine.pd_ins hL' _ ⟨_, by rw [← Mine.rr1]⟩), hd, (.inr ⟨_, _, _, _, _, _, _, _, _, _, _, _, _, _, _, _, _, _, _, _, _, _, _, rfl, rfl, List.mem_cons_self, List.mem_cons_of_mem _ List.mem_cons_self, by decide, by decide, by decide, by decide⟩), hA5, hR5, hAl, hRl, ⟨rfl, rfl, rfl, rfl⟩, (by simp only [Mine.Off, and_true]; omega), (by simp only [Mine.Off, and_true]; omega), (by simp only [Mine.Off, and_true]; omega), (by simp only [Mine.Off, and_true]; omega), (by simp only [Mine.Off, and_true]; omega)⟩
            · rename News _ _ _ _ => N6
              exact ⟨rfl, _, _, _, _, rfl, by assumption, N6, (fun z1 q1 => by
                simp only [List.mem_cons, not_or, List.not_mem_nil, not_false_iff, and_true] at q1
                obtain ⟨n1, n2, n3, n4, n5, n6, n7, n8⟩ := q1
                simp only [if_neg n1, if_neg n2, if_neg n3, if_neg n4, if_neg n5, if_neg n6, if_neg n7, if_neg n8]), (by exact hoff0), A, R, dly, none, (Mine.delAt zs (A.length + Mine.one? dly)), ua, ru, _, _, _, _, _, es, _, _, _, _, rfl, hA, hR, hL', hd, (.inl ⟨rfl, rfl⟩), hA5, hR5, hAl, hRl, ⟨rfl, rfl, rfl, rfl⟩, o1, o2, o3, o4, o5⟩
        · cases rate with
          | some kd => rename (((Mine.one? _ : Nat) : Int) ≠ 1) => q1; simp [Mine.one?] at q1
          | none =>
            have h3 : Int.fmod (Int.fdiv x 6) 3 = 0 ∨ Int.fmod (Int.fdiv x 6) 3 = 1 := by
              have h30 := Int.fmod_nonneg_of_pos (Int.fdiv x 6) (b := 3) (by decide)
              have h31 := Int.fmod_lt_of_pos (Int.fdiv x 6) (b := 3) (by decide)
              omega
            rcases h3 with h3 | h3
            · rename News _ _ _ _ => N5
              refine Mine.unstop (Mine.tail_l (j := 0) (v := Value.int 0 _) N5 (by k_mem) (by rfl) (by omega) (by omega) ?_)
              ktr_unf
              all_goals (first | (exfalso; omega) | skip)
              rename News _ _ _ _ => N5
              refine Mine.unstop (Mine.tail_l (j := 0) (v := Value.int 1 _) N5 (by k_mem) (by rfl) (by omega) (by omega) ?_)
              ktr_unf
              all_goals (first | (exfalso; omega) | skip)
              rename News _ _ _ _ => N5
              refine Mine.unstop (Mine.tail_l (j := 0) (v := Value.str _ _) N5 (by k_mem) (by rfl) (by omega) (by omega) ?_)
              ktr_unf
              all_goals (first | (exfalso; omega) | skip)
              rename Fr _ _ _ _ => F5
              rename News _ _ _ _ => N5
              refine Mine.unstop (Mine.insert_l (p := (A.length + Mine.one? dly)) F5 N5 (by k_upd) (by omega) (by omega) (by omega) ?_)
              intro h5 F4 N4
              clear F5 N5
              ktr_unf
              all_goals (first | (exfalso; omega) | skip)
              rename News _ _ _ _ => N6
              exact ⟨rfl, _, _, _, _, rfl, by assumption, (Mine.news_rate N6), (fun z1 q1 => by
                simp only [List.mem_cons, not_or, List.not_mem_nil, not_false_iff, and_true] at q1
                obtain ⟨n1, n2, n3, n4, n5, n6, n7, n8⟩ := q1
                simp only [if_neg n1, if_neg n2, if_neg n3, if_neg n4, if_neg n5, if_neg n6, if_neg n7, if_neg n8]), (by simp only [Mine.Off, and_true]; omega), A, R, dly, (some (0, 1)), Mine.insAt zs (A.length + Mine.one? dly) _, ua, ru, _, _, _, _, _, [_, _], _, _, _, _, rfl, hA, hR, (by rw [← Mine.lines_insE rfl]; exact Mine.pd_ins hL _ ⟨_, by rw [← Mine.rr0]⟩), hd, (.inr ⟨_, _, _, _, _, _, _, _, _, _, _, _, _, _, _, _, _, _, _, _, _, _, _, rfl, rfl, List.mem_cons_self, List.mem_cons_of_mem _ List.mem_cons_self, by decide, by decide, by decide, by decide⟩), hA5, hR5, hAl, hRl, ⟨rfl, rfl, rfl, rfl⟩, (by simp only [Mine.Off, and_true]; omega), (by simp only [Mine.Off, and_true]; omega), (by simp only [Mine.Off, and_true]; omega), (by simp only [Mine.Off, and_true]; omega), (by simp only [Mine.Off, and_true]; omega)⟩
            · rename News _ _ _ _ => N5
              refine Mine.unstop (Mine.tail_l (j := 1) (v := Value.int 30 _) N5 (by k_mem) (by rfl) (by omega) (by omega) ?_)
              ktr_unf
              all_goals (first | (exfalso; omega) | skip)
              rename News _ _ _ _ => N5
              refine Mine.unstop (Mine.tail_l (j := 1) (v := Value.int 7 _) N5 (by k_mem) (by rfl) (by omega) (by omega) ?_)
              ktr_unf
              all_goals (first | (exfalso; omega) | skip)
              rename News _ _ _ _ => N5
              refine Mine.unstop (Mine.tail_l (j := 1) (v := Value.str _ _) N5 (by k_mem) (by rfl) (by omega) (by omega) ?_)
              ktr_unf
              all_goals (first | (exfalso; omega) | skip)
              rename Fr _ _ _ _ => F5
              rename News _ _ _ _ => N5
              refine Mine.unstop (Mine.insert_l (p := (A.length + Mine.one? dly)) F5 N5 (by k_upd) (by omega) (by omega) (by omega) ?_)
              intro h5 F4 N4
              clear F5 N5
              ktr_unf
              all_goals (first | (exfalso; omega) | skip)
              rename News _ _ _ _ => N6
              exact ⟨rfl, _, _, _, _, rfl, by assumption, (Mine.news_rate N6), (fun z1 q1 => by
                simp only [List.mem_cons, not_or, List.not_mem_nil, not_false_iff, and_true] at q1
                obtain ⟨n1, n2, n3, n4, n5, n6, n7, n8⟩ := q1
                simp only [if_neg n1, if_neg n2, if_neg n3, if_neg n4, if_neg n5, if_neg n6, if_neg n7, if_neg n8]), (by simp only [Mine.Off, and_true]; omega), A, R, dly, (some (30, 7)), Mine.insAt zs (A.length + Mine.one? dly) _, ua, ru, _, _, _, _, _, [_, _], _, _, _, _, rfl, hA, hR, (by rw [← Mine.lines_insE rfl]; exact Mine.pd_ins hL _ ⟨_, by rw [← Mine.rr1]⟩), hd, (.inr ⟨_, _, _, _, _, _, _, _, _, _, _, _, _, _, _, _, _, _, _, _, _, _, _, rfl, rfl, List.mem_cons_self, List.mem_cons_of_mem _ List.mem_cons_self, by decide, by decide, by decide, by decide⟩), hA5, hR5, hAl, hRl, ⟨rfl, rfl, rfl, rfl⟩, (by simp only [Mine.Off, and_true]; omega), (by simp only [Mine.Off, and_true]; omega), (by simp only [Mine.Off, and_true]; omega), (by simp only [Mine.Off, and_true]; omega), (by simp only [Mine.Off, and_true]; omega)⟩
        · cases rate with
          | some kd => rename (((Mine.one? _ : Nat) : Int) ≠ 1) => q1; simp [Mine.one?] at q1
          | none =>
            rename News _ _ _ _ => N6
            exact ⟨rfl, _, _, _, _, rfl, by assumption, N6, (fun z1 q1 => by
              simp only [List.mem_cons, not_or, List.not_mem_nil, not_false_iff, and_true] at q1
              obtain ⟨n1, n2, n3, n4, n5, n6, n7, n8⟩ := q1
              simp only [if_neg n1, if_neg n2, if_neg n3, if_neg n4, if_neg n5, if_neg n6, if_neg n7, if_neg n8]), (by exact hoff0), A, R, dly, none, zs, ua, ru, _, _, _, _, _, es, _, _, _, _, rfl, hA, hR, hL, hd, (.inl ⟨rfl, rfl⟩), hA5, hR5, hAl, hRl, ⟨rfl, rfl, rfl, rfl⟩, o1, o2, o3, o4, o5⟩
    · clear F2 N2 hoff0 hoff e1 e2 e3 e4 hA hR hL hd hr hA5 hR5 hAl hRl o1 o2 o3 o4 o5 hAll hRll hLll hzl hzm
      intro h3 tk3 u3 nx3 hJ3 F3 N3 hoff30
      obtain ⟨A, R, dly, rate, zs, ua, ru, dl, rr, c1, c2, c3, es, k1, k2, k3, k4, rfl, hA, hR, hL, hd, hr, hA5, hR5, hAl, hRl, ⟨e1, e2, e3, e4⟩, o1, o2, o3, o4, o5⟩ := hJ3
      have hoff3 := hoff30
      simp only [Mine.Off] at hoff3
      simp only [Mine.over, e1, e2, e3, e4] at F3
      have hd2 : ∀ k, dly = some k → 0 ≤ k ∧ k ≤ 1000 := fun k q => by
        rcases hd with ⟨_, e⟩ | ⟨k', t', _, e, a, b⟩
        · rw [e] at q; cases q
        · rw [e] at q; cases q; exact ⟨a, b⟩
      have hr2 : ∀ p, rate = some p → (0 ≤ p.1 ∧ p.1 ≤ 1000) ∧ 0 ≤ p.2 ∧ p.2 ≤ 1000 := fun p q => by
        rcases hr with ⟨_, e⟩ | ⟨y, d, g1, g2, g3, g4, g5, g6, t1, t2, t3, t4, t5, t6, ua', rl', dl', rr', a, b, ta, tb, n, _, e, _, _, b1, b2, b3, b4⟩
        · rw [e] at q; cases q
        · rw [e] at q; cases q; exact ⟨⟨b1, b2⟩, b3, b4⟩
      dsimp only
      ktr_unf
      rename Fr _ _ _ _ => F2
      rename News _ _ _ _ => N2
      refine Mine.unstop (Mine.strC (agents := A) (rules := R) (dly := dly) (rate := rate) rfl rfl (by assumption) F2 (by assumption) (by assumption) (InstAt.of_news N2 (by k_mem) (by k_mem)) (Mine.is_l N2 (by k_mem)) (Mine.is_l N2 (by k_mem)) hA hR hd (Mine.rate_of N2 (fun p hp => by simp [hp]) hr) (by omega) (by omega) hAl hRl ?_)
      intro h2 tk2 t2 keep2
      obtain ⟨F1, N1⟩ := Mine.after_keep F2 N2 keep2
      clear F2 N2 keep2
      dsimp only [StrBack]
      by_cases hpos : (0 : Int) < (A.length : Int)
      · rw [show Mine.strText A dly rate R = Txt.join ⟨#[10]⟩ (Mine.linesOf A dly rate R) from if_neg (Mine.len_pos hpos)]
        ktr_unf
        all_goals (first | (exfalso; omega) | skip)
        rename News _ _ _ _ => N2
        refine Mine.unstop (join_listW (Mine.is_l N2 (by k_mem)) (Mine.strs_pd hL) (by decide) (Mine.lines_w (by omega) (by omega) hAl hRl hd2 hr2) ?_)
        intro t' k'
        (try rw [Mine.lf_is])
        ktr_unf
        · rename ((_ != _) = true) => e6
          rw [bne_self_eq_false] at e6
          cases e6
        · dsimp only [Mine.TurnPost]
          refine Mine.TurnEnd.mk' [] (by assumption) (by assumption) (by exact hoff30) ⟨fun z1 q1 => ?_, A, R, dly, rate, zs, ua, ru, dl, rr, _, _, _, es, _, _, _, _, rfl, hA, hR, hL, hd, hr, hA5, hR5, hAl, hRl, ⟨rfl, rfl, rfl, rfl⟩, o1, o2, o3, o4, o5⟩
          simp only [List.mem_cons, not_or, List.not_mem_nil, not_false_iff, and_true] at q1
          obtain ⟨n1, n2, n3, n4, n5, n6, n7, n8, n9, n10, n11⟩ := q1
          simp only [if_neg n1, if_neg n2, if_neg n3, if_neg n4, if_neg n5, if_neg n6, if_neg n7, if_neg n8, if_neg n9, if_neg n10, if_neg n11]
      · rw [show Mine.strText A dly rate R = Str.ofString "" from if_pos (Mine.len_nil hpos)]
        ktr_unf
        all_goals (first | (exfalso; omega) | skip)
        dsimp only [Mine.TurnPost]
        refine Mine.TurnEnd.mk' [] (by assumption) (by assumption) (by exact hoff30) ⟨fun z1 q1 => ?_, A, R, dly, rate, zs, ua, ru, dl, rr, _, _, _, es, _, _, _, _, rfl, hA, hR, hL, hd, hr, hA5, hR5, hAl, hRl, ⟨rfl, rfl, rfl, rfl⟩, o1, o2, o3, o4, o5⟩
        simp only [List.mem_cons, not_or, List.not_mem_nil, not_false_iff, and_true] at q1
        obtain ⟨n1, n2, n3, n4, n5, n6, n7, n8, n9, n10, n11⟩ := q1
        simp only [if_neg n1, if_neg n2, if_neg n3, if_neg n4, if_neg n5, if_neg n6, if_neg n7, if_neg n8, if_neg n9, if_neg n10, if_neg n11]
  · intro u nw h tk hJ F N
    obtain ⟨A, R, dly, rate, zs, ua, ru, dl, rr, c1, c2, c3, es, k1, k2, k3, k4, rfl, hA, hR, hL, hd, hr, hA5, hR5, hAl, hRl, ⟨e1, e2, e3, e4⟩, o1, o2, o3, o4, o5⟩ := hJ
    clear F9 N9
    simp only [Mine.over, e1, e2, e3, e4] at F
    dsimp only
    ktr_unf
    all_goals (k_end; wrow_close)
)
end
