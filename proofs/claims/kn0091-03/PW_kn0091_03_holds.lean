import PyProof.Rows.All
import Wide.All
import OpenK.AllK
import Wide.FinOn
import PySem.Challenge.RW_kn0091_03
open PySem PySem.W PyProof.Rows
set_option Elab.async false
section
set_option maxRecDepth 100000 in
set_option maxHeartbeats 8000000 in
open_top Mine.hd03 for PySem.Challenge.rw_kn0091_03
end
section
namespace Mine
open PySem.Calls PySem.Spec

def Stop (P : Prop) : Prop := P
theorem stop {P : Prop} (h : Stop P) : P := h
theorem unstop {P : Prop} (h : P) : Stop P := h

/-- no entry of the ledger stands at I -/
def Off (I : Addr) : List (Addr × Obj) → Prop
  | [] => True
  | p :: r => (@Ne Nat p.1 I) ∧ Off I r
theorem Off.mem {I : Addr} : ∀ {l : List (Addr × Obj)}, Off I l → ∀ p ∈ l, p.1 ≠ I
  | [], _, _, h => nomatch h
  | _ :: _, x, p, h => by
    rcases List.mem_cons.mp h with rfl | h
    · exact x.1
    · exact Off.mem x.2 p h
theorem Off.of {I : Addr} : ∀ {l : List (Addr × Obj)}, (∀ p ∈ l, p.1 ≠ I) → Off I l
  | [], _ => trivial
  | _ :: _, h => ⟨h _ List.mem_cons_self, Off.of fun p hp => h p (List.mem_cons_of_mem _ hp)⟩

section
variable {prog : Program} {w : World} {A : Around} {E : Value → Shared → Prop} {s : Shared} {env : Env} {h₀ : Heap} {x : Str} {body : List Stmt} {Q : Flow → Shared → Prop}

def TurnEnd (h₀ : Heap) (L I : Addr) (oI : Obj) (J : (Str → Option Value) → List (Addr × Obj) → Prop) (s₁ s₂ : Shared) : Prop :=
  ∃ h' tk m' nx, s₂ = { s₁ with heap := h', toks := tk } ∧ Fr h₀ L h' m' ∧ News h₀ L h' ((I, oI) :: nx) ∧ Off I nx ∧ J m' nx
def TurnPost (h₀ : Heap) (L I : Addr) (oI : Obj) (J : (Str → Option Value) → List (Addr × Obj) → Prop) (s₁ : Shared) (Q : Flow → Shared → Prop) (f : Flow) (s₂ : Shared) : Prop :=
  match f with
  | .ret v => Q (.ret v) s₂
  | .brk => Q .next s₂
  | .next => TurnEnd h₀ L I oI J s₁ s₂
  | .cont => TurnEnd h₀ L I oI J s₁ s₂

end

section
open LCg
variable {prog : Program} {w : World} {A : Around} {h₀ : Heap} {L : Addr} {m : Str → Option Value} {env : Env} {ct elt : Expr} {x : Str} {scope : Scope} {cl : List (Str × Addr)} {s : Shared} {S : List (Addr × Obj) → Prop} {P : Nat → Value → Prop} {Fin : List Value → List (Addr × Obj) → Prop} {news : List (Addr × Obj)}

end

/-! lists of values by what they stand for -/
abbrev Pd {α : Type} (F : α → Value → Prop) (as : List α) (vs : List Value) : Prop := PySem.Paired F as vs
theorem pd_len {α : Type} {F : α → Value → Prop} {as : List α} {vs : List Value} (h : Pd F as vs) : as.length = vs.length := PySem.Paired.length h
theorem pd_at {α : Type} {F : α → Value → Prop} : ∀ {as : List α} {vs : List Value}, Pd F as vs → ∀ (i : Nat) (v : Value), vs[i]? = some v → ∃ a, as[i]? = some a ∧ F a v
  | _, _, .nil, i, v, h => by simp at h
  | _, _, .cons h₁ t, 0, v, h => by simp at h; subst h; exact ⟨_, by simp, h₁⟩
  | _, _, .cons h₁ t, i + 1, v, h => by simp at h; obtain ⟨a, e, f⟩ := pd_at t i v h; exact ⟨a, by simpa using e, f⟩
theorem pd_get {α : Type} {F : α → Value → Prop} : ∀ {as : List α} {vs : List Value}, Pd F as vs → ∀ (i : Nat) (a : α), as[i]? = some a → ∃ v, vs[i]? = some v ∧ F a v
  | _, _, .nil, i, v, h => by simp at h
  | _, _, .cons h₁ t, 0, v, h => by simp at h; subst h; exact ⟨_, by simp, h₁⟩
  | _, _, .cons h₁ t, i + 1, v, h => by simp at h; obtain ⟨a, e, f⟩ := pd_get t i v h; exact ⟨a, by simpa using e, f⟩
def IntV (n : Int) (v : Value) : Prop := ∃ t, v = .int n t
def StrV (x : Str) (v : Value) : Prop := ∃ t, v = .str x t
theorem pd_ints : ∀ {vs : List Value} {ns : List Int}, IntsAre vs ns → Pd IntV ns vs
  | _, _, .nil => .nil
  | _, _, .cons n t h => .cons ⟨t, rfl⟩ (pd_ints h)
section
open LCg
variable {prog : Program} {w : World} {A : Around} {h₀ : Heap} {L : Addr} {m : Str → Option Value} {env : Env} {ct elt : Expr} {x : Str} {scope : Scope} {cl : List (Str × Addr)} {s : Shared} {S : List (Addr × Obj) → Prop} {Fin : List Value → List (Addr × Obj) → Prop} {news : List (Addr × Obj)}

end

/-! a call whose body leaves all that stood as it stood: the whole heap is its ground -/
def LeaveB (g : Heap) (R : Result → Shared → Prop) (v : Value) (s' : Shared) : Prop := ∃ L' m', Fr g L' s'.heap m' ∧ R (.ok (.ret v)) s'
theorem LeaveB.intro {g : Heap} {R : Result → Shared → Prop} {v : Value} {s' : Shared} {L' : Addr} {m' : Str → Option Value} (F : Fr g L' s'.heap m') (h : R (.ok (.ret v)) s') : LeaveB g R v s' := ⟨L', m', F, h⟩
section
variable {prog : Program} {w : World} {A A₀ : Around} {s : Shared} {K : Frag} {L : Addr} {h₀ base : Heap} {m mg mb : Str → Option Value} {p : Program} {loose : List Str} {mean : ExcName → Option Value}

theorem code_base {env : Env} {outer : List Env} {R : Result → Shared → Prop} {name qual : Str} {params : Arguments} {body : List Stmt} {scope : Scope} {dV kV doc pm cdv ct oc : Value} {an od : Option Addr} {osl : Array (Option Value)} {f : Addr} {args : Args} {binds : List (Str × Value)}
    (B : Below A₀ base outer h₀) (F : Fr h₀ L s.heap m) (X₀ : K.In h₀) (T : Top p loose mean mg mb h₀) (hA : A.frames = some (env :: outer)) (hf : env.frame = some L) (hke : env.scope.kind = .function)
    (ho : K.lookup f = some ⟨oc, od, .func (fnOf name qual params body scope dV kV doc pm an cdv ct), osl⟩) (hcd : codeIn K cdv qual = true) (hroom : A.depth < recursionLimit)
    (hbind : BindsTo s (fnOf name qual params body scope dV kV doc pm an cdv ct) args binds) (hloc : ∀ y ∈ binds, scope.names.lookup y.1 = some .local)
    (h : ∀ L' h₁, Fr s.heap L' h₁ (fun y => binds.reverse.lookup y) → News s.heap L' h₁ [] → Below A base (env :: outer) s.heap → K.In s.heap → Top p loose mean mg mb s.heap →
      wpAny (model prog w) (A.deeper (envOf qual scope L' f cdv)) (execs body (envOf qual scope L' f cdv))
        (fun fl s' => LeaveB s.heap R (match fl with | .ret v => v | _ => .none) s')
        (fun e s' => wpAny (model prog w) (A.deeper (envOf qual scope L' f cdv)) (leaving (envOf qual scope L' f cdv) e) (fun _ s'' => R (.error e) s'') (fun e' s'' => R (.error e') s'') s')
        { s with heap := h₁, toks := s.toks + binds.length })
    (hco : scope.isCoroutine = false := by rfl) (hgen : scope.isGenerator = false := by rfl) (hk : scope.kind = .function := by rfl)
    (hcell : ∀ x ∈ scope.names, x.2 ≠ .cell := by decide) : codeAny (model prog w) A (.call (.ref f) args) R s := by
  obtain ⟨FG, BG, st, lv⟩ := groundX (R := R) B F (News.nil (h₀ := h₀) (L := L) (h := s.heap)) hA hf hke
  refine codeAny_call_def (fd := fnOf name qual params body scope dV kV doc pm an cdv ct) (body := body) (binds := binds) hroom ((X₀.keeps F.keep) _ _ ho) rfl (T.nolimit.keeps F.keep) (codeRec_of (X₀.keeps F.keep) hcd) rfl hbind hcell hloc (fun h₁ hns hk₁ => ?_) hco hgen hk
  exact wpAny_mono (h s.heap.objs.size h₁ ⟨hns, hk₁, Nat.le_refl _⟩ News.nil BG (X₀.keeps F.keep) (T.keeps F.keep)) (fun fl s' ⟨_, _, _, hr⟩ => hr) fun _ _ y => y
end

/-! the frame's map between turns: the stored names by u, all else by m₀ -/
def over (u m₀ : Str → Option Value) : List Str → Str → Option Value
  | [], y => m₀ y
  | a :: r, y => if y = a then u a else over u m₀ r y
theorem over_in {u m₀ : Str → Option Value} : ∀ {l : List Str} {y : Str}, (y ∉ l → u y = m₀ y) → over u m₀ l y = u y
  | [], y, h => (h List.not_mem_nil).symm
  | a :: r, y, h => by
    unfold over
    by_cases e : y = a
    · rw [if_pos e, e]
    · rw [if_neg e]
      exact over_in fun hn => h fun hm => (List.mem_cons.mp hm).elim e hn
section
variable {prog : Program} {w : World} {A : Around} {E : Value → Shared → Prop} {s : Shared} {env : Env} {h₀ : Heap} {x : Str} {body : List Stmt} {Q : Flow → Shared → Prop}
end

/-- a turn's end: what the turn has made and dropped stands ahead (ext) -/
theorem TurnEnd.mk' {h₀ : Heap} {L I : Addr} {oI : Obj} {J : (Str → Option Value) → List (Addr × Obj) → Prop} {s₁ : Shared} {h' : Heap} {tk : Nat} {m' : Str → Option Value} (ext : List (Addr × Obj)) {nx : List (Addr × Obj)}
    (F : Fr h₀ L h' m') (N : News h₀ L h' (ext ++ (I, oI) :: nx)) (off : Off I nx) (hj : J m' nx) :
    TurnEnd h₀ L I oI J s₁ { s₁ with heap := h', toks := tk } := ⟨h', tk, m', nx, rfl, F, fun p hp => N p (List.mem_append_right _ hp), off, hj⟩

section
variable {prog : Program} {w : World} {A : Around} {E : Value → Shared → Prop} {s : Shared} {env : Env} {h₀ : Heap} {x : Str} {body : List Stmt} {Q : Flow → Shared → Prop}
theorem take_split {α : Type} {as : List α} {i : Nat} {a : α} (h : as[i]? = some a) : as = as.take i ++ a :: as.drop (i + 1) := by
  have hi : i < as.length := by
    rcases Nat.lt_or_ge i as.length with q | q
    · exact q
    · rw [List.getElem?_eq_none q] at h; cases h
  have : as[i] = a := by rw [List.getElem?_eq_getElem hi] at h; exact Option.some.inj h
  rw [← this, ← List.drop_eq_getElem_cons hi, List.take_append_drop]
theorem take_next {α : Type} {as : List α} {i : Nat} {a : α} (h : as[i]? = some a) : as.take (i + 1) = as.take i ++ [a] := by rw [List.take_add_one, h]; rfl

end

section
variable {prog : Program} {w : World} {A : Around} {E : Value → Shared → Prop} {s : Shared} {h₀ : Heap} {L D : Addr} {m : Str → Option Value} {news news' : List (Addr × Obj)} {n : Nat} {k : Int} {t : Tok}
theorem get_at {its : Array Value} {v : Value} {Q : Value → Shared → Prop} (hl : s.heap.IsList D its) (h0 : 0 ≤ k) (hfit : k < 2 ^ 63) (hx : its[k.toNat]? = some v) (h : Q v s) :
    wpAny (model prog w) A (getItem (.ref D) (.int k t)) Q E s := wpAny_getItem_list hl h0 hfit hx h
theorem tail_at {value slice : PySem.Expr} {its : Array Value} {v : Value} {Q : Value → Shared → Prop} (hl : s.heap.IsList D its) (h0 : 0 ≤ k) (hfit : k < 2 ^ 63) (hx : its[k.toNat]? = some v) (h : Q v s)
    (hs : subscripted slice false (.ref D) (.int k t) = operate [.ref D, .int k t] (getItem (.ref D) (.int k t)) := by with_unfolding_all rfl) :
    wpAny (model prog w) A (subscriptTail value slice (.ref D) (.int k t)) Q E s :=
  tail_any hl.typeIs slot_list_getitem.lookup (get_at hl h0 hfit hx h) hs
end

section
variable {prog : Program} {w : World} {A : Around} {E : Value → Shared → Prop} {s : Shared} {h₀ : Heap} {L D : Addr} {m : Str → Option Value} {news news' : List (Addr × Obj)} {n : Nat}
theorem append_l {zs : List Value} {x : Value} {Q : Value → Shared → Prop} (F : Fr h₀ L s.heap m) (N : News h₀ L s.heap news) (U : Upd D (listOf zs.toArray n) (listOf (zs ++ [x]).toArray (n + 1)) news news')
    (h : ∀ h', Fr h₀ L h' m → News h₀ L h' news' → Q .none { s with heap := h' }) (hsz : zs.length ≤ sizeLine) : wpAny (model prog w) A (call (.builtin "list.append") [.ref D, x]) Q E s :=
  append_K F N (by rw [List.push_toArray]; exact U) h (by rw [List.size_toArray]; exact hsz)
end

section
variable {prog : Program} {w : World} {A : Around} {E : Value → Shared → Prop} {s : Shared} {h₀ : Heap} {L D a b l : Addr} {m : Str → Option Value} {news news' : List (Addr × Obj)} {n k : Nat} {xs zs : List Value} {Q : Value → Shared → Prop}
theorem is_l (N : News h₀ L s.heap news) (ha : (a, listOf xs.toArray n) ∈ news) : s.heap.IsList a xs.toArray := PySem.IsL.isList (n := n) (N _ ha).1
theorem len_l (N : News h₀ L s.heap news) (ha : (a, listOf xs.toArray n) ∈ news) (hz : xs.length ≤ sizeLine) (h : Q (.int xs.length (s.toks + 1)) { s with toks := s.toks + 1 + 1 }) :
    wpAny (model prog w) A (call (.builtin "len") [.ref a]) Q E s := by
  have e : xs.toArray.size = xs.length := List.size_toArray ..
  refine len_list (is_l N ha) ?_ (by rw [e]; exact h)
  rw [e]; rw [sizeLine_eq] at hz; omega
theorem add_l (F : Fr h₀ L s.heap m) (N : News h₀ L s.heap news) (ha : (a, listOf xs.toArray n) ∈ news) (hb : (b, listOf zs.toArray k) ∈ news) (hz : xs.length + zs.length ≤ sizeLine)
    (h : ∀ D h', Fr h₀ L h' m → News h₀ L h' ((D, listOf (xs ++ zs).toArray 0) :: news) → (∀ p ∈ news, p.1 < D) → Q (.ref D) { s with heap := h' }) : wpAny (model prog w) A (binaryOp .Add (.ref a) (.ref b)) Q E s :=
  kmk_add_lit F N (is_l N ha) (is_l N hb) rfl h hz
theorem copy_l (F : Fr h₀ L s.heap m) (N : News h₀ L s.heap news) (hb : (b, listOf xs.toArray n) ∈ news) (hz : xs.length ≤ sizeLine)
    (h : ∀ D c h', Fr h₀ L h' m → News h₀ L h' ((D, listOf xs.toArray c) :: news) → (∀ q ∈ news, q.1 < D) → Q (.ref D) { s with heap := h' }) : wpAny (model prog w) A (call (.type "list") [.ref b]) Q E s :=
  kup_listOf F N hb rfl h hz
end

section
variable {prog : Program} {w : World} {A : Around} {E : Value → Shared → Prop} {s : Shared} {env : Env} {h₀ : Heap} {x : Str} {body : List Stmt} {Q : Flow → Shared → Prop}
end

section
open LCg
variable {prog : Program} {w : World} {A : Around} {E : Value → Shared → Prop} {s : Shared} {h₀ : Heap} {L : Addr} {m : Str → Option Value} {env : Env}
end
section
open LCg
variable {prog : Program} {w : World} {A : Around} {h₀ : Heap} {L : Addr} {m : Str → Option Value} {env : Env} {elt : Expr} {x : Str} {scope : Scope} {cl : List (Str × Addr)} {s : Shared} {S : List (Addr × Obj) → Prop} {Fin : List Value → List (Addr × Obj) → Prop} {news : List (Addr × Obj)}
end

section
variable {prog : Program} {w : World} {A A₀ : Around} {s : Shared} {K : Frag} {L : Addr} {h₀ base : Heap} {m mg mb : Str → Option Value} {p : Program} {loose : List Str} {mean : ExcName → Option Value}
end

section
open LCg
variable {prog : Program} {w : World} {A : Around} {h₀ : Heap} {L : Addr} {m : Str → Option Value} {env : Env} {ct elt : Expr} {x : Str} {scope : Scope} {cl : List (Str × Addr)} {s : Shared} {S : List (Addr × Obj) → Prop} {Fin : List Value → List (Addr × Obj) → Prop} {news : List (Addr × Obj)}
end
section
variable {prog : Program} {w : World} {A : Around} {E : Value → Shared → Prop} {s : Shared} {g : Heap} {L D : Addr} {m : Str → Option Value} {its : Array Value} {k : Int} {j : Nat} {t : Tok} {v : Value} {Q : Value → Shared → Prop}
end

/-! a for with any target (a local, a captured name, a tuple) -/
section
variable {prog : Program} {w : World} {A : Around} {s : Shared} {env : Env} {h₀ : Heap} {L : Addr}

theorem codeAny_forT {R : Result → Shared → Prop} {target : Expr} {body : List Stmt} {I : Addr} {fp wr : List Addr} {n : Nat} {P : Nat → Value → Prop} {St : Nat → Heap → Prop} {m : Str → Option Value}
    {news : List (Addr × Obj)} (W : Walks prog w A I fp wr n P St) (hLf : L ∉ fp) (hwr : ∀ b ∈ wr, h₀.get? b = none) (hnw : ∀ p ∈ news, p.1 ∉ wr)
    (hst : St 0 s.heap) (F : Fr h₀ L s.heap m) (N : News h₀ L s.heap news)
    (J : Nat → (Str → Option Value) → List (Addr × Obj) → Prop) (h0 : J 0 m news)
    (step : ∀ i v m₁ news₁ s₁ own, (∃ h tk, s₁ = { s with heap := h, toks := tk }) → i < n → P i v → J i m₁ news₁ → (∀ p ∈ news₁, p.1 ∉ wr) → (∀ p ∈ own, p.1 ∈ fp) → (∀ p ∈ own, s₁.heap.get? p.1 = some p.2) → (∀ b ∈ fp, h₀.get? b = none → ∀ o, s₁.heap.get? b = some o → (b, o) ∈ own) → St (i + 1) s₁.heap →
      Fr h₀ L s₁.heap m₁ → News h₀ L s₁.heap (own ++ news₁) →
      wpAny (model prog w) A (assign target env v) (fun _ s₂ => wpAny (model prog w) A (execs body env) (LoopStepV h₀ L wr own (J (i + 1)) s₁ (fun v s' => R (.ok (.ret v)) s') fun s' => R (.ok .next) s') (notedBy (model prog w) A env fun e s' => R (.error e) s') s₂) (notedBy (model prog w) A env fun e s' => R (.error e) s') s₁)
    (hR : ∀ h' tk m' news', Fr h₀ L h' m' → News h₀ L h' news' → (∀ p ∈ news', p.1 ∉ wr) → J n m' news' → R (.ok .next) { s with heap := h', toks := tk })
    (ht : ∀ v, letOwnedTupleGo target (.ref I) v = pure ()) :
    codeAny (model prog w) A (.forLoop target (.ref I) body [] env) R s := by
  have hLw : L ∉ wr := fun h => hLf (W.sub _ h)
  have old : ∀ b o, h₀.get? b = some o → b ∉ wr := fun b o e hb => by rw [hwr b hb] at e; cases e
  refine codeAny_forLoop
    (fun k s' => ∃ h' tk m' news' i, s' = { s with heap := h', toks := tk } ∧ St i h' ∧ Fr h₀ L h' m' ∧ News h₀ L h' news' ∧ (∀ p ∈ news', p.1 ∉ wr) ∧ J i m' news' ∧ i ≤ n ∧ k = n + 1 - i) ?_ (n + 1)
    ⟨s.heap, s.toks, m, news, 0, rfl, hst, F, N, hnw, h0, Nat.zero_le _, rfl⟩ ht
  rintro k s' ⟨h', tk, m', news', i, rfl, hst', F', N', hnw', hJ, hi, rfl⟩
  have next : ∀ h₁ : Heap, (∀ b o, b ∉ wr → h'.get? b = some o → h₁.get? b = some o) → Fr h₀ L h₁ m' ∧ News h₀ L h₁ news' := fun h₁ hk₁ =>
    ⟨⟨F'.ns.at' fun o e => hk₁ _ o hLw e, fun b o e => hk₁ b o (old b o e) (F'.keep b o e), F'.above⟩, fun p hp => ⟨hk₁ _ _ (hnw' p hp) (N' p hp).1, (N' p hp).2⟩⟩
  by_cases hlt : i < n
  · refine W.item i _ _ _ hlt hst' fun v h₁ tk₁ hP hst₁ hk₁ => ?_
    obtain ⟨F₁, N₁⟩ := next h₁ hk₁
    have Nown : News h₀ L h₁ (ownOf h₀ fp h₁) := news_ownOf hLf
    refine wpAny_mono (step i v m' news' _ (ownOf h₀ fp h₁) ⟨_, _, rfl⟩ hlt hP hJ hnw' ownOf_sub (fun p hp => (Nown p hp).1) (fun b hb hn o e => mem_ownOf hb hn e) hst₁ F₁ (Nown.append N₁)) (fun _ s₂ h₂ => wpAny_mono h₂ (fun f s₃ h₃ => ?_) fun _ _ e => e) fun _ _ e => e
    have fin : LoopStepU h₀ L wr (ownOf h₀ fp h₁) (J (i + 1)) { s with heap := h₁, toks := tk₁ } .next s₃ → ∃ m, m < n + 1 - i ∧ ∃ h' tk m' news' i, s₃ = { s with heap := h', toks := tk } ∧ St i h' ∧ Fr h₀ L h' m' ∧ News h₀ L h' news' ∧ (∀ p ∈ news', p.1 ∉ wr) ∧ J i m' news' ∧ i ≤ n ∧ m = n + 1 - i := by
      rintro ⟨_, h₃', tk₃, m₂, news₂, rfl, F₃, N₃, ha₃, hJ₃⟩
      refine ⟨n + 1 - (i + 1), by omega, h₃', tk₃, m₂, news₂, i + 1, rfl, ?_, F₃, N₃.right, ha₃, hJ₃, hlt, rfl⟩
      refine W.frame _ _ _ hst₁ fun b hb o e => ?_
      cases hn : h₀.get? b with
      | some o₀ =>
        have : o₀ = o := by have := F₁.keep b o₀ hn; rw [e] at this; exact (Option.some.inj this).symm
        exact this ▸ F₃.keep b o₀ hn
      | none => exact (N₃ _ (List.mem_append_left _ (mem_ownOf hb hn e))).1
    cases f with
    | ret v => exact h₃
    | brk => exact h₃
    | cont => exact fin h₃
    | next => exact fin h₃
  · have hin : i = n := by omega
    subst hin
    refine W.done _ _ _ hst' fun h₁ tk₁ hk₁ => wpAny_execs_nil ?_
    obtain ⟨F₁, N₁⟩ := next h₁ hk₁
    exact hR h₁ tk₁ m' news' F₁ N₁ hnw' hJ

def LoopAtT (prog : Program) (w : World) (A : Around) (h₀ : Heap) (L : Addr) (env : Env) (target : Expr) (body : List Stmt) (Q : Flow → Shared → Prop) (E : Value → Shared → Prop) (it : Value) (s₂ : Shared) : Prop :=
  ∃ (I : Addr) (fp wr : List Addr) (n : Nat) (P : Nat → Value → Prop) (St : Nat → Heap → Prop) (m : Str → Option Value) (news : List (Addr × Obj)) (J : Nat → (Str → Option Value) → List (Addr × Obj) → Prop),
    it = .ref I ∧ Walks prog w A I fp wr n P St ∧ L ∉ fp ∧ (∀ b ∈ wr, h₀.get? b = none) ∧ (∀ p ∈ news, p.1 ∉ wr) ∧ St 0 s₂.heap ∧ Fr h₀ L s₂.heap m ∧ News h₀ L s₂.heap news ∧ J 0 m news ∧
    (∀ i v m₁ news₁ s₁ own, (∃ h tk, s₁ = { s₂ with heap := h, toks := tk }) → i < n → P i v → J i m₁ news₁ → (∀ p ∈ news₁, p.1 ∉ wr) → (∀ p ∈ own, p.1 ∈ fp) → (∀ p ∈ own, s₁.heap.get? p.1 = some p.2) → (∀ b ∈ fp, h₀.get? b = none → ∀ o, s₁.heap.get? b = some o → (b, o) ∈ own) → St (i + 1) s₁.heap →
      Fr h₀ L s₁.heap m₁ → News h₀ L s₁.heap (own ++ news₁) →
      wpAny (model prog w) A (assign target env v) (fun _ s₃ => wpAny (model prog w) A (execs body env) (LoopStepV h₀ L wr own (J (i + 1)) s₁ (fun v s' => Q (.ret v) s') fun s' => Q .next s') E s₃) E s₁) ∧
    ∀ h' tk m' news', Fr h₀ L h' m' → News h₀ L h' news' → (∀ p ∈ news', p.1 ∉ wr) → J n m' news' → Q .next { s₂ with heap := h', toks := tk }

theorem For_T {E : Value → Shared → Prop} {Q : Flow → Shared → Prop} {target : Expr} {pos : Pos} {iter : Expr} {body : List Stmt} {m : Str → Option Value} (_F : Fr h₀ L s.heap m)
    (ht : ∀ it v, letOwnedTupleGo target it v = pure ())
    (h : wpAny (model prog w) A (eval iter env) (fun xv s₁ => wpAny (model prog w) A (pyIter xv) (fun it s₂ => LoopAtT prog w A h₀ L env target body Q E it s₂) E s₁) E s)
    (hs : ∀ x, foldedSetIterable iter env x = pure x := by intro _; rfl)
    (hE : PassesOwn (model prog w) A env E := by passes_own) :
    wpAny (model prog w) A (exec (.For target iter body [] pos) env) Q E s := by
  refine wpAny_For (wpAny_mono h (fun xv s₁ h₁ => wpAny_mono h₁ (fun it s₂ h₂ => ?_) fun _ _ e => e) fun _ _ e => e) hs
  obtain ⟨I, fp, wr, n, P, St, m, news, J, rfl, W, hLf, hwr, hnw, hst, F, N, h0, step, hQ⟩ := h₂
  refine codeAny_forT (R := fun r s' => match r with | .ok f => Q f s' | .error e => cameBackBy (model prog w) A env E e s') W hLf hwr hnw hst F N J h0 ?_ hQ (ht _)
  intro i v m₁ news₁ s₁ own a b c d e f g k st F₁ N₁
  exact wpAny_passesOwn hE (wpAny_mono (step i v m₁ news₁ s₁ own a b c d e f g k st F₁ N₁) (fun _ s₃ h₃ => wpAny_passesOwn hE h₃) fun _ _ e => e)
end

section
variable {prog : Program} {w : World} {A : Around} {E : Value → Shared → Prop} {s : Shared} {env : Env} {h₀ : Heap} {L : Addr} {target : Expr} {body : List Stmt} {Q : Flow → Shared → Prop}
def SameT (stored : List Str) (m₀ m' : Str → Option Value) : Prop := ∀ z, z ∉ stored → m' z = m₀ z
theorem over_T {u m₀ : Str → Option Value} {l : List Str} (h : SameT l m₀ u) : u = over u m₀ l := funext fun y => (over_in fun hn => h y hn).symm

/-- over a list's items -/
theorem forT_list (stored : List Str) {l : Addr} {its : Array Value} {m₀ : Str → Option Value} {news : List (Addr × Obj)} (J : Nat → (Str → Option Value) → List (Addr × Obj) → Prop)
    (hh : A.handled = none) (src : h₀.IsList l its ∨ ∃ ol k, ol.cls = .type "list" ∧ ol.data = .seq its k ∧ ∀ i m nx, J i m nx → (l, ol) ∈ nx)
    (F : Fr h₀ L s.heap m₀) (N : News h₀ L s.heap news) (hj : J 0 m₀ news)
    (turn : ∀ i v u nw I oI h tk, its[i]? = some v → J i u nw → Off I nw → Fr h₀ L h (over u m₀ stored) → News h₀ L h ((I, oI) :: nw) →
      wpAny (model prog w) A (assign target env v) (fun _ s₂ => wpAny (model prog w) A (execs body env) (TurnPost h₀ L I oI (fun m' nx => SameT stored m₀ m' ∧ J (i + 1) m' nx) { s with heap := h, toks := tk } Q) E s₂) E { s with heap := h, toks := tk })
    (done : ∀ u nw h tk, J its.size u nw → Fr h₀ L h (over u m₀ stored) → News h₀ L h nw → Q .next { s with heap := h, toks := tk }) :
    wpAny (model prog w) A (pyIter (.ref l)) (fun it s₂ => LoopAtT prog w A h₀ L env target body Q E it s₂) E s := by
  have hls : s.heap.IsList l its := by
    rcases src with hl | ⟨ol, k, hc, hd, hm⟩
    · exact hl.at fun o e => F.keep l o e
    · exact ⟨ol, (N _ (hm _ _ _ hj)).1, hc, k, hd⟩
  obtain ⟨ol', hol, _⟩ := id hls
  have hlt : l < s.heap.objs.size := Heap.lt_size hol
  have hne : l ≠ s.heap.objs.size := Nat.ne_of_lt hlt
  have hLl : L ≠ l := by
    rcases src with hl | ⟨ol, k, hc, hd, hm⟩
    · obtain ⟨o, e, _⟩ := hl
      exact fun q => absurd (Nat.lt_of_lt_of_le (Heap.lt_size e) F.above) (q ▸ Nat.lt_irrefl _)
    · exact fun q => (N _ (hm _ _ _ hj)).2.1 q.symm
  refine wpAny_pyIter_list hls ?_
  have W := Walks.list (prog := prog) (w := w) hh s.heap.objs.size l hne its
  refine ⟨_, _, _, its.size, _, _, m₀, news, (fun i m nx => SameT stored m₀ m ∧ J i m nx), rfl, W, ?_, ?_, ?_, ⟨⟨_, Heap.get?_push_size _ rfl, rfl, rfl⟩, hls.at fun o e => Heap.get?_push_of_some _ e⟩, F.push _, (fun p hp => ⟨Heap.get?_push_of_some _ (N p hp).1, (N p hp).2⟩), ⟨fun _ _ => rfl, hj⟩, ?_, ?_⟩
  · intro hm
    rcases List.mem_cons.mp hm with e | hm
    · exact absurd F.ns.lt (e ▸ Nat.lt_irrefl _)
    · exact hLl (List.mem_singleton.mp hm)
  · intro b hb
    rw [List.mem_singleton.mp hb]
    exact next_is_new F
  · intro p hp hI
    exact absurd (Heap.lt_size (N p hp).1) ((List.mem_singleton.mp hI) ▸ Nat.lt_irrefl _)
  · rintro i v m₁ news₁ s₁ own ⟨hh', tk', rfl⟩ hin hP ⟨hs, hJ⟩ hoff hown hget hin' hst F₁ N₁
    obtain ⟨oI, heI, _⟩ := hst.1
    have hIown : (s.heap.objs.size, oI) ∈ own := hin' _ (by simp) (next_is_new F) oI heI
    have hoffI : Off s.heap.objs.size news₁ := Off.of fun p hp q => hoff p hp (List.mem_singleton.mpr q)
    rw [over_T hs] at F₁
    refine wpAny_mono (turn i v m₁ news₁ _ oI hh' tk' hP hJ hoffI F₁ (fun p hp => by
      rcases List.mem_cons.mp hp with rfl | hp
      · exact N₁ _ (List.mem_append_left _ hIown)
      · exact N₁ _ (List.mem_append_right _ hp))) (fun _ s₂ h₂ => wpAny_mono h₂ (fun f s₃ p => ?_) fun _ _ e => e) fun _ _ e => e
    have fin : TurnEnd h₀ L s.heap.objs.size oI (fun m' nx => SameT stored m₀ m' ∧ J (i + 1) m' nx) { s with heap := hh', toks := tk' } s₃ → LoopStepU h₀ L [s.heap.objs.size] own (fun m nx => SameT stored m₀ m ∧ J (i + 1) m nx) { s with heap := hh', toks := tk' } .next s₃ := by
      rintro ⟨h', tk, m', nx, e, F', N', hoff', hj'⟩
      refine ⟨rfl, h', tk, m', nx, e, F', fun p hp => ?_, fun p hp q => hoff'.mem p hp (List.mem_singleton.mp q), hj'⟩
      rcases List.mem_append.mp hp with hp | hp
      · have hg := hget p hp
        have h0 := (N₁ p (List.mem_append_left _ hp)).2.2
        rcases List.mem_cons.mp (hown p hp) with h1 | h1
        · have e1 : p = (s.heap.objs.size, oI) := by
            obtain ⟨a, o⟩ := p
            dsimp only at h1 hg
            subst h1
            have := heI.symm.trans hg
            rw [Option.some.inj this]
          rw [e1]; exact N' _ List.mem_cons_self
        · have h2 : p.1 = l := List.mem_singleton.mp h1
          rcases src with hl | ⟨ol, k, hc, hd, hm⟩
          · obtain ⟨o, e, _⟩ := hl
            rw [h2, e] at h0; cases h0
          · have e1 : p = (l, ol) := by
              obtain ⟨a, o⟩ := p
              dsimp only at h2 hg
              subst h2
              have := (N₁ _ (List.mem_append_right _ (hm _ _ _ hJ))).1
              have := hg.symm.trans this
              rw [Option.some.inj this]
            rw [e1]; exact N' _ (List.mem_cons_of_mem _ (hm _ _ _ hj'.2))
      · exact N' p (List.mem_cons_of_mem _ hp)
    cases f with
    | ret v => exact .ret p
    | brk => exact .brk p
    | next => exact .next (fin p)
    | cont => exact .cont (fin p)
  · rintro h' tk m' news' F' N' _ ⟨hs, hJ⟩
    rw [over_T hs] at F'
    exact done m' news' h' tk hJ F' N'

/-- over range(a, b) -/
theorem forT_count (stored : List Str) {r : Addr} {a b : Int} {t u v : Tok} (n : Nat) {m₀ : Str → Option Value} {news : List (Addr × Obj)} (J : Nat → (Str → Option Value) → List (Addr × Obj) → Prop)
    (hh : A.handled = none) (hr : IsRange s.heap r a b 1 t u v) (hn : (b - a).toNat = n) (ha : -1000000 ≤ a ∧ a ≤ 1000000) (hb : -1000000 ≤ b ∧ b ≤ 1000000)
    (F : Fr h₀ L s.heap m₀) (N : News h₀ L s.heap news) (hj : J 0 m₀ news)
    (turn : ∀ (i : Nat) (t : Tok) u nw I oI h tk, i < n → J i u nw → Off I nw → Fr h₀ L h (over u m₀ stored) → News h₀ L h ((I, oI) :: nw) →
      wpAny (model prog w) A (assign target env (.int (a + (i : Int)) t)) (fun _ s₂ => wpAny (model prog w) A (execs body env) (TurnPost h₀ L I oI (fun m' nx => SameT stored m₀ m' ∧ J (i + 1) m' nx) { s with heap := h, toks := tk } Q) E s₂) E { s with heap := h, toks := tk })
    (done : ∀ u nw h tk, J n u nw → Fr h₀ L h (over u m₀ stored) → News h₀ L h nw → Q .next { s with heap := h, toks := tk }) :
    wpAny (model prog w) A (pyIter (.ref r)) (fun it s₂ => LoopAtT prog w A h₀ L env target body Q E it s₂) E s := by
  have hsm := small_one (a := a) (b := b) (by omega) (by omega) (by omega) (by omega)
  have hn' : Builtin.Range.rangeSize a b 1 = ((n : Nat) : Int) := by rw [rangeSize_nat, hn]
  refine wpAny_pyIter_range hr hsm ?_
  have W := Walks.range (prog := prog) (w := w) hh s.heap.objs.size a 1 n
  refine ⟨_, _, _, n, _, _, m₀, news, (fun i m nx => SameT stored m₀ m ∧ J i m nx), rfl, W, ?_, ?_, ?_, (by show IsRangeIter _ _ _ _ _; rw [hn']; simpa using Heap.get?_push_size _ rfl), F.push _, (fun p hp => ⟨Heap.get?_push_of_some _ (N p hp).1, (N p hp).2⟩), ⟨fun _ _ => rfl, hj⟩, ?_, ?_⟩
  · intro hm
    exact absurd F.ns.lt ((List.mem_singleton.mp hm) ▸ Nat.lt_irrefl _)
  · intro b hb
    rw [List.mem_singleton.mp hb]
    exact next_is_new F
  · intro p hp hI
    exact absurd (Heap.lt_size (N p hp).1) ((List.mem_singleton.mp hI) ▸ Nat.lt_irrefl _)
  · rintro i v m₁ news₁ s₁ own ⟨hh', tk', rfl⟩ hin hP ⟨hs, hJ⟩ hoff hown hget hin' hst F₁ N₁
    obtain ⟨t, rfl⟩ := hP
    have heI : hh'.get? s.heap.objs.size = some _ := hst
    have hIown := hin' _ (by simp) (next_is_new F) _ heI
    have hoffI : Off s.heap.objs.size news₁ := Off.of fun p hp q => hoff p hp (List.mem_singleton.mpr q)
    generalize hoI : ({ cls := .type "range_iterator", data := .fields #[rawInt (a + ((i + 1 : Nat) : Int) * 1), rawInt ((n : Int) - ((i + 1 : Nat) : Int)), rawInt 1] } : Obj) = oI at heI hIown
    rw [over_T hs] at F₁
    rw [Int.mul_one]
    refine wpAny_mono (turn i t m₁ news₁ s.heap.objs.size oI hh' tk' hin hJ hoffI F₁ (fun p hp => by
      rcases List.mem_cons.mp hp with rfl | hp
      · exact N₁ _ (List.mem_append_left _ hIown)
      · exact N₁ _ (List.mem_append_right _ hp))) (fun _ s₂ h₂ => wpAny_mono h₂ (fun f s₃ p => ?_) fun _ _ e => e) fun _ _ e => e
    have fin : TurnEnd h₀ L s.heap.objs.size oI (fun m' nx => SameT stored m₀ m' ∧ J (i + 1) m' nx) { s with heap := hh', toks := tk' } s₃ → LoopStepU h₀ L [s.heap.objs.size] own (fun m nx => SameT stored m₀ m ∧ J (i + 1) m nx) { s with heap := hh', toks := tk' } .next s₃ := by
      rintro ⟨h', tk, m', nx, e, F', N', hoff', hj'⟩
      refine ⟨rfl, h', tk, m', nx, e, F', fun p hp => ?_, fun p hp q => hoff'.mem p hp (List.mem_singleton.mp q), hj'⟩
      rcases List.mem_append.mp hp with hp | hp
      · have hg := hget p hp
        have h1 := List.mem_singleton.mp (hown p hp)
        obtain ⟨a, o⟩ := p
        dsimp only at h1 hg
        subst h1
        have e9 : o = oI := by
          have := heI.symm.trans hg
          exact (Option.some.inj this).symm
        rw [e9]
        exact N' _ List.mem_cons_self
      · exact N' p (List.mem_cons_of_mem _ hp)
    cases f with
    | ret v => exact .ret p
    | brk => exact .brk p
    | next => exact .next (fin p)
    | cont => exact .cont (fin p)
  · rintro h' tk m' news' F' N' _ ⟨hs, hJ⟩
    rw [over_T hs] at F'
    exact done m' news' h' tk hJ F' N'

theorem forT_pd {α : Type} {G : α → Value → Prop} {as : List α} {its : Array Value} (hi : Pd G as its.toList) (stored : List Str) {l : Addr} {m₀ : Str → Option Value} {news : List (Addr × Obj)} (J : List α → (Str → Option Value) → List (Addr × Obj) → Prop)
    (hh : A.handled = none) (src : h₀.IsList l its ∨ ∃ ol k, ol.cls = .type "list" ∧ ol.data = .seq its k ∧ ∀ pre m nx, J pre m nx → (l, ol) ∈ nx)
    (F : Fr h₀ L s.heap m₀) (N : News h₀ L s.heap news) (hj : J [] m₀ news)
    (turn : ∀ pre a post v u nw I oI h tk, as = pre ++ a :: post → G a v → J pre u nw → Off I nw → Fr h₀ L h (over u m₀ stored) → News h₀ L h ((I, oI) :: nw) →
      wpAny (model prog w) A (assign target env v) (fun _ s₂ => wpAny (model prog w) A (execs body env) (TurnPost h₀ L I oI (fun m' nx => SameT stored m₀ m' ∧ J (pre ++ [a]) m' nx) { s with heap := h, toks := tk } Q) E s₂) E { s with heap := h, toks := tk })
    (done : ∀ u nw h tk, J as u nw → Fr h₀ L h (over u m₀ stored) → News h₀ L h nw → Q .next { s with heap := h, toks := tk }) :
    wpAny (model prog w) A (pyIter (.ref l)) (fun it s₂ => LoopAtT prog w A h₀ L env target body Q E it s₂) E s := by
  have hl := pd_len hi
  refine forT_list stored (its := its) (fun i m nx => J (as.take i) m nx) hh (src.imp id fun ⟨ol, k, a, b, c⟩ => ⟨ol, k, a, b, fun i m nx h => c _ m nx h⟩) F N (by simpa using hj) ?_ ?_
  · intro i v u nw I oI h tk hv hJ hoff F₁ N₁
    obtain ⟨a, ha, hF⟩ := pd_at hi i v (by simpa using hv)
    rw [take_next ha]
    exact turn _ a _ v u nw I oI h tk (take_split ha) hF hJ hoff F₁ N₁
  · intro u nw h tk hJ F₁ N₁
    refine done u nw h tk ?_ F₁ N₁
    have e : as.take its.size = as := List.take_of_length_le (by rw [hl]; simp)
    rwa [e] at hJ
end

theorem strs_pd : ∀ {xs : List Str} {vs : List Value}, Pd StrV xs vs → StrsAre vs xs
  | _, _, .nil => .nil
  | _, _, .cons ⟨_, e⟩ h => by rw [e]; exact .cons _ _ (strs_pd h)
section
variable {prog : Program} {w : World} {A : Around} {E : Value → Shared → Prop} {s : Shared} {g : Heap} {L D : Addr} {m : Str → Option Value} {its : Array Value} {xs : List Str} {k : Str} {t : Tok} {Q : Value → Shared → Prop}
end

section
variable {h₀ h h' : Heap} {L D : Addr} {m : Str → Option Value} {news : List (Addr × Obj)} {o : Obj}
end
theorem off1 {a z : Str} (h : z ∉ [a]) : z ≠ a := fun e => h (by rw [e]; exact List.mem_cons_self)

section
variable {prog : Program} {w : World} {A : Around} {E : Value → Shared → Prop} {s : Shared} {env : Env} {h₀ : Heap} {L : Addr} {target : Expr} {body : List Stmt} {Q : Flow → Shared → Prop}
end
section
variable {prog : Program} {w : World} {A : Around} {E : Value → Shared → Prop} {s : Shared} {h₀ : Heap} {L D : Addr} {m : Str → Option Value} {news : List (Addr × Obj)} {vs : List Value} {n : Nat} {k : Int} {j : Nat} {t : Tok} {v : Value} {Q : Value → Shared → Prop}
theorem tail_l {value slice : PySem.Expr} (N : News h₀ L s.heap news) (hm : (D, listOf vs.toArray n) ∈ news) (hx : vs[j]? = some v) (hk : k = (j : Int)) (hj : (j : Int) < 1000000) (h : Q v s)
    (hs : subscripted slice false (.ref D) (.int k t) = operate [.ref D, .int k t] (getItem (.ref D) (.int k t)) := by with_unfolding_all rfl) :
    wpAny (model prog w) A (subscriptTail value slice (.ref D) (.int k t)) Q E s :=
  tail_at (is_l N hm) (by omega) (by omega) (by rw [hk, Int.toNat_natCast]; simpa using hx) h hs
theorem tail_pd {value slice : PySem.Expr} {α : Type} {F : α → Value → Prop} {as : List α} {a : α} (N : News h₀ L s.heap news) (hm : (D, listOf vs.toArray n) ∈ news) (hp : Pd F as vs) (ha : as[j]? = some a) (hk : k = (j : Int)) (hj : (j : Int) < 1000000) (h : ∀ v, F a v → Q v s)
    (hs : subscripted slice false (.ref D) (.int k t) = operate [.ref D, .int k t] (getItem (.ref D) (.int k t)) := by with_unfolding_all rfl) :
    wpAny (model prog w) A (subscriptTail value slice (.ref D) (.int k t)) Q E s := by
  obtain ⟨v, hv, hF⟩ := pd_get hp j a ha
  exact tail_l N hm hv hk hj (h v hF) hs
end

section
variable {prog : Program} {w : World} {A : Around} {E : Value → Shared → Prop} {s : Shared} {h₀ : Heap} {L l : Addr} {m : Str → Option Value} {news : List (Addr × Obj)} {n : Nat} {xs : List Value} {Q : Value → Shared → Prop} {value slice : PySem.Expr} {k : Int} {t : Tok}
end

theorem pd_app {α : Type} {F : α → Value → Prop} : ∀ {as bs : List α} {vs ws : List Value}, Pd F as vs → Pd F bs ws → Pd F (as ++ bs) (vs ++ ws)
  | _, _, _, _, .nil, h => h
  | _, _, _, _, .cons h t, k => .cons h (pd_app t k)
section
variable {prog : Program} {w : World} {A : Around} {E : Value → Shared → Prop} {s : Shared} {env : Env} {h₀ : Heap} {L : Addr} {target : Expr} {body : List Stmt} {Q Q' : Flow → Shared → Prop}
end

section
variable {prog : Program} {w : World} {A : Around} {E : Value → Shared → Prop} {s : Shared} {env : Env} {h₀ : Heap} {L : Addr} {target : Expr} {body : List Stmt} {Q : Flow → Shared → Prop}
/-- a for over a list that turns one other list of the ledger -/
theorem forT_pd_l {α : Type} {G : α → Value → Prop} {as : List α} {its : Array Value} (hi : Pd G as its.toList) (stored : List Str) (lead : List (Addr × Obj)) {rest : List (Addr × Obj)} {lt : Addr} {zs₀ : List Value} {c₀ : Nat} {l : Addr} {m₀ : Str → Option Value} (J : List α → (Str → Option Value) → List Value → Prop)
    (hh : A.handled = none) (src : h₀.IsList l its ∨ ∃ ol k, ol.cls = .type "list" ∧ ol.data = .seq its k ∧ ((l, ol) ∈ lead ∨ (l, ol) ∈ rest))
    (F : Fr h₀ L s.heap m₀) (N : News h₀ L s.heap (lead ++ (lt, W.listOf zs₀.toArray c₀) :: rest)) (hj : J [] m₀ zs₀)
    (turn : ∀ pre a post v u zs c I oI h tk, as = pre ++ a :: post → G a v → J pre u zs → Off I (lead ++ (lt, W.listOf zs.toArray c) :: rest) → Fr h₀ L h (over u m₀ stored) → News h₀ L h ((I, oI) :: (lead ++ (lt, W.listOf zs.toArray c) :: rest)) →
      wpAny (model prog w) A (assign target env v) (fun _ s₂ => wpAny (model prog w) A (execs body env) (TurnPost h₀ L I oI (fun m' nx => SameT stored m₀ m' ∧ ∃ zs' c', nx = lead ++ (lt, W.listOf zs'.toArray c') :: rest ∧ J (pre ++ [a]) m' zs') { s with heap := h, toks := tk } Q) E s₂) E { s with heap := h, toks := tk })
    (done : ∀ u zs c h tk, J as u zs → Fr h₀ L h (over u m₀ stored) → News h₀ L h (lead ++ (lt, W.listOf zs.toArray c) :: rest) → Q .next { s with heap := h, toks := tk }) :
    wpAny (model prog w) A (pyIter (.ref l)) (fun it s₂ => LoopAtT prog w A h₀ L env target body Q E it s₂) E s := by
  refine forT_pd hi stored (fun pre m nx => ∃ zs c, nx = lead ++ (lt, W.listOf zs.toArray c) :: rest ∧ J pre m zs) hh (src.imp id fun ⟨ol, k, a, b, c⟩ => ⟨ol, k, a, b, fun _ _ nx ⟨zs, c1, e, _⟩ => by
    rw [e]
    exact c.elim (fun q => List.mem_append_left _ q) fun q => List.mem_append_right _ (List.mem_cons_of_mem _ q)⟩) F N ⟨_, _, rfl, hj⟩ ?_ ?_
  · rintro pre a post v u nw I oI h tk e hG ⟨zs, c, rfl, hJ⟩ hoff F₁ N₁
    exact turn pre a post v u zs c I oI h tk e hG hJ hoff F₁ N₁
  · rintro u nw h tk ⟨zs, c, rfl, hJ⟩ F₁ N₁
    exact done u zs c h tk hJ F₁ N₁
end
section
variable {prog : Program} {w : World} {A : Around} {E : Value → Shared → Prop} {s : Shared} {env : Env} {h₀ : Heap} {L : Addr} {target : Expr} {body : List Stmt} {Q : Flow → Shared → Prop}
end
end Mine
end
section
set_option maxRecDepth 100000
namespace Mine
open PySem.Calls PySem.Spec
section
variable {prog : Program} {w : World} {A : Around} {E : Value → Shared → Prop} {s : Shared}
end
section
variable {M : Model} {A : Around} {E : Value → Shared → Prop} {s' : Shared} {base g h : Heap} {outer : List Env} {L a e : Addr} {m : Str → Option Value} {name : Str} {scope : Scope} {cd : Value} {Q : Unit → Shared → Prop}
end
end Mine
end
section
set_option maxRecDepth 100000
namespace Mine
section
variable {prog : Program} {w : World} {A : Around} {E : Value → Shared → Prop} {s : Shared} {K : Frag} {x C : Addr} {ox : Obj} {od : Option Obj} {name : Str} {expr : Bool} {Q : Value → Shared → Prop}
/-- a name that neither the instance nor its class has -/
theorem get_missing {cd : ClassData} (X : K.In s.heap) (I : InstAt s.heap x ox C od) (hga : findIn K (.ref C) "__getattribute__" = some (some (.builtin "object.__getattribute__"))) (hk : findIn K (.ref C) "__getattr__" = some none)
    (hf : findObj K C od name = some .missing) (hc : clsIn K C = some cd) (hc1 : cd.name.cps.foldl (fun k c => k + (Str.utf8Of c).length) 0 ≤ 100) (hc2 : (Str.ofString (toString "'" ++ toString cd.name.toString ++ toString "' object has no attribute '")).length ≤ 200) (hA : A.handled = none) (hsz : name.length + 300 ≤ sizeLine)
    (h : ∀ h' tk e, Heap.NewExcOf s.heap h' e "AttributeError" → E (.ref e) { s with heap := h', toks := tk }) : wpAny (model prog w) A (getAttr (.ref x) name expr) Q E s := by
  refine get_open X I hga ?_
  obtain ⟨hh', g, d, t, os⟩ := s
  have L0 := I.type (M := model prog w)
  have L1 := looks_find (M := model prog w) X I hf
  have L2 := looks_findIn (M := model prog w) X hk
  refine wpAny_bind (wpAny_pure (wpAny_bind (L0.at (wpAny_bind (L1.at (wpAny_bind (L2.at ?_)))))))
  show wpAny _ _ (PySem.Builtin.ObjectAttr.missingOrHook _ _ _ none) _ _ _
  unfold PySem.Builtin.ObjectAttr.missingOrHook PySem.Builtin.ObjectAttr.noSuchAttribute
  dsimp only
  unfold typeNameOfCut shownTypeOf
  refine wpAny_bind (wpAny_bind (wpAny_bind (L0.at ?_)))
  rw [if_neg (fun e => by cases beq_iff_eq.mp e)]
  refine wpAny_pure ?_
  unfold typeNameCut
  dsimp only
  refine wpAny_bind ((looks_clsIn (M := model prog w) X hc).at ?_)
  rw [if_pos hc1]
  refine wpAny_pure ?_
  refine wpAny_raiseAttrError hA ?_ (by rw [Str.length_append, Str.length_append]; have : (Str.ofString "'").length = 1 := by decide +kernel
                                        omega)
  intro h' tk e hx
  obtain ⟨t', u', he⟩ := hx.there
  unfold noteIf
  rw [if_pos rfl]
  unfold noteAttr lacksNameAndObj isInstance
  have f1 := sub_AttributeError
  dsimp only
  repeat (any_goals (first | assumption | wp_step))
  exact h _ _ _ hx.of
end
end Mine
end
section
set_option maxRecDepth 100000
namespace Mine
open PySem.Calls PySem.Spec
section
variable {M : Model} {A : Around} {E : Value → Shared → Prop} {s' : Shared} {base g h : Heap} {outer : List Env} {L a e : Addr} {m : Str → Option Value} {name : Str} {scope : Scope} {cd : Value} {Q : Unit → Shared → Prop} {news : List (Addr × Obj)}
/-- an exception that is new, of any fields, leaves its frame: for a try around the call -/
theorem leave_newOfS {cls : String} (K : Below A base outer g) (hx : Heap.NewExcOf h s'.heap e cls) (F : Fr g L h m) (N : News g L h news)
    (hQ : ∀ h', RaisedSN base g outer e (.type cls) news h' → RaisedN base outer e (.type cls) news h' → g.UpToSlots h' → Q () { s' with heap := h' }) (hk : scope.kind = .function := by rfl) :
    wpAny M (A.deeper (envOf name scope L a cd)) (leaving (envOf name scope L a cd) (.ref e)) Q E s' := by
  have K' := K.push (name := name) (a := a) (cd := cd) F hk
  have hin : ∀ env ∈ (envOf name scope L a cd :: outer), ∀ b, env.frame = some b → b ∈ (envOf name scope L a cd :: outer).filterMap (·.frame) := fun env he b hb => List.mem_filterMap.mpr ⟨env, he, hb⟩
  have st : base.StaysIn (hideAll h ((envOf name scope L a cd :: outer).filterMap (·.frame))) := fun b o q => hideAll_get _ (K'.stays b o q) fun hm => by
    rw [(K'.frames.mem hm).1] at q; cases q
  have sg : ∀ b o, g.get? b = some o → b ∉ outer.filterMap (·.frame) → (hideAll h ((envOf name scope L a cd :: outer).filterMap (·.frame))).get? b = some o := fun b o q nm => hideAll_get _ (F.keep b o q) fun hm => by
    rcases kts_mem hm with z | z
    · rw [z, kts_self F] at q
      cases q
    · exact nm z
  have hl : ∀ q ∈ news, (hideAll h ((envOf name scope L a cd :: outer).filterMap (·.frame))).get? q.1 = some q.2 ∧ g.get? q.1 = none ∧ base.get? q.1 = none := fun q hq => by
    refine ⟨hideAll_get _ (N q hq).1 fun hm => ?_, (N q hq).2.2, fresh_of_stays K.stays (N q hq).2.2⟩
    obtain ⟨env, he, hf⟩ := List.mem_filterMap.mp hm
    rcases List.mem_cons.mp he with rfl | he
    · exact (N q hq).2.1 (Option.some.inj hf).symm
    · obtain ⟨o, ho, _⟩ := (K.frames.mem (List.mem_filterMap.mpr ⟨env, he, hf⟩)).2
      rw [(N q hq).2.2] at ho; cases ho
  obtain ⟨ob, ws, he, hcls, hd, h1⟩ := hx.there
  have hz : 1 < ws.size := (Array.getElem?_eq_some_iff.mp h1).1
  have h0 : ws[0]? = some ws[0] := Array.getElem?_eq_getElem (by omega)
  have hen : (hideAll h ((envOf name scope L a cd :: outer).filterMap (·.frame))).get? e = none := by
    cases q : (hideAll h ((envOf name scope L a cd :: outer).filterMap (·.frame))).get? e with
    | none => rfl
    | some o => have := of_hideAll _ q; rw [hx.new] at this; cases this
  refine wpAny_leaving_firstW (a0 := ws[0]) K'.stack ((funFrames_hide K'.frames hin).of_keeps fun b o hb _ => ⟨o, hx.keeps b o hb, rfl⟩) rfl he (fun b o hb => hx.keeps b o (of_hideAll _ hb)) hen hd h1 h0 fun h' hL => ?_
  obtain ⟨k1, ⟨_, _, k2⟩, k3, k4⟩ := hL
  have R : RaisedSN base g outer e (.type cls) news h' := ⟨_, ws[0], st, sg, hl, k1, hen, k2, by rw [← hcls]; exact k3⟩
  exact hQ h' R R.toN (((Heap.UpToSlots.of_keeps F.keep).trans (Heap.UpToSlots.of_keeps hx.keeps)).trans k4)
end
def LeaveT (R : Result → Shared → Prop) (v : Value) (s' : Shared) : Prop := R (.ok (.ret v)) s'
section
variable {prog : Program} {w : World} {A A₀ : Around} {s : Shared} {K : Frag} {L : Addr} {h₀ base : Heap} {m mg mb : Str → Option Value} {p : Program} {loose : List Str} {mean : ExcName → Option Value}
/-- a call of a def that catches what it raises: the whole heap is its ground, up to the caller's frame's slots -/
theorem code_baseS {env : Env} {R : Result → Shared → Prop} {name qual : Str} {params : Arguments} {body : List Stmt} {scope : Scope} {dV kV doc pm cdv ct oc : Value} {an od : Option Addr} {osl : Array (Option Value)} {f : Addr} {args : Args} {binds : List (Str × Value)}
    (B : Below A₀ base [] h₀) (F : Fr h₀ L s.heap m) (X₀ : K.In h₀) (T : Top p loose mean mg mb h₀) (hA : A.frames = some [env]) (hf : env.frame = some L) (hke : env.scope.kind = .function)
    (ho : K.lookup f = some ⟨oc, od, .func (fnOf name qual params body scope dV kV doc pm an cdv ct), osl⟩) (hcd : codeIn K cdv qual = true) (hroom : A.depth < recursionLimit)
    (hbind : BindsTo s (fnOf name qual params body scope dV kV doc pm an cdv ct) args binds) (hloc : ∀ y ∈ binds, scope.names.lookup y.1 = some .local)
    (h : ∀ L' h₁, Fr s.heap L' h₁ (fun y => binds.reverse.lookup y) → News s.heap L' h₁ [] → Below A base [env] s.heap → K.In s.heap → Top p loose mean mg mb s.heap → KtsDicts ([env].filterMap (·.frame)) s.heap →
      wpAny (model prog w) (A.deeper (envOf qual scope L' f cdv)) (execs body (envOf qual scope L' f cdv))
        (fun fl s' => LeaveT R (match fl with | .ret v => v | _ => .none) s')
        (fun e s' => wpAny (model prog w) (A.deeper (envOf qual scope L' f cdv)) (leaving (envOf qual scope L' f cdv) e) (fun _ s'' => R (.error e) s'') (fun e' s'' => R (.error e') s'') s')
        { s with heap := h₁, toks := s.toks + binds.length })
    (hco : scope.isCoroutine = false := by rfl) (hgen : scope.isGenerator = false := by rfl) (hk : scope.kind = .function := by rfl)
    (hcell : ∀ x ∈ scope.names, x.2 ≠ .cell := by decide) : codeAny (model prog w) A (.call (.ref f) args) R s := by
  obtain ⟨FG, BG, st, lv⟩ := groundX (R := R) B F (News.nil (h₀ := h₀) (L := L) (h := s.heap)) hA hf hke
  refine codeAny_call_def (fd := fnOf name qual params body scope dV kV doc pm an cdv ct) (body := body) (binds := binds) hroom ((X₀.keeps F.keep) _ _ ho) rfl (T.nolimit.keeps F.keep) (codeRec_of (X₀.keeps F.keep) hcd) rfl hbind hcell hloc (fun h₁ hns hk₁ => ?_) hco hgen hk
  have hD : KtsDicts ([env].filterMap (·.frame)) s.heap := fun b hb => by
    obtain ⟨oL, es, ep, hL, hLd, _⟩ := F.ns
    simp only [List.filterMap_cons, List.filterMap_nil, hf, List.mem_singleton] at hb
    subst hb
    exact ⟨oL, es, ep, hL, hLd⟩
  exact wpAny_mono (h s.heap.objs.size h₁ ⟨hns, hk₁, Nat.le_refl _⟩ News.nil BG (X₀.keeps F.keep) (T.keeps F.keep) hD) (fun fl s' hr => hr) fun _ _ y => y
end
/-- the caller's frame and ledger behind such a call -/
theorem back_S {h₀ g g' h' : Heap} {L L' : Addr} {env : Env} {m m' : Str → Option Value} (hf : env.frame = some L) (F : Fr h₀ L g m) (T : KtsTurn ([env].filterMap (·.frame)) g g') (F' : Fr g' L' h' m') :
    Fr h₀ L h' m ∧ ∀ b o, @Ne Nat b L → g.get? b = some o → h'.get? b = some o := by
  have hfs : [env].filterMap (·.frame) = [L] := by simp [hf]
  rw [hfs] at T
  obtain ⟨oL, es, ep, hL, hLd, hLk, hLf⟩ := F.ns
  have nL₀ : h₀.get? L = none := kts_self F
  have other : ∀ b o, @Ne Nat b L → g.get? b = some o → h'.get? b = some o := fun b o n e => F'.keep _ _ (T.other b o e fun q => n (List.mem_singleton.mp q))
  obtain ⟨sl, hs⟩ := T.up hL
  refine ⟨⟨⟨_, es, ep, F'.keep _ _ hs, hLd, hLk, hLf⟩, fun b o e => other b o (fun q => ?_) (F.keep b o e), F.above⟩, other⟩
  have q' : b = L := q
  rw [q', nL₀] at e; cases e
theorem after_S {h₀ g h' : Heap} {L : Addr} {news : List (Addr × Obj)} (N : News h₀ L g news) (k : ∀ b o, @Ne Nat b L → g.get? b = some o → h'.get? b = some o) : News h₀ L h' news := fun p hp =>
  ⟨k _ _ (fun q => (N p hp).2.1 q) (N p hp).1, (N p hp).2⟩
end Mine
end
section
set_option maxRecDepth 100000
namespace Mine
open PySem.Calls PySem.Spec
open PySem.AutoSeq1 (wpAny_loadPart')
theorem owner_map : Manifest.owners.lookup (String.ofList ['p', 'a', 'm'].reverse) = some Manifest.sig_map := by kernel_rfl
theorem slot_map_iter : Slot "map" "__iter__" "map.__iter__" :=
  .of (owner := "map") (n := "__iter__") (by rw [typeLookup_type, builtinLookup_eq_fast]; kernel_rfl) (by decide +kernel) (by decide +kernel) (by decide +kernel)
    (by first | exact .inl (by decide +kernel) | exact .inr (by decide +kernel)) (by rw [isSubtype_type]; kernel_rfl)
theorem slot_map_next : Slot "map" "__next__" "map.__next__" :=
  .of (owner := "map") (n := "__next__") (by rw [typeLookup_type, builtinLookup_eq_fast]; kernel_rfl) (by decide +kernel) (by decide +kernel) (by decide +kernel)
    (by first | exact .inl (by decide +kernel) | exact .inr (by decide +kernel)) (by rw [isSubtype_type]; kernel_rfl)
theorem slot_map_init : Slot "map" "__init__" "object.__init__" :=
  .of (owner := "object") (n := "__init__") (by rw [typeLookup_type, builtinLookup_eq_fast]; kernel_rfl) (by decide +kernel) (by decide +kernel) (by decide +kernel)
    (by first | exact .inl (by decide +kernel) | exact .inr (by decide +kernel)) (by rw [isSubtype_type]; kernel_rfl)
theorem args_map_iter_1 (a : Value) : argsOk "map.__iter__" ⟨[a], []⟩ := by
  unfold argsOk; rw [signature?_of (id := "map.__iter__") (n := ['_', '_', 'r', 'e', 't', 'i', '_', '_']) (o := ['p', 'a', 'm']) (by kernel_rfl) owner_map]; kernel_rfl
theorem args_map_next_1 (a : Value) : argsOk "map.__next__" ⟨[a], []⟩ := by
  unfold argsOk; rw [signature?_of (id := "map.__next__") (n := ['_', '_', 't', 'x', 'e', 'n', '_', '_']) (o := ['p', 'a', 'm']) (by kernel_rfl) owner_map]; kernel_rfl
theorem entry_map_iter : entryFor table "map.__iter__" = some Builtin.«dict_keyiterator.__iter__» :=
  entryFor_alias (id' := "dict_keyiterator.__iter__") (by kernel_rfl) (by first | rfl | decide +kernel | (unfold String.splitOn; simp +decide [String.splitOnAux])) (by decide +kernel) (by kernel_rfl)
theorem entry_map_next : entryFor table "map.__next__" = some Builtin.«map.__next__» := entryFor_of_tree (by kernel_rfl)
theorem entry_map_new : entryFor table "map.__new__" = some Builtin.«map.__new__» := entryFor_of_tree (by kernel_rfl)
theorem mro_map : mroOf (.type "map") = pure [.type "map", .type "object"] := by rw [mroOf_type]; kernel_rfl
theorem lookup_map_new : typeLookup (.type "map") "__new__" = pure (some (.builtin "map.__new__")) := by rw [typeLookup_type, builtinLookup_eq_fast]; kernel_rfl
theorem called_map : TypeCalled "map" "map.__new__" "object.__init__" :=
  ⟨by decide +kernel, by decide +kernel, ⟨_, _, mro_map⟩, madeBy_type mro_map lookup_map_new (by decide +kernel), by decide +kernel, by rw [isSubtype_type]; kernel_rfl, slot_map_init⟩
theorem typeCall_map_2 (a b : Value) : checkTypeCall "map" ⟨[a, b], []⟩ = pure () := by kernel_rfl
theorem newCall_map_2 (a b : Value) : checkBuiltinCall "map.__new__" ⟨[.type "map", a, b], []⟩ = pure () := by kernel_rfl
theorem sub_map : isSubtype (.type "map") (.type "map") = pure true := by rw [isSubtype_type]; kernel_rfl
theorem nolen_map : typeLookup (.type "map") "__len__" = pure none := by rw [typeLookup_type, builtinLookup_eq_fast]; kernel_rfl
theorem nohint_map : typeLookup (.type "map") "__length_hint__" = pure none := by rw [typeLookup_type, builtinLookup_eq_fast]; kernel_rfl
end Mine
end
section
set_option maxRecDepth 100000
namespace Mine
open PySem.Calls PySem.Spec
open PySem.AutoSeq1 (wpAny_loadPart')
abbrev IsMap (h : Heap) (M T : Addr) : Prop := h.get? M = some { cls := .type "map", dict := none, data := .fields #[.ref T, .type "str"], slots := #[] }
abbrev IsOne (h : Heap) (T : Addr) (a : Value) : Prop := h.get? T = some { cls := .type "tuple", dict := none, data := .seq #[a], slots := #[] }
section
variable {prog : Program} {w : World} {A : Around} {E : Value → Shared → Prop} {s : Shared}
theorem map_next_item {M T it l : Addr} {i : Nat} {items : Array Value} {x : Str} {t : Tok} {Q : Value → Shared → Prop}
    (hM : IsMap s.heap M T) (hT : IsOne s.heap T (.ref it)) (hit : s.heap.IsListIter it l i) (hl : s.heap.IsList l items) (hx : items[i]? = some (.str x t)) (hMi : M ≠ it)
    (hQ : ∀ h', h'.IsListIter it l (i + 1) → Heap.SameBut it s.heap h' → Q (.str x t) { s with heap := h' }) :
    wpAny (model prog w) A (Builtin.«map.__next__» ⟨[.ref M], []⟩) (fun fin s' => ∃ v, fin = .done (.ret v) ∧ Q v s') E s := by
  show wpAny _ _ (field (.ref M) 0 >>= _) _ _ _
  refine wpAny_bind (wpAny_field hM rfl (x := .ref T) rfl ?_)
  refine wpAny_bind (wpAny_seqItems hT rfl ?_)
  simp only [List.forIn_toArray, List.forIn_cons, List.forIn_nil]
  refine wpAny_bind (wpAny_bind (wpAny_bind (wpAny_holding (wpAny_nextOf_list_item hit hl hx fun h₁ hit₁ hs₁ => ?_))))
  refine wpAny_pure (wpAny_pure ?_)
  have hM₁ : IsMap h₁ M T := (hs₁.2 M hMi).trans hM
  refine wpAny_bind (wpAny_field hM₁ rfl (x := .type "str") rfl ?_)
  refine wpAny_bind (wpAny_holding (PySem.P.str_of_str ?_))
  refine wpAny_bind (wpAny_letGo ?_)
  exact wpAny_pure ⟨_, rfl, hQ _ hit₁ hs₁⟩
theorem map_next_end {M T it l : Addr} {i : Nat} {items : Array Value} {Q : Fin → Shared → Prop} (hh : A.handled = none)
    (hM : IsMap s.heap M T) (hT : IsOne s.heap T (.ref it)) (hit : s.heap.IsListIter it l i) (hl : s.heap.IsList l items) (hx : items[i]? = none)
    (hE : ∀ h' e, Heap.ExtBut it s.heap h' → (∃ o, h'.get? e = some o ∧ o.cls = .type "StopIteration") → E (.ref e) { s with heap := h' }) :
    wpAny (model prog w) A (Builtin.«map.__next__» ⟨[.ref M], []⟩) Q E s := by
  show wpAny _ _ (field (.ref M) 0 >>= _) _ _ _
  refine wpAny_bind (wpAny_field hM rfl (x := .ref T) rfl ?_)
  refine wpAny_bind (wpAny_seqItems hT rfl ?_)
  simp only [List.forIn_toArray, List.forIn_cons, List.forIn_nil]
  exact wpAny_bind (wpAny_bind (wpAny_bind (wpAny_holding (wpAny_nextOf_list_end hh hit hl hx hE))))
theorem pyIter_map {M T : Addr} {Q : Value → Shared → Prop} (hM : IsMap s.heap M T) (h : Q (.ref M) s) : wpAny (model prog w) A (pyIter (.ref M)) Q E s := by
  have hT : s.TypeIs (.ref M) "map" := ⟨_, hM, rfl⟩
  refine wpAny_pyIter_slot hT slot_map_iter (wpAny_call_entry slot_map_iter hT entry_map_iter ?_ (args_map_iter_1 _))
  show wpAny _ _ (ret (.ref M)) _ _ s
  exact wpAny_pure ⟨_, rfl, "map", _, hT, slot_map_next.lookup, h⟩
theorem pyNext_map_item {M T it l : Addr} {i : Nat} {items : Array Value} {x : Str} {t : Tok} {Q : Option Value → Shared → Prop}
    (hM : IsMap s.heap M T) (hT : IsOne s.heap T (.ref it)) (hit : s.heap.IsListIter it l i) (hl : s.heap.IsList l items) (hx : items[i]? = some (.str x t)) (hMi : M ≠ it)
    (hQ : ∀ h', h'.IsListIter it l (i + 1) → Heap.SameBut it s.heap h' → Q (some (.str x t)) { s with heap := h' }) :
    wpAny (model prog w) A (pyNext (.ref M)) Q E s := by
  have hy : s.TypeIs (.ref M) "map" := ⟨_, hM, rfl⟩
  unfold pyNext
  exact wpAny_bind (wpAny_attempt (wpAny_callSpecial?_slot (name := Str.ofString "__next__") hy slot_map_next
    (wpAny_call_entry slot_map_next hy entry_map_next
      (map_next_item hM hT hit hl hx hMi fun h' a b => wpAny_pure (hQ h' a b)) (args_map_next_1 _))))
theorem pyNext_map_end {M T it l : Addr} {i : Nat} {items : Array Value} {Q : Option Value → Shared → Prop} (hh : A.handled = none)
    (hM : IsMap s.heap M T) (hT : IsOne s.heap T (.ref it)) (hit : s.heap.IsListIter it l i) (hl : s.heap.IsList l items) (hx : items[i]? = none)
    (hQ : ∀ h', Heap.ExtBut it s.heap h' → Q none { s with heap := h' }) : wpAny (model prog w) A (pyNext (.ref M)) Q E s := by
  have hy : s.TypeIs (.ref M) "map" := ⟨_, hM, rfl⟩
  unfold pyNext
  refine wpAny_bind (wpAny_attempt (wpAny_callSpecial?_slot (name := Str.ofString "__next__") hy slot_map_next
    (wpAny_call_entry slot_map_next hy entry_map_next ?_ (args_map_next_1 _))))
  refine map_next_end hh hM hT hit hl hx fun h' x he' hx' => ?_
  obtain ⟨o, ho, hc⟩ := hx'
  refine wpAny_bind (wpAny_isInstance (T := "StopIteration") (b := true) ⟨o, ho, hc⟩ isSubtype_stop ?_)
  exact wpAny_pure (hQ _ he')
end
/-- map(str, list of texts) as a walk -/
theorem Walks.map {prog : Program} {w : World} {A : Around} (hh : A.handled = none) {M T it l : Addr} (hMi : M ≠ it) (hTi : T ≠ it) (hli : l ≠ it) (items : Array Value) (hs : ∀ (i : Nat) v, items[i]? = some v → ∃ x t, v = .str x t) :
    Walks prog w A M [M, T, it, l] [it] items.size (fun i v => items[i]? = some v) (fun i h => IsMap h M T ∧ IsOne h T (.ref it) ∧ h.IsListIter it l i ∧ h.IsList l items) where
  sub := fun b hb => by simp at hb; simp [hb]
  frame := fun _ _ _ st hk => ⟨hk M (by simp) _ st.1, hk T (by simp) _ st.2.1, st.2.2.1.at fun o e => hk it (by simp) o e, st.2.2.2.at fun o e => hk l (by simp) o e⟩
  item := fun i s Q E hi st hQ => by
    obtain ⟨x, t, e⟩ := hs i items[i] (by simp [hi])
    have hx : items[i]? = some (.str x t) := by rw [← e]; simp [hi]
    refine pyNext_map_item st.1 st.2.1 st.2.2.1 st.2.2.2 hx hMi fun h' hit' hs' => ?_
    exact hQ _ h' s.toks hx ⟨hs'.extBut M _ hMi st.1, hs'.extBut T _ hTi st.2.1, hit', st.2.2.2.extBut hs'.extBut hli⟩ fun b o hb e => hs'.extBut b o (fun h => hb (by simp [h])) e
  done := fun s Q E st hQ => pyNext_map_end hh st.1 st.2.1 st.2.2.1 st.2.2.2 (by simp) fun h' he' => hQ h' s.toks fun b o hb e => he' b o (fun h => hb (by simp [h])) e
  self := fun _ _ _ _ st hQ => pyIter_map st.1 hQ
end Mine
end
section
set_option maxRecDepth 100000
namespace Mine
open PySem.Calls PySem.Spec
section
variable {prog : Program} {w : World} {A : Around} {R : Result → Shared → Prop}
theorem extend_map_loop (hh : A.handled = none) {S M T it l : Addr} (hMi : M ≠ it) (hTi : T ≠ it) (hli : l ≠ it) (hSM : S ≠ M) (hST : S ≠ T) (hSi : S ≠ it) (hSl : S ≠ l) {vs : List Value} (hs : ∀ (i : Nat) v, vs.toArray[i]? = some v → ∃ x t, v = .str x t) (zs : List Value) (hz : zs.length + vs.length ≤ sizeLine) :
    ∀ (k i : Nat) (s : Shared) (c : Nat), vs.length - i = k → i ≤ vs.length → IsMap s.heap M T → IsOne s.heap T (.ref it) → s.heap.IsListIter it l i → s.heap.IsList l vs.toArray →
    s.heap.get? S = some (W.listOf (zs ++ vs.take i).toArray c) →
    (∀ h' tk c', (∀ b o, b ≠ S → b ≠ it → s.heap.get? b = some o → h'.get? b = some o) → h'.get? S = some (W.listOf (zs ++ vs).toArray c') → R (.ok (.ret .none)) { s with heap := h', toks := tk }) →
    codeAny (model prog w) A (.builtin "list.extend.loop" ⟨[.ref S, .ref M, .none], []⟩) R s := by
  have Wk := Walks.map (prog := prog) (w := w) (A := A.in1) hh hMi hTi hli vs.toArray hs
  intro k
  induction k with
  | zero =>
    intro i s c hk hi hM hT hit hl hS hR
    have hin : i = vs.length := by omega
    subst hin
    refine codeAny_builtin PySem.F.entry_extend_loop ?_
    rw [Around.under_plainId PySem.F.plain_extend_loop _]
    show wpAny _ A.in1 (pyNext (.ref M) >>= _) _ _ s
    refine wpAny_bind (Wk.done s _ _ (by rw [List.size_toArray]; exact ⟨hM, hT, hit, hl⟩) fun h' tk hm => ?_)
    refine wpAny_pure (hR h' tk c (fun b o _ hb e => hm b o (by simpa using hb) e) ?_)
    rw [hm S _ (by simpa using hSi) hS, List.take_of_length_le (Nat.le_refl _)]
  | succ k ih =>
    intro i s c hk hi hM hT hit hl hS hR
    have hlt : i < vs.length := by omega
    refine codeAny_builtin PySem.F.entry_extend_loop ?_
    rw [Around.under_plainId PySem.F.plain_extend_loop _]
    show wpAny _ A.in1 (pyNext (.ref M) >>= _) _ _ s
    refine wpAny_bind (Wk.item i s _ _ (by simpa using hlt) ⟨hM, hT, hit, hl⟩ fun v h' tk hP hst' hm => ?_)
    have hS' : h'.get? S = some (W.listOf (zs ++ vs.take i).toArray c) := hm S _ (by simpa using hSi) hS
    show wpAny _ A.in1 (updateSeq S (·.push v) >>= _) _ _ _
    refine wpAny_bind ?_
    have hv : vs[i]? = some v := by simpa using hP
    have oth : ∀ b o, b ≠ S → h'.get? b = some o → (h'.update S (Obj.mapSeq (·.push v))).get? b = some o := fun b o hb e => (Heap.get?_update_other _ _ (fun h : S = b => hb h.symm)).trans e
    have hS₂ : (h'.update S (Obj.mapSeq (·.push v))).get? S = some (W.listOf (zs ++ vs.take (i + 1)).toArray (c + 1)) := by
      rw [Heap.get?_update_self _ hS' rfl, List.take_add_one, hv]
      simp [Obj.mapSeq, W.listOf]
    refine wpAny_updateSeq hS' rfl (wpAny_pure ⟨plainId_quiet PySem.F.plain_extend_loop _, ih (i + 1) _ (c + 1) (by omega) hlt (oth _ _ (Ne.symm hSM) hst'.1) (oth _ _ (Ne.symm hST) hst'.2.1) (hst'.2.2.1.at fun o e => oth _ _ (Ne.symm hSi) e) (hst'.2.2.2.at fun o e => oth _ _ (Ne.symm hSl) e) hS₂ fun h'' tk'' c'' hk'' hS'' => ?_⟩)
      (by rw [List.size_toArray, List.length_append, List.length_take]; omega) (by rw [Array.size_push, List.size_toArray, List.length_append, List.length_take]; omega)
    exact hR h'' tk'' c'' (fun b o hb hb' e => hk'' b o hb hb' (oth b o hb (hm b o (by simpa using hb') e))) hS''
end
section
variable {prog : Program} {w : World} {A : Around} {E : Value → Shared → Prop} {s : Shared}
theorem extend_map (hh : A.handled = none) {S M T it l : Addr} {c : Nat} {Q : Value → Shared → Prop} (hMi : M ≠ it) (hTi : T ≠ it) (hli : l ≠ it) (hSM : S ≠ M) (hST : S ≠ T) (hSi : S ≠ it) (hSl : S ≠ l) {vs : List Value} (hs : ∀ (i : Nat) v, vs.toArray[i]? = some v → ∃ x t, v = .str x t) (zs : List Value) (hz : zs.length + vs.length + 8 ≤ sizeLine)
    (hM : IsMap s.heap M T) (hT : IsOne s.heap T (.ref it)) (hit : s.heap.IsListIter it l 0) (hl : s.heap.IsList l vs.toArray) (hS : s.heap.get? S = some (W.listOf zs.toArray c))
    (hQ : ∀ h' tk c', (∀ b o, b ≠ S → b ≠ it → s.heap.get? b = some o → h'.get? b = some o) → h'.get? S = some (W.listOf (zs ++ vs).toArray c') → Q .none { s with heap := h', toks := tk }) :
    wpAny (model prog w) A (call (.builtin "list.extend") [.ref S, .ref M]) Q E s := by
  have hTy : s.TypeIs (.ref M) "map" := ⟨_, hM, rfl⟩
  refine wpAny_call (codeAny_call_builtin PySem.F.slot_list_extend.plain PySem.F.entry_list_extend (PySem.F.slot_list_extend.check _ _ _ _ _ _ _ _ ⟨_, hS, rfl⟩ (PySem.F.args_list_extend_2 _ _) ?_))
  show wpAny _ A.in1 (Builtin.List.listExtendWith (.ref S) (.ref M) .none) _ _ s
  unfold Builtin.List.listExtendWith
  refine wpAny_bind (wpAny_typeOf hTy ?_)
  have h1 : Builtin.List.listSameRef (.ref S) (.ref M) = false := by simp [Builtin.List.listSameRef, hSM]
  have h2 : (Value.type "map" == Value.type "list") = false := by decide
  have h3 : (Value.type "map" == Value.type "tuple") = false := by decide
  simp only [h1, h2, h3, Bool.or_false, Bool.false_eq_true, if_false]
  refine wpAny_bind (pyIter_map hM ?_)
  refine wpAny_bind (wpAny_holding ?_)
  unfold Builtin.List.listLengthHint
  refine wpAny_bind (wpAny_specialOf hTy nolen_map ?_)
  show wpAny _ A.in1 (specialOf (Value.ref M) (Str.ofString "__length_hint__") >>= _) _ _ _
  refine wpAny_bind (wpAny_specialOf hTy nohint_map ?_)
  refine wpAny_pure ?_
  show wpAny _ A.in1 (rule "list.extend.makes-room" >>= fun _ => Builtin.List.listTouch (.ref S) >>= fun _ =>
    again (.builtin "list.extend.loop" ⟨[.ref S, .ref M, .none], []⟩)) _ _ _
  refine wpAny_bind (wpAny_rule ?_)
  refine wpAny_bind ?_
  show wpAny _ A.in1 (updateSeq S (·.push .none) >>= fun _ => updateSeq S (·.pop)) _ _ _
  refine wpAny_bind (wpAny_updateSeq hS rfl ?_ (by rw [List.size_toArray]; omega) (by rw [Array.size_push, List.size_toArray]; omega))
  have hS₂ := Heap.get?_update_self (Obj.mapSeq (·.push Value.none)) hS rfl
  refine wpAny_updateSeq hS₂ rfl ?_ (by rw [Array.size_push, List.size_toArray]; omega) (by rw [Array.size_pop, Array.size_push, List.size_toArray]; omega)
  have hS₃ := Heap.get?_update_self (Obj.mapSeq (·.pop)) hS₂ rfl
  have oth : ∀ b o, b ≠ S → s.heap.get? b = some o → ((s.heap.update S (Obj.mapSeq (·.push Value.none))).update S (Obj.mapSeq (·.pop))).get? b = some o :=
    fun b o hb e => (Heap.get?_update_other _ _ (Ne.symm hb)).trans ((Heap.get?_update_other _ _ (Ne.symm hb)).trans e)
  have hS₄ : ((s.heap.update S (Obj.mapSeq (·.push Value.none))).update S (Obj.mapSeq (·.pop))).get? S = some (W.listOf (zs ++ vs.take 0).toArray (c + 1 + 1)) := by
    rw [hS₃]; simp [Obj.mapSeq, W.listOf]
  refine wpAny_pure ⟨plainId_quiet PySem.F.plain_extend_loop _, extend_map_loop hh hMi hTi hli hSM hST hSi hSl hs zs (by omega) vs.length 0 _ _ (Nat.sub_zero _) (Nat.zero_le _) (oth _ _ (Ne.symm hSM) hM) (oth _ _ (Ne.symm hST) hT) (hit.at fun o e => oth _ _ (Ne.symm hSi) e) (hl.at fun o e => oth _ _ (Ne.symm hSl) e) hS₄ fun h' tk c' hk' hS' => hQ h' tk c' (fun b o hb hb' e => hk' b o hb hb' (oth b o hb e)) hS'⟩
end
end Mine
end
section
set_option maxRecDepth 100000
namespace Mine
open PySem.Calls PySem.Spec
open PySem.AutoSeq1 (wpAny_loadPart')
theorem meets_map_new (l : Addr) (items : Array Value) :
    Meets (Builtin.«map.__new__» ⟨[.type "map", .type "str", .ref l], []⟩) (fun _ R s => s.heap.IsList l items ∧
      R (.ok (.ret (.ref ((s.heap.push { cls := .type "list_iterator", data := .fields #[.ref l, .int 0 0] }).push { cls := .type "tuple", data := .seq #[.ref s.heap.objs.size] }).objs.size)))
        { s with heap := ((s.heap.push { cls := .type "list_iterator", data := .fields #[.ref l, .int 0 0] }).push { cls := .type "tuple", data := .seq #[.ref s.heap.objs.size] }).push { cls := .type "map", data := .fields #[.ref (s.heap.push { cls := .type "list_iterator", data := .fields #[.ref l, .int 0 0] }).objs.size, .type "str"] } }) :=
  .of_wp fun prog w A R s h => by
    obtain ⟨hp, g, d, tk, os⟩ := s; obtain ⟨hL, h⟩ := h
    have hsub := sub_map
    have hL' : Heap.IsList (Shared.heap ⟨hp, g, d, tk, os⟩) l items := hL
    unfold Builtin.«map.__new__»
    wp_walk using wpAny_pyIter_list hL'
    exact ⟨_, rfl, h⟩
theorem args_object_init_3 (a b c : Value) : argsOk "object.__init__" ⟨[a, b, c], []⟩ := by
  unfold argsOk; rw [signature?_of (id := "object.__init__") (n := ['_', '_', 't', 'i', 'n', 'i', '_', '_']) (o := ['t', 'c', 'e', 'j', 'b', 'o']) (by kernel_rfl) PySem.F.owner_object]; kernel_rfl
section
variable {prog : Program} {w : World} {A : Around} {E : Value → Shared → Prop} {s : Shared}
theorem call_map_str {l : Addr} {items : Array Value} {Q : Value → Shared → Prop} (hl : s.heap.IsList l items)
    (h : ∀ h' M T it, s.heap.objs.size ≤ it → T ≠ it → M ≠ it → s.heap.objs.size ≤ T → s.heap.objs.size ≤ M → IsMap h' M T → IsOne h' T (.ref it) → h'.IsListIter it l 0 →
      (∀ b o, s.heap.get? b = some o → h'.get? b = some o) → Q (.ref M) { s with heap := h' }) :
    wpAny (model prog w) A (call (.type "map") [.type "str", .ref l]) Q E s := by
  refine callType_new called_map (by decide) (typeCall_map_2 _ _) (newCall_map_2 _ _) (fun obj => args_object_init_3 obj _ _) entry_map_new (meets_map_new l items) ⟨hl, ?_⟩
  have z1 : (s.heap.push { cls := .type "list_iterator", data := .fields #[.ref l, .int 0 0] }).objs.size = s.heap.objs.size + 1 := Heap.size_push ..
  have z2 : ((s.heap.push { cls := .type "list_iterator", data := .fields #[.ref l, .int 0 0] }).push { cls := .type "tuple", data := .seq #[.ref s.heap.objs.size] }).objs.size = s.heap.objs.size + 1 + 1 := by rw [Heap.size_push, z1]
  show _ ∧ _
  have g1 := Heap.get?_push_size s.heap (o := { cls := .type "list_iterator", data := .fields #[.ref l, .int 0 0] }) rfl
  have g2 := Heap.get?_push_size (s.heap.push { cls := .type "list_iterator", data := .fields #[.ref l, .int 0 0] }) (o := { cls := .type "tuple", data := .seq #[.ref s.heap.objs.size] }) rfl
  have g3 := Heap.get?_push_size ((s.heap.push { cls := .type "list_iterator", data := .fields #[.ref l, .int 0 0] }).push { cls := .type "tuple", data := .seq #[.ref s.heap.objs.size] }) (o := { cls := .type "map", data := .fields #[.ref (s.heap.push { cls := .type "list_iterator", data := .fields #[.ref l, .int 0 0] }).objs.size, .type "str"] }) rfl
  refine ⟨⟨_, g3, rfl⟩, h _ _ (s.heap.push { cls := .type "list_iterator", data := .fields #[.ref l, .int 0 0] }).objs.size s.heap.objs.size (Nat.le_refl _) (by rw [z1]; exact Nat.succ_ne_self _) (by rw [z2]; omega) (by rw [z1]; omega) (by rw [z2]; omega) g3 (Heap.get?_push_of_some _ g2) ⟨_, Heap.get?_push_of_some _ (Heap.get?_push_of_some _ g1), rfl, rfl⟩ fun b o x => Heap.get?_push_of_some _ (Heap.get?_push_of_some _ (Heap.get?_push_of_some _ x))⟩
end
end Mine
end
section
namespace Mine
open PySem.Calls PySem.Spec
def MapAt (h₀ : Heap) (L : Addr) (news : List (Addr × Obj)) (h : Heap) (M l : Addr) : Prop :=
  ∃ T it, IsMap h M T ∧ IsOne h T (.ref it) ∧ h.IsListIter it l 0 ∧ h₀.get? it = none ∧ L ≠ it ∧ Off it news ∧ Off M news ∧ Off T news ∧ M ≠ it ∧ T ≠ it ∧ l ≠ it
section
variable {prog : Program} {w : World} {A : Around} {E : Value → Shared → Prop} {s : Shared} {h₀ : Heap} {L l : Addr} {m : Str → Option Value} {news : List (Addr × Obj)} {vs : List Value}
theorem map_step {Q : Value → Shared → Prop} (F : Fr h₀ L s.heap m) (N : News h₀ L s.heap news) (hl : h₀.IsList l vs.toArray)
    (h : ∀ h' M, Fr h₀ L h' m → News h₀ L h' news → MapAt h₀ L news h' M l → Q (.ref M) { s with heap := h' }) : wpAny (model prog w) A (call (.type "map") [.type "str", .ref l]) Q E s := by
  have hl' : s.heap.IsList l vs.toArray := hl.at fun o e => F.keep _ _ e
  refine call_map_str hl' fun h' M T it a b c d e hM hT hit k => h h' M (F.keeps k) (N.grown k) ⟨T, it, hM, hT, hit, ?_, ?_, ?_, ?_, ?_, c, b, ?_⟩
  · cases q : h₀.get? it with
    | none => rfl
    | some o => exact absurd (Nat.lt_of_lt_of_le (Heap.lt_size q) (Nat.le_trans F.above (Nat.le_trans (Nat.le_of_lt F.ns.lt) a))) (Nat.lt_irrefl _)
  · intro q; exact absurd (Nat.lt_of_lt_of_le F.ns.lt a) (q ▸ Nat.lt_irrefl _)
  · exact Off.of fun p hp q => absurd (Nat.lt_of_lt_of_le (Heap.lt_size (N p hp).1) a) (q ▸ Nat.lt_irrefl _)
  · exact Off.of fun p hp q => absurd (Nat.lt_of_lt_of_le (Heap.lt_size (N p hp).1) e) (q ▸ Nat.lt_irrefl _)
  · exact Off.of fun p hp q => absurd (Nat.lt_of_lt_of_le (Heap.lt_size (N p hp).1) d) (q ▸ Nat.lt_irrefl _)
  · obtain ⟨o, ho, _⟩ := hl'
    intro q; exact absurd (Nat.lt_of_lt_of_le (Heap.lt_size ho) a) (q ▸ Nat.lt_irrefl _)
theorem extend_step {Q : Value → Shared → Prop} {S M : Addr} {zs : List Value} {n : Nat} {xs : List Str} {g : Obj → List (Addr × Obj)} (hh : A.handled = none) (F : Fr h₀ L s.heap m) (N : News h₀ L s.heap news) (hl : h₀.IsList l vs.toArray) (hv : Pd StrV xs vs)
    (hM : MapAt h₀ L news s.heap M l) (U : UpdF S (W.listOf zs.toArray n) news g) (hz : zs.length + vs.length + 8 ≤ sizeLine)
    (h : ∀ h' tk c', Fr h₀ L h' m → News h₀ L h' (g (W.listOf (zs ++ vs).toArray c')) → Q .none { s with heap := h', toks := tk }) : wpAny (model prog w) A (call (.builtin "list.extend") [.ref S, .ref M]) Q E s := by
  obtain ⟨T, it, hMM, hT, hit, hbi, hLi, oi, oM, oT, hMi, hTi, hli⟩ := hM
  obtain ⟨pre, post, rfl, hg, h1, h2⟩ := U.split
  have hmem : (S, W.listOf zs.toArray n) ∈ pre ++ (S, W.listOf zs.toArray n) :: post := List.mem_append_right _ (.head _)
  have hS := N _ hmem
  have hl' : s.heap.IsList l vs.toArray := hl.at fun o e => F.keep _ _ e
  have hSl : S ≠ l := fun q => by obtain ⟨o, ho, _⟩ := hl; rw [← q] at ho; have := hS.2.2; rw [this] at ho; cases ho
  have hstr : ∀ (i : Nat) v, vs.toArray[i]? = some v → ∃ x t, v = .str x t := fun i v e => by
    obtain ⟨a, _, t, q⟩ := pd_at hv i v (by simpa using e)
    exact ⟨a, t, q⟩
  refine extend_map hh hMi hTi hli (fun q => oM.mem _ hmem q) (fun q => oT.mem _ hmem q) (fun q => oi.mem _ hmem q) hSl hstr zs hz hMM hT hit hl' hS.1 fun h' tk c' hk hS' => ?_
  have keepB : ∀ b o, h₀.get? b = some o → h'.get? b = some o := fun b o e => hk b o (fun q => by rw [q] at e; have := hS.2.2; rw [this] at e; cases e) (fun q => by rw [q, hbi] at e; cases e) (F.keep b o e)
  refine h h' tk c' ⟨F.ns.at' fun o e => hk _ _ (fun q => hS.2.1 q.symm) hLi e, keepB, F.above⟩ ?_
  rw [hg]
  intro p hp
  rcases List.mem_append.mp hp with hp | hp
  · have := N p (List.mem_append_left _ hp)
    exact ⟨hk _ _ (h1 p hp) (oi.mem _ (List.mem_append_left _ hp)) this.1, this.2⟩
  · rcases List.mem_cons.mp hp with rfl | hp
    · exact ⟨hS', hS.2⟩
    · have := N p (List.mem_append_right _ (List.mem_cons_of_mem _ hp))
      exact ⟨hk _ _ (h2 p hp) (oi.mem _ (List.mem_append_right _ (List.mem_cons_of_mem _ hp))) this.1, this.2⟩
end
end Mine
end
section
set_option maxRecDepth 100000
namespace Mine
open PySem.Calls PySem.Spec
theorem attr_no_stop : isSubtype (.type "AttributeError") (.type "StopIteration") = pure false := by rw [isSubtype_type]; kernel_rfl
section
variable {prog : Program} {w : World} {A : Around} {E : Value → Shared → Prop} {s : Shared}
/-- map.__next__ over an item of any kind: str of it -/
theorem map_next_own {M T it l : Addr} {i : Nat} {items : Array Value} {v : Value} {Q : Value → Shared → Prop}
    (hM : IsMap s.heap M T) (hT : IsOne s.heap T (.ref it)) (hit : s.heap.IsListIter it l i) (hl : s.heap.IsList l items) (hx : items[i]? = some v) (hMi : M ≠ it)
    (hQ : ∀ h', h'.IsListIter it l (i + 1) → Heap.SameBut it s.heap h' → wpAny (model prog w) A (call (.type "str") [v]) (fun y s' => ∃ x t, y = .str x t ∧ Q y s') E { s with heap := h' }) :
    wpAny (model prog w) A (Builtin.«map.__next__» ⟨[.ref M], []⟩) (fun fin s' => ∃ v, fin = .done (.ret v) ∧ Q v s') E s := by
  show wpAny _ _ (field (.ref M) 0 >>= _) _ _ _
  refine wpAny_bind (wpAny_field hM rfl (x := .ref T) rfl ?_)
  refine wpAny_bind (wpAny_seqItems hT rfl ?_)
  simp only [List.forIn_toArray, List.forIn_cons, List.forIn_nil]
  refine wpAny_bind (wpAny_bind (wpAny_bind (wpAny_holding (wpAny_nextOf_list_item hit hl hx fun h₁ hit₁ hs₁ => ?_))))
  refine wpAny_pure (wpAny_pure ?_)
  have hM₁ : IsMap h₁ M T := (hs₁.2 M hMi).trans hM
  refine wpAny_bind (wpAny_field hM₁ rfl (x := .type "str") rfl ?_)
  refine wpAny_bind (wpAny_holding (wpAny_mono (hQ _ hit₁ hs₁) (fun y s' hy => ?_) fun _ _ e => e))
  obtain ⟨x, t, rfl, hq⟩ := hy
  refine wpAny_bind (wpAny_letGo ?_)
  exact wpAny_pure ⟨_, rfl, hq⟩
theorem pyNext_map_own {M T it l : Addr} {i : Nat} {items : Array Value} {v : Value} {Q : Option Value → Shared → Prop}
    (hM : IsMap s.heap M T) (hT : IsOne s.heap T (.ref it)) (hit : s.heap.IsListIter it l i) (hl : s.heap.IsList l items) (hx : items[i]? = some v) (hMi : M ≠ it)
    (hQ : ∀ h', h'.IsListIter it l (i + 1) → Heap.SameBut it s.heap h' → wpAny (model prog w) A.in1 (call (.type "str") [v]) (fun y s' => ∃ x t, y = .str x t ∧ Q (some y) s') (fun e s' => (∃ a o, e = .ref a ∧ s'.heap.get? a = some o ∧ o.cls = .type "AttributeError") ∧ E e s') { s with heap := h' }) :
    wpAny (model prog w) A (pyNext (.ref M)) Q E s := by
  have hy : s.TypeIs (.ref M) "map" := ⟨_, hM, rfl⟩
  unfold pyNext
  refine wpAny_bind (wpAny_attempt (wpAny_callSpecial?_slot (name := Str.ofString "__next__") hy slot_map_next
    (wpAny_call_entry slot_map_next hy entry_map_next
      (map_next_own hM hT hit hl hx hMi fun h' a b => ?_) (args_map_next_1 _))))
  refine wpAny_mono (hQ h' a b) (fun y s' hy => ?_) fun e s' he => ?_
  · obtain ⟨x, t, rfl, hq⟩ := hy
    exact ⟨x, t, rfl, wpAny_pure hq⟩
  · obtain ⟨⟨a', o, rfl, ho, hc⟩, hE⟩ := he
    refine wpAny_bind (wpAny_isInstance (T := "AttributeError") (b := false) ⟨o, ho, hc⟩ attr_no_stop ?_)
    exact wpAny_throw hE
end
end Mine
end
section
set_option maxRecDepth 100000
namespace Mine
open PySem.Calls PySem.Spec
section
variable {prog : Program} {w : World} {A : Around} {R : Result → Shared → Prop}
/-- the loop of list.extend over map(str, [v]), v of any kind -/
theorem extend_own_loop (hh : A.handled = none) {S M T it l : Addr} (hMi : M ≠ it) (hTi : T ≠ it) (hli : l ≠ it) (hSM : S ≠ M) (hST : S ≠ T) (hSi : S ≠ it) (hSl : S ≠ l) {v : Value} (zs : List Value) (hz : zs.length + 1 ≤ sizeLine) {P : Str → Prop}
    (s : Shared) (c : Nat) (hM : IsMap s.heap M T) (hT : IsOne s.heap T (.ref it)) (hit : s.heap.IsListIter it l 0) (hl : s.heap.IsList l #[v]) (hS : s.heap.get? S = some (W.listOf zs.toArray c))
    (hstr : ∀ h₁, (∀ b o, b ≠ it → s.heap.get? b = some o → h₁.get? b = some o) →
      wpAny (model prog w) A.in1.in1 (call (.type "str") [v]) (fun y s' => ∃ x t h₂ tk₂, y = .str x t ∧ s' = { s with heap := h₂, toks := tk₂ } ∧ (∀ b o, h₁.get? b = some o → h₂.get? b = some o) ∧ P x)
        (fun e s' => (∃ a o, e = .ref a ∧ s'.heap.get? a = some o ∧ o.cls = .type "AttributeError") ∧ R (.error e) s') { s with heap := h₁ })
    (hR : ∀ (x : Str) (t : Tok) h' tk c', P x → (∀ b o, b ≠ S → b ≠ it → s.heap.get? b = some o → h'.get? b = some o) → h'.get? S = some (W.listOf (zs ++ [Value.str x t]).toArray c') → R (.ok (.ret .none)) { s with heap := h', toks := tk }) :
    codeAny (model prog w) A (.builtin "list.extend.loop" ⟨[.ref S, .ref M, .none], []⟩) R s := by
  refine codeAny_builtin PySem.F.entry_extend_loop ?_
  rw [Around.under_plainId PySem.F.plain_extend_loop _]
  show wpAny _ A.in1 (pyNext (.ref M) >>= _) _ _ s
  refine wpAny_bind (pyNext_map_own hM hT hit hl (i := 0) rfl hMi fun h₁ hit₁ hs₁ => ?_)
  have k₁ : ∀ b o, b ≠ it → s.heap.get? b = some o → h₁.get? b = some o := fun b o n e => hs₁.extBut b o n e
  refine wpAny_mono (hstr h₁ k₁) (fun y s' hy => ?_) fun e s' he => he
  obtain ⟨x, t, h₂, tk₂, rfl, rfl, k₂, hP⟩ := hy
  refine ⟨x, t, rfl, ?_⟩
  have hS' : h₂.get? S = some (W.listOf zs.toArray c) := k₂ _ _ (k₁ _ _ hSi hS)
  show wpAny _ A.in1 (updateSeq S (·.push (Value.str x t)) >>= _) _ _ _
  refine wpAny_bind ?_
  have oth : ∀ b o, b ≠ S → h₂.get? b = some o → (h₂.update S (Obj.mapSeq (·.push (Value.str x t)))).get? b = some o := fun b o hb e => (Heap.get?_update_other _ _ (fun h : S = b => hb h.symm)).trans e
  have hS₂ : (h₂.update S (Obj.mapSeq (·.push (Value.str x t)))).get? S = some (W.listOf (zs ++ [Value.str x t]).toArray (c + 1)) := by
    rw [Heap.get?_update_self _ hS' rfl]
    simp [Obj.mapSeq, W.listOf]
  have up : ∀ b o, b ≠ S → b ≠ it → s.heap.get? b = some o → (h₂.update S (Obj.mapSeq (·.push (Value.str x t)))).get? b = some o := fun b o n1 n2 e => oth b o n1 (k₂ _ _ (k₁ _ _ n2 e))
  refine wpAny_updateSeq hS' rfl (wpAny_pure ⟨plainId_quiet PySem.F.plain_extend_loop _, ?_⟩) (by rw [List.size_toArray]; omega) (by rw [Array.size_push, List.size_toArray]; omega)
  refine codeAny_builtin PySem.F.entry_extend_loop ?_
  rw [Around.under_plainId PySem.F.plain_extend_loop _]
  show wpAny _ A.in1 (pyNext (.ref M) >>= _) _ _ _
  refine wpAny_bind (pyNext_map_end hh (up _ _ (Ne.symm hSM) hMi hM) (up _ _ (Ne.symm hST) hTi hT) (hit₁.at fun o e => oth _ _ (Ne.symm hSi) (k₂ _ _ e)) (hl.at fun o e => up _ _ (Ne.symm hSl) hli e) (i := 1) rfl fun h' he' => ?_)
  refine wpAny_pure (hR x t h' _ (c + 1) hP (fun b o n1 n2 e => he' b o n2 (up b o n1 n2 e)) (he' S _ hSi hS₂))
end
section
variable {prog : Program} {w : World} {A : Around} {E : Value → Shared → Prop} {s : Shared}
theorem extend_own (hh : A.handled = none) {S M T it l : Addr} {c : Nat} {Q : Value → Shared → Prop} (hMi : M ≠ it) (hTi : T ≠ it) (hli : l ≠ it) (hSM : S ≠ M) (hST : S ≠ T) (hSi : S ≠ it) (hSl : S ≠ l) {v : Value} (zs : List Value) (hz : zs.length + 1 + 8 ≤ sizeLine) {P : Str → Prop}
    (hM : IsMap s.heap M T) (hT : IsOne s.heap T (.ref it)) (hit : s.heap.IsListIter it l 0) (hl : s.heap.IsList l #[v]) (hS : s.heap.get? S = some (W.listOf zs.toArray c))
    (hstr : ∀ h₁ tk₁, (∀ b o, b ≠ S → b ≠ it → s.heap.get? b = some o → h₁.get? b = some o) → (∃ c₁, h₁.get? S = some (W.listOf zs.toArray c₁)) →
      wpAny (model prog w) A.in1.in1 (call (.type "str") [v]) (fun y s' => ∃ x t h₂ tk₂, y = .str x t ∧ s' = { s with heap := h₂, toks := tk₂ } ∧ (∀ b o, h₁.get? b = some o → h₂.get? b = some o) ∧ P x)
        (fun e s' => (∃ a o, e = .ref a ∧ s'.heap.get? a = some o ∧ o.cls = .type "AttributeError") ∧ E e s') { s with heap := h₁, toks := tk₁ })
    (hQ : ∀ (x : Str) (t : Tok) h' tk c', P x → (∀ b o, b ≠ S → b ≠ it → s.heap.get? b = some o → h'.get? b = some o) → h'.get? S = some (W.listOf (zs ++ [Value.str x t]).toArray c') → Q .none { s with heap := h', toks := tk }) :
    wpAny (model prog w) A (call (.builtin "list.extend") [.ref S, .ref M]) Q E s := by
  have hTy : s.TypeIs (.ref M) "map" := ⟨_, hM, rfl⟩
  refine wpAny_call (codeAny_call_builtin PySem.F.slot_list_extend.plain PySem.F.entry_list_extend (PySem.F.slot_list_extend.check _ _ _ _ _ _ _ _ ⟨_, hS, rfl⟩ (PySem.F.args_list_extend_2 _ _) ?_))
  show wpAny _ A.in1 (Builtin.List.listExtendWith (.ref S) (.ref M) .none) _ _ s
  unfold Builtin.List.listExtendWith
  refine wpAny_bind (wpAny_typeOf hTy ?_)
  have h1 : Builtin.List.listSameRef (.ref S) (.ref M) = false := by simp [Builtin.List.listSameRef, hSM]
  have h2 : (Value.type "map" == Value.type "list") = false := by decide
  have h3 : (Value.type "map" == Value.type "tuple") = false := by decide
  simp only [h1, h2, h3, Bool.or_false, Bool.false_eq_true, if_false]
  refine wpAny_bind (pyIter_map hM ?_)
  refine wpAny_bind (wpAny_holding ?_)
  unfold Builtin.List.listLengthHint
  refine wpAny_bind (wpAny_specialOf hTy nolen_map ?_)
  show wpAny _ A.in1 (specialOf (Value.ref M) (Str.ofString "__length_hint__") >>= _) _ _ _
  refine wpAny_bind (wpAny_specialOf hTy nohint_map ?_)
  refine wpAny_pure ?_
  show wpAny _ A.in1 (rule "list.extend.makes-room" >>= fun _ => Builtin.List.listTouch (.ref S) >>= fun _ =>
    again (.builtin "list.extend.loop" ⟨[.ref S, .ref M, .none], []⟩)) _ _ _
  refine wpAny_bind (wpAny_rule ?_)
  refine wpAny_bind ?_
  show wpAny _ A.in1 (updateSeq S (·.push .none) >>= fun _ => updateSeq S (·.pop)) _ _ _
  refine wpAny_bind (wpAny_updateSeq hS rfl ?_ (by rw [List.size_toArray]; omega) (by rw [Array.size_push, List.size_toArray]; omega))
  have hS₂ := Heap.get?_update_self (Obj.mapSeq (·.push Value.none)) hS rfl
  refine wpAny_updateSeq hS₂ rfl ?_ (by rw [Array.size_push, List.size_toArray]; omega) (by rw [Array.size_pop, Array.size_push, List.size_toArray]; omega)
  have hS₃ := Heap.get?_update_self (Obj.mapSeq (·.pop)) hS₂ rfl
  have oth : ∀ b o, b ≠ S → s.heap.get? b = some o → ((s.heap.update S (Obj.mapSeq (·.push Value.none))).update S (Obj.mapSeq (·.pop))).get? b = some o :=
    fun b o hb e => (Heap.get?_update_other _ _ (Ne.symm hb)).trans ((Heap.get?_update_other _ _ (Ne.symm hb)).trans e)
  have hS₄ : ((s.heap.update S (Obj.mapSeq (·.push Value.none))).update S (Obj.mapSeq (·.pop))).get? S = some (W.listOf (zs).toArray (c + 1 + 1)) := by
    rw [hS₃]; simp [Obj.mapSeq, W.listOf]
  refine wpAny_pure ⟨plainId_quiet PySem.F.plain_extend_loop _, extend_own_loop hh hMi hTi hli hSM hST hSi hSl zs (by omega) _ _ (oth _ _ (Ne.symm hSM) hM) (oth _ _ (Ne.symm hST) hT) (hit.at fun o e => oth _ _ (Ne.symm hSi) e) (hl.at fun o e => oth _ _ (Ne.symm hSl) e) hS₄ (fun h₁ k₁ => ?_) fun x t h' tk c' hP hk' hS' => hQ x t h' tk c' hP (fun b o hb hb' e => hk' b o hb hb' (oth b o hb e)) hS'⟩
  exact hstr h₁ _ (fun b o n1 n2 e => k₁ b o n2 (oth b o n1 e)) ⟨_, k₁ _ _ hSi hS₄⟩
end
end Mine
end
section
set_option maxRecDepth 100000
namespace Mine
/-- an AttributeError that goes on -/
def AttrOn (e : Value) (s' : Shared) (P : Prop) : Prop := (∃ a o, e = .ref a ∧ s'.heap.get? a = some o ∧ o.cls = .type "AttributeError") ∧ P
section
variable {prog : Program} {w : World} {A : Around} {E : Value → Shared → Prop} {s : Shared} {h₀ : Heap} {L l : Addr} {m : Str → Option Value} {news : List (Addr × Obj)} {v : Value}
theorem extend_own_step {Q : Value → Shared → Prop} {S M : Addr} {zs : List Value} {n : Nat} {g : Obj → List (Addr × Obj)} {P : Str → Prop} (hh : A.handled = none) (F : Fr h₀ L s.heap m) (N : News h₀ L s.heap news) (hl : h₀.IsList l #[v])
    (hM : MapAt h₀ L news s.heap M l) (U : UpdF S (W.listOf zs.toArray n) news g) (hz : zs.length + 1 + 8 ≤ sizeLine)
    (hstr : ∀ h₁ tk₁ c₁, Fr h₀ L h₁ m → News h₀ L h₁ (g (W.listOf zs.toArray c₁)) →
      wpAny (model prog w) A.in1.in1 (call (.type "str") [v]) (fun y s' => ∃ x t h₂ tk₂, y = .str x t ∧ s' = { s with heap := h₂, toks := tk₂ } ∧ (∀ b o, h₁.get? b = some o → h₂.get? b = some o) ∧ P x)
        (fun e s' => AttrOn e s' (E e s')) { s with heap := h₁, toks := tk₁ })
    (h : ∀ (x : Str) (t : Tok) h' tk c', P x → Fr h₀ L h' m → News h₀ L h' (g (W.listOf (zs ++ [Value.str x t]).toArray c')) → Q .none { s with heap := h', toks := tk }) : wpAny (model prog w) A (call (.builtin "list.extend") [.ref S, .ref M]) Q E s := by
  obtain ⟨T, it, hMM, hT, hit, hbi, hLi, oi, oM, oT, hMi, hTi, hli⟩ := hM
  obtain ⟨pre, post, rfl, hg, h1, h2⟩ := U.split
  have hmem : (S, W.listOf zs.toArray n) ∈ pre ++ (S, W.listOf zs.toArray n) :: post := List.mem_append_right _ (.head _)
  have hS := N _ hmem
  have hl' : s.heap.IsList l #[v] := hl.at fun o e => F.keep _ _ e
  have hSl : S ≠ l := fun q => by obtain ⟨o, ho, _⟩ := hl; rw [← q] at ho; have := hS.2.2; rw [this] at ho; cases ho
  have fin : ∀ {h' : Heap} {zz : List Value} {c' : Nat}, (∀ b o, b ≠ S → b ≠ it → s.heap.get? b = some o → h'.get? b = some o) → h'.get? S = some (W.listOf zz.toArray c') → Fr h₀ L h' m ∧ News h₀ L h' (g (W.listOf zz.toArray c')) := by
    intro h' zz c' hk hS'
    have keepB : ∀ b o, h₀.get? b = some o → h'.get? b = some o := fun b o e => hk b o (fun q => by rw [q] at e; have := hS.2.2; rw [this] at e; cases e) (fun q => by rw [q, hbi] at e; cases e) (F.keep b o e)
    refine ⟨⟨F.ns.at' fun o e => hk _ _ (fun q => hS.2.1 q.symm) hLi e, keepB, F.above⟩, ?_⟩
    rw [hg]
    intro p hp
    rcases List.mem_append.mp hp with hp | hp
    · have := N p (List.mem_append_left _ hp)
      exact ⟨hk _ _ (h1 p hp) (oi.mem _ (List.mem_append_left _ hp)) this.1, this.2⟩
    · rcases List.mem_cons.mp hp with rfl | hp
      · exact ⟨hS', hS.2⟩
      · have := N p (List.mem_append_right _ (List.mem_cons_of_mem _ hp))
        exact ⟨hk _ _ (h2 p hp) (oi.mem _ (List.mem_append_right _ (List.mem_cons_of_mem _ hp))) this.1, this.2⟩
  refine extend_own hh hMi hTi hli (fun q => oM.mem _ hmem q) (fun q => oT.mem _ hmem q) (fun q => oi.mem _ hmem q) hSl zs hz (P := P) hMM hT hit hl' hS.1 (fun h₁ tk₁ k₁ ⟨c₁, hS₁⟩ => ?_) fun x t h' tk c' hP hk hS' => ?_
  · obtain ⟨F₁, N₁⟩ := fin k₁ hS₁
    exact hstr h₁ tk₁ c₁ F₁ N₁
  · obtain ⟨F₁, N₁⟩ := fin hk hS'
    exact h x t h' tk c' hP F₁ N₁
end
end Mine
end
section
namespace Mine
def RateE (k : Int) (v : Value) (es : List (Addr × Obj)) : Prop := (k = 0 ∧ v = .none ∧ es = []) ∨ (k = 4 ∧ ∃ D ta tb, v = .ref D ∧ es = [(D, ({ cls := .type "tuple", data := .seq #[.int 3 ta, .int 5 tb] } : Obj))]) ∨
  ∃ l l2 x d h1 h2 h3 h4 t1 t2 t3 t4 ex n, v = .ref x ∧ es = [(l, W.listOf #[] 0), (l2, W.listOf #[] 0), (x, instObj 59 d), (d, dictOf ([⟨h1, .str (Str.ofString "useragents") t1, .ref l2⟩, ⟨h2, .str (Str.ofString "rulelines") t2, .ref l⟩, ⟨h3, .str (Str.ofString "delay") t3, .none⟩, ⟨h4, .str (Str.ofString "req_rate") t4, .none⟩] ++ ex) n)] ∧
    ((k = 1 ∧ ∃ h5 h6 t5 t6 ta tb, ex = [⟨h5, .str (Str.ofString "requests") t5, .int 3 ta⟩, ⟨h6, .str (Str.ofString "seconds") t6, .int 5 tb⟩]) ∨ (k = 2 ∧ ∃ h5 t5 ta, ex = [⟨h5, .str (Str.ofString "requests") t5, .int 3 ta⟩]) ∨ (k = 3 ∧ ∃ h5 t5 ta, ex = [⟨h5, .str (Str.ofString "seconds") t5, .int 5 ta⟩]))
end Mine
local macro_rules | `(tactic| walk_at "execs cons") => `(tactic| ((with_reducible refine wpAny_execs_cons ?_); try dsimp only))
set_option maxRecDepth 100000 in
set_option maxHeartbeats 8000000 in
theorem Mine.rate03 {w : World} {p : Program} {loose : List Str} {mean : ExcName → Option Value} {mg mb : Str → Option Value} {base h₀ : Heap} {L : Addr} {m : Str → Option Value} {env : Env} {s : Shared} {Q : Value → Shared → Prop} {E : Value → Shared → Prop}
  (hf : env.frame = some L) (hke : env.scope.kind = .function) (B : Below callerA base [] h₀) (F₀ : Fr h₀ L s.heap m) (X : (Mine.hd03.heap_39 w.params).In h₀) (T : Top p loose mean mg mb h₀)
  {k : Int} {t : Tok} (h0 : 0 ≤ k) (h4 : k ≤ 4)
  (hpost : ∀ h' tk v (es : List (Addr × Obj)), (∀ b o, s.heap.get? b = some o → h'.get? b = some o) → (∀ p ∈ es, h'.get? p.1 = some p.2 ∧ s.heap.get? p.1 = none) → Mine.RateE k v es → Q v { s with heap := h', toks := tk }) :
  wpAny (model PySem.Challenge.rw_kn0091_03.row.prog w) (callerA.deeper env) (call (.ref 77) [.int k t] []) Q E s := by
  w_top off
  revert X; k_fill; intro X
  refine wpAny_call (Mine.code_base (K := Mine.hd03.heap_39 w.params) B F₀ X T rfl hf hke (by k_is) (by k_is) (by k_room) (BindsTo.of_eq rfl) (locs rfl) ?_ rfl rfl rfl (by decide))
  intro L' h₁ F' N' B' X' T'
  dsimp only
  clear F₀ B X T
  have hk : k = 0 ∨ k = 1 ∨ k = 2 ∨ k = 3 ∨ k = 4 := by omega
  rcases hk with rfl | rfl | rfl | rfl | rfl
  all_goals repeat' (first | (k_unfold; (try dsimp only)) | walk1 | (dsimp only; walk1) | fail "no step")
  all_goals (try dsimp only)
  all_goals rename Fr _ _ _ _ => F9
  all_goals rename News _ _ _ _ => N9
  all_goals refine Mine.LeaveB.intro F9 (hpost _ _ _ _ F9.keep (fun p hp => ⟨(N9 p hp).1, (N9 p hp).2.2⟩) ?_)
  · exact .inl ⟨rfl, rfl, rfl⟩
  · exact .inr (.inr ⟨_, _, _, _, _, _, _, _, _, _, _, _, [_, _], _, rfl, rfl, .inl ⟨rfl, _, _, _, _, _, _, rfl⟩⟩)
  · exact .inr (.inr ⟨_, _, _, _, _, _, _, _, _, _, _, _, [_], _, rfl, rfl, .inr (.inl ⟨rfl, _, _, _, rfl⟩)⟩)
  · exact .inr (.inr ⟨_, _, _, _, _, _, _, _, _, _, _, _, [_], _, rfl, rfl, .inr (.inr ⟨rfl, _, _, _, rfl⟩)⟩)
  · exact .inr (.inl ⟨rfl, _, _, _, rfl, rfl⟩)
end
section
namespace Mine
abbrev tup2 (a b : Int) (ta tb : Tok) : Obj := { cls := .type "tuple", data := .seq #[.int a ta, .int b tb] }
abbrev own4 (h1 h2 h3 h4 : Int) (t1 t2 t3 t4 : Tok) (ua rl dl rr : Value) : List DictEntry :=
  [⟨h1, .str (Str.ofString "useragents") t1, ua⟩, ⟨h2, .str (Str.ofString "rulelines") t2, rl⟩, ⟨h3, .str (Str.ofString "delay") t3, dl⟩, ⟨h4, .str (Str.ofString "req_rate") t4, rr⟩]
/-- the rule of a kind, its objects among es -/
def RuleIn (es : List (Addr × Obj)) (j : Int) (its : List Value) : Prop := (j = 0 ∧ its = []) ∨ (j = 1 ∧ ∃ t, its = [.str (Str.ofString "Disallow: /") t]) ∨
  ∃ x d D l l2 h1 h2 h3 h4 t1 t2 t3 t4 ta tb n c, its = [.ref x] ∧ (x, instObj 59 d) ∈ es ∧ (d, dictOf (own4 h1 h2 h3 h4 t1 t2 t3 t4 (.ref l2) (.ref l) .none (.ref D)) n) ∈ es ∧ (D, tup2 1 2 ta tb) ∈ es ∧
    ((j = 2 ∧ ∃ t, (l2, W.listOf #[.str (Str.ofString "plum") t] c) ∈ es) ∨ (j = 3 ∧ (l2, W.listOf #[] c) ∈ es))
end Mine
local macro_rules | `(tactic| walk_at "execs cons") => `(tactic| ((with_reducible refine wpAny_execs_cons ?_); try dsimp only))
set_option maxRecDepth 100000 in
set_option maxHeartbeats 8000000 in
theorem Mine.rule03 {w : World} {p : Program} {loose : List Str} {mean : ExcName → Option Value} {mg mb : Str → Option Value} {base h₀ : Heap} {L : Addr} {m : Str → Option Value} {env : Env} {s : Shared} {Q : Value → Shared → Prop} {E : Value → Shared → Prop}
  (hf : env.frame = some L) (hke : env.scope.kind = .function) (B : Below callerA base [] h₀) (F₀ : Fr h₀ L s.heap m) (X : (Mine.hd03.heap_39 w.params).In h₀) (T : Top p loose mean mg mb h₀)
  {k : Int} {t : Tok} (h0 : 0 ≤ k) (h4 : k ≤ 3)
  (hpost : ∀ h' tk D its n (es : List (Addr × Obj)), (∀ b o, s.heap.get? b = some o → h'.get? b = some o) → (∀ p ∈ (D, W.listOf (List.toArray its) n) :: es, h'.get? p.1 = some p.2 ∧ s.heap.get? p.1 = none) → (∀ p ∈ es, @Ne Nat p.1 D) → its.length ≤ 1 → Mine.RuleIn es k its → Q (.ref D) { s with heap := h', toks := tk }) :
  wpAny (model PySem.Challenge.rw_kn0091_03.row.prog w) (callerA.deeper env) (call (.ref 84) [.int k t] []) Q E s := by
  w_top off
  revert X; k_fill; intro X
  refine wpAny_call (Mine.code_base (K := Mine.hd03.heap_39 w.params) B F₀ X T rfl hf hke (by k_is) (by k_is) (by k_room) (BindsTo.of_eq rfl) (locs rfl) ?_ rfl rfl rfl (by decide))
  intro L' h₁ F' N' B' X' T'
  dsimp only
  clear F₀ B X T
  have hk : k = 0 ∨ k = 1 ∨ k = 2 ∨ k = 3 := by omega
  rcases hk with rfl | rfl | rfl | rfl
  all_goals repeat' (first | (k_unfold; (try dsimp only)) | walk1 | (dsimp only; walk1) | fail "no step")
  all_goals (try dsimp only)
  all_goals rename Fr _ _ _ _ => F9
  all_goals rename News _ _ _ _ => N9
  all_goals refine Mine.LeaveB.intro F9 (hpost _ _ _ _ _ _ F9.keep (fun p hp => ⟨(N9 p hp).1, (N9 p hp).2.2⟩) ?_ (by first | exact Nat.zero_le _ | exact Nat.le_refl _) ?_)
  · rename (_ < _) => l9
    simp only [List.forall_mem_cons, List.not_mem_nil, false_implies, implies_true, and_true]
    refine PySem.W.neN ?_
    omega
  · exact .inl ⟨rfl, rfl⟩
  · rename (_ < _) => l9
    simp only [List.forall_mem_cons, List.not_mem_nil, false_implies, implies_true, and_true]
    refine PySem.W.neN ?_
    omega
  · exact .inr (.inl ⟨rfl, _, rfl⟩)
  · rename (_ < _ ∧ _) => l9
    simp only [List.forall_mem_cons, List.not_mem_nil, false_implies, implies_true, and_true]
    (repeat' apply And.intro) <;> (refine PySem.W.neN ?_; omega)
  · exact .inr (.inr ⟨_, _, _, _, _, _, _, _, _, _, _, _, _, _, _, _, _, rfl, .tail _ (.tail _ (.tail _ (.head _))), .tail _ (.tail _ (.tail _ (.tail _ (.head _)))), .head _, .inl ⟨rfl, _, .tail _ (.tail _ (.head _))⟩⟩)
  · rename (_ < _ ∧ _) => l9
    simp only [List.forall_mem_cons, List.not_mem_nil, false_implies, implies_true, and_true]
    (repeat' apply And.intro) <;> (refine PySem.W.neN ?_; omega)
  · exact .inr (.inr ⟨_, _, _, _, _, _, _, _, _, _, _, _, _, _, _, _, _, rfl, .tail _ (.tail _ (.tail _ (.head _))), .tail _ (.tail _ (.tail _ (.tail _ (.head _)))), .head _, .inr ⟨rfl, .tail _ (.tail _ (.head _))⟩⟩)
end
section
namespace Mine
/-- the rate of a kind, its objects as P says -/
def RateP (P : Addr → Obj → Prop) (k : Int) (v : Value) : Prop := (k = 0 ∧ v = .none) ∨ (k = 4 ∧ ∃ D ta tb, v = .ref D ∧ P D (tup2 3 5 ta tb)) ∨
  ∃ x d ua rl h1 h2 h3 h4 h5 t1 t2 t3 t4 t5 n, v = .ref x ∧ P x (instObj 59 d) ∧
    ((k = 1 ∧ ∃ h6 t6 ta tb, P d (dictOf [⟨h1, .str (Str.ofString "useragents") t1, ua⟩, ⟨h2, .str (Str.ofString "rulelines") t2, rl⟩, ⟨h3, .str (Str.ofString "delay") t3, .none⟩, ⟨h4, .str (Str.ofString "req_rate") t4, .none⟩, ⟨h5, .str (Str.ofString "requests") t5, .int 3 ta⟩, ⟨h6, .str (Str.ofString "seconds") t6, .int 5 tb⟩] n)) ∨
     (k = 2 ∧ ∃ ta, P d (dictOf [⟨h1, .str (Str.ofString "useragents") t1, ua⟩, ⟨h2, .str (Str.ofString "rulelines") t2, rl⟩, ⟨h3, .str (Str.ofString "delay") t3, .none⟩, ⟨h4, .str (Str.ofString "req_rate") t4, .none⟩, ⟨h5, .str (Str.ofString "requests") t5, .int 3 ta⟩] n)) ∨
     (k = 3 ∧ ∃ ta, P d (dictOf [⟨h1, .str (Str.ofString "useragents") t1, ua⟩, ⟨h2, .str (Str.ofString "rulelines") t2, rl⟩, ⟨h3, .str (Str.ofString "delay") t3, .none⟩, ⟨h4, .str (Str.ofString "req_rate") t4, .none⟩, ⟨h5, .str (Str.ofString "seconds") t5, .int 5 ta⟩] n)))
theorem rateP {k : Int} {v : Value} {es : List (Addr × Obj)} (h : RateE k v es) : RateP (fun a o => (a, o) ∈ es) k v := by
  rcases h with ⟨h1, h2, _⟩ | ⟨h1, D, ta, tb, h2, rfl⟩ | ⟨l, l2, x, d, h1, h2, h3, h4, t1, t2, t3, t4, ex, n, rfl, rfl, h⟩
  · exact .inl ⟨h1, h2⟩
  · exact .inr (.inl ⟨h1, D, ta, tb, h2, .head _⟩)
  · rcases h with ⟨hk, h5, h6, t5, t6, ta, tb, rfl⟩ | ⟨hk, h5, t5, ta, rfl⟩ | ⟨hk, h5, t5, ta, rfl⟩
    · exact .inr (.inr ⟨x, d, _, _, h1, h2, h3, h4, h5, t1, t2, t3, t4, t5, n, rfl, .tail _ (.tail _ (.head _)), .inl ⟨hk, h6, t6, ta, tb, .tail _ (.tail _ (.tail _ (.head _)))⟩⟩)
    · exact .inr (.inr ⟨x, d, _, _, h1, h2, h3, h4, h5, t1, t2, t3, t4, t5, n, rfl, .tail _ (.tail _ (.head _)), .inr (.inl ⟨hk, ta, .tail _ (.tail _ (.tail _ (.head _)))⟩)⟩)
    · exact .inr (.inr ⟨x, d, _, _, h1, h2, h3, h4, h5, t1, t2, t3, t4, t5, n, rfl, .tail _ (.tail _ (.head _)), .inr (.inr ⟨hk, ta, .tail _ (.tail _ (.tail _ (.head _)))⟩)⟩)
/-- the rule of a kind, its objects as P says -/
def RuleP (P : Addr → Obj → Prop) (j : Int) (its : List Value) : Prop := (j = 0 ∧ its = []) ∨ (j = 1 ∧ ∃ t, its = [.str (Str.ofString "Disallow: /") t]) ∨
  ∃ x d D l l2 h1 h2 h3 h4 t1 t2 t3 t4 ta tb n c, its = [.ref x] ∧ P x (instObj 59 d) ∧ P d (dictOf (own4 h1 h2 h3 h4 t1 t2 t3 t4 (.ref l2) (.ref l) .none (.ref D)) n) ∧ P D (tup2 1 2 ta tb) ∧
    ((j = 2 ∧ ∃ t, P l2 (W.listOf (List.toArray [.str (Str.ofString "plum") t]) c)) ∨ (j = 3 ∧ P l2 (W.listOf (List.toArray []) c)))
theorem ruleP {j : Int} {its : List Value} {es : List (Addr × Obj)} (h : RuleIn es j its) : RuleP (fun a o => (a, o) ∈ es) j its := h
theorem RateP.mono {P P' : Addr → Obj → Prop} {k : Int} {v : Value} (hp : ∀ a o, P a o → P' a o) (h : RateP P k v) : RateP P' k v := by
  rcases h with h | ⟨hk, D, ta, tb, hv, h⟩ | ⟨x, d, ua, rl, h1, h2, h3, h4, h5, t1, t2, t3, t4, t5, n, hv, hx, h⟩
  · exact .inl h
  · exact .inr (.inl ⟨hk, D, ta, tb, hv, hp _ _ h⟩)
  · refine .inr (.inr ⟨x, d, ua, rl, h1, h2, h3, h4, h5, t1, t2, t3, t4, t5, n, hv, hp _ _ hx, ?_⟩)
    rcases h with ⟨hk, h6, t6, ta, tb, h⟩ | ⟨hk, ta, h⟩ | ⟨hk, ta, h⟩
    · exact .inl ⟨hk, h6, t6, ta, tb, hp _ _ h⟩
    · exact .inr (.inl ⟨hk, ta, hp _ _ h⟩)
    · exact .inr (.inr ⟨hk, ta, hp _ _ h⟩)
theorem RuleP.mono {P P' : Addr → Obj → Prop} {j : Int} {its : List Value} (hp : ∀ a o, P a o → P' a o) (h : RuleP P j its) : RuleP P' j its := by
  rcases h with h | h | ⟨x, d, D, l, l2, h1, h2, h3, h4, t1, t2, t3, t4, ta, tb, n, c, hv, hx, hd, hD, h⟩
  · exact .inl h
  · exact .inr (.inl h)
  · refine .inr (.inr ⟨x, d, D, l, l2, h1, h2, h3, h4, t1, t2, t3, t4, ta, tb, n, c, hv, hp _ _ hx, hp _ _ hd, hp _ _ hD, ?_⟩)
    rcases h with ⟨hk, t, h⟩ | ⟨hk, h⟩
    · exact .inl ⟨hk, t, hp _ _ h⟩
    · exact .inr ⟨hk, hp _ _ h⟩
theorem inst_up {g h : Heap} {L : Addr} {m : Str → Option Value} {x C : Addr} {ox : Obj} {od : Option Obj} (I : InstAt g x ox C od) (F : Fr g L h m) : InstAt h x ox C od :=
  ⟨F.keep _ _ I.at_, I.cls, I.no, by
    have := I.dict
    revert this
    cases ox.dict with
    | none => cases od with
      | none => exact id
      | some o => exact id
    | some a => cases od with
      | none => exact id
      | some o => exact fun e => F.keep _ _ e⟩
/-- an Entry's own dict, as __init__ leaves it -/
abbrev entryDict (h1 h2 h3 h4 : Int) (t1 t2 t3 t4 : Tok) (ua rl dl rr : Value) (n : Nat) : Obj := dictOf (own4 h1 h2 h3 h4 t1 t2 t3 t4 ua rl dl rr) n
theorem inst_at {h : Heap} {x d : Addr} {od : Obj} (h1 : h.get? x = some (instObj 59 d)) (h2 : h.get? d = some od) : InstAt h x (instObj 59 d) 59 (some od) :=
  ⟨h1, rfl, rfl, h2⟩
section
variable {prog : Program} {w : World} {A : Around} {E : Value → Shared → Prop} {s : Shared} {g : Heap} {L l : Addr} {m : Str → Option Value} {Q : Bool → Shared → Prop}
theorem truthy_nil (hl : g.IsList l (List.toArray [])) (F : Fr g L s.heap m) (h : Q false { s with toks := s.toks + 1 + 1 }) : wpAny (model prog w) A (truthy (.ref l)) Q E s :=
  wpAny_truthy_list (hl.at fun o e => F.keep _ _ e) (by decide) h
theorem truthy_one {v : Value} (hl : g.IsList l (List.toArray [v])) (F : Fr g L s.heap m) (h : Q true { s with toks := s.toks + 1 + 1 }) : wpAny (model prog w) A (truthy (.ref l)) Q E s :=
  wpAny_truthy_list (hl.at fun o e => F.keep _ _ e) (by show (((1 : Nat) : Int) < _); decide) h
end
end Mine
end
section
namespace Mine
theorem list_at {h : Heap} {a : Addr} {xs : List Value} {n : Nat} (e : h.get? a = some (W.listOf xs.toArray n)) : h.IsList a xs.toArray := PySem.IsL.isList (n := n) e
end Mine
local macro_rules | `(tactic| k_inst) => `(tactic| first | exact Mine.inst_up (by assumption) (by assumption) | exact Mine.inst_up (Mine.inst_up (by assumption) (by assumption)) (by assumption))
local macro_rules | `(tactic| walk_at "execs cons") => `(tactic| ((with_reducible refine wpAny_execs_cons ?_); try dsimp only))
set_option maxRecDepth 100000 in
set_option maxHeartbeats 8000000 in
/-- __str__ of a record without agents, called from a map inside a __str__ -/
theorem Mine.strE {w : World} {p : Program} {loose : List Str} {mean : ExcName → Option Value} {mg mb : Str → Option Value} {base h₀ : Heap} {L : Addr} {m : Str → Option Value} {env0 env1 env : Env} {A₀ : Around} {s : Shared} {Q : Value → Shared → Prop} {E : Value → Shared → Prop}
  (hf : env.frame = some L) (hke : env.scope.kind = .function) (B : Below A₀ base [env1, env0] h₀) (F₀ : Fr h₀ L s.heap m) (X : (Mine.hd03.heap_39 w.params).In h₀) (T : Top p loose mean mg mb h₀)
  {x d l : Addr} {h1 h2 h3 h4 : Int} {t1 t2 t3 t4 : Tok} {rl dl rr : Value} {n : Nat}
  (I : InstAt s.heap x (instObj 59 d) 59 (some (Mine.entryDict h1 h2 h3 h4 t1 t2 t3 t4 (.ref l) rl dl rr n))) (hl : s.heap.IsList l (List.toArray []))
  (hpost : ∀ h' tk t', (∀ b o, s.heap.get? b = some o → h'.get? b = some o) → Q (.str (Str.ofString "") t') { s with heap := h', toks := tk }) :
  wpAny (model PySem.Challenge.rw_kn0091_03.row.prog w) (((callerA.deeper env0).deeper env1).in1.in1.deeper env).in1.in1.in1.in1 (call (.ref 42) [.ref x] []) Q E s := by
  w_top off
  revert X; k_fill; intro X
  have hua : ([] : List Value).length ≤ 1 := by simp
  refine wpAny_call (Mine.code_base (K := Mine.hd03.heap_39 w.params) B F₀ X T rfl hf hke (by k_is) (by k_is) (by k_room) (BindsTo.of_eq rfl) (locs rfl) ?_ rfl rfl rfl (by decide))
  intro L' h₁ F' N' B' X' T'
  dsimp only
  clear F₀ B X T
  repeat' (first | (k_unfold; (try dsimp only)) | walk1 | (dsimp only; walk1) | fail "no step")
  dsimp only
  rename Fr _ _ _ _ => F9
  exact Mine.LeaveB.intro F9 (hpost _ _ _ F9.keep)
end
section
namespace Mine
theorem findObj_miss {K : Frag} {C : Addr} {od : Obj} {name : Str} (hh : hasDictIn K C = true) (ha : findIn K (.ref C) name = some none) (hc : copiedNames.contains name = false) (hl : lookIn name od = some none) :
    findObj K C (some od) name = some .missing := by
  obtain ⟨cd, hc', hd⟩ := any_some hh
  unfold findObj
  have ho : W.ownOf cd (some od) name = some none := by unfold W.ownOf; rw [if_pos hd]; exact hl
  rw [hc', Option.bind_some, ha, Option.bind_some]
  simp only [Option.bind_some, ho, hc, Bool.false_and, Bool.false_eq_true, if_false]
def uaLine (a : Str) : Str := Str.ofString "User-agent: " ++ a
theorem isExc_AttributeError : isSubtype (.type "AttributeError") (.type "BaseException") = pure true := by rw [isSubtype_type]; kernel_rfl
theorem notTuple_AttributeError : isSubtype (.type ((Manifest.find? "AttributeError").elim "type" fun x => x.metatype)) (.type "tuple") = pure false := by
  rw [show ((Manifest.find? "AttributeError").elim "type" fun x => x.metatype) = "type" from by kernel_rfl, isSubtype_type]; kernel_rfl
def front (late : Bool) : Str := Str.ofString "User-agent: fig\n" ++ (if late then Str.ofString "Crawl-delay: 0\n" else Str.ofString "")
def AgentsV (odd : Bool) (ua : List Value) : Prop := if odd then ∃ t, ua = [.str (Str.ofString "fig") t] else ua = []
def DelayV (late : Bool) (v : Value) : Prop := if late then ∃ t, v = .int 0 t else v = .none
def rateTxt (k : Int) : Str := if k = 0 then Str.ofString "" else Str.ofString "Request-rate: 3/5\n"
def ruleTxt (j : Int) : Str := if j = 0 then Str.ofString "Allow:" else if j = 1 then Str.ofString "Disallow: /" else Str.ofString ""
def TextV (odd late : Bool) (k j : Int) (v : Value) : Prop :=
  if odd = false then ∃ t, v = .str (Str.ofString "") t else if 1 < k ∨ j = 2 then v = .none else ∃ t, v = .str (front late ++ rateTxt k ++ ruleTxt j) t
theorem rule_len {P : Addr → Obj → Prop} {j : Int} {its : List Value} (h : RuleP P j its) : its.length ≤ 1 := by
  rcases h with ⟨_, rfl⟩ | ⟨_, t, rfl⟩ | ⟨x, d, D, l, l2, h1, h2, h3, h4, t1, t2, t3, t4, ta, tb, n, c, rfl, _⟩ <;> simp
theorem agents_len {odd : Bool} {ua : List Value} (h : AgentsV odd ua) : ua.length ≤ 1 := by
  cases odd with
  | false => have e : ua = [] := h; subst e; simp
  | true => obtain ⟨t, rfl⟩ := h; simp

theorem attr_on {base G : Heap} {l : List Env} {e : Addr} {news : List (Addr × Obj)} {s' : Shared} {P : Prop} (R : RaisedSN base G l e (.type "AttributeError") news s'.heap) (h : P) : AttrOn (.ref e) s' P := by
  obtain ⟨_, _, _, _, _, hfl⟩ := R
  obtain ⟨o, h1, h2⟩ := hfl.there
  exact ⟨⟨e, o, rfl, h1, h2⟩, h⟩
theorem textV_none {late : Bool} {k j : Int} (h : 1 < k ∨ j = 2) : TextV true late k j .none := by
  unfold TextV
  rw [if_neg (by decide), if_pos h]
theorem textV_str {late : Bool} {k j : Int} {x : Str} {t : Tok} (h : ¬ (1 < k ∨ j = 2)) (e : x = front late ++ rateTxt k ++ ruleTxt j) : TextV true late k j (.str x t) := by
  unfold TextV
  rw [if_neg (by decide), if_neg h, e]
  exact ⟨_, rfl⟩
end Mine
local macro_rules | `(tactic| kts_caughtN) => `(tactic| ((with_reducible show wpAny _ _ (noteFrame _ _) (fun _ s₂ => wpAny _ _ (setFlight _ none) (fun _ s₃ => wpAny _ _ (handleBy _ _ (ExceptHandler.ExceptHandler (some (Expr.Name ("AttributeError" : Str) _)) none _ _ :: _)) _ _ s₃) _ s₂) _ _); k_dflt (refine' caught_SN0 (T' := "AttributeError") ?R ?F ?K ?U ?XB ?TB ?D ?T0 ?ex PyProof.Rows.Boot.«AttributeError» ?hn Mine.isExc_AttributeError Mine.notTuple_AttributeError ?hs ?_; (case R => assumption); (case F => assumption); (case K => assumption); (case U => assumption); (case XB => assumption); (case TB => assumption); (case D => assumption); (case T0 => first | assumption | exact KtsTurn.refl); (case hs => kts_sub); (case ex => k_is); (case hn => decide); k_whole); intro h' g' T' F' N' K' X' P' D'; (try k_lift K'); (try k_sweep)))
local macro_rules | `(tactic| k_inst) => `(tactic| first | exact Mine.inst_up (by assumption) (by assumption) | exact Mine.inst_up (Mine.inst_up (by assumption) (by assumption)) (by assumption))
local macro_rules | `(tactic| walk_at "leaving ref") => `(tactic| (k_here; (refine' Mine.leave_newOfS ?k1 ?k0 ?k2 ?k3 ?_; (case k0 => assumption); (case k2 => assumption); (case k1 => assumption); (case k3 => k_asm); k_whole; intro h' S' R' U'; (try dsimp only at S' R' U' ⊢))))
local macro_rules | `(tactic| walk_at "pyIter ref") => `(tactic| (k_here; refine Mine.stop ?_))
local macro_rules | `(tactic| walk_at "exec For Name Attribute cons nil") => `(tactic| (k_here; k_dflt (refine Mine.For_T (by k_asm) (by intro _ _; rfl) ?_)))
local macro_rules | `(tactic| walk_at "call builtin:list.append") => `(tactic| (k_here; (with_reducible show wpAny _ _ (call (Value.builtin _) [Value.ref _, _]) _ _ _); k_dflt (refine' Mine.append_l ?k1 ?k2 ?k3 ?_ ?z; (case k1 => k_asm); (case k2 => k_asm); (case k3 => k_upd); (case z => (rw [PySem.sizeLine_eq]; (try simp only [List.length_append, List.length_cons, List.length_nil]); omega)); k_whole); intro h' F' N'; (try k_sweep)))
local macro_rules | `(tactic| walk_at "call type:map") => `(tactic| (k_here; k_dflt (refine Mine.map_step (by k_asm) (by k_asm) (by assumption) ?_); intro h' M' F' N' m'; (try k_sweep)))
local macro_rules | `(tactic| walk_at "call builtin:list.extend") => `(tactic| (k_here; refine Mine.stop ?_))
local macro_rules | `(tactic| walk_at "truthy ref") => `(tactic| (k_here; (with_reducible show wpAny _ _ (truthy (Value.ref _)) _ _ _); first | (k_dflt (refine Mine.truthy_one (by assumption) (by assumption) ?_)) | (k_dflt (refine Mine.truthy_nil (by assumption) (by assumption) ?_))))
local macro_rules | `(tactic| walk_at "execs cons") => `(tactic| ((with_reducible refine wpAny_execs_cons ?_); try dsimp only))
local macro_rules | `(tactic| walk_at "execs cons Assign cons") => `(tactic| (k_here; walk_at "execs cons"))
local macro_rules | `(tactic| walk_at "call builtin:str.join") => `(tactic| (k_here; refine Mine.stop ?_))
set_option maxRecDepth 100000 in
set_option maxHeartbeats 8000000 in
theorem Mine.text03 {w : World} {p : Program} {loose : List Str} {mean : ExcName → Option Value} {mg mb : Str → Option Value} {base h₀ : Heap} {L : Addr} {m : Str → Option Value} {env : Env} {s : Shared} {Q : Value → Shared → Prop} {E : Value → Shared → Prop}
  (hf : env.frame = some L) (hke : env.scope.kind = .function) (B : Below callerA base [] h₀) (F₀ : Fr h₀ L s.heap m) (X : (Mine.hd03.heap_39 w.params).In h₀) (T : Top p loose mean mg mb h₀) (XB : (Mine.hd03.heap_39 w.params).In base) (TB : Top p loose mean mg mb base)
  {x d l lr : Addr} {h1 h2 h3 h4 : Int} {t1 t2 t3 t4 : Tok} {dl rr : Value} {n : Nat} {ua ru : List Value} {odd late : Bool} {k j : Int}
  (I : InstAt s.heap x (instObj 59 d) 59 (some (Mine.entryDict h1 h2 h3 h4 t1 t2 t3 t4 (.ref l) (.ref lr) dl rr n))) (hl : s.heap.IsList l ua.toArray) (hlr : s.heap.IsList lr ru.toArray)
  (hu : Mine.AgentsV odd ua) (hd : Mine.DelayV late dl) (hr : Mine.RateP (fun a o => s.heap.get? a = some o) k rr) (hv : Mine.RuleP (fun a o => s.heap.get? a = some o) j ru)
  (hpost : ∀ h' tk r, Fr h₀ L h' m → (∀ b o, @Ne Nat b L → s.heap.get? b = some o → h'.get? b = some o) → Mine.TextV odd late k j r → Q r { s with heap := h', toks := tk }) :
  wpAny (model PySem.Challenge.rw_kn0091_03.row.prog w) (callerA.deeper env) (call (.ref 70) [.ref x] []) Q E s := by
  w_top off
  revert X; k_fill; intro X
  refine wpAny_call (Mine.code_baseS (K := Mine.hd03.heap_39 w.params) B F₀ X T rfl hf hke (by k_is) (by k_is) (by k_room) (BindsTo.of_eq rfl) (locs rfl) ?_ rfl rfl rfl (by decide))
  intro L' h₁ F' N' B' X' T' D'
  dsimp only
  clear B X T
  repeat' (first | (k_unfold; (try dsimp only)) | walk1 | (dsimp only; walk1) | fail "no step")
  rename Fr s.heap L' _ _ => FG9
  replace hl := hl.at fun o e => FG9.keep _ _ e
  replace hlr := hlr.at fun o e => FG9.keep _ _ e
  replace hr := hr.mono fun a o e => FG9.keep _ _ e
  replace hv := hv.mono fun a o e => FG9.keep _ _ e
  have hru : ru.length ≤ 1 := Mine.rule_len hv
  have hua : ua.length ≤ 1 := Mine.agents_len hu
  cases odd with
  | false =>
    have e9 : ua = [] := hu
    subst e9
    (repeat' (first | (k_unfold; (try dsimp only)) | walk1 | (dsimp only; walk1) | fail "no step"))
    rename Fr s.heap L' _ _ => kF9
    unfold Mine.LeaveT
    have kb := Mine.back_S hf F₀ KtsTurn.refl kF9
    exact hpost _ _ _ kb.1 kb.2 ⟨_, rfl⟩
  | true =>
    obtain ⟨ta, rfl⟩ := hu
    (repeat' (first | (k_unfold; (try dsimp only)) | walk1 | (dsimp only; walk1) | fail "no step"))
    rename Fr s.heap L' _ _ => F8
    rename Fr _ _ _ _ => F9
    rename News _ _ _ [_] => N9
    have hpd : Mine.Pd Mine.StrV [Str.ofString "fig"] [.str (Str.ofString "fig") ta] := .cons ⟨_, rfl⟩ .nil
    refine Mine.unstop (Mine.forT_pd_l (its := List.toArray _) hpd [Str.ofString "agent"] [] (fun pre u zs => Mine.Pd Mine.StrV (pre.map Mine.uaLine) zs) rfl (.inl (by assumption)) F9 (by exact N9) .nil ?_ ?_)
    · intro pre a post v u zs c I1 oI1 h2 tk2 hsp hv1 hJ hoff0 F2 N2
      clear F9 N9
      simp only [List.nil_append] at N2
      have hoff := hoff0
      simp only [Mine.Off, List.nil_append, and_true] at hoff
      simp only [Mine.over] at F2
      obtain ⟨t, rfl⟩ := hv1
      have hzl := Mine.pd_len hJ
      rw [List.length_map] at hzl
      have hpl : pre.length ≤ 0 ∧ pre.length + 1 ≤ 1 := by have := congrArg List.length hsp; simp at this; omega
      have hal : a.length ≤ 3 := by
        have hm : a ∈ [Str.ofString "fig"] := by rw [hsp]; simp
        rw [List.mem_singleton.mp hm]
        decide +kernel
      (repeat' (first | (k_unfold; (try dsimp only)) | walk1 | (dsimp only; walk1) | fail "no step"))
      dsimp only [Mine.TurnPost]
      refine Mine.TurnEnd.mk' [] (by assumption) (by assumption) (by exact hoff0) ⟨fun z1 h1 => by simp only [if_neg (Mine.off1 h1)], zs ++ [_], c + 1, rfl, ?_⟩
      rw [List.map_append]
      exact PySem.Paired.snoc hJ ⟨_, by rw [Str.empty_append]; rfl⟩
    · intro u zs c h2 tk2 hJ F2 N2
      clear F9 N9
      simp only [List.nil_append] at N2
      simp only [Mine.over] at F2
      dsimp only
      cases hJ with
      | cons hz hJ =>
      cases hJ
      obtain ⟨tz, rfl⟩ := hz
      cases late with
      | false =>
        have e9 : dl = .none := hd
        subst e9
        rcases hr with ⟨rfl, rfl⟩ | ⟨rfl, DD, t5, t6, rfl, hD⟩ | ⟨y, d9, ua9, rl9, g1, g2, g3, g4, g5, q1, q2, q3, q4, q5, n9, rfl, hy, hyk⟩
        · rcases hv with ⟨rfl, rfl⟩ | ⟨rfl, tr, rfl⟩ | ⟨z, dz, Dz, lz, lz2, e1, e2, e3, e4, f1, f2, f3, f4, f5, f6, nz, cz, rfl, hz1, hz2, hz3, hz4⟩
          · (repeat' (first | (k_unfold; (try dsimp only)) | walk1 | (dsimp only; walk1) | fail "no step"))
            rename News _ _ _ _ => N7
            refine Mine.unstop (join_listW (Mine.is_l N7 (by k_mem)) (Mine.strs_pd (.cons ⟨_, rfl⟩ (.cons ⟨_, rfl⟩ .nil))) (by decide) (by decide +kernel) ?_)
            intro t' k'
            (repeat' (first | (k_unfold; (try dsimp only)) | walk1 | (dsimp only; walk1) | fail "no step"))
            rename Fr s.heap L' _ _ => kF9
            unfold Mine.LeaveT
            have kb := Mine.back_S hf F₀ KtsTurn.refl kF9
            exact hpost _ _ _ kb.1 kb.2 (Mine.textV_str (by decide) (by decide +kernel))
          · (repeat' (first | (k_unfold; (try dsimp only)) | walk1 | (dsimp only; walk1) | fail "no step"))
            rename Fr _ _ _ _ => F6
            rename News _ _ _ _ => N6
            have hpr : Mine.Pd Mine.StrV [Str.ofString "Disallow: /"] [.str (Str.ofString "Disallow: /") tr] := .cons ⟨_, rfl⟩ .nil
            refine Mine.unstop (Mine.extend_step rfl F6 N6 (by assumption) hpr (by assumption) (by k_updF) (by rw [PySem.sizeLine_eq]; (try simp only [List.length_append, List.length_cons, List.length_nil]); omega) ?_)
            intro h3 tk3 c3 F3 N3
            clear F6 N6
            (repeat' (first | (k_unfold; (try dsimp only)) | walk1 | (dsimp only; walk1) | fail "no step"))
            rename News _ _ _ _ => N7
            refine Mine.unstop (join_listW (Mine.is_l N7 (by k_mem)) (Mine.strs_pd (.cons ⟨_, rfl⟩ (.cons ⟨_, rfl⟩ .nil))) (by decide) (by decide +kernel) ?_)
            intro t' k'
            (repeat' (first | (k_unfold; (try dsimp only)) | walk1 | (dsimp only; walk1) | fail "no step"))
            rename Fr s.heap L' _ _ => kF9
            unfold Mine.LeaveT
            have kb := Mine.back_S hf F₀ KtsTurn.refl kF9
            exact hpost _ _ _ kb.1 kb.2 (Mine.textV_str (by decide) (by decide +kernel))
          · have Iz := Mine.inst_at hz1 hz2
            rcases hz4 with ⟨rfl, tz4, hz4⟩ | ⟨rfl, hz4⟩
            · (repeat' (first | (k_unfold; (try dsimp only)) | walk1 | (dsimp only; walk1) | fail "no step"))
              rename Fr _ _ _ _ => F6
              rename News _ _ _ _ => N6
              refine Mine.unstop (Mine.extend_own_step (P := fun _ => False) rfl F6 N6 (by assumption) (by assumption) (by k_updF) (by rw [PySem.sizeLine_eq]; (try simp only [List.length_append, List.length_cons, List.length_nil]); omega) (fun h₁ tk₁ c₁ F₁ N₁ => ?_) ?_)
              · (repeat' (first | (k_unfold; (try dsimp only)) | walk1 | (dsimp only; walk1) | fail "no step"))
                replace hz3 := Fr.keep (by assumption) _ _ hz3
                have hz5 := Mine.list_at (Fr.keep (by assumption) _ _ hz4)
                (repeat' (first | (k_unfold; (try dsimp only)) | walk1 | (dsimp only; walk1) | fail "no step"))
                rename Fr _ _ _ _ => F5
                rename News _ _ _ (_ :: _) => N5
                have hpz : Mine.Pd Mine.StrV [Str.ofString "plum"] [.str (Str.ofString "plum") tz4] := .cons ⟨_, rfl⟩ .nil
                refine Mine.unstop (Mine.forT_pd_l (its := List.toArray _) hpz [Str.ofString "agent"] [] (fun pre u zs => Mine.Pd Mine.StrV (pre.map Mine.uaLine) zs) rfl (.inl (by assumption)) F5 (by exact N5) .nil ?_ ?_)
                · intro pre a post v u zs c I1 oI1 h2 tk2 hsp hv1 hJ hoff0 F2 N2
                  clear F5 N5
                  simp only [List.nil_append] at N2
                  have hoff := hoff0
                  simp only [Mine.Off, List.nil_append, and_true] at hoff
                  simp only [Mine.over] at F2
                  obtain ⟨t, rfl⟩ := hv1
                  have hzl := Mine.pd_len hJ
                  rw [List.length_map] at hzl
                  have hpl : pre.length ≤ 0 ∧ pre.length + 1 ≤ 1 := by have := congrArg List.length hsp; simp at this; omega
                  have hal : a.length ≤ 4 := by
                    have hm : a ∈ [Str.ofString "plum"] := by rw [hsp]; simp
                    rw [List.mem_singleton.mp hm]
                    decide +kernel
                  (repeat' (first | (k_unfold; (try dsimp only)) | walk1 | (dsimp only; walk1) | fail "no step"))
                  dsimp only [Mine.TurnPost]
                  refine Mine.TurnEnd.mk' [] (by assumption) (by assumption) (by exact hoff0) ⟨fun z1 h1 => by simp only [if_neg (Mine.off1 h1)], zs ++ [_], c + 1, rfl, ?_⟩
                  rw [List.map_append]
                  exact PySem.Paired.snoc hJ ⟨_, by rw [Str.empty_append]; rfl⟩
                · intro u zs c h2 tk2 hJ F2 N2
                  clear F5 N5
                  simp only [List.nil_append] at N2
                  simp only [Mine.over] at F2
                  dsimp only
                  (repeat' (first | (k_unfold; (try dsimp only)) | walk1 | (dsimp only; walk1) | fail "no step"))
                  rename Fr _ _ _ _ => F4
                  refine getAttr_miss_tuple (o := Mine.tup2 1 2 f5 f6) (F4.keep _ _ hz3) rfl rfl rfl (am_miss_of_fast (by decide +kernel)) (by decide +kernel) rfl (fun h' tk' e' x' => ?_)
                  (repeat' (first | (k_unfold; (try dsimp only)) | walk1 | (dsimp only; walk1) | fail "no step"))
                  rename RaisedSN _ _ _ _ _ _ _ => R4
                  refine Mine.attr_on R4 ?_
                  (repeat' (first | (k_unfold; (try dsimp only)) | walk1 | (dsimp only; walk1) | fail "no step"))
                  dsimp only
                  rename KtsTurn _ s.heap _ => kT9
                  rename Fr _ L' _ _ => kF9
                  unfold Mine.LeaveT
                  have kb := Mine.back_S hf F₀ kT9 kF9
                  exact hpost _ _ _ kb.1 kb.2 (Mine.textV_none (by first | exact .inl (by decide) | exact .inr rfl))
              · intro xz tz5 h3 tk3 c3 hxz
                exact hxz.elim
            · (repeat' (first | (k_unfold; (try dsimp only)) | walk1 | (dsimp only; walk1) | fail "no step"))
              rename Fr _ _ _ _ => F6
              rename News _ _ _ _ => N6
              refine Mine.unstop (Mine.extend_own_step (P := fun q => q = Str.ofString "") rfl F6 N6 (by assumption) (by assumption) (by k_updF) (by rw [PySem.sizeLine_eq]; (try simp only [List.length_append, List.length_cons, List.length_nil]); omega) (fun h₁ tk₁ c₁ F₁ N₁ => ?_) ?_)
              · refine kso_call (f := 42) (by k_units) ((by assumption : (Mine.hd03.heap_39 w.params).In _).keeps F₁.keep) (Mine.inst_up Iz F₁) (by k_is) (by k_is) (Mine.strE rfl rfl (by assumption) F₁ (by assumption) (by assumption) (Mine.inst_up Iz F₁) (Mine.list_at (F₁.keep _ _ hz4)) ?_)
                intro h3 tk3 t3 k3
                exact ⟨_, _, _, _, rfl, rfl, k3, rfl⟩
              · intro xz tz5 h3 tk3 c3 hxz F3 N3
                subst hxz
                (repeat' (first | (k_unfold; (try dsimp only)) | walk1 | (dsimp only; walk1) | fail "no step"))
                rename News _ _ _ _ => N7
                refine Mine.unstop (join_listW (Mine.is_l N7 (by k_mem)) (Mine.strs_pd (.cons ⟨_, rfl⟩ (.cons ⟨_, rfl⟩ .nil))) (by decide) (by decide +kernel) ?_)
                intro t' k'
                (repeat' (first | (k_unfold; (try dsimp only)) | walk1 | (dsimp only; walk1) | fail "no step"))
                rename Fr s.heap L' _ _ => kF9
                unfold Mine.LeaveT
                have kb := Mine.back_S hf F₀ KtsTurn.refl kF9
                exact hpost _ _ _ kb.1 kb.2 (Mine.textV_str (by decide) (by decide +kernel))
        · (repeat' (first | (k_unfold; (try dsimp only)) | walk1 | (dsimp only; walk1) | fail "no step"))
          rename Fr _ _ _ _ => F6
          refine getAttr_miss_tuple (o := Mine.tup2 3 5 t5 t6) (F6.keep _ _ hD) rfl rfl rfl (am_miss_of_fast (by decide +kernel)) (by decide +kernel) rfl (fun h' tk' e' x' => ?_)
          (repeat' (first | (k_unfold; (try dsimp only)) | walk1 | (dsimp only; walk1) | fail "no step"))
          dsimp only
          rename KtsTurn _ s.heap _ => kT9
          rename Fr _ L' _ _ => kF9
          unfold Mine.LeaveT
          have kb := Mine.back_S hf F₀ kT9 kF9
          exact hpost _ _ _ kb.1 kb.2 (Mine.textV_none (by first | exact .inl (by decide) | exact .inr rfl))
        · rcases hyk with ⟨rfl, g6, q6, t5, t6, hyd⟩ | ⟨rfl, t5, hyd⟩ | ⟨rfl, t5, hyd⟩
          · have Iy := Mine.inst_at hy hyd
            rcases hv with ⟨rfl, rfl⟩ | ⟨rfl, tr, rfl⟩ | ⟨z, dz, Dz, lz, lz2, e1, e2, e3, e4, f1, f2, f3, f4, f5, f6, nz, cz, rfl, hz1, hz2, hz3, hz4⟩
            · (repeat' (first | (k_unfold; (try dsimp only)) | walk1 | (dsimp only; walk1) | fail "no step"))
              rename News _ _ _ _ => N7
              refine Mine.unstop (join_listW (Mine.is_l N7 (by k_mem)) (Mine.strs_pd (.cons ⟨_, rfl⟩ (.cons ⟨_, rfl⟩ (.cons ⟨_, rfl⟩ .nil)))) (by decide) (by decide +kernel) ?_)
              intro t' k'
              (repeat' (first | (k_unfold; (try dsimp only)) | walk1 | (dsimp only; walk1) | fail "no step"))
              rename Fr s.heap L' _ _ => kF9
              unfold Mine.LeaveT
              have kb := Mine.back_S hf F₀ KtsTurn.refl kF9
              exact hpost _ _ _ kb.1 kb.2 (Mine.textV_str (by decide) (by decide +kernel))
            · (repeat' (first | (k_unfold; (try dsimp only)) | walk1 | (dsimp only; walk1) | fail "no step"))
              rename Fr _ _ _ _ => F6
              rename News _ _ _ _ => N6
              have hpr : Mine.Pd Mine.StrV [Str.ofString "Disallow: /"] [.str (Str.ofString "Disallow: /") tr] := .cons ⟨_, rfl⟩ .nil
              refine Mine.unstop (Mine.extend_step rfl F6 N6 (by assumption) hpr (by assumption) (by k_updF) (by rw [PySem.sizeLine_eq]; (try simp only [List.length_append, List.length_cons, List.length_nil]); omega) ?_)
              intro h3 tk3 c3 F3 N3
              clear F6 N6
              (repeat' (first | (k_unfold; (try dsimp only)) | walk1 | (dsimp only; walk1) | fail "no step"))
              rename News _ _ _ _ => N7
              refine Mine.unstop (join_listW (Mine.is_l N7 (by k_mem)) (Mine.strs_pd (.cons ⟨_, rfl⟩ (.cons ⟨_, rfl⟩ (.cons ⟨_, rfl⟩ .nil)))) (by decide) (by decide +kernel) ?_)
              intro t' k'
              (repeat' (first | (k_unfold; (try dsimp only)) | walk1 | (dsimp only; walk1) | fail "no step"))
              rename Fr s.heap L' _ _ => kF9
              unfold Mine.LeaveT
              have kb := Mine.back_S hf F₀ KtsTurn.refl kF9
              exact hpost _ _ _ kb.1 kb.2 (Mine.textV_str (by decide) (by decide +kernel))
            · have Iz := Mine.inst_at hz1 hz2
              rcases hz4 with ⟨rfl, tz4, hz4⟩ | ⟨rfl, hz4⟩
              · (repeat' (first | (k_unfold; (try dsimp only)) | walk1 | (dsimp only; walk1) | fail "no step"))
                rename Fr _ _ _ _ => F6
                rename News _ _ _ _ => N6
                refine Mine.unstop (Mine.extend_own_step (P := fun _ => False) rfl F6 N6 (by assumption) (by assumption) (by k_updF) (by rw [PySem.sizeLine_eq]; (try simp only [List.length_append, List.length_cons, List.length_nil]); omega) (fun h₁ tk₁ c₁ F₁ N₁ => ?_) ?_)
                · (repeat' (first | (k_unfold; (try dsimp only)) | walk1 | (dsimp only; walk1) | fail "no step"))
                  replace hz3 := Fr.keep (by assumption) _ _ hz3
                  have hz5 := Mine.list_at (Fr.keep (by assumption) _ _ hz4)
                  (repeat' (first | (k_unfold; (try dsimp only)) | walk1 | (dsimp only; walk1) | fail "no step"))
                  rename Fr _ _ _ _ => F5
                  rename News _ _ _ (_ :: _) => N5
                  have hpz : Mine.Pd Mine.StrV [Str.ofString "plum"] [.str (Str.ofString "plum") tz4] := .cons ⟨_, rfl⟩ .nil
                  refine Mine.unstop (Mine.forT_pd_l (its := List.toArray _) hpz [Str.ofString "agent"] [] (fun pre u zs => Mine.Pd Mine.StrV (pre.map Mine.uaLine) zs) rfl (.inl (by assumption)) F5 (by exact N5) .nil ?_ ?_)
                  · intro pre a post v u zs c I1 oI1 h2 tk2 hsp hv1 hJ hoff0 F2 N2
                    clear F5 N5
                    simp only [List.nil_append] at N2
                    have hoff := hoff0
                    simp only [Mine.Off, List.nil_append, and_true] at hoff
                    simp only [Mine.over] at F2
                    obtain ⟨t, rfl⟩ := hv1
                    have hzl := Mine.pd_len hJ
                    rw [List.length_map] at hzl
                    have hpl : pre.length ≤ 0 ∧ pre.length + 1 ≤ 1 := by have := congrArg List.length hsp; simp at this; omega
                    have hal : a.length ≤ 4 := by
                      have hm : a ∈ [Str.ofString "plum"] := by rw [hsp]; simp
                      rw [List.mem_singleton.mp hm]
                      decide +kernel
                    (repeat' (first | (k_unfold; (try dsimp only)) | walk1 | (dsimp only; walk1) | fail "no step"))
                    dsimp only [Mine.TurnPost]
                    refine Mine.TurnEnd.mk' [] (by assumption) (by assumption) (by exact hoff0) ⟨fun z1 h1 => by simp only [if_neg (Mine.off1 h1)], zs ++ [_], c + 1, rfl, ?_⟩
                    rw [List.map_append]
                    exact PySem.Paired.snoc hJ ⟨_, by rw [Str.empty_append]; rfl⟩
                  · intro u zs c h2 tk2 hJ F2 N2
                    clear F5 N5
                    simp only [List.nil_append] at N2
                    simp only [Mine.over] at F2
                    dsimp only
                    (repeat' (first | (k_unfold; (try dsimp only)) | walk1 | (dsimp only; walk1) | fail "no step"))
                    rename Fr _ _ _ _ => F4
                    refine getAttr_miss_tuple (o := Mine.tup2 1 2 f5 f6) (F4.keep _ _ hz3) rfl rfl rfl (am_miss_of_fast (by decide +kernel)) (by decide +kernel) rfl (fun h' tk' e' x' => ?_)
                    (repeat' (first | (k_unfold; (try dsimp only)) | walk1 | (dsimp only; walk1) | fail "no step"))
                    rename RaisedSN _ _ _ _ _ _ _ => R4
                    refine Mine.attr_on R4 ?_
                    (repeat' (first | (k_unfold; (try dsimp only)) | walk1 | (dsimp only; walk1) | fail "no step"))
                    dsimp only
                    rename KtsTurn _ s.heap _ => kT9
                    rename Fr _ L' _ _ => kF9
                    unfold Mine.LeaveT
                    have kb := Mine.back_S hf F₀ kT9 kF9
                    exact hpost _ _ _ kb.1 kb.2 (Mine.textV_none (by first | exact .inl (by decide) | exact .inr rfl))
                · intro xz tz5 h3 tk3 c3 hxz
                  exact hxz.elim
              · (repeat' (first | (k_unfold; (try dsimp only)) | walk1 | (dsimp only; walk1) | fail "no step"))
                rename Fr _ _ _ _ => F6
                rename News _ _ _ _ => N6
                refine Mine.unstop (Mine.extend_own_step (P := fun q => q = Str.ofString "") rfl F6 N6 (by assumption) (by assumption) (by k_updF) (by rw [PySem.sizeLine_eq]; (try simp only [List.length_append, List.length_cons, List.length_nil]); omega) (fun h₁ tk₁ c₁ F₁ N₁ => ?_) ?_)
                · refine kso_call (f := 42) (by k_units) ((by assumption : (Mine.hd03.heap_39 w.params).In _).keeps F₁.keep) (Mine.inst_up Iz F₁) (by k_is) (by k_is) (Mine.strE rfl rfl (by assumption) F₁ (by assumption) (by assumption) (Mine.inst_up Iz F₁) (Mine.list_at (F₁.keep _ _ hz4)) ?_)
                  intro h3 tk3 t3 k3
                  exact ⟨_, _, _, _, rfl, rfl, k3, rfl⟩
                · intro xz tz5 h3 tk3 c3 hxz F3 N3
                  subst hxz
                  (repeat' (first | (k_unfold; (try dsimp only)) | walk1 | (dsimp only; walk1) | fail "no step"))
                  rename News _ _ _ _ => N7
                  refine Mine.unstop (join_listW (Mine.is_l N7 (by k_mem)) (Mine.strs_pd (.cons ⟨_, rfl⟩ (.cons ⟨_, rfl⟩ (.cons ⟨_, rfl⟩ .nil)))) (by decide) (by decide +kernel) ?_)
                  intro t' k'
                  (repeat' (first | (k_unfold; (try dsimp only)) | walk1 | (dsimp only; walk1) | fail "no step"))
                  rename Fr s.heap L' _ _ => kF9
                  unfold Mine.LeaveT
                  have kb := Mine.back_S hf F₀ KtsTurn.refl kF9
                  exact hpost _ _ _ kb.1 kb.2 (Mine.textV_str (by decide) (by decide +kernel))
          · have Iy := Mine.inst_at hy hyd
            (repeat' (first | (k_unfold; (try dsimp only)) | walk1 | (dsimp only; walk1) | fail "no step"))
            rename Fr _ _ _ _ => F6
            refine Mine.get_missing (K := Mine.hd03.heap_39 w.params) (by k_in) (Mine.inst_up Iy F6) (by k_is) (by k_is) (Mine.findObj_miss (by k_is) (by k_is) (by decide +kernel) (by rfl)) (by k_is) (by decide +kernel) (by decide +kernel) rfl (by decide +kernel) (fun h' tk' e' x' => ?_)
            (repeat' (first | (k_unfold; (try dsimp only)) | walk1 | (dsimp only; walk1) | fail "no step"))
            dsimp only
            rename KtsTurn _ s.heap _ => kT9
            rename Fr _ L' _ _ => kF9
            unfold Mine.LeaveT
            have kb := Mine.back_S hf F₀ kT9 kF9
            exact hpost _ _ _ kb.1 kb.2 (Mine.textV_none (by first | exact .inl (by decide) | exact .inr rfl))
          · have Iy := Mine.inst_at hy hyd
            (repeat' (first | (k_unfold; (try dsimp only)) | walk1 | (dsimp only; walk1) | fail "no step"))
            rename Fr _ _ _ _ => F6
            refine Mine.get_missing (K := Mine.hd03.heap_39 w.params) (by k_in) (Mine.inst_up Iy F6) (by k_is) (by k_is) (Mine.findObj_miss (by k_is) (by k_is) (by decide +kernel) (by rfl)) (by k_is) (by decide +kernel) (by decide +kernel) rfl (by decide +kernel) (fun h' tk' e' x' => ?_)
            (repeat' (first | (k_unfold; (try dsimp only)) | walk1 | (dsimp only; walk1) | fail "no step"))
            dsimp only
            rename KtsTurn _ s.heap _ => kT9
            rename Fr _ L' _ _ => kF9
            unfold Mine.LeaveT
            have kb := Mine.back_S hf F₀ kT9 kF9
            exact hpost _ _ _ kb.1 kb.2 (Mine.textV_none (by first | exact .inl (by decide) | exact .inr rfl))

      | true =>
        obtain ⟨td, rfl⟩ := hd
        rcases hr with ⟨rfl, rfl⟩ | ⟨rfl, DD, t5, t6, rfl, hD⟩ | ⟨y, d9, ua9, rl9, g1, g2, g3, g4, g5, q1, q2, q3, q4, q5, n9, rfl, hy, hyk⟩
        · rcases hv with ⟨rfl, rfl⟩ | ⟨rfl, tr, rfl⟩ | ⟨z, dz, Dz, lz, lz2, e1, e2, e3, e4, f1, f2, f3, f4, f5, f6, nz, cz, rfl, hz1, hz2, hz3, hz4⟩
          · (repeat' (first | (k_unfold; (try dsimp only)) | walk1 | (dsimp only; walk1) | fail "no step"))
            rename News _ _ _ _ => N7
            refine Mine.unstop (join_listW (Mine.is_l N7 (by k_mem)) (Mine.strs_pd (.cons ⟨_, rfl⟩ (.cons ⟨_, rfl⟩ (.cons ⟨_, rfl⟩ .nil)))) (by decide) (by decide +kernel) ?_)
            intro t' k'
            (repeat' (first | (k_unfold; (try dsimp only)) | walk1 | (dsimp only; walk1) | fail "no step"))
            rename Fr s.heap L' _ _ => kF9
            unfold Mine.LeaveT
            have kb := Mine.back_S hf F₀ KtsTurn.refl kF9
            exact hpost _ _ _ kb.1 kb.2 (Mine.textV_str (by decide) (by decide +kernel))
          · (repeat' (first | (k_unfold; (try dsimp only)) | walk1 | (dsimp only; walk1) | fail "no step"))
            rename Fr _ _ _ _ => F6
            rename News _ _ _ _ => N6
            have hpr : Mine.Pd Mine.StrV [Str.ofString "Disallow: /"] [.str (Str.ofString "Disallow: /") tr] := .cons ⟨_, rfl⟩ .nil
            refine Mine.unstop (Mine.extend_step rfl F6 N6 (by assumption) hpr (by assumption) (by k_updF) (by rw [PySem.sizeLine_eq]; (try simp only [List.length_append, List.length_cons, List.length_nil]); omega) ?_)
            intro h3 tk3 c3 F3 N3
            clear F6 N6
            (repeat' (first | (k_unfold; (try dsimp only)) | walk1 | (dsimp only; walk1) | fail "no step"))
            rename News _ _ _ _ => N7
            refine Mine.unstop (join_listW (Mine.is_l N7 (by k_mem)) (Mine.strs_pd (.cons ⟨_, rfl⟩ (.cons ⟨_, rfl⟩ (.cons ⟨_, rfl⟩ .nil)))) (by decide) (by decide +kernel) ?_)
            intro t' k'
            (repeat' (first | (k_unfold; (try dsimp only)) | walk1 | (dsimp only; walk1) | fail "no step"))
            rename Fr s.heap L' _ _ => kF9
            unfold Mine.LeaveT
            have kb := Mine.back_S hf F₀ KtsTurn.refl kF9
            exact hpost _ _ _ kb.1 kb.2 (Mine.textV_str (by decide) (by decide +kernel))
          · have Iz := Mine.inst_at hz1 hz2
            rcases hz4 with ⟨rfl, tz4, hz4⟩ | ⟨rfl, hz4⟩
            · (repeat' (first | (k_unfold; (try dsimp only)) | walk1 | (dsimp only; walk1) | fail "no step"))
              rename Fr _ _ _ _ => F6
              rename News _ _ _ _ => N6
              refine Mine.unstop (Mine.extend_own_step (P := fun _ => False) rfl F6 N6 (by assumption) (by assumption) (by k_updF) (by rw [PySem.sizeLine_eq]; (try simp only [List.length_append, List.length_cons, List.length_nil]); omega) (fun h₁ tk₁ c₁ F₁ N₁ => ?_) ?_)
              · (repeat' (first | (k_unfold; (try dsimp only)) | walk1 | (dsimp only; walk1) | fail "no step"))
                replace hz3 := Fr.keep (by assumption) _ _ hz3
                have hz5 := Mine.list_at (Fr.keep (by assumption) _ _ hz4)
                (repeat' (first | (k_unfold; (try dsimp only)) | walk1 | (dsimp only; walk1) | fail "no step"))
                rename Fr _ _ _ _ => F5
                rename News _ _ _ (_ :: _) => N5
                have hpz : Mine.Pd Mine.StrV [Str.ofString "plum"] [.str (Str.ofString "plum") tz4] := .cons ⟨_, rfl⟩ .nil
                refine Mine.unstop (Mine.forT_pd_l (its := List.toArray _) hpz [Str.ofString "agent"] [] (fun pre u zs => Mine.Pd Mine.StrV (pre.map Mine.uaLine) zs) rfl (.inl (by assumption)) F5 (by exact N5) .nil ?_ ?_)
                · intro pre a post v u zs c I1 oI1 h2 tk2 hsp hv1 hJ hoff0 F2 N2
                  clear F5 N5
                  simp only [List.nil_append] at N2
                  have hoff := hoff0
                  simp only [Mine.Off, List.nil_append, and_true] at hoff
                  simp only [Mine.over] at F2
                  obtain ⟨t, rfl⟩ := hv1
                  have hzl := Mine.pd_len hJ
                  rw [List.length_map] at hzl
                  have hpl : pre.length ≤ 0 ∧ pre.length + 1 ≤ 1 := by have := congrArg List.length hsp; simp at this; omega
                  have hal : a.length ≤ 4 := by
                    have hm : a ∈ [Str.ofString "plum"] := by rw [hsp]; simp
                    rw [List.mem_singleton.mp hm]
                    decide +kernel
                  (repeat' (first | (k_unfold; (try dsimp only)) | walk1 | (dsimp only; walk1) | fail "no step"))
                  dsimp only [Mine.TurnPost]
                  refine Mine.TurnEnd.mk' [] (by assumption) (by assumption) (by exact hoff0) ⟨fun z1 h1 => by simp only [if_neg (Mine.off1 h1)], zs ++ [_], c + 1, rfl, ?_⟩
                  rw [List.map_append]
                  exact PySem.Paired.snoc hJ ⟨_, by rw [Str.empty_append]; rfl⟩
                · intro u zs c h2 tk2 hJ F2 N2
                  clear F5 N5
                  simp only [List.nil_append] at N2
                  simp only [Mine.over] at F2
                  dsimp only
                  (repeat' (first | (k_unfold; (try dsimp only)) | walk1 | (dsimp only; walk1) | fail "no step"))
                  rename Fr _ _ _ _ => F4
                  refine getAttr_miss_tuple (o := Mine.tup2 1 2 f5 f6) (F4.keep _ _ hz3) rfl rfl rfl (am_miss_of_fast (by decide +kernel)) (by decide +kernel) rfl (fun h' tk' e' x' => ?_)
                  (repeat' (first | (k_unfold; (try dsimp only)) | walk1 | (dsimp only; walk1) | fail "no step"))
                  rename RaisedSN _ _ _ _ _ _ _ => R4
                  refine Mine.attr_on R4 ?_
                  (repeat' (first | (k_unfold; (try dsimp only)) | walk1 | (dsimp only; walk1) | fail "no step"))
                  dsimp only
                  rename KtsTurn _ s.heap _ => kT9
                  rename Fr _ L' _ _ => kF9
                  unfold Mine.LeaveT
                  have kb := Mine.back_S hf F₀ kT9 kF9
                  exact hpost _ _ _ kb.1 kb.2 (Mine.textV_none (by first | exact .inl (by decide) | exact .inr rfl))
              · intro xz tz5 h3 tk3 c3 hxz
                exact hxz.elim
            · (repeat' (first | (k_unfold; (try dsimp only)) | walk1 | (dsimp only; walk1) | fail "no step"))
              rename Fr _ _ _ _ => F6
              rename News _ _ _ _ => N6
              refine Mine.unstop (Mine.extend_own_step (P := fun q => q = Str.ofString "") rfl F6 N6 (by assumption) (by assumption) (by k_updF) (by rw [PySem.sizeLine_eq]; (try simp only [List.length_append, List.length_cons, List.length_nil]); omega) (fun h₁ tk₁ c₁ F₁ N₁ => ?_) ?_)
              · refine kso_call (f := 42) (by k_units) ((by assumption : (Mine.hd03.heap_39 w.params).In _).keeps F₁.keep) (Mine.inst_up Iz F₁) (by k_is) (by k_is) (Mine.strE rfl rfl (by assumption) F₁ (by assumption) (by assumption) (Mine.inst_up Iz F₁) (Mine.list_at (F₁.keep _ _ hz4)) ?_)
                intro h3 tk3 t3 k3
                exact ⟨_, _, _, _, rfl, rfl, k3, rfl⟩
              · intro xz tz5 h3 tk3 c3 hxz F3 N3
                subst hxz
                (repeat' (first | (k_unfold; (try dsimp only)) | walk1 | (dsimp only; walk1) | fail "no step"))
                rename News _ _ _ _ => N7
                refine Mine.unstop (join_listW (Mine.is_l N7 (by k_mem)) (Mine.strs_pd (.cons ⟨_, rfl⟩ (.cons ⟨_, rfl⟩ (.cons ⟨_, rfl⟩ .nil)))) (by decide) (by decide +kernel) ?_)
                intro t' k'
                (repeat' (first | (k_unfold; (try dsimp only)) | walk1 | (dsimp only; walk1) | fail "no step"))
                rename Fr s.heap L' _ _ => kF9
                unfold Mine.LeaveT
                have kb := Mine.back_S hf F₀ KtsTurn.refl kF9
                exact hpost _ _ _ kb.1 kb.2 (Mine.textV_str (by decide) (by decide +kernel))
        · (repeat' (first | (k_unfold; (try dsimp only)) | walk1 | (dsimp only; walk1) | fail "no step"))
          rename Fr _ _ _ _ => F6
          refine getAttr_miss_tuple (o := Mine.tup2 3 5 t5 t6) (F6.keep _ _ hD) rfl rfl rfl (am_miss_of_fast (by decide +kernel)) (by decide +kernel) rfl (fun h' tk' e' x' => ?_)
          (repeat' (first | (k_unfold; (try dsimp only)) | walk1 | (dsimp only; walk1) | fail "no step"))
          dsimp only
          rename KtsTurn _ s.heap _ => kT9
          rename Fr _ L' _ _ => kF9
          unfold Mine.LeaveT
          have kb := Mine.back_S hf F₀ kT9 kF9
          exact hpost _ _ _ kb.1 kb.2 (Mine.textV_none (by first | exact .inl (by decide) | exact .inr rfl))
        · rcases hyk with ⟨rfl, g6, q6, t5, t6, hyd⟩ | ⟨rfl, t5, hyd⟩ | ⟨rfl, t5, hyd⟩
          · have Iy := Mine.inst_at hy hyd
            rcases hv with ⟨rfl, rfl⟩ | ⟨rfl, tr, rfl⟩ | ⟨z, dz, Dz, lz, lz2, e1, e2, e3, e4, f1, f2, f3, f4, f5, f6, nz, cz, rfl, hz1, hz2, hz3, hz4⟩
            · (repeat' (first | (k_unfold; (try dsimp only)) | walk1 | (dsimp only; walk1) | fail "no step"))
              rename News _ _ _ _ => N7
              refine Mine.unstop (join_listW (Mine.is_l N7 (by k_mem)) (Mine.strs_pd (.cons ⟨_, rfl⟩ (.cons ⟨_, rfl⟩ (.cons ⟨_, rfl⟩ (.cons ⟨_, rfl⟩ .nil))))) (by decide) (by decide +kernel) ?_)
              intro t' k'
              (repeat' (first | (k_unfold; (try dsimp only)) | walk1 | (dsimp only; walk1) | fail "no step"))
              rename Fr s.heap L' _ _ => kF9
              unfold Mine.LeaveT
              have kb := Mine.back_S hf F₀ KtsTurn.refl kF9
              exact hpost _ _ _ kb.1 kb.2 (Mine.textV_str (by decide) (by decide +kernel))
            · (repeat' (first | (k_unfold; (try dsimp only)) | walk1 | (dsimp only; walk1) | fail "no step"))
              rename Fr _ _ _ _ => F6
              rename News _ _ _ _ => N6
              have hpr : Mine.Pd Mine.StrV [Str.ofString "Disallow: /"] [.str (Str.ofString "Disallow: /") tr] := .cons ⟨_, rfl⟩ .nil
              refine Mine.unstop (Mine.extend_step rfl F6 N6 (by assumption) hpr (by assumption) (by k_updF) (by rw [PySem.sizeLine_eq]; (try simp only [List.length_append, List.length_cons, List.length_nil]); omega) ?_)
              intro h3 tk3 c3 F3 N3
              clear F6 N6
              (repeat' (first | (k_unfold; (try dsimp only)) | walk1 | (dsimp only; walk1) | fail "no step"))
              rename News _ _ _ _ => N7
              refine Mine.unstop (join_listW (Mine.is_l N7 (by k_mem)) (Mine.strs_pd (.cons ⟨_, rfl⟩ (.cons ⟨_, rfl⟩ (.cons ⟨_, rfl⟩ (.cons ⟨_, rfl⟩ .nil))))) (by decide) (by decide +kernel) ?_)
              intro t' k'
              (repeat' (first | (k_unfold; (try dsimp only)) | walk1 | (dsimp only; walk1) | fail "no step"))
              rename Fr s.heap L' _ _ => kF9
              unfold Mine.LeaveT
              have kb := Mine.back_S hf F₀ KtsTurn.refl kF9
              exact hpost _ _ _ kb.1 kb.2 (Mine.textV_str (by decide) (by decide +kernel))
            · have Iz := Mine.inst_at hz1 hz2
              rcases hz4 with ⟨rfl, tz4, hz4⟩ | ⟨rfl, hz4⟩
              · (repeat' (first | (k_unfold; (try dsimp only)) | walk1 | (dsimp only; walk1) | fail "no step"))
                rename Fr _ _ _ _ => F6
                rename News _ _ _ _ => N6
                refine Mine.unstop (Mine.extend_own_step (P := fun _ => False) rfl F6 N6 (by assumption) (by assumption) (by k_updF) (by rw [PySem.sizeLine_eq]; (try simp only [List.length_append, List.length_cons, List.length_nil]); omega) (fun h₁ tk₁ c₁ F₁ N₁ => ?_) ?_)
                · (repeat' (first | (k_unfold; (try dsimp only)) | walk1 | (dsimp only; walk1) | fail "no step"))
                  replace hz3 := Fr.keep (by assumption) _ _ hz3
                  have hz5 := Mine.list_at (Fr.keep (by assumption) _ _ hz4)
                  (repeat' (first | (k_unfold; (try dsimp only)) | walk1 | (dsimp only; walk1) | fail "no step"))
                  rename Fr _ _ _ _ => F5
                  rename News _ _ _ (_ :: _) => N5
                  have hpz : Mine.Pd Mine.StrV [Str.ofString "plum"] [.str (Str.ofString "plum") tz4] := .cons ⟨_, rfl⟩ .nil
                  refine Mine.unstop (Mine.forT_pd_l (its := List.toArray _) hpz [Str.ofString "agent"] [] (fun pre u zs => Mine.Pd Mine.StrV (pre.map Mine.uaLine) zs) rfl (.inl (by assumption)) F5 (by exact N5) .nil ?_ ?_)
                  · intro pre a post v u zs c I1 oI1 h2 tk2 hsp hv1 hJ hoff0 F2 N2
                    clear F5 N5
                    simp only [List.nil_append] at N2
                    have hoff := hoff0
                    simp only [Mine.Off, List.nil_append, and_true] at hoff
                    simp only [Mine.over] at F2
                    obtain ⟨t, rfl⟩ := hv1
                    have hzl := Mine.pd_len hJ
                    rw [List.length_map] at hzl
                    have hpl : pre.length ≤ 0 ∧ pre.length + 1 ≤ 1 := by have := congrArg List.length hsp; simp at this; omega
                    have hal : a.length ≤ 4 := by
                      have hm : a ∈ [Str.ofString "plum"] := by rw [hsp]; simp
                      rw [List.mem_singleton.mp hm]
                      decide +kernel
                    (repeat' (first | (k_unfold; (try dsimp only)) | walk1 | (dsimp only; walk1) | fail "no step"))
                    dsimp only [Mine.TurnPost]
                    refine Mine.TurnEnd.mk' [] (by assumption) (by assumption) (by exact hoff0) ⟨fun z1 h1 => by simp only [if_neg (Mine.off1 h1)], zs ++ [_], c + 1, rfl, ?_⟩
                    rw [List.map_append]
                    exact PySem.Paired.snoc hJ ⟨_, by rw [Str.empty_append]; rfl⟩
                  · intro u zs c h2 tk2 hJ F2 N2
                    clear F5 N5
                    simp only [List.nil_append] at N2
                    simp only [Mine.over] at F2
                    dsimp only
                    (repeat' (first | (k_unfold; (try dsimp only)) | walk1 | (dsimp only; walk1) | fail "no step"))
                    rename Fr _ _ _ _ => F4
                    refine getAttr_miss_tuple (o := Mine.tup2 1 2 f5 f6) (F4.keep _ _ hz3) rfl rfl rfl (am_miss_of_fast (by decide +kernel)) (by decide +kernel) rfl (fun h' tk' e' x' => ?_)
                    (repeat' (first | (k_unfold; (try dsimp only)) | walk1 | (dsimp only; walk1) | fail "no step"))
                    rename RaisedSN _ _ _ _ _ _ _ => R4
                    refine Mine.attr_on R4 ?_
                    (repeat' (first | (k_unfold; (try dsimp only)) | walk1 | (dsimp only; walk1) | fail "no step"))
                    dsimp only
                    rename KtsTurn _ s.heap _ => kT9
                    rename Fr _ L' _ _ => kF9
                    unfold Mine.LeaveT
                    have kb := Mine.back_S hf F₀ kT9 kF9
                    exact hpost _ _ _ kb.1 kb.2 (Mine.textV_none (by first | exact .inl (by decide) | exact .inr rfl))
                · intro xz tz5 h3 tk3 c3 hxz
                  exact hxz.elim
              · (repeat' (first | (k_unfold; (try dsimp only)) | walk1 | (dsimp only; walk1) | fail "no step"))
                rename Fr _ _ _ _ => F6
                rename News _ _ _ _ => N6
                refine Mine.unstop (Mine.extend_own_step (P := fun q => q = Str.ofString "") rfl F6 N6 (by assumption) (by assumption) (by k_updF) (by rw [PySem.sizeLine_eq]; (try simp only [List.length_append, List.length_cons, List.length_nil]); omega) (fun h₁ tk₁ c₁ F₁ N₁ => ?_) ?_)
                · refine kso_call (f := 42) (by k_units) ((by assumption : (Mine.hd03.heap_39 w.params).In _).keeps F₁.keep) (Mine.inst_up Iz F₁) (by k_is) (by k_is) (Mine.strE rfl rfl (by assumption) F₁ (by assumption) (by assumption) (Mine.inst_up Iz F₁) (Mine.list_at (F₁.keep _ _ hz4)) ?_)
                  intro h3 tk3 t3 k3
                  exact ⟨_, _, _, _, rfl, rfl, k3, rfl⟩
                · intro xz tz5 h3 tk3 c3 hxz F3 N3
                  subst hxz
                  (repeat' (first | (k_unfold; (try dsimp only)) | walk1 | (dsimp only; walk1) | fail "no step"))
                  rename News _ _ _ _ => N7
                  refine Mine.unstop (join_listW (Mine.is_l N7 (by k_mem)) (Mine.strs_pd (.cons ⟨_, rfl⟩ (.cons ⟨_, rfl⟩ (.cons ⟨_, rfl⟩ (.cons ⟨_, rfl⟩ .nil))))) (by decide) (by decide +kernel) ?_)
                  intro t' k'
                  (repeat' (first | (k_unfold; (try dsimp only)) | walk1 | (dsimp only; walk1) | fail "no step"))
                  rename Fr s.heap L' _ _ => kF9
                  unfold Mine.LeaveT
                  have kb := Mine.back_S hf F₀ KtsTurn.refl kF9
                  exact hpost _ _ _ kb.1 kb.2 (Mine.textV_str (by decide) (by decide +kernel))
          · have Iy := Mine.inst_at hy hyd
            (repeat' (first | (k_unfold; (try dsimp only)) | walk1 | (dsimp only; walk1) | fail "no step"))
            rename Fr _ _ _ _ => F6
            refine Mine.get_missing (K := Mine.hd03.heap_39 w.params) (by k_in) (Mine.inst_up Iy F6) (by k_is) (by k_is) (Mine.findObj_miss (by k_is) (by k_is) (by decide +kernel) (by rfl)) (by k_is) (by decide +kernel) (by decide +kernel) rfl (by decide +kernel) (fun h' tk' e' x' => ?_)
            (repeat' (first | (k_unfold; (try dsimp only)) | walk1 | (dsimp only; walk1) | fail "no step"))
            dsimp only
            rename KtsTurn _ s.heap _ => kT9
            rename Fr _ L' _ _ => kF9
            unfold Mine.LeaveT
            have kb := Mine.back_S hf F₀ kT9 kF9
            exact hpost _ _ _ kb.1 kb.2 (Mine.textV_none (by first | exact .inl (by decide) | exact .inr rfl))
          · have Iy := Mine.inst_at hy hyd
            (repeat' (first | (k_unfold; (try dsimp only)) | walk1 | (dsimp only; walk1) | fail "no step"))
            rename Fr _ _ _ _ => F6
            refine Mine.get_missing (K := Mine.hd03.heap_39 w.params) (by k_in) (Mine.inst_up Iy F6) (by k_is) (by k_is) (Mine.findObj_miss (by k_is) (by k_is) (by decide +kernel) (by rfl)) (by k_is) (by decide +kernel) (by decide +kernel) rfl (by decide +kernel) (fun h' tk' e' x' => ?_)
            (repeat' (first | (k_unfold; (try dsimp only)) | walk1 | (dsimp only; walk1) | fail "no step"))
            dsimp only
            rename KtsTurn _ s.heap _ => kT9
            rename Fr _ L' _ _ => kF9
            unfold Mine.LeaveT
            have kb := Mine.back_S hf F₀ kT9 kF9
            exact hpost _ _ _ kb.1 kb.2 (Mine.textV_none (by first | exact .inl (by decide) | exact .inr rfl))
end
section
namespace Mine
section
variable {h₀ h h' : Heap} {L : Addr} {m : Str → Option Value} {news es : List (Addr × Obj)}
/-- the frame and the ledger behind a def that makes the objects es and changes nothing -/
theorem after_es (F : Fr h₀ L h m) (N : News h₀ L h news) (k : ∀ b o, h.get? b = some o → h'.get? b = some o) (he : ∀ p ∈ es, h'.get? p.1 = some p.2 ∧ h.get? p.1 = none) :
    Fr h₀ L h' m ∧ News h₀ L h' (news ++ es) ∧ ∀ p ∈ es, ∀ q ∈ news, @Ne Nat p.1 q.1 := by
  refine ⟨F.keeps k, fun p hp => ?_, fun p hp q hq e => ?_⟩
  · rcases List.mem_append.mp hp with hp | hp
    · exact N.grown k p hp
    · refine ⟨(he p hp).1, fun q => ?_, ?_⟩
      · obtain ⟨oL, _, _, hL, _⟩ := F.ns
        have q' : p.1 = L := q
        have := (he p hp).2
        rw [q', hL] at this; cases this
      · cases e : h₀.get? p.1 with
        | none => rfl
        | some o' => have := F.keep _ _ e; rw [(he p hp).2] at this; cases this
  · have e' : p.1 = q.1 := e
    have := (he p hp).2
    rw [e', (N q hq).1] at this; cases this
end
def Mark : Prop := True
theorem es_pack {h₀ h : Heap} {L Dr : Addr} {a b c d : Addr × Obj} {es1 es2 : List (Addr × Obj)} {k j : Int} {v : Value} {its : List Value} {n : Nat} (N : News h₀ L h ([a, b, c, d] ++ es1 ++ (Dr, W.listOf its.toArray n) :: es2))
    (hr : RateP (fun x o => (x, o) ∈ es1) k v) (hu : RuleP (fun x o => (x, o) ∈ es2) j its) :
    ∃ ES, News h₀ L h ((Dr, W.listOf its.toArray n) :: ES) ∧ (∀ p ∈ [a, b, c, d], p ∈ ES) ∧ RateP (fun x o => (x, o) ∈ ES) k v ∧ RuleP (fun x o => (x, o) ∈ ES) j its := by
  refine ⟨[a, b, c, d] ++ (es1 ++ es2), fun p hp => N p ?_, fun p hp => List.mem_append_left _ hp, hr.mono fun a o h => List.mem_append_right _ (List.mem_append_left _ h), hu.mono fun a o h => List.mem_append_right _ (List.mem_append_right _ h)⟩
  simp only [List.mem_cons, List.mem_append, List.not_mem_nil, or_false] at hp ⊢
  rcases hp with q | (q | q | q | q) | q | q <;> simp [q]
theorem off_lt {d : Addr} : ∀ {es : List (Addr × Obj)}, AllLt d es → Off d es
  | [], _ => trivial
  | p :: r, h => ⟨by have h1 : @LT.lt Nat _ p.1 d := h.1; intro e; have e' : @Eq Nat p.1 d := e; omega, off_lt h.2⟩
theorem off_app {d : Addr} : ∀ {a b : List (Addr × Obj)}, Off d a → Off d b → Off d (a ++ b)
  | [], _, _, h => h
  | _ :: _, _, h, h' => ⟨h.1, off_app h.2 h'⟩
/-- the new record: its dict by any hashes, its first lists among the rest -/
theorem own_pack {h₀ h : Heap} {L x d l1 l2 : Addr} {o1 o2 : Obj} {p : Addr × Obj} {ES : List (Addr × Obj)} {h1 h2 h3 h4 : Int} {t1 t2 t3 t4 : Tok} {v1 v2 v3 v4 : Value} {n : Nat}
    (N : News h₀ L h ((l2, o2) :: (l1, o1) :: (x, instObj 59 d) :: (d, dictOf [⟨h1, .str (Str.ofString "useragents") t1, v1⟩, ⟨h2, .str (Str.ofString "rulelines") t2, v2⟩, ⟨h3, .str (Str.ofString "delay") t3, v3⟩, ⟨h4, .str (Str.ofString "req_rate") t4, v4⟩] n) :: p :: ES))
    (hx : @Ne Nat x d) (hl1 : @Ne Nat l1 d) (hl2 : @Ne Nat l2 d) (hp : @Ne Nat p.1 d) (hE : AllLt d ES) :
    ∃ ES' h1 h2 h3 h4 t1 t2 t3 t4, News h₀ L h ((x, instObj 59 d) :: (d, entryDict h1 h2 h3 h4 t1 t2 t3 t4 v1 v2 v3 v4 n) :: p :: ES') ∧ (∀ p ∈ ES, p ∈ ES') ∧ Off d ES' ∧ @Ne Nat x d ∧ @Ne Nat p.1 d := by
  refine ⟨(l1, o1) :: (l2, o2) :: ES, h1, h2, h3, h4, t1, t2, t3, t4, fun q hq => N q ?_, fun q hq => .tail _ (.tail _ hq), ⟨hl1, hl2, off_lt hE⟩, hx, hp⟩
  simp only [List.mem_cons] at hq ⊢
  rcases hq with q | q | q | q | q | q <;> simp [q]
section
variable {prog : Program} {w : World} {A : Around} {E : Value → Shared → Prop} {s : Shared} {h₀ : Heap} {L : Addr} {m : Str → Option Value} {tree : Sem Flow} {Q : Flow → Shared → Prop} {news : List (Addr × Obj)}
theorem ag_true {c : Int} {t : Tok} (h : c = 1) : AgentsV (c == 1) [.str (Str.ofString "fig") t] := by subst h; exact ⟨_, rfl⟩
theorem ag_false {c : Int} (h : c ≠ 1) : AgentsV (c == 1) [] := by
  rw [show (c == 1) = false from by simpa using h]; rfl
theorem beq_f {c : Int} (h : c ≠ 1) : (c == 1) = false := by simpa using h
theorem dl_true {c : Int} {t : Tok} (h : c = 1) : DelayV (c == 1) (.int 0 t) := by subst h; exact ⟨_, rfl⟩
theorem dl_false {c : Int} (h : c ≠ 1) : DelayV (c == 1) .none := by rw [beq_f h]; rfl
def FrontV (late : Bool) (v : Value) : Prop := ∃ t, v = .str (front late) t
theorem front_true {c : Int} {t : Tok} (h : c = 1) : FrontV (c == 1) (.str (Str.ofString "User-agent: fig\nCrawl-delay: 0\n") t) := by
  subst h
  exact ⟨t, congrArg (fun y => Value.str y t) (by decide +kernel)⟩
theorem front_false {c : Int} {t : Tok} (h : c ≠ 1) : FrontV (c == 1) (.str (Str.ofString "User-agent: fig\n") t) := by
  rw [beq_f h]
  exact ⟨t, congrArg (fun y => Value.str y t) (by decide +kernel)⟩
theorem front_len {late : Bool} : (front late).length ≤ 40 := by cases late <;> decide +kernel
/-- two ways that meet again: one name is set -/
def SetW (h₀ : Heap) (L : Addr) (m : Str → Option Value) (s : Shared) (name : Str) (G : Value → List (Addr × Obj) → Prop) (f : Flow) (s' : Shared) : Prop :=
  f = .next ∧ ∃ h tk v nw, s' = { s with heap := h, toks := tk } ∧ Fr h₀ L h (fun y => if y = name then some v else m y) ∧ News h₀ L h nw ∧ G v nw
def AgW (odd : Bool) (news : List (Addr × Obj)) (v : Value) (nw : List (Addr × Obj)) : Prop := ∃ D ua n, v = .ref D ∧ nw = (D, W.listOf (List.toArray ua) n) :: news ∧ AllLt D news ∧ AgentsV odd ua
theorem cut_ag (_F : Fr h₀ L s.heap m) (_N : News h₀ L s.heap news) (odd : Bool) (h1 : wpAny (model prog w) A tree (SetW h₀ L m s "agents" (AgW odd news)) E s)
    (h2 : ∀ h tk D ua n, Fr h₀ L h (fun y => if y = Str.ofString "agents" then some (.ref D) else m y) → News h₀ L h ((D, W.listOf (List.toArray ua) n) :: news) → AllLt D news → AgentsV odd ua → Q .next { s with heap := h, toks := tk }) : wpAny (model prog w) A tree Q E s := by
  refine wpAny_mono h1 ?_ fun _ _ e => e
  rintro f s' ⟨rfl, h, tk, v, nw, rfl, F, N, D, ua, n, rfl, rfl, hl, ha⟩
  exact h2 h tk D ua n F N hl ha
theorem ag_w {odd : Bool} {D : Addr} {ua : List Value} {n : Nat} {h : Heap} {tk : Nat} (F : Fr h₀ L h (fun y => if y = Str.ofString "agents" then some (.ref D) else m y)) (N : News h₀ L h ((D, W.listOf (List.toArray ua) n) :: news)) (hl : AllLt D news) (ha : AgentsV odd ua) :
    SetW h₀ L m s "agents" (AgW odd news) .next { s with heap := h, toks := tk } := ⟨rfl, h, tk, _, _, rfl, F, N, D, ua, n, rfl, rfl, hl, ha⟩
/-- two ways that meet again: the ledger is turned -/
def LedW (h₀ : Heap) (L : Addr) (m : Str → Option Value) (s : Shared) (G : List (Addr × Obj) → Prop) (f : Flow) (s' : Shared) : Prop :=
  f = .next ∧ ∃ h tk nw, s' = { s with heap := h, toks := tk } ∧ Fr h₀ L h m ∧ News h₀ L h nw ∧ G nw
def DlW (late : Bool) (a b p : Addr × Obj) (d : Addr) (h1 h2 h3 h4 : Int) (k1 k2 k3 k4 v1 v2 v4 : Value) (n : Nat) (ES nw : List (Addr × Obj)) : Prop :=
  ∃ dl, nw = a :: b :: (d, dictOf [⟨h1, k1, v1⟩, ⟨h2, k2, v2⟩, ⟨h3, k3, dl⟩, ⟨h4, k4, v4⟩] n) :: p :: ES ∧ DelayV late dl
theorem cut_dl {a b p : Addr × Obj} {d : Addr} {h1 h2 h3 h4 : Int} {k1 k2 k3 k4 v1 v2 v3 v4 : Value} {n : Nat} {ES : List (Addr × Obj)} (_F : Fr h₀ L s.heap m)
    (_N : News h₀ L s.heap (a :: b :: (d, dictOf [⟨h1, k1, v1⟩, ⟨h2, k2, v2⟩, ⟨h3, k3, v3⟩, ⟨h4, k4, v4⟩] n) :: p :: ES)) (late : Bool)
    (g1 : wpAny (model prog w) A tree (LedW h₀ L m s (DlW late a b p d h1 h2 h3 h4 k1 k2 k3 k4 v1 v2 v4 n ES)) E s)
    (g2 : ∀ h tk dl, Fr h₀ L h m → News h₀ L h (a :: b :: (d, dictOf [⟨h1, k1, v1⟩, ⟨h2, k2, v2⟩, ⟨h3, k3, dl⟩, ⟨h4, k4, v4⟩] n) :: p :: ES) → DelayV late dl → Q .next { s with heap := h, toks := tk }) : wpAny (model prog w) A tree Q E s := by
  refine wpAny_mono g1 ?_ fun _ _ e => e
  rintro f s' ⟨rfl, h, tk, nw, rfl, F, N, dl, rfl, hd⟩
  exact g2 h tk dl F N hd
theorem dl_w {late : Bool} {a b p : Addr × Obj} {d : Addr} {h1 h2 h3 h4 : Int} {k1 k2 k3 k4 v1 v2 v4 dl : Value} {n : Nat} {ES : List (Addr × Obj)} {h : Heap} {tk : Nat} (F : Fr h₀ L h m)
    (N : News h₀ L h (a :: b :: (d, dictOf [⟨h1, k1, v1⟩, ⟨h2, k2, v2⟩, ⟨h3, k3, dl⟩, ⟨h4, k4, v4⟩] n) :: p :: ES)) (hd : DelayV late dl) :
    LedW h₀ L m s (DlW late a b p d h1 h2 h3 h4 k1 k2 k3 k4 v1 v2 v4 n ES) .next { s with heap := h, toks := tk } := ⟨rfl, h, tk, _, rfl, F, N, dl, rfl, hd⟩
theorem cut_val (_F : Fr h₀ L s.heap m) (_N : News h₀ L s.heap news) (name : Str) (G : Value → Prop) (g1 : wpAny (model prog w) A tree (SetW h₀ L m s name (fun v nw => nw = news ∧ G v)) E s)
    (g2 : ∀ h tk v, Fr h₀ L h (fun y => if y = name then some v else m y) → News h₀ L h news → G v → Q .next { s with heap := h, toks := tk }) : wpAny (model prog w) A tree Q E s := by
  refine wpAny_mono g1 ?_ fun _ _ e => e
  rintro f s' ⟨rfl, h, tk, v, nw, rfl, F, N, rfl, hg⟩
  exact g2 h tk v F N hg
theorem val_w {name : Str} {G : Value → Prop} {v : Value} {h : Heap} {tk : Nat} (F : Fr h₀ L h (fun y => if y = name then some v else m y)) (N : News h₀ L h news) (hg : G v) :
    SetW h₀ L m s name (fun v nw => nw = news ∧ G v) .next { s with heap := h, toks := tk } := ⟨rfl, h, tk, _, _, rfl, F, N, rfl, hg⟩
end
/-! what the law compares -/
def RefV (v : Value) : Prop := v = .none ∨ ∃ a, v = .ref a
theorem rate_ref {P : Addr → Obj → Prop} {k : Int} {v : Value} (h : RateP P k v) : RefV v := by
  rcases h with ⟨_, h⟩ | ⟨_, D, _, _, h, _⟩ | ⟨x, _, _, _, _, _, _, _, _, _, _, _, _, _, _, h, _⟩
  · exact .inl h
  · exact .inr ⟨D, h⟩
  · exact .inr ⟨x, h⟩
theorem ref_handed {v : Value} (h : RefV v) : handedIn v = true := by rcases h with rfl | ⟨a, rfl⟩ <;> rfl
theorem delay_handed {late : Bool} {v : Value} (h : DelayV late v) : handedIn v = true := by
  cases late with
  | false => rw [show v = .none from h]; rfl
  | true => obtain ⟨t, rfl⟩ := h; rfl
theorem bit_true {c : Int} (h0 : 0 ≤ c) (h2 : c < 2) (h : c ≠ 0) : (c == 1) = true := by
  have : c = 1 := by omega
  subst this; rfl
theorem text_even {late : Bool} {k j c : Int} {t : Tok} (h : c = 0) : TextV (c == 1) late k j (.str (Str.ofString "") t) := by subst h; exact ⟨t, rfl⟩
theorem text_none {late : Bool} {k j c : Int} (h0 : 0 ≤ c) (h2 : c < 2) (h : c ≠ 0) (hk : 1 < k ∨ j = 2) : TextV (c == 1) late k j .none := by
  rw [bit_true h0 h2 h]; exact textV_none hk
theorem text_str {late : Bool} {k j c : Int} {t : Tok} (h0 : 0 ≤ c) (h2 : c < 2) (h : c ≠ 0) (hk : ¬ 1 < k) (hj : j ≠ 2) : TextV (c == 1) late k j (.str (front late ++ rateTxt k ++ ruleTxt j) t) := by
  rw [bit_true h0 h2 h]; exact textV_str (fun q => q.elim hk hj) rfl
theorem ag_len {c : Int} {ua : List Value} (h0 : 0 ≤ c) (h2 : c < 2) (h : AgentsV (c == 1) ua) : (ua.length : Int) = c := by
  by_cases e : c = 1
  · subst e
    obtain ⟨t, rfl⟩ := h
    rfl
  · rw [beq_f e] at h
    have e' : ua = [] := h
    subst e'
    simp; omega
theorem text_last {late : Bool} {c : Int} {t : Tok} (h0 : 0 ≤ c) (h2 : c < 2) (h : c ≠ 0) : TextV (c == 1) late 1 0 (.str (front late ++ Str.ofString "Request-rate: 3/5\nAllow:") t) := by
  rw [bit_true h0 h2 h]
  refine textV_str (by decide) ?_
  cases late <;> decide +kernel
theorem es_pack2 {h₀ h : Heap} {L d : Addr} {a b c f : Addr × Obj} {od : Obj} {ES es : List (Addr × Obj)} {v : Value} {k : Int} (N : News h₀ L h ((a :: b :: c :: (d, od) :: f :: ES) ++ es)) (hr : RateP (fun x o => (x, o) ∈ es) k v)
    (o : ∀ p ∈ es, ∀ q ∈ a :: b :: c :: (d, od) :: f :: ES, @Ne Nat p.1 q.1) (hoff : Off d ES) :
    ∃ ES', News h₀ L h (a :: b :: c :: (d, od) :: f :: ES') ∧ (∀ p ∈ ES, p ∈ ES') ∧ RateP (fun x o => (x, o) ∈ ES') k v ∧ Off d ES' :=
  ⟨ES ++ es, N, fun _ h => List.mem_append_left _ h, hr.mono fun _ _ h => List.mem_append_right _ h, off_app hoff (Off.of fun p hp => o p hp (d, od) (.tail _ (.tail _ (.tail _ (.head _)))))⟩
theorem rate_get {k : Int} (h0 : 0 ≤ k) (h : ¬ 1 < k) : [Str.ofString "", Str.ofString "Request-rate: 3/5\n"][k.toNat]? = some (rateTxt k) := by
  have : k = 0 ∨ k = 1 := by omega
  rcases this with rfl | rfl <;> rfl
theorem rule_get {j : Int} (h0 : 0 ≤ j) (h4 : j < 4) : [Str.ofString "Allow:", Str.ofString "Disallow: /", Str.ofString "", Str.ofString ""][j.toNat]? = some (ruleTxt j) := by
  have : j = 0 ∨ j = 1 ∨ j = 2 ∨ j = 3 := by omega
  rcases this with rfl | rfl | rfl | rfl <;> rfl
theorem rate_len {k : Int} : (rateTxt k).length ≤ 20 := by unfold rateTxt; split <;> decide +kernel
theorem rule_len2 {j : Int} : (ruleTxt j).length ≤ 20 := by
  unfold ruleTxt
  split
  · decide +kernel
  · split <;> decide +kernel
section
variable {prog : Program} {w : World} {A : Around} {E : Value → Shared → Prop} {s : Shared} {Q : Value → Shared → Prop}
theorem of_rcne {a b : Value} {k : Bool} (h : PySem.SeqAt.RcNeAt A s a b k) (hq : Q (.bool k) s) : wpAny (model prog w) A (compareOp .NotEq a b) Q E s := h prog w E Q hq
theorem ne_text {odd late : Bool} {k j : Int} {r v : Value} (h1 : TextV odd late k j r) (h2 : TextV odd late k j v) (h : Q (.bool false) s) : wpAny (model prog w) A (compareOp .NotEq r v) Q E s := by
  have key : ∀ (x : Str) (t u : Tok), wpAny (model prog w) A (compareOp .NotEq (.str x t) (.str x u)) Q E s := fun x t u => of_rcne (PySem.SeqAt.RcNeAt.str_str x t x u) (by rw [beq_self_eq_true]; exact h)
  unfold TextV at h1 h2
  split at h1
  · rename_i e
    rw [if_pos e] at h2
    obtain ⟨t, rfl⟩ := h1
    obtain ⟨u, rfl⟩ := h2
    exact key _ _ _
  · rename_i e
    rw [if_neg e] at h2
    split at h1
    · rename_i e
      rw [if_pos e] at h2
      subst h1 h2
      exact of_rcne PySem.SeqAt.RcNeAt.none_none h
    · rename_i e
      rw [if_neg e] at h2
      obtain ⟨t, rfl⟩ := h1
      obtain ⟨u, rfl⟩ := h2
      exact key _ _ _
theorem ne_delay {late : Bool} {r v : Value} (h1 : DelayV late r) (h2 : DelayV late v) (h : Q (.bool false) s) : wpAny (model prog w) A (compareOp .NotEq r v) Q E s := by
  cases late with
  | false =>
    rw [show r = .none from h1, show v = .none from h2]
    exact of_rcne PySem.SeqAt.RcNeAt.none_none h
  | true =>
    obtain ⟨t, rfl⟩ := h1
    obtain ⟨u, rfl⟩ := h2
    exact of_rcne (PySem.SeqAt.RcNeAt.int_int 0 t 0 u) h
theorem isnot_ref {v : Value} (hv : RefV v) (h : Q (.bool false) s) : wpAny (model prog w) A (compareOp .IsNot v v) Q E s := by
  rcases hv with rfl | ⟨a, rfl⟩
  · exact wpAny_isNot_self (by rfl) h
  · exact isnot_ref_same h
theorem ne_same {a b : Addr} {its : List Value} (ha : s.heap.IsList a its.toArray) (hb : s.heap.IsList b its.toArray) (hu : A.units < cLine) (h : Q (.bool false) s) : wpAny (model prog w) A (compareOp .NotEq (.ref a) (.ref b)) Q E s :=
  of_rcne (PySem.SeqAt.RcNeAt.lists (e := fun _ => true) ha hb rfl hu fun j _ _ => PySem.SeqAt.EqAt.same _) (by rw [show ((List.range its.toArray.size).all fun _ => true) = true by simp]; exact h)
end
end Mine
end
section
local macro_rules | `(tactic| walk_at "subscriptTail") => `(tactic| (k_here; (with_reducible show wpAny _ _ (subscriptTail _ _ (Value.ref _) (Value.int _ _)) _ _ _); refine Mine.stop ?_))
local macro_rules | `(tactic| walk_at "pyIter ref") => `(tactic| (k_here; refine Mine.stop ?_))
local macro_rules | `(tactic| walk_at "call builtin:list.append") => `(tactic| (k_here; (with_reducible show wpAny _ _ (call (Value.builtin _) [Value.ref _, _]) _ _ _); k_dflt (refine' Mine.append_l ?k1 ?k2 ?k3 ?_ ?z; (case k1 => k_asm); (case k2 => k_asm); (case k3 => k_upd); (case z => (rw [PySem.sizeLine_eq]; omega)); k_whole); intro h' F' N'; (try k_sweep)))
local macro_rules | `(tactic| walk_at "call builtin:len") => `(tactic| (k_here; (with_reducible show wpAny _ _ (call (Value.builtin "len") [Value.ref _]) _ _ _); k_dflt (refine' Mine.len_l ?k1 ?k2 ?k3 ?_; (case k1 => k_asm); (case k2 => k_mem); (case k3 => (rw [PySem.sizeLine_eq]; (try simp only [List.length_append, List.length_cons, List.length_nil]); omega)); k_whole)))
local macro_rules | `(tactic| walk_at "binaryOp Add ref ref") => `(tactic| (k_here; k_dflt (refine' Mine.add_l ?k1 ?k2 ?k3 ?k4 ?k5 ?_; (case k1 => k_asm); (case k2 => k_asm); (case k3 => k_mem); (case k4 => k_mem); (case k5 => (rw [PySem.sizeLine_eq]; (try simp only [List.length_append, List.length_cons, List.length_nil, List.length_take, List.length_drop]); omega)); k_whole); intro D' h' F' N' l1; (try k_lt l1); (try k_sweep)))
local macro_rules | `(tactic| walk_at "call type:list") => `(tactic| (k_here; (with_reducible show wpAny _ _ (call (Value.type _) [Value.ref _]) _ _ _); k_dflt (refine' Mine.copy_l ?k1 ?k2 ?k3 ?k4 ?_; (case k1 => k_asm); (case k2 => k_asm); (case k3 => k_mem); (case k4 => (rw [PySem.sizeLine_eq]; (try simp only [List.length_append, List.length_cons, List.length_nil, List.length_take, List.length_drop]); omega)); k_whole); intro D' c' h' F' N' l1; (try k_lt l1); (try k_sweep)))
local macro_rules | `(tactic| walk_at "subscriptTail Name Slice ref ref") => `(tactic| (k_here; (with_reducible show wpAny _ _ (subscriptTail _ (PySem.Expr.Slice _ _ none _) (Value.ref _) (Value.ref _)) _ _ _); k_dflt ((first | refine' Mine.slice_to ?F ?N ?l ?p ?_ ?s ?t ?z | refine' Mine.slice_from ?F ?N ?l ?p ?_ ?s ?t ?z); (case F => k_asm); (case N => k_asm); (case l => k_mem); (case p => omega); (case s => with_unfolding_all rfl); (case t => kmk_pure); (case z => (rw [PySem.sizeLine_eq]; omega))); intro D' h' F' N' l1; (try k_lt l1); (try k_sweep)))
local macro_rules | `(tactic| walk_at "eval ListComp") => `(tactic| (k_here; first
  | (lcg_look; k_dflt (refine LCg.ListComp_U (F₀ := by k_asm) (by with_unfolding_all rfl) (by decide) (by rfl) (by decide) (by rfl) ?_))
  | (lcf_look; k_dflt (refine LCg.ListComp_U (F₀ := by k_asm) (by with_unfolding_all rfl) (by decide) (by rfl) (by decide) (by rfl) ?_))
  | (lct_look; k_dflt (refine LCt.ListComp_T (F₀ := by k_asm) (by with_unfolding_all rfl) (by decide) (by rfl) (by decide) (by rfl) ?_))))
local macro_rules | `(tactic| walk_at "exec Assign cons ListComp") => `(tactic| (k_here; first
  | (lcg_look; k_dflt (refine LCg.Assign_ListComp_U (F₀ := by k_asm) (by rfl) (by with_unfolding_all rfl) (by with_unfolding_all rfl) (by decide) (by rfl) (by decide) (by rfl) (by rfl) (by rfl) ?_))
  | (lcf_look; k_dflt (refine LCg.Assign_ListComp_U (F₀ := by k_asm) (by rfl) (by with_unfolding_all rfl) (by with_unfolding_all rfl) (by decide) (by rfl) (by decide) (by rfl) (by rfl) (by rfl) ?_))
  | (lct_look; k_dflt (refine LCt.Assign_ListComp_T (F₀ := by k_asm) (by rfl) (by with_unfolding_all rfl) (by with_unfolding_all rfl) (by decide) (by rfl) (by decide) (by rfl) (by rfl) (by rfl) ?_))))
local macro_rules | `(tactic| walk_at "CompSrc") => `(tactic| (k_here; k_dflt (first
  | (refine LCg.CompSrc.ledger (by rfl) (by k_asm) (by k_asm) (by k_mem) (by first | (simp only [List.size_toArray, List.length_append, List.length_cons, List.length_nil, List.length_take, List.length_drop, PySem.sizeLine_eq]; omega) | size_fits) ?_; intro g'; refine Mine.stop ?_)
  | (refine LCg.CompSrc.base (by rfl) (by k_asm) (by k_asm) (by assumption) (by first | (simp only [List.size_toArray, List.length_append, List.length_cons, List.length_nil, List.length_take, List.length_drop, PySem.sizeLine_eq]; omega) | size_fits) ?_; intro g'; refine Mine.stop ?_))))
local macro_rules | `(tactic| walk_at "CompSrcT") => `(tactic| (k_here; k_dflt (first
  | (refine LCt.CompSrcT.ledger (by rfl) (by k_asm) (by k_asm) (by k_mem) (by first | (simp only [List.size_toArray, List.length_append, List.length_cons, List.length_nil, List.length_take, List.length_drop, PySem.sizeLine_eq]; omega) | size_fits) ?_; intro g'; refine Mine.stop ?_)
  | (refine LCt.CompSrcT.base (by rfl) (by k_asm) (by k_asm) (by assumption) (by first | (simp only [List.size_toArray, List.length_append, List.length_cons, List.length_nil, List.length_take, List.length_drop, PySem.sizeLine_eq]; omega) | size_fits) ?_; intro g'; refine Mine.stop ?_))))
local macro_rules | `(tactic| walk_at "exec Assign") => `(tactic| (k_here; with_reducible refine plainObj_wpAny_Assign_Attribute ?_ ?_; rotate_left; with_unfolding_all rfl))
local macro_rules | `(tactic| walk_at "exec For Name Call cons nil") => `(tactic| (k_here; k_dflt (refine Mine.For_T (by k_asm) (by intro _ _; rfl) ?_)))
local macro_rules | `(tactic| walk_at "exec For Name Name cons nil") => `(tactic| (k_here; k_dflt (refine Mine.For_T (by k_asm) (by intro _ _; rfl) ?_)))
local macro_rules | `(tactic| walk_at "exec For Name Attribute cons nil") => `(tactic| (k_here; k_dflt (refine Mine.For_T (by k_asm) (by intro _ _; rfl) ?_)))
local macro_rules | `(tactic| walk_at "CompEnd") => `(tactic| (k_here; refine Mine.stop ?_))
local macro_rules | `(tactic| k_handed) => `(tactic| assumption)
local macro_rules | `(tactic| ktr_rel) => `(tactic| first
  | ((with_reducible show wpAny _ _ (compareOp CmpOp.NotEq _ _) _ _ _); (with_reducible refine' Mine.ne_text ?h1 ?h2 ?_; (case h1 => assumption); (case h2 => first | assumption | exact Mine.text_even (by assumption) | exact Mine.text_last (by assumption) (by assumption) (by assumption))))
  | ((with_reducible show wpAny _ _ (compareOp CmpOp.NotEq _ _) _ _ _); (with_reducible refine' Mine.ne_delay ?h1 ?h2 ?_; (case h1 => assumption); (case h2 => first | assumption | exact Mine.dl_true (by assumption) | exact Mine.dl_false (by assumption))))
  | ((with_reducible show wpAny _ _ (compareOp CmpOp.IsNot _ _) _ _ _); (with_reducible refine' Mine.isnot_ref ?h1 ?_; (case h1 => assumption)))
  | ((with_reducible show wpAny _ _ (exec (PySem.Stmt.If _ _ _ _) _) _ _ _); (with_reducible rename Mine.Mark => mk9); clear mk9; refine Mine.stop ?_)
  | ((with_reducible show wpAny _ _ (exec (PySem.Stmt.Assign _ (PySem.Expr.IfExp _ _ _ _) _) _) _ _ _); (with_reducible rename Mine.Mark => mk9); clear mk9; refine Mine.stop ?_)
  | ((with_reducible show wpAny _ _ (exec (PySem.Stmt.Assign _ (PySem.Expr.BinOp _ _ (PySem.Expr.IfExp _ _ _ _) _) _) _) _ _ _); (with_reducible rename Mine.Mark => mk9); clear mk9; refine Mine.stop ?_)
  | ((with_reducible show wpAny _ _ (subscriptTail _ _ (Value.ref _) (Value.int _ _)) _ _ _); refine Mine.stop ?_)
  | ((with_reducible show wpAny _ _ (call (Value.ref 70) _ _) _ _ _); refine Mine.stop ?_)
  | ((with_reducible show wpAny _ _ (call (Value.ref 77) _ _) _ _ _); refine Mine.stop ?_)
  | ((with_reducible show wpAny _ _ (call (Value.ref 84) _ _) _ _ _); refine Mine.stop ?_)
  | ((with_reducible show wpAny _ _ (compareOp CmpOp.In (Value.int _ _) (Value.ref _)) _ _ _); refine Mine.stop ?_)
  | ((with_reducible show wpAny _ _ (compareOp CmpOp.Eq (Value.ref _) (Value.ref _)) _ _ _); refine Mine.stop ?_)
  | ((with_reducible show wpAny _ _ (compareOp CmpOp.NotEq (Value.ref _) (Value.ref _)) _ _ _); refine Mine.stop ?_)
  | ((with_reducible show wpAny _ _ (eval (PySem.Expr.ListComp _ _ _ _) _) _ _ _); refine Mine.stop ?_)
  | ((with_reducible show wpAny _ _ (compareOp CmpOp.NotEq (Value.ref _) (Value.ref _)) _ _ _); refine Mine.stop ?_)
  | ((with_reducible show wpAny _ _ (compareOp CmpOp.In (Value.str _ _) (Value.ref _)) _ _ _); refine Mine.stop ?_)
  | fail "none")
local macro_rules | `(tactic| walk_at "compareOp In str ref") => `(tactic| (k_here; refine Mine.stop ?_))
local macro_rules | `(tactic| ktr_unf) => `(tactic| repeat' (first | (k_unfold; (try dsimp only)) | ktr_rel | walk1 | (dsimp only; walk1) | fail "no step"))
local macro_rules | `(tactic| walk_at "CompSrc") => `(tactic| (k_here; refine Mine.stop ?_))
local macro_rules | `(tactic| walk_at "CompSrcT") => `(tactic| (k_here; refine Mine.stop ?_))
local macro_rules | `(tactic| walk_at "exec For Name BinOp cons nil") => `(tactic| (k_here; k_dflt (refine Mine.For_T (by k_asm) (by intro _ _; rfl) ?_)))
local macro_rules | `(tactic| k_mem) => `(tactic| assumption)
local macro_rules | `(tactic| walk_at "execs cons") => `(tactic| ((with_reducible refine wpAny_execs_cons ?_); try dsimp only))
local macro_rules | `(tactic| walk_at "execs cons Assign cons") => `(tactic| (k_here; walk_at "execs cons"))
local macro_rules | `(tactic| k_all) => `(tactic| exact Mine.Off.mem (by assumption))
local macro_rules | `(tactic| walk_at "newList") => `(tactic| (k_here; k_dflt (refine' newList_K ?k1 ?k2 ?_; (case k1 => k_asm); (case k2 => k_asm); k_whole); intro l' h' F' N' l1; (try k_lt l1); (try k_sweep)))
set_option maxRecDepth 100000 in
set_option maxHeartbeats 8000000 in
theorem PySem.Challenge.cw_kn0091_03_holds : PySem.Challenge.rw_kn0091_03.Holds := by
  refine Mine.hd03 (by
  k_go0
  (all_goals try k_fold)
  rename ¬ ((_ : Nat) : Int) < _ => hle
  rename IntsAre _ _ => hI
  have hlv := hI.length
  have hpi := Mine.pd_ints hI
  rename List Int => ns
  have hgl : List.length ns ≤ 63 := by omega
  have hp1 := fun t => Mine.pd_app hpi (.cons (⟨t, rfl⟩ : Mine.IntV 1 (.int 1 t)) .nil)
  ktr_unf
  rename Fr _ _ _ _ => F2
  rename News _ _ _ _ => N2
  refine Mine.unstop (Mine.forT_pd (as := ns ++ [1]) (G := Mine.IntV) (its := List.toArray _) (hp1 _) [Str.ofString "x", Str.ofString "rate", Str.ofString "rules", Str.ofString "late", Str.ofString "one", Str.ofString "agents", Str.ofString "before", Str.ofString "front", Str.ofString "due", Str.ofString "turn"]
    (fun pre u nw => nw = _) rfl (.inr ⟨W.listOf _ _, _, rfl, rfl, fun _ _ _ h => by rw [h]; exact .head _⟩) F2 N2 rfl ?_ ?_)
  · intro pre x post v u nw I3 oI3 h3 tk3 hsp hv hJ hoff30 F N
    subst hJ
    obtain ⟨t3, rfl⟩ := hv
    simp only [Mine.over] at F
    clear F2 N2
    have hoff3 := hoff30
    simp only [Mine.Off, and_true] at hoff3
    have hk1 := Int.fmod_nonneg_of_pos (x.fdiv 2) (b := 5) (by decide)
    have hk2 := Int.fmod_lt_of_pos (x.fdiv 2) (b := 5) (by decide)
    have hj1 := Int.fmod_nonneg_of_pos (x.fdiv 10) (b := 4) (by decide)
    have hj2 := Int.fmod_lt_of_pos (x.fdiv 10) (b := 4) (by decide)
    ktr_unf
    rename Fr _ _ _ _ => F2
    rename News _ _ _ _ => N2
    refine Mine.unstop (Mine.rate03 rfl rfl (by assumption) F2 (by assumption) (by assumption) hk1 (by omega) ?_)
    intro h4 tk4 vr es1 keep4 hes4 hre
    have hrp := Mine.rateP hre
    obtain ⟨F4, N4, o4⟩ := Mine.after_es F2 N2 keep4 hes4
    clear F2 N2 keep4 hes4 hre
    ktr_unf
    rename Fr _ _ _ _ => F2
    rename News _ _ _ _ => N2
    refine Mine.unstop (Mine.rule03 rfl rfl (by assumption) F2 (by assumption) (by assumption) hj1 (by omega) ?_)
    intro h5 tk5 Dr its nr es2 keep5 hes5 hr5 hil hrule
    obtain ⟨F5, N5, o5⟩ := Mine.after_es F2 N2 keep5 hes5
    obtain ⟨ES, N6, hmES, hrp6, hru6⟩ := Mine.es_pack N5 hrp (Mine.ruleP hrule)
    clear F2 N2 N5 keep5 hes5 hr5 hrule hrp o4 o5
    have hmark : Mine.Mark := True.intro
    ktr_unf
    rename Fr _ _ _ _ => F2
    rename News _ _ _ _ => N2
    obtain ⟨ES2, g1, g2, g3, g4, q1, q2, q3, q4, N3, hmES2, hoES2, hx2, hD2⟩ := Mine.own_pack N2 (by refine PySem.W.neN ?_; omega) (by refine PySem.W.neN ?_; omega) (by refine PySem.W.neN ?_; omega) (by refine PySem.W.neN ?_; omega) (by rename (Dr < _ ∧ AllLt _ ES) => lD; exact lD.2)
    replace hmES := fun p hp => hmES2 p (hmES p hp)
    replace hrp6 := hrp6.mono fun a o h => hmES2 (a, o) h
    replace hru6 := hru6.mono fun a o h => hmES2 (a, o) h
    clear N2
    refine Mine.unstop (Mine.cut_ag F2 N3 (x.fmod 2 == 1) ?_ ?_)
    · clear hmES hmES2 hrp6 hru6
      ktr_unf
      · rename Fr _ _ _ _ => F8
        rename News _ _ _ _ => N8
        rename (_ < _ ∧ _ < _ ∧ _ < _ ∧ AllLt _ ES2) => l8
        exact Mine.ag_w F8 N8 l8 (Mine.ag_true (by assumption))
      · rename Fr _ _ _ _ => F8
        rename News _ _ _ _ => N8
        rename (_ < _ ∧ _ < _ ∧ _ < _ ∧ AllLt _ ES2) => l8
        exact Mine.ag_w F8 N8 l8 (Mine.ag_false (by assumption))
    · intro h6 tk6 D6 ua n6 F6 N6 l6 ha6
      clear F2 N3
      simp only [AllLt] at l6
      dsimp only [Mine.entryDict, Mine.own4] at N6 hD2
      have hmark : Mine.Mark := True.intro
      dsimp only
      ktr_unf
      rename Fr _ _ _ _ => F2
      rename News _ _ _ _ => N2
      refine Mine.unstop (Mine.cut_dl F2 N2 ((x.fdiv 40).fmod 2 == 1) ?_ ?_)
      · clear hmES hmES2 hrp6 hru6
        ktr_unf
        · rename Fr _ _ _ _ => F8
          rename News _ _ _ _ => N8
          exact Mine.dl_w F8 N8 (Mine.dl_true (by assumption))
        · rename Fr _ _ _ _ => F8
          rename News _ _ _ _ => N8
          exact Mine.dl_w F8 N8 (Mine.dl_false (by assumption))
      · intro h7 tk7 dl7 F7 N7 hd7
        clear F2 N2
        have hmark : Mine.Mark := True.intro
        dsimp only
        ktr_unf
        rename Fr _ _ _ _ => F2
        rename News _ _ _ _ => N2
        refine Mine.unstop (Mine.cut_val F2 N2 "front" (Mine.FrontV ((x.fdiv 40).fmod 2 == 1)) ?_ ?_)
        · clear hmES hmES2 hrp6 hru6
          ktr_unf
          · rename Fr _ _ _ _ => F8
            rename News _ _ _ _ => N8
            exact Mine.val_w F8 N8 (Mine.front_true (by assumption))
          · rename Fr _ _ _ _ => F8
            rename News _ _ _ _ => N8
            exact Mine.val_w F8 N8 (Mine.front_false (by assumption))
        · intro h8 tk8 v8 F8 N8 hf8
          clear F2 N2
          have hmark : Mine.Mark := True.intro
          dsimp only
          ktr_unf
          rename Fr _ _ _ _ => F2
          rename News _ _ _ _ => N2
          obtain ⟨tf8, rfl⟩ := hf8
          have hfl := Mine.front_len (late := (x.fdiv 40).fmod 2 == 1)
          have hrl := Mine.rate_len (k := (x.fdiv 2).fmod 5)
          have hul := Mine.rule_len2 (j := (x.fdiv 10).fmod 4)
          have hx0 := Int.fmod_nonneg_of_pos x (b := 2) (by decide)
          have hx1 := Int.fmod_lt_of_pos x (b := 2) (by decide)
          refine Mine.unstop (Mine.cut_val F2 N2 "due" (Mine.TextV (x.fmod 2 == 1) ((x.fdiv 40).fmod 2 == 1) ((x.fdiv 2).fmod 5) ((x.fdiv 10).fmod 4)) ?_ ?_)
          · clear hmES hmES2 hrp6 hru6
            ktr_unf
            · rename Fr _ _ _ _ => F8
              rename News _ _ _ _ => N8
              exact Mine.val_w F8 N8 (Mine.text_even (by assumption))
            · rename Fr _ _ _ _ => F8
              rename News _ _ _ _ => N8
              exact Mine.val_w F8 N8 (Mine.text_none hx0 hx1 (by assumption) (.inl (by assumption)))
            · rename Fr _ _ _ _ => F8
              rename News _ _ _ _ => N8
              exact Mine.val_w F8 N8 (Mine.text_none hx0 hx1 (by assumption) (.inr (by assumption)))
            · rename ¬ 1 < (x.fdiv 2).fmod 5 => hk9
              rename News _ _ _ _ => N8
              refine Mine.unstop (Mine.tail_pd (j := ((x.fdiv 2).fmod 5).toNat) (F := Mine.StrV) N8 (.head _) (.cons ⟨_, rfl⟩ (.cons ⟨_, rfl⟩ .nil)) (Mine.rate_get hk1 hk9) (by omega) (by omega) ?_)
              rintro v8 ⟨t8, rfl⟩
              ktr_unf
              rename News _ _ _ _ => N8
              refine Mine.unstop (Mine.tail_pd (j := ((x.fdiv 10).fmod 4).toNat) (F := Mine.StrV) N8 (.head _) (.cons ⟨_, rfl⟩ (.cons ⟨_, rfl⟩ (.cons ⟨_, rfl⟩ (.cons ⟨_, rfl⟩ .nil)))) (Mine.rule_get hj1 hj2) (by omega) (by omega) ?_)
              rintro v8 ⟨t8, rfl⟩
              ktr_unf
              rename Fr _ _ _ _ => F8
              rename News _ _ _ _ => N8
              exact Mine.val_w F8 (fun p hp => N8 p (.tail _ (.tail _ hp))) (Mine.text_str hx0 hx1 (by assumption) hk9 (by assumption))
          · intro h9 tk9 v9 F9 N9 hf9
            clear F2 N2
            have hvr := Mine.rate_ref hrp6
            have hvh := Mine.ref_handed hvr
            have hdh := Mine.delay_handed hd7
            have hua1 := Mine.agents_len ha6
            have hua2 := Mine.ag_len hx0 hx1 ha6
            dsimp only
            ktr_unf
            rename IsRange _ _ _ _ _ _ _ _ => R7
            rename Fr _ _ _ _ => F7
            rename News _ _ _ _ => N7
            refine Mine.unstop (Mine.forT_count [Str.ofString "turn"] 2 (fun _ _ nw => nw = _) rfl R7 (by decide) ⟨by decide, by decide⟩ ⟨by decide, by decide⟩ F7 N7 rfl ?_ ?_)
            · intro i7 t7 u7 nw7 I7 oI7 h7 tk7 hi7 hJ7 hoff70 F8 N8
              subst hJ7
              simp only [Mine.over] at F8
              clear F7 N7 R7
              have hoff7 := hoff70
              simp only [Mine.Off] at hoff7
              ktr_unf
              rename News _ _ _ _ => N9
              rename Fr _ _ _ _ => F9
              refine Mine.unstop (Mine.text03 rfl rfl (by assumption) F9 (by assumption) (by assumption) (by assumption) (by assumption) (InstAt.of_news N9 (.tail _ (.tail _ (.tail _ (.head _)))) (.tail _ (.tail _ (.tail _ (.tail _ (.head _)))))) (Mine.is_l N9 (.tail _ (.tail _ (.head _)))) (Mine.is_l N9 (.tail _ (.tail _ (.tail _ (.tail _ (.tail _ (.head _))))))) ha6 hd7 (hrp6.mono fun a o h => (N9 _ (.tail _ (.tail _ (.tail _ (.tail _ (.tail _ (.tail _ h))))))).1) (hru6.mono fun a o h => (N9 _ (.tail _ (.tail _ (.tail _ (.tail _ (.tail _ (.tail _ h))))))).1) ?_)
              intro h10 tk10 r10 F10 keep10 hv10
              have N10 := Mine.after_S N9 keep10
              clear F9 N9 keep10
              ktr_unf
              · rename ((ua.length : Int) ≠ x.fmod 2) => e9
                exact absurd hua2 e9
              rename News _ _ _ _ => N9
              refine Mine.unstop (Mine.ne_same (its := its) (Mine.is_l N9 (.tail _ (.tail _ (.tail _ (.tail _ (.tail _ (.head _))))))) (Mine.is_l N9 (.tail _ (.head _))) (by ke_room) ?_)
              ktr_unf
              · dsimp only [Mine.TurnPost]
                exact Mine.TurnEnd.mk' [] (by assumption) (by assumption) (by exact hoff70) ⟨fun z1 q1 => by
                  simp only [List.mem_cons, not_or, List.not_mem_nil, not_false_iff, and_true] at q1
                  simp only [if_neg q1], rfl⟩
              · dsimp only [Mine.TurnPost]
                exact Mine.TurnEnd.mk' [] (by assumption) (by assumption) (by exact hoff70) ⟨fun z1 q1 => by
                  simp only [List.mem_cons, not_or, List.not_mem_nil, not_false_iff, and_true] at q1
                  simp only [if_neg q1], rfl⟩
            · intro u7 nw7 h7 tk7 hJ7 F8 N8
              subst hJ7
              simp only [Mine.over] at F8
              clear F7 N7 R7
              dsimp only
              ktr_unf
              rename Fr _ _ _ _ => F2
              rename News _ _ _ _ => N2
              refine Mine.unstop (Mine.rate03 rfl rfl (by assumption) F2 (by assumption) (by assumption) (by decide) (by decide) ?_)
              intro h9 tk9 vr2 es9 keep9 hes9 hre9
              obtain ⟨F9, N9, o9⟩ := Mine.after_es F2 N2 keep9 hes9
              obtain ⟨ES3, N3, hmES3, hrp9, hoES3⟩ := Mine.es_pack2 N9 (Mine.rateP hre9) o9 hoES2
              clear F2 N2 keep9 hes9 hre9 N9 o9
              replace hmES := fun p hp => hmES3 p (hmES p hp)
              have hvr2 := Mine.rate_ref hrp9
              clear hoES2 hrp6 hru6 hmES2 hmES3
              ktr_unf
              rename News _ _ _ _ => N9
              rename Fr _ _ _ _ => F9
              refine Mine.unstop (Mine.text03 (k := 1) (j := 0) rfl rfl (by assumption) F9 (by assumption) (by assumption) (by assumption) (by assumption) (InstAt.of_news N9 (.tail _ (.tail _ (.tail _ (.head _)))) (.tail _ (.tail _ (.tail _ (.tail _ (.head _)))))) (Mine.is_l N9 (.tail _ (.tail _ (.head _)))) (Mine.is_l (xs := []) N9 (.head _)) ha6 hd7 (hrp9.mono fun a o h => (N9 _ (.tail _ (.tail _ (.tail _ (.tail _ (.tail _ (.tail _ h))))))).1) (.inl ⟨rfl, rfl⟩) ?_)
              intro h11 tk11 r11 F11 keep11 hv11
              have N11 := Mine.after_S N9 keep11
              clear F9 N9 keep11
              ktr_unf
              all_goals rename News _ _ _ _ => N13
              · (try dsimp only [Mine.TurnPost])
                exact Mine.TurnEnd.mk' [] (by assumption) (fun p hp => N13 p (.tail _ (.tail _ (.tail _ (.tail _ (.tail _ (.tail _ (hmES p hp)))))))) (by exact hoff30) ⟨fun z1 q1 => by
                  simp only [List.mem_cons, not_or, List.not_mem_nil, not_false_iff, and_true] at q1
                  obtain ⟨n1, n2, n3, n4, n5, n6, n7, n8, n9, n10⟩ := q1
                  simp only [if_neg n1, if_neg n2, if_neg n3, if_neg n4, if_neg n5, if_neg n6, if_neg n7, if_neg n8, if_neg n9, if_neg n10], rfl⟩
              · (try dsimp only [Mine.TurnPost])
                exact Mine.TurnEnd.mk' [] (by assumption) (fun p hp => N13 p (.tail _ (.tail _ (.tail _ (.tail _ (.tail _ (.tail _ (hmES p hp)))))))) (by exact hoff30) ⟨fun z1 q1 => by
                  simp only [List.mem_cons, not_or, List.not_mem_nil, not_false_iff, and_true] at q1
                  obtain ⟨n1, n2, n3, n4, n5, n6, n7, n8, n9, n10⟩ := q1
                  simp only [if_neg n1, if_neg n2, if_neg n3, if_neg n4, if_neg n5, if_neg n6, if_neg n7, if_neg n8, if_neg n9, if_neg n10], rfl⟩
  · intro u nw h tk hJ F N
    ktr_unf
    (k_end; kc_close)
)
end
