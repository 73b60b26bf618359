import PyProof.Rows.All
import Wide.All
import OpenK.AllK
import Wide.FinOn
import PySem.Challenge.RW_pa0029_01
set_option Elab.async false
set_option maxRecDepth 100000
set_option maxHeartbeats 8000000
local macro_rules | `(tactic| walk_at $s:str) => `(tactic| k_extra $s)
section
open PySem PySem.W PyProof.Rows
namespace Mine
/-- the claim's caller stands on the stack, or is the code that runs -/
noncomputable def Cal (Γ : Ctx) : Prop := (Γ.code.isCaller || Γ.below.any fun x => x.1.isCaller) = true
/-- the claim's caller stands below -/
noncomputable def CalB (Γ : Ctx) : Prop := (Γ.below.any fun x => x.1.isCaller) = true
theorem CalB.cal {Γ : Ctx} (h : CalB Γ) : Cal Γ := by unfold Cal; unfold CalB at h; rw [h]; simp
theorem Cal.enter {Γ : Ctx} (h : Cal Γ) (c : Code) (hd : Option Value) (p : Pos) : CalB (Γ.enter c hd p) := by
  unfold CalB Ctx.enter
  rw [List.any_cons]
  exact h
/-- as wpAny, in the contexts alone that have the claim's caller on their stack -/
noncomputable def wpC {α : Type} (M : Model) (A : Around) (t : Sem α) (Q : α → Shared → Prop) (E : Value → Shared → Prop) (s : Shared) : Prop :=
  ∀ Γ p, Γ.In A → Cal Γ → Sem.wp M Γ t (fun a _ s' => Q a s') (fun e _ s' => E e s') p s
noncomputable def codeC (M : Model) (A : Around) (c : Code) (R : Result → Shared → Prop) (s : Shared) : Prop :=
  ∀ Γ p, Γ.code = c → Γ.Below A → CalB Γ → wpCode M Γ R p s
section
variable {α β : Type} {M : Model} {A : Around} {E : Value → Shared → Prop} {s : Shared}
theorem wpC_of {t : Sem α} {Q : α → Shared → Prop} (h : wpAny M A t Q E s) : wpC M A t Q E s := fun Γ p hΓ _ => h Γ p hΓ
theorem codeC_of {c : Code} {R : Result → Shared → Prop} (h : codeAny M A c R s) : codeC M A c R s := fun Γ p hc hΓ _ => h Γ p hc hΓ
theorem wpC_pure {a : α} {Q : α → Shared → Prop} (h : Q a s) : wpC M A (pure a) Q E s := wpC_of (wpAny_pure h)
theorem wpC_eq {t : Sem α} {a : α} {Q : α → Shared → Prop} (e : t = pure a) (h : Q a s) : wpC M A t Q E s := e ▸ wpC_pure h
theorem wpC_mono {t : Sem α} {Q Q' : α → Shared → Prop} {E' : Value → Shared → Prop} (h : wpC M A t Q E s) (hQ : ∀ a s, Q a s → Q' a s) (hE : ∀ e s, E e s → E' e s) : wpC M A t Q' E' s :=
  fun Γ p hΓ hC => Sem.wp_mono M Γ t (fun a _ s => hQ a s) (fun e _ s => hE e s) p s (h Γ p hΓ hC)
theorem codeC_mono {c : Code} {R R' : Result → Shared → Prop} (h : codeC M A c R s) (hR : ∀ r s, R r s → R' r s) : codeC M A c R' s :=
  fun Γ p hc hΓ hC => wpCode_mono hR (h Γ p hc hΓ hC)
theorem wpC_bind {m : Sem α} {f : α → Sem β} {Q : β → Shared → Prop} (h : wpC M A m (fun a s' => wpC M A (f a) Q E s') E s) : wpC M A (m >>= f) Q E s := fun Γ p hΓ hC => by
  rw [Sem.wp_bind']
  exact Sem.wp_mono M Γ m (fun a p' s' h' => h' Γ p' hΓ hC) (fun _ _ _ h' => h') p s (h Γ p hΓ hC)
theorem wpC_bindA {m : Sem α} {f : α → Sem β} {Q : β → Shared → Prop} (h : wpAny M A m (fun a s' => wpC M A (f a) Q E s') E s) : wpC M A (m >>= f) Q E s := wpC_bind (wpC_of h)
theorem wpC_onRaise {m : Sem α} {k : Value → Sem Unit} {Q : α → Shared → Prop} (h : wpC M A m Q (fun e s' => wpC M A (k e) (fun _ s'' => E e s'') E s') s) : wpC M A (m.onRaise k) Q E s := fun Γ p hΓ hC => by
  rw [Sem.wp_onRaise]
  exact Sem.wp_mono M Γ m (fun _ _ _ h' => h') (fun e p' s' h' => h' Γ p' hΓ hC) p s (h Γ p hΓ hC)
theorem wpC_attempt {m : Sem α} {Q : Except Value α → Shared → Prop} (h : wpC M A m (fun a => Q (.ok a)) (fun e => Q (.error e)) s) : wpC M A m.attempt Q E s := fun Γ p hΓ hC => by
  rw [Sem.wp_attempt]; exact h Γ p hΓ hC
theorem wpC_holding {vs : List Value} {m : Sem α} {Q : α → Shared → Prop} (h : wpC M A m Q E s) : wpC M A (holding vs m) Q E s := fun Γ p hΓ hC => by
  rw [Sem.wp_holding]; exact h Γ p hΓ hC
theorem wpC_keep {vs : List Value} {m : Sem α} {Q : α → Shared → Prop} (h : wpC M A m Q E s) : wpC M A (m.keep vs) Q E s := fun Γ p hΓ hC => by
  rw [Sem.wp_keep]; exact h Γ p hΓ hC
theorem wpC_standAt {pos : Pos} {Q : Unit → Shared → Prop} (h : Q () s) : wpC M A (standAt pos) Q E s := wpC_of (wpAny_standAt h)
theorem wpC_run {c : Code} {h : Option Value} {Q : Flow → Shared → Prop} (hc : codeC M (A.mark h) c (fun r s' => match r with | .ok f => Q f s' | .error e => E e s') s) (hnb : h ≠ some byPass) :
    wpC M A (run c h) Q E s := fun Γ p hΓ hC => by rw [Sem.wp_run]; exact hc _ p rfl (hΓ.enter c h p hnb) (hC.enter ..)
theorem wpC_runValue {c : Code} {Q : Value → Shared → Prop} (hc : codeC M A c (fun r s' => match r with | .ok (.ret v) => Q v s' | .ok _ => False | .error e => E e s') s) :
    wpC M A (runValue c) Q E s := fun Γ p hΓ hC => by rw [Sem.wp_runValue]; exact hc _ p rfl (hΓ.enter c none p (by intro x; cases x)) (hC.enter ..)
theorem wpC_call {f : Value} {pos : List Value} {kw : List (Str × Value)} {Q : Value → Shared → Prop} (hc : codeC M A (.call f ⟨pos, kw⟩) (fun r s' => match r with | .ok (.ret v) => Q v s' | .ok _ => False | .error e => E e s') s) :
    wpC M A (call f pos kw) Q E s := wpC_runValue hc
theorem codeC_of_tree {c : Code} {R : Result → Shared → Prop}
    (h : wpC M (A.under c) (M.den c) (fun fin s' => match fin with | .done f => R (.ok f) s' | .again c' => c'.quiet = true ∧ codeC M A c' R s') (fun e s' => R (.error e) s') s) : codeC M A c R s := fun Γ p hc hΓ hC => by
  rw [wpCode_iff_wp, hc]
  refine Sem.wp_mono M Γ _ (fun fin p' s' h' => ?_) (fun _ _ _ h' => h') p s (h Γ p (hc ▸ hΓ.in) hC.cal)
  cases fin with
  | done f => exact h'
  | again c' => exact ⟨h'.1, h'.2 (Γ.goto c') p' rfl (hΓ.goto c') hC⟩
theorem codeC_loop {c : Code} {R : Result → Shared → Prop} (hq : c.quiet = true) (I : Nat → Shared → Prop)
    (turn : ∀ n s, I n s → wpC M (A.under c) (M.den c) (fun fin s' => match fin with
        | .done f => R (.ok f) s'
        | .again c' => (c' = c ∧ ∃ m, m < n ∧ I m s') ∨ (c'.quiet = true ∧ codeC M A c' R s')) (fun e s' => R (.error e) s') s)
    (n : Nat) (h : I n s) : codeC M A c R s := by
  induction n using Nat.strongRecOn generalizing s with
  | ind n ih =>
    refine codeC_of_tree (wpC_mono (turn n s h) (fun fin s' hf => ?_) fun _ _ h' => h')
    cases fin with
    | done f => exact hf
    | again c' =>
      rcases hf with ⟨rfl, m, hm, hI⟩ | hf
      · exact ⟨hq, ih m hm hI⟩
      · exact hf
theorem wpC_units {t : Sem α} {Q : α → Shared → Prop} (D U : Nat) (hd : A.depth ≤ D) (hu : A.units ≤ U) (h : wpC M { A with depth := D, units := U } t Q E s) : wpC M A t Q E s :=
  fun Γ p hΓ => h Γ p ⟨hΓ.1, Nat.le_trans hΓ.2.1 hd, hΓ.2.2.1, hΓ.2.2.2.1, Nat.le_trans hΓ.2.2.2.2 hu⟩

/-- the mark that is never set under a claim -/
theorem wpC_mark {own : List String} {e : Value} {Q : Unit → Shared → Prop} (h : Q () s) : wpC M A (markTheRefusal own e) Q E s := fun Γ p _ hC => by
  have hc : ((Γ.code :: Γ.below.map (·.1)).any Code.isCaller) = true := by
    rw [List.any_cons, List.any_map]; exact hC
  have hm : pythonCodeMadeTheCall own (((Γ.code, p) :: Γ.below).map (·.1)) = false := by
    unfold pythonCodeMadeTheCall
    show (!((Γ.code :: Γ.below.map (·.1)).any Code.isCaller) && _ && _) = false
    rw [hc]; rfl
  unfold markTheRefusal
  rw [Sem.wp_bind']
  show Sem.wp M Γ (if pythonCodeMadeTheCall own (((Γ.code, p) :: Γ.below).map (·.1)) = true then _ else _) _ _ p s
  rw [if_neg (by rw [hm]; exact Bool.false_ne_true)]
  exact h
end

section
variable {M : Model} {A : Around} {E : Value → Shared → Prop} {s : Shared} {env : Env}
theorem wpC_execs_cons {st : Stmt} {rest : List Stmt} {Q : Flow → Shared → Prop} (h : wpC M A (exec st env) (fun f s' => match f with | .next => wpC M A (execs rest env) Q E s' | f => Q f s') E s) : wpC M A (execs (st :: rest) env) Q E s := by
  rw [execs_cons]
  refine wpC_bind (wpC_mono h (fun f s' h' => ?_) fun _ _ h' => h')
  cases f <;> first | exact h' | exact wpC_pure h'
/-- the first statements lie off the spine -/
theorem wpC_execs_skip (pre : List Stmt) {rest : List Stmt} {Q : Flow → Shared → Prop} (h : wpAny M A (execs pre env) (fun f s' => match f with | .next => wpC M A (execs rest env) Q E s' | f => Q f s') E s) : wpC M A (execs (pre ++ rest) env) Q E s := by
  have key : ∀ pre : List Stmt, execs (pre ++ rest) env = (do match ← execs pre env with | .next => execs rest env | f => pure f) := by
    intro pre
    induction pre with
    | nil => rfl
    | cons a pre ih =>
      rw [List.cons_append, execs_cons, ih, execs_cons]
      simp only [bind_assoc]
      congr 1
      funext f
      cases f <;> simp
  rw [key]
  refine wpC_bindA (wpAny_mono h (fun f s' h' => ?_) fun _ _ h' => h')
  cases f <;> first | exact h' | exact wpC_pure h'
theorem wpC_If_cmp {l r : Expr} {op : CmpOp} {cpos pos : Pos} {body orelse : List Stmt} {Q : Flow → Shared → Prop}
    (h : wpC M A (eval l env) (fun a s₁ => wpAny M A (eval r env) (fun b s₂ => wpAny M A (compareOp op a b) (fun c s₃ => wpAny M A (truthy c) (fun t s₄ => if t then wpC M A (execs body env) Q E s₄ else wpC M A (execs orelse env) Q E s₄) E s₃) E s₂) E s₁) E s)
    (hm : behindInMarks op r = false) : wpC M A (exec (.If (.Compare l [op] [r] cpos) body orelse pos) env) Q E s := fun Γ p hΓ hC => by
  simp only [exec_If, Sem.wp_bind', Sem.wp_cmd_standAt, isTrue_Compare1, markedBehindIn_of_false hm, Sem.wp_holding, Sem.wp_operate]
  refine Sem.wp_mono M Γ _ (fun a p₁ s₁ h₁ => Sem.wp_mono M Γ _ (fun b _ s₂ h₂ => Sem.wp_mono M Γ _ (fun c p₃ s₃ h₃ => Sem.wp_mono M Γ _ (fun t p₄ s₄ h₄ => ?_) (fun _ _ _ h' => h') _ _ (h₃ Γ p₃ hΓ))
    (fun _ _ _ h' => h') _ _ (h₂ Γ _ hΓ)) (fun _ _ _ h' => h') _ _ (h₁ Γ p₁ hΓ)) (fun _ _ _ h' => h') _ _ (h Γ _ hΓ hC)
  cases t <;> exact h₄ Γ p₄ hΓ hC
theorem wpC_Assign {t value : Expr} {pos : Pos} {Q : Flow → Shared → Prop} (h : wpC M A (eval value env) (fun v s₁ => wpAny M A (assignStores env v none ((assignEach [t] env).map (·.2))) Q E s₁) E s)
    (hs : swapsWithSole [t] value pos.line env = pure false := by rfl) (hw : swappedStores [t] value env = pure none := by rfl) : wpC M A (exec (.Assign [t] value pos) env) Q E s := by
  rw [PyProof.Rows.exec_Assign]
  refine wpC_bind (wpC_standAt (wpC_bind (wpC_eq hs ?_)))
  simp only [Bool.false_eq_true, if_false]
  exact wpC_bind (wpC_mono h (fun v s₁ h₁ => wpC_bind (wpC_eq hw (wpC_of h₁))) fun _ _ h' => h')
theorem wpC_Try {body orelse : List Stmt} {h₀ : ExceptHandler} {hs : List ExceptHandler} {pos : Pos} {Q : Flow → Shared → Prop}
    (h : wpC M A (execs body env) (fun f s₁ => match f with | .next => wpAny M A (execs orelse env) Q E s₁ | f => Q f s₁)
      (fun e s₁ => wpAny M A (noteFrame e env) (fun _ s₂ => wpAny M A (setFlight e none) (fun _ s₃ => wpAny M A (handleBy e env (h₀ :: hs)) Q E s₃) E s₂) E s₁) s) :
    wpC M A (exec (.Try body (h₀ :: hs) orelse [] pos) env) Q E s := by
  rw [arm_exec_Try]
  refine wpC_bind (wpC_standAt ?_)
  unfold tryStmt
  simp only [List.isEmpty_nil, if_true, List.isEmpty_cons, Bool.false_and, Bool.false_eq_true, if_false]
  refine wpC_bind (wpC_attempt (wpC_mono h (fun f s₁ h₁ => ?_) fun e s₁ h₁ => ?_))
  · cases f <;> first | exact wpC_of h₁ | exact wpC_pure h₁
  · exact wpC_of (wpAny_bind (wpAny_mono h₁ (fun _ _ h₂ => wpAny_bind h₂) fun _ _ x => x))
theorem wpC_callWith {f : Value} {P : Heap → Prop} {first : List Value} {pos : Pos} {args : List (Bool × Sem Value)} {Q : Value → Shared → Prop} (hplain : args.any (·.1) = false)
    (hk : ∀ h, P h → ∃ k, (k = Keeper.frame ∨ k = Keeper.machine ∨ k = Keeper.boundFrame) ∧ Looks M h (keeperOf f) k)
    (h : wpAny M A (evalArgs f true args []) (fun a s₁ => P s₁.heap ∧ wpC M A (call f (first ++ a.pos) a.kw) Q E s₁) E s) : wpC M A (callWith pos f first args []) Q E s := by
  unfold callWith
  refine wpC_bindA (wpAny_holding (wpAny_mono h (fun a s₁ h₁ => ?_) fun _ _ x => x))
  refine wpC_bind (wpC_standAt ?_)
  obtain ⟨k, hk', L⟩ := hk _ h₁.1
  simp only [hplain, List.any_nil, Bool.or_false]
  refine wpC_bindA (L.here ?_)
  have tail : ∀ {t : Sem Value}, wpC M A t Q E s₁ → wpC M A (t >>= fun r => holding [r] point >>= fun _ => pure r) Q E s₁ :=
    fun ht => wpC_bind (wpC_mono ht (fun r s₂ hr => wpC_of (wpAny_bind (wpAny_holding (wpAny_point (wpAny_pure hr))))) fun _ _ x => x)
  have marked (mk : Value) : wpC M A (callMarked mk f (first ++ a.pos) a.kw) Q E s₁ := by unfold callMarked; exact wpC_keep h₁.2
  rcases hk' with rfl | rfl | rfl <;> dsimp only <;> first | exact tail h₁.2 | (split <;> first | exact tail h₁.2 | exact tail (marked _))
/-- a call by a name; the name and the arguments lie off the spine -/
theorem wpC_Call {func : Expr} {args : List Expr} {pos : Pos} {Q : Value → Shared → Prop}
    (h : wpAny M A (eval func env) (fun f s₁ => wpC M A (callWith pos f [] (backTo pos (starEach args env)) []) Q E s₁) E s)
    (he : eval (.Call func args [] pos) env = (do callWith pos (← eval func env) [] (backTo pos (starEach args env)) (backToKw pos (keywordEach [] env))) := by rfl) :
    wpC M A (eval (.Call func args [] pos) env) Q E s := by
  rw [he]; exact wpC_bindA h
end
end Mine
end
section
open PySem PySem.W PyProof.Rows PySem.Calls PySem.NumText
namespace Mine
theorem isType_int : isType (.type "int") = pure true := by rfl
theorem tc_int (x : Value) : ∃ K, Builtin.«type.__call__» ⟨[.type "int", x], []⟩ = (holding [.builtin "int.__new__"] (call (.builtin "int.__new__") [.type "int", x] []) >>= K) := by
  have h1 := F.called_int.notType
  have h2 := F.called_int.canCreate
  have h3 := F.called_int.made
  apply Exists.intro
  unfold Builtin.«type.__call__»
  simp only [h1, h2, F.typeCall_int_1, F.mro_int, h3, pure_bind, Bool.false_eq_true, if_false, List.isEmpty_cons]
  rfl
theorem ni_int (x : Str) (u : Tok) : Builtin.«int.__new__» ⟨[.type "int", .str x u], []⟩ = ((int_private% "intFromObject") (.str x u) >>= fun v => ret v) := by
  have f1 := F.conv_sub_int
  have f2 := F.madeHere_int
  unfold Builtin.«int.__new__»
  simp only [isType_int, f1, f2, pure_bind, Bool.not_true, Bool.false_eq_true, if_false]
  rfl
section
variable {M : Model} {A : Around} {E : Value → Shared → Prop} {s : Shared}
theorem wpC_obj {x : Str} {u : Tok} {Q : Value → Shared → Prop} (h : wpC M A ((int_private% "intFromText") (.str x u) (numTextOf x) 10) Q E s) : wpC M A ((int_private% "intFromObject") (.str x u)) Q E s := by
  have f3 := KIN.str_int
  have f4 := KIN.str_idx
  have f5 := KIN.str_trunc
  have f6 : typeOf (.str x u) = pure (.type "str") := rfl
  refine wpC_bindA ?_
  repeat (any_goals (first | assumption | wp_step))
end
section
variable {prog : Program} {w : World} {A : Around} {E : Value → Shared → Prop} {s : Shared}
theorem wpC_ite_true {α : Type} {M : Model} {c : Prop} [Decidable c] {a b : Sem α} {Q : α → Shared → Prop} (hc : c) (h : wpC M A a Q E s) : wpC M A (if c then a else b) Q E s := by rw [if_pos hc]; exact h
theorem wpC_ite_false {α : Type} {M : Model} {c : Prop} [Decidable c] {a b : Sem α} {Q : α → Shared → Prop} (hc : ¬ c) (h : wpC M A b Q E s) : wpC M A (if c then a else b) Q E s := by rw [if_neg hc]; exact h
/-- the refusal itself, once the literal is seen to be none -/
theorem wpC_refuse {x : Str} {u : Tok} {Q : Value → Shared → Prop} (hh : A.handled = none) (hr : (reprText x).length ≤ 3000)
    (h : ∀ h' tk e, Heap.NewExc s.heap h' e "ValueError" → E (.ref e) { s with heap := h', toks := tk }) :
    wpC (model prog w) A (do
      rule "int.__new__.invalid-literal"
      let shown ← pyRepr (Value.str x u)
      let m ← mkStr (Str.ofString (toString "invalid literal for int() with base " ++ toString 10 ++ toString ": ") ++ { cps := shown.cps.extract 0 200 })
      let refusal ← newExc (Value.type "ValueError") [m]
      markTheRefusal ["int.__new__"] refusal
      raiseNew refusal) Q E s := by
  have hp := plainExc_ValueError
  refine wpC_bindA (wpAny_rule ?_)
  refine wpC_bindA (wpAny_pyRepr_str ?_ (Nat.le_trans hr (by decide +kernel)))
  refine wpC_bindA (wpAny_mkStr ?_ ?_)
  · refine wpC_bindA ?_
    unfold newExc newTuple
    refine wpAny_bind (wpAny_newObj_type ?_)
    refine wpAny_bind (m := firstArgMember _ _) (wpAny_of_eq (a := Value.none) (by simp only [firstArgMember, hp.first]; rfl) ?_)
    rw [hp.own]
    refine wpAny_newObj_type ?_
    refine wpC_bind (wpC_mark ?_)
    refine wpC_of ?_
    unfold raiseNew
    refine wpAny_bind (wpAny_handled ?_)
    rw [hh]
    first
      | refine wpAny_throw ?_
      | refine wpAny_bind (wpAny_pure (wpAny_throw ?_))
    exact h _ _ _ ⟨fun b o hb => Heap.get?_push_of_some _ (Heap.get?_push_of_some _ hb), Heap.get?_none_of_le (by simp), _, .ref s.heap.objs.size, Heap.get?_push_size _ rfl, rfl, by simp⟩
  · have e1 : (Str.ofString (toString "invalid literal for int() with base " ++ toString 10 ++ toString ": ")).length ≤ 100 := by decide +kernel
    have e2 : ({ cps := (reprText x).cps.extract 0 200 } : Str).length ≤ 3000 := by
      refine Nat.le_trans ?_ hr
      show ((reprText x).cps.extract 0 200).size ≤ (reprText x).cps.size
      rw [Array.size_extract]; (first | lia | omega)
    have e3 : ∀ a b : Str, (a ++ b).length = a.length + b.length := fun a b => by
      show (a.cps ++ b.cps).size = _
      rw [Array.size_append]; rfl
    rw [e3]
    have : 3100 ≤ sizeLine := by decide +kernel
    (first | lia | omega)
theorem wpC_text {x : Str} {u : Tok} {Q : Value → Shared → Prop} (hl : x.length ≤ 640) (hn : PySem.intText? x = none) (hh : A.handled = none) (hr : (reprText x).length ≤ 3000)
    (h : ∀ h' tk e, Heap.NewExc s.heap h' e "ValueError" → E (.ref e) { s with heap := h', toks := tk }) : wpC (model prog w) A ((int_private% "intFromText") (.str x u) (numTextOf x) 10) Q E s := by
  have hs : (numSeenOf x).length ≤ 640 := Nat.le_trans (seen_length x) hl
  refine wpC_ite_true hs ?_
  refine wpC_bind (wpC_pure ?_)
  dsimp only
  rcases read0 x hs with ⟨m, h1, _⟩ | ⟨_, hr' | ⟨i, hr', hne⟩⟩
  · rw [hn] at h1; cases h1
  · rw [hr']
    exact wpC_refuse hh hr h
  · rw [hr']
    refine wpC_ite_false hne ?_
    exact wpC_refuse hh hr h
theorem codeC_builtin {id : String} {args : Args} {b : Builtin} {R : Result → Shared → Prop} (hb : entryFor table id = some b)
    (h : wpC (model prog w) (A.under (.builtin id args)) (b args) (fun fin s' => match fin with | .done f => R (.ok f) s' | .again c' => c'.quiet = true ∧ codeC (model prog w) A c' R s') (fun e s' => R (.error e) s') s) :
    codeC (model prog w) A (.builtin id args) R s := by
  refine codeC_of_tree ?_
  show wpC _ _ (match entryFor table id with | some b => b args | none => unsupported ((withoutEnding? id "#data").getD id)) _ _ s
  rw [hb]; exact h
/-- int(text), refused: under a claim no mark is left -/
theorem wpC_int_refused {x : Str} {u : Tok} {Q : Value → Shared → Prop} (hl : x.length ≤ 640) (hn : PySem.intText? x = none) (hh : A.handled = none) (hr : (reprText x).length ≤ 3000)
    (h : ∀ h' tk e, Heap.NewExc s.heap h' e "ValueError" → E (.ref e) { s with heap := h', toks := tk }) : wpC (model prog w) A (call (.type "int") [.str x u]) Q E s := by
  refine wpC_call (codeC_of_tree ?_)
  show wpC _ _ (callAny (.type "int") _) _ _ _
  refine wpC_pure ⟨Code.quiet_builtin _ (by decide +kernel), codeC_builtin F.entry_type_call ?_⟩
  rw [Around.under_plain (weight_type_call_type "int" [.str x u] []) (units_type_call_type "int" [.str x u] [])]
  obtain ⟨K, eK⟩ := tc_int (.str x u)
  rw [eK]
  refine wpC_bind (wpC_holding (wpC_call (codeC_of_tree ?_)))
  show wpC _ _ (do checkBuiltinCall "int.__new__" _; again (.builtin "int.__new__" _)) _ _ _
  refine wpC_bind (wpC_eq (F.newCall_int_1 _) (wpC_pure ⟨plainId_quiet F.called_int.plain _, codeC_builtin F.entry_int_new ?_⟩))
  rw [ni_int]
  exact wpC_bind (wpC_obj (wpC_text hl hn hh hr h))
end
section
variable {prog : Program} {w : World} {A : Around} {E : Value → Shared → Prop} {s : Shared} {env : Env}
theorem codeC_forLoop {R : Result → Shared → Prop} {target : Expr} {it : Value} {body orelse : List Stmt} (I : Nat → Shared → Prop)
    (turn : ∀ n s, I n s → wpAny (model prog w) A (pyNext it) (fun r s₁ => match r with
      | none => wpAny (model prog w) A (execs orelse env) (fun f s₃ => R (.ok f) s₃) (fun _ _ => False) s₁
      | some v => wpAny (model prog w) A (letOwnedTupleGo target it v) (fun _ s₂ => wpAny (model prog w) A (assign target env v) (fun _ s₂ => wpC (model prog w) A (execs body env) (fun f s₃ => match f with
          | .next | .cont => ∃ m, m < n ∧ I m s₃
          | .brk => R (.ok .next) s₃
          | .ret v => R (.ok (.ret v)) s₃) (fun _ _ => False) s₂) (fun _ _ => False) s₂) (fun _ _ => False) s₁) (fun _ _ => False) s)
    (n : Nat) (h : I n s) : codeC (model prog w) A (.forLoop target it body orelse env) R s := by
  refine codeC_loop rfl I (fun n s hI => ?_) n h
  show wpC _ _ ((forTurn target it body orelse env).onRaise (fun x => do noteFrame x env; theTreesLotGoes x)) _ _ s
  refine wpC_onRaise (wpC_mono (E := fun _ _ => False) (Q := fun (fin : PySem.Fin) s' => match fin with
        | .done f => R (.ok f) s'
        | .again c' => (c' = .forLoop target it body orelse env ∧ ∃ m, m < n ∧ I m s') ∨ (c'.quiet = true ∧ codeC (model prog w) A c' R s')) ?_ (fun _ _ h => h) fun _ _ h => h.elim)
  simp only [forTurn]
  refine wpC_bind (wpC_standAt (wpC_bindA (wpAny_onRaise (wpAny_mono (turn n s hI) (fun r s₁ h₁ => ?_) fun _ _ h' => h'.elim))))
  cases r with
  | none => exact wpC_pure (.inr ⟨rfl, codeC_of (codeAny_block (wpAny_mono h₁ (fun _ _ h => h) fun _ _ h => h.elim))⟩)
  | some v =>
    refine wpC_bindA (wpAny_mono h₁ (fun _ s₂ h₂ => ?_) fun _ _ h' => h')
    refine wpC_bindA (wpAny_mono h₂ (fun _ s₂ h₂ => wpC_bind (wpC_mono h₂ (fun f s₃ h₃ => ?_) fun _ _ h' => h')) fun _ _ h' => h')
    cases f with
    | next => exact wpC_pure (.inl ⟨rfl, h₃⟩)
    | cont => exact wpC_pure (.inl ⟨rfl, h₃⟩)
    | brk => exact wpC_pure h₃
    | ret v => exact wpC_pure h₃
theorem wpC_For {M : Model} {target iter : Expr} {body orelse : List Stmt} {pos : Pos} {Q : Flow → Shared → Prop}
    (h : wpAny M A (eval iter env) (fun x s₁ => wpAny M A (pyIter x) (fun it s₂ => codeC M A (.forLoop target it body orelse env) (fun r s' => match r with | .ok f => Q f s' | .error _ => False) s₂) E s₁) E s)
    (hs : ∀ x, foldedSetIterable iter env x = pure x) : wpC M A (exec (.For target iter body orelse pos) env) Q E s := by
  rw [exec_For]
  refine wpC_bind (wpC_standAt (wpC_bindA (wpAny_mono h (fun x s₁ h₁ => wpC_bind (wpC_eq (hs x) (wpC_bind (wpC_standAt (wpC_bindA (wpAny_holding (wpAny_mono h₁ (fun it s₂ h₂ => ?_) fun _ _ h' => h'))))))) fun _ _ h' => h')))
  unfold runOwn
  refine wpC_onRaise (wpC_run (codeC_mono h₂ fun r s' h' => ?_) (by intro x; cases x))
  cases r with
  | ok f => exact h'
  | error e => exact h'.elim
/-- the end of a turn: the frame stands but for what the body stores, the ledger stands -/
noncomputable def TurnC (h₀ : Heap) (L : Addr) (x : Str) (stored : List Str) (m₀ : Str → Option Value) (led : List (Addr × Obj)) (s : Shared) (f : Flow) (s' : Shared) : Prop :=
  f = .next ∧ ∃ h' tk' m', s' = { s with heap := h', toks := tk' } ∧ Fr h₀ L h' m' ∧ News h₀ L h' led ∧ ∀ z, z ≠ x → stored.contains z = false → m' z = m₀ z
/-- a loop over an iterator of its own, under a claim; it neither raises nor returns -/
theorem loopC {h₀ : Heap} {x : Str} {px : Pos} {body : List Stmt} {I : Addr} {fp : List Addr} {n : Nat} {P : Nat → Value → Prop} {St : Nat → Heap → Prop} {m₀ : Str → Option Value} {news : List (Addr × Obj)} {R : Result → Shared → Prop} (stored : List Str)
    (W : Walks prog w A I fp [I] n P St) (hx : env.kindOf x = some .local) (hp : (env.scope.kind == .class || (env.scope.kind == .module && env.locals != env.globals)) = false)
    (hI : h₀.get? I = none) (hIL : env.locals ≠ I) (hnw : ∀ p ∈ news, p.1 ≠ I) (hst : St 0 s.heap) (hSt : ∀ i h h' nw, St i h → h'.get? I = h.get? I → News h₀ env.locals h' nw → (∀ p ∈ news, p ∈ nw) → (∀ b o, h₀.get? b = some o → h'.get? b = some o) → St i h')
    (hIo : ∀ i h, St i h → ∃ o, h.get? I = some o) (F : Fr h₀ env.locals s.heap m₀) (N : News h₀ env.locals s.heap news)
    (turn : ∀ i v (u : Str → Option Value) h tk oI, i < n → P i v → Fr h₀ env.locals h (fun y => if y = x then some v else if stored.contains y then u y else m₀ y) → News h₀ env.locals h ((I, oI) :: news) →
      wpC (model prog w) A (execs body env) (TurnC h₀ env.locals x stored m₀ ((I, oI) :: news) { s with heap := h, toks := tk }) (fun _ _ => False) { s with heap := h, toks := tk })
    (done : ∀ (u : Str → Option Value) h tk, Fr h₀ env.locals h (fun y => if y = x then u y else if stored.contains y then u y else m₀ y) → News h₀ env.locals h news → R (.ok .next) { s with heap := h, toks := tk }) :
    codeC (model prog w) A (.forLoop (.Name x px) (.ref I) body [] env) R s := by
  refine codeC_forLoop
    (fun k s' => ∃ h' tk u i, s' = { s with heap := h', toks := tk } ∧ St i h' ∧ Fr h₀ env.locals h' (fun y => if y = x then u y else if stored.contains y then u y else m₀ y) ∧ News h₀ env.locals h' news ∧ i ≤ n ∧ k = n + 1 - i) ?_ (n + 1)
    ⟨s.heap, s.toks, m₀, 0, rfl, hst, by simpa using F, N, Nat.zero_le _, rfl⟩
  rintro k s' ⟨h', tk, u, i, rfl, hst', F', N', hi, rfl⟩
  have next : ∀ h₁ : Heap, (∀ b o, b ∉ [I] → h'.get? b = some o → h₁.get? b = some o) → Fr h₀ env.locals h₁ (fun y => if y = x then u y else if stored.contains y then u y else m₀ y) ∧ News h₀ env.locals h₁ news := fun h₁ hk₁ =>
    ⟨⟨F'.ns.at' fun o e => hk₁ _ o (by simpa using hIL) e, fun b o e => hk₁ b o (by simp only [List.mem_singleton]; intro q; rw [q, hI] at e; cases e) (F'.keep b o e), F'.above⟩, fun p hp => ⟨hk₁ _ _ (by simpa using hnw p hp) (N' p hp).1, (N' p hp).2⟩⟩
  by_cases hlt : i < n
  · refine W.item i _ _ _ hlt hst' fun v h₁ tk₁ hP hst₁ hk₁ => ?_
    obtain ⟨F₁, N₁⟩ := next h₁ hk₁
    refine wpAny_of_eq (a := ()) rfl ?_
    refine wpAny_assign_Name (wpAny_storeName_local hx F₁.ns (fun h₂ hn₂ hs₂ => ?_) hp)
    have F₂ := F₁.set hn₂ hs₂
    obtain ⟨oI, eI⟩ := hIo _ _ hst₁
    have eI₂ : h₂.get? I = some oI := (hs₂.2 I (Ne.symm hIL)).trans eI
    have N₂ : News h₀ env.locals h₂ ((I, oI) :: news) := by
      intro p hp
      rcases List.mem_cons.mp hp with rfl | hp
      · exact ⟨eI₂, Ne.symm hIL, hI⟩
      · exact (N₁.set hs₂) p hp
    have eF : (fun y => if y = x then some v else (fun y => if y = x then u y else if stored.contains y then u y else m₀ y) y) = (fun y => if y = x then some v else if stored.contains y then u y else m₀ y) := by
      funext y
      by_cases hy : y = x <;> simp [hy]
    rw [eF] at F₂
    refine wpC_mono (turn i v u h₂ _ oI hlt hP F₂ N₂) (fun f s₃ h₃ => ?_) fun _ _ e => e
    obtain ⟨rfl, h₃', tk₃, m', rfl, F₃, N₃, hm⟩ := h₃
    refine ⟨n + 1 - (i + 1), by (first | lia | omega), h₃', tk₃, m', i + 1, rfl, ?_, ?_, fun p hp => N₃ p (List.mem_cons_of_mem _ hp), hlt, rfl⟩
    · exact hSt _ _ _ _ hst₁ ((N₃ _ (List.mem_cons_self ..)).1.trans eI.symm) N₃ (fun p hp => List.mem_cons_of_mem _ hp) F₃.keep
    · have e : m' = (fun y => if y = x then m' y else if stored.contains y then m' y else m₀ y) := by
        funext y
        by_cases hy : y = x
        · simp [hy]
        · cases hs : stored.contains y with
          | true => simp [hy]
          | false => simp only [hy, if_false, Bool.false_eq_true]; exact hm y hy hs
      rw [← e]; exact F₃
  · have hin : i = n := by (first | lia | omega)
    subst hin
    refine W.done _ _ _ hst' fun h₁ tk₁ hk₁ => wpAny_execs_nil ?_
    obtain ⟨F₁, N₁⟩ := next h₁ hk₁
    exact done u h₁ tk₁ F₁ N₁
end
section
variable {prog : Program} {w : World} {A : Around} {s : Shared} {R : Result → Shared → Prop}
theorem codeC_func {body : List Stmt} {env : Env}
    (h : wpC (model prog w) (A.deeper env) (execs body env) (fun f s' => R (.ok (.ret (match f with | .ret v => v | _ => .none))) s')
      (fun e s' => wpAny (model prog w) (A.deeper env) (leaving env e) (fun _ s'' => R (.error e) s'') (fun e' s'' => R (.error e') s'') s') s) :
    codeC (model prog w) A (.func body env) R s := by
  refine codeC_of_tree ?_
  show wpC _ (A.deeper env) (do point; match ← (execs body env).onRaise (leaving env) with | .ret v => ret v | _ => ret .none) _ _ s
  refine wpC_bindA (wpAny_point (wpC_bind (wpC_onRaise (wpC_mono h (fun f s' h' => ?_) fun _ _ h' => wpC_of h'))))
  cases f <;> exact wpC_pure h'
theorem codeC_call_function {a : Addr} {args : Args} {o : Obj} {fd : FuncData} {body : List Stmt} (hroom : A.depth < recursionLimit) (ho : s.heap.get? a = some o)
    (hd' : o.data = .func fd) (hco : fd.scope.isCoroutine = false) (hgen : fd.scope.isGenerator = false) (hbody : fd.body = .stmts body) (hcd : s.heap.CodeRec fd.code fd.qualname)
    (h : wpAny (model prog w) A.in1 (bindArgs fd args) (fun binds s₁ =>
      wpAny (model prog w) A.in1 (newFunctionEnv fd.scope fd.globals fd.closure binds (fd.qualname ++ ".<locals>.") (some a) fd.code none fd.builtins)
        (fun env s₂ => s₂.heap.NoLimit ∧ codeC (model prog w) A (.func body env) R s₂) (fun e s' => R (.error e) s') s₁) (fun e s' => R (.error e) s') s) :
    codeC (model prog w) A (.call (.ref a) args) R s := by
  refine codeC_of_tree ?_
  show wpC _ A.in1 (callAny (.ref a) args) _ _ s
  simp only [callAny]
  refine wpC_bindA (wpAny_load ho ?_)
  obtain ⟨c, oc, vs, tq, hc, hoc, hdc, hq⟩ := hcd
  simp only [hd', callFunction, hco, hgen, hbody, hc]
  rw [hc] at h
  refine wpC_bindA (m := field (.ref c) 1) (wpAny_field hoc hdc hq (wpC_bindA (wpAny_pure ?_)))
  exact wpC_bindA (wpAny_mono h (fun binds s₁ h₁ => wpC_bindA (wpAny_mono h₁ (fun env s₂ h₂ => wpC_bindA (wpAny_enterFrame h₂.1 hroom (wpC_pure (And.intro rfl h₂.2)))) fun _ _ h' => h')) fun _ _ h' => h')
theorem codeC_call_def {a : Addr} {o : Obj} {fd : FuncData} {body : List Stmt} {args : Args} {binds : List (Str × Value)}
    (hroom : A.depth < recursionLimit) (ho : s.heap.get? a = some o) (hdata : o.data = .func fd) (hlim : s.heap.NoLimit) (hcd : s.heap.CodeRec fd.code fd.qualname)
    (hbody : fd.body = .stmts body) (hbind : BindsTo s fd args binds)
    (hcell : ∀ x ∈ fd.scope.names, x.2 ≠ .cell) (hloc : ∀ x ∈ binds, fd.scope.names.lookup x.1 = some .local)
    (h : ∀ h₀, h₀.Ns s.heap.objs.size (fun x => binds.reverse.lookup x) → (∀ b o, s.heap.get? b = some o → h₀.get? b = some o) →
      wpC (model prog w) (A.deeper (callEnv fd s.heap.objs.size a)) (execs body (callEnv fd s.heap.objs.size a)) (fun f s' => R (.ok (.ret (match f with | .ret v => v | _ => .none))) s')
        (fun e s' => wpAny (model prog w) (A.deeper (callEnv fd s.heap.objs.size a)) (leaving (callEnv fd s.heap.objs.size a) e) (fun _ s'' => R (.error e) s'') (fun e' s'' => R (.error e') s'') s')
        { s with heap := h₀, toks := s.toks + binds.length })
    (hco : fd.scope.isCoroutine = false := by rfl) (hgen : fd.scope.isGenerator = false := by rfl) (hk : fd.scope.kind = .function := by rfl) :
    codeC (model prog w) A (.call (.ref a) args) R s := by
  refine codeC_call_function hroom ho hdata hco hgen hbody hcd (hbind _ _ _ _ ?_)
  refine wpAny_newFunctionEnv hcell hloc (fun h₀ hns₀ hsb₀ => ⟨hlim.fresh _ hsb₀, codeC_func (h h₀ hns₀ fun b o e => ?_)⟩) hk
  exact hsb₀.extBut b o (Nat.ne_of_lt (Heap.lt_size e)) (Heap.get?_push_of_some _ e)
end
end Mine
end
section
open PySem PySem.W PyProof.Rows PySem.Calls
namespace Mine
/-- the walk that a law under a claim is asked for: as WalkO, in the contexts that have the claim's caller -/
abbrev WalkC (q : Program) (loose : List Str) (XP : (Str → Option Value) → Heap → Prop) (YP : World → Heap → Prop) (r : RowW) (d : DefRec) (kwd : List (Str × Expr)) (run : Value → List Value → Sem Value) : Prop :=
  ∀ (w : World) (s₀ s₁ : Shared) (mg mb : Str → Option Value), Ground q loose r.records XP w s₀ mg mb s₁.heap → YP w s₁.heap → ∀ (a : Addr) (o : Obj) (pm cd doc dV kV : Value), s₁.heap.get? a = some o →
    o.data = .func { docDef d.name d.params d.body d.scope pm cd doc with defaults := dV, kwdefaults := kV } → s₁.heap.CodeRec cd d.name → Dflts mg s₁.heap d.params kwd dV kV → mg d.name = some (.ref a) → s₁.gens = #[] →
    ∀ (args : List WData) (vals : List Value) (as : List Addr), r.claim.pre args = true → WData.layableAll args = true → ReadsAllW r.records (classAt s₀.heap) s₁.heap vals args as → WellAll w.params s₁.heap vals args → (∀ a ∈ as, (a == sysModules) = false) →
      wpC (model r.prog w) callerA (run (.ref a) vals) (fun v s' => GoodWG r.claim (classAt s₀.heap) (ExcName.means s₀.heap) args s₁ (.ok (.ret v)) s')
        (fun e s' => GoodWG r.claim (classAt s₀.heap) (ExcName.means s₀.heap) args s₁ (.error e) s') s₁
theorem caller_cal : Cal (⟨.builtin "claim.caller" {}, none, none, [], none⟩ : Ctx) := by unfold Cal; rfl
theorem thread_endsC {prog : Program} {w : World} {t : Sem Fin} {s : Shared} {R : Result → Shared → Prop} {G : Prop} (hreg : s.asleep)
    (h : wpC (model prog w) callerA t (fun fin s' => ∃ f, fin = .done f ∧ (R (.ok f) s' ∧ leftWithCleanup s'.gens = false)) (fun e s' => R (.error e) s' ∧ leftWithCleanup s'.gens = false) s)
    (k : ∀ n r s' s'', runN (denote table) prog w n s ⟨t, .builtin "claim.caller" {}, default, []⟩ = .halted (outcomeOf r) s' →
      schedN (denote table) prog w n (.single s ⟨t, .builtin "claim.caller" {}, default, []⟩) = .halted (outcomeOf r) s' → s'.forget = s''.forget → R r s'' → G) : G := by
  obtain ⟨n, r, s₁, s₂, hs, hn, hfo, hR⟩ := wp_halts_full (M := model prog w) (R := R) hreg (Sem.wp_mono (model prog w) _ t (fun fin p' s' h' => by
    obtain ⟨f, rfl, hf⟩ := h'
    exact hf) (fun _ _ _ h' => h') default s (h _ default caller_in caller_cal))
  exact k n r s₂ s₁ hn hs hfo hR
theorem ends_map {α β γ δ : Type} {P0 P0' P1 P2 P3 P4 P4' P5 : α → Prop} {R0 R0' R1 R2 R3 R4 R5 R5' : β → γ → δ → Prop}
    (h : (∃ v, P0 v ∧ P1 v ∧ P2 v ∧ P3 v ∧ P4 v ∧ P5 v) ∨ (∃ e o c, R0 e o c ∧ R1 e o c ∧ R2 e o c ∧ R3 e o c ∧ R5 e o c ∧ R4 e o c)) (f0 : ∀ v, P0 v → P0' v) (f4 : ∀ v, P4 v → P4' v) (g0 : ∀ e o c, R0 e o c → R0' e o c) (g5 : ∀ e o c, R4 e o c → R5' e o c) :
    (∃ v, P0' v ∧ P1 v ∧ P2 v ∧ P3 v ∧ P4' v ∧ P5 v) ∨ (∃ e o c, R0' e o c ∧ R1 e o c ∧ R2 e o c ∧ R3 e o c ∧ R5 e o c ∧ R5' e o c) := by
  rcases h with ⟨v, h0, h1, h2, h3, h4, h5⟩ | ⟨e, o, c, h0, h1, h2, h3, h5, h4⟩
  · exact .inl ⟨v, f0 v h0, h1, h2, h3, f4 v h4, h5⟩
  · exact .inr ⟨e, o, c, g0 _ _ _ h0, h1, h2, h3, h5, g5 _ _ _ h4⟩
theorem callFromC {c : ClaimW} {tree : List Value → Sem Fin} {w : World} {s : Shared} {free : Addr → Prop} {gens : Prop} {kept : Heap → Prop} (hz : s.asleep) (hgens : s.gens = #[])
    (hspec : ∀ args, c.pre args = true → WData.layableAll args = true →
      ∀ ord : List DictEntry → List DictEntry, (∀ l, (ord l).Perm l) →
      ∃ vs s₁, layAllW c.records (classAt s.heap) w.params ord args s = some (vs, s₁) ∧
        wpC (model c.prog w) callerA (tree vs) (fun fin s' => ∃ f, fin = .done f ∧ (c.Ends s args vs s₁ (.ok f) s' ∧ s'.os = s.os ∧ AllBare s'.gens ∧ kept s'.heap))
          (fun e s' => c.Ends s args vs s₁ (.error e) s' ∧ s'.os = s.os ∧ AllBare s'.gens ∧ kept s'.heap) s₁) :
    c.CallFrom (fun vs => ⟨tree vs, .builtin "claim.caller" {}, default, []⟩) w free gens kept s := by
  intro args hpre hlay ord hord
  obtain ⟨vs, s₁, hlaid, hcode⟩ := hspec args hpre hlay ord hord
  have hal := layAllW_rest _ _ _ hlaid
  refine thread_endsC (prog := c.prog) (w := w) (t := tree vs) (s := s₁) (R := fun r s' => c.Ends s args vs s₁ r s' ∧ s'.os = s.os ∧ kept s'.heap)
    (Shared.asleep_of_life hal.2.2.2 hz)
    (wpC_mono hcode (fun fin s' ⟨f, e, h1, h2, h3, h4⟩ => ⟨f, e, ⟨h1, h2, h4⟩, leftWithCleanup_false_of_bare h3⟩) fun e s' ⟨h1, h2, h3, h4⟩ => ⟨⟨h1, h2, h4⟩, leftWithCleanup_false_of_bare h3⟩) fun k r s' s'' hrun hsched hfo hR => ?_
  refine ⟨vs, s₁, hlaid, k, _, s', hsched, ?_⟩
  obtain ⟨hcase, hos, hkp⟩ := hR
  obtain ⟨eh, _, _, eo, _⟩ := Shared.forget_eq hfo
  have hcase := hcase.congr eh
  rw [← eh] at hkp
  rw [← eo] at hos
  have hlife : s'.heap.life = s.heap.life := (runN_life _ _ _ hrun).trans hal.2.2.2
  refine ⟨?_, (fun _ i x hx => by rw [hgens] at hx; cases hx), hkp, by rw [hlife], Shared.rest_eq hos⟩
  exact ends_map hcase (fun v e => by rw [e]; rfl) (fun v d b o y _ => d b o y) (fun e ob cls q => by rw [q]; rfl) (fun e ob cls d b o y _ => d b o y)
/-- the head of an open row, its walk asked for under the claim's caller alone -/
theorem PySem.W.holds_open {r : OpenRow} {q : Program} {loose : List Str} {Xt : Shared → Bool} {XP : (Str → Option Value) → Heap → Prop} {α : Type} {Yf : Shared → α} {Ya : World → α} {YP : World → Heap → Prop} {d : DefRec} {kwd : List (Str × Expr)} {N : Nat}
    (left : LeftO r.prog q loose Xt Yf Ya N) (hY : ∀ w s, Yf s = Ya w → YP w s.heap) (hYk : ∀ w h h', YP w h → (∀ b o, h.get? b = some o → h'.get? b = some o) → YP w h')
    (hX : ∀ s, Xt s = true → XP (s.heap.nsMap mainGlobals) s.heap) (hXk : ∀ mg h h', XP mg h → (∀ b o, h.get? b = some o → h'.get? b = some o) → XP mg h')
    (hdef : defOf q r.name = some (d, kwd)) (hp : r.prog.theDef r.name = some (d.params, d.body, d.scope)) (hk : kwWritten? d.params.kwonlyargs d.params.kw_defaults = some kwd) (hRf : ∀ s, Xt s = true → RecFacts r.records s.heap) (hwr : (!r.writes || r.records.isEmpty) = true)
    (k1 : r.wellSaid = true) (ok : (chainsOk q && opensWell r.prog && (frees r.toRowW && r.within.isEmpty)) = true) (hb : r.prog.bare) (hw : r.toRowW.promised)
    (call : WalkC q loose XP YP r.toRowW d kwd fun f vs => PySem.call f vs) : r.Holds := by
  refine ⟨k1, hw, ?_⟩
  obtain ⟨ok, k5⟩ := Bool.and_eq_true_iff.mp ok
  obtain ⟨hch, o1⟩ := Bool.and_eq_true_iff.mp ok
  obtain ⟨k5, k6⟩ := Bool.and_eq_true_iff.mp k5
  obtain ⟨hsame, hu, ha, hap, hm⟩ := frees_parts k5
  refine ⟨⟨hb, o1, by show r.makers.map _ = []; rw [hm]; rfl⟩, hw.witness, fun w => ⟨(left.behind hX hch w).1, fun s' hs' => ?_⟩⟩
  obtain ⟨s₀, hf, hg0, s, hT, hz, hgens, hg, G00, y⟩ := (left.behind (XP := fun mg h => XP mg h ∧ RecFacts r.records h) (fun s hs => ⟨hX s hs, hRf s hs⟩) hch w).2 s' hs'
  have G0 : Ground q loose [] XP w s (s.heap.nsMap mainGlobals) (s.heap.nsMap builtinsNs) s.heap := ⟨G00.T, G00.B, G00.D, G00.TE, G00.TD, G00.W, G00.X.1, G00.cls, G00.has, G00.apart, G00.once, G00.K⟩
  have RF := G00.X.2
  have hT' := hT
  refine ⟨s₀, hf, hg0, s, hT, ?_, RF.1, RF.2.1, ?_⟩
  · intro n hn
    obtain rfl : n = r.name := by split at hn <;> simp_all
    exact pinned_of_view hg G0 hdef hp hk
  have hgens : s.gens = #[] := Array.eq_empty_of_size_eq_zero (beq_iff_eq.mp hgens)
  have G : Ground q loose r.records XP w s _ _ s.heap := RF.ground G0
  refine callFromC (c := r.toRowW.claim) (tree := fun vs => do match ← nsGet mainNs r.name with
      | some f => do ret (← PySem.call f vs)
      | none => unsupported "claim.caller:no-such-global") hz hgens fun args hpre hlay ord hord => ?_
  obtain ⟨⟨vs, s₁⟩, hlaid⟩ := Option.isSome_iff_exists.mp (layAllW_isSome (P := w.params) (ord := ord) G.has args r.args s (pre_splitW hpre).1)
  have keeps := layAllW_keeps _ _ _ hlaid
  have hal := layAllW_rest _ _ _ hlaid
  obtain ⟨as, hrd, hin, hold⟩ := reads_layAllW hord _ _ _ hlaid hlay s₁.heap (fun _ _ e => e)
  have L : Laid r.records w s s₁ args vs as := ⟨⟨ord, hord, hlaid⟩, hrd, hin, hold, keeps, hal.1.trans hgens, hal.2.2.1⟩
  have G₁ := G.keeps hXk keeps
  have hi := ident_freeW hu ha hap
  have hwi : r.toRowW.claim.within = [] := List.isEmpty_iff.mp k6
  obtain ⟨a, o, pm, cd, doc, dV, kV, h1, h2, h3, h4, h5⟩ := G₁.fn hdef
  have h := call w s s₁ _ _ G₁ (hYk _ _ _ (hY w s y) keeps) a o pm cd doc dV kV h2 h3 h4 h5 (defOf_name hdef ▸ h1) L.gens args vs as hpre hlay L.reads L.well (L.low G.low)
  refine ⟨vs, s₁, hlaid, wpC_bindA (wpAny_nsGet G₁.T.g ?_)⟩
  rw [show (s.heap.nsMap mainGlobals) r.name = some (.ref a) from h1]
  refine wpC_bind (wpC_mono h (fun v s' g => wpC_pure ?_) fun e s' g => ?_)
  · have z := g.laid (c := r.toRowW.claim) hsame hwi hi L
    exact ⟨_, rfl, z.1, z.2.1, z.2.2, fun q => ⟨namesKept_of hT' hg _ keeps g.2.1.old, noTable hwr q⟩⟩
  · have z := g.laid (c := r.toRowW.claim) hsame hwi hi L
    exact ⟨z.1, z.2.1, z.2.2, fun q => ⟨namesKept_of hT' hg _ keeps g.2.1.old, noTable hwr q⟩⟩
end Mine
end
section
open PySem PySem.W PyProof.Rows
namespace Mine
open_top hd for PySem.Challenge.rw_pa0029_01
end Mine
end
section
open PySem PySem.W PyProof.Rows
namespace Mine
@[reducible] noncomputable def prog : Program := RowW.prog (OpenRow.toRowW (OpenLaw.row PySem.Challenge.rw_pa0029_01))
@[reducible] noncomputable def KK (w : World) : Frag := Mine.hd.heap_39 w.params
@[reducible] noncomputable def view : Program := Mine.hd.view_39
@[reducible] noncomputable def loose : List Str := looseW Mine.hd.view_39
      [Str.ofString "Error_ftplib", Str.ofString "bytes_types", Str.ofString "Error_binascii",
        Str.ofString "a2b_base64", Str.ofString "b2a_base64", Str.ofString "b64encode", Str.ofString "b64decode"]
theorem fill : Mine.hd.heap_39 = Mine.hd.heap_39 ∧ PySem.Challenge.rw_pa0029_01 = PySem.Challenge.rw_pa0029_01 := by
  k_fill
  exact ⟨rfl, rfl⟩

theorem lower {α : Type} {M : Model} {A : Around} {t : Sem α} {Q : α → Shared → Prop} {E : Value → Shared → Prop} {s : Shared} (D U : Nat)
    (hd : A.depth ≤ D) (hu : A.units ≤ U) (h : wpAny M { A with depth := D, units := U } t Q E s) : wpAny M A t Q E s :=
  fun Γ p hΓ => h Γ p ⟨hΓ.1, Nat.le_trans hΓ.2.1 hd, hΓ.2.2.1, hΓ.2.2.2.1, Nat.le_trans hΓ.2.2.2.2 hu⟩

/-- what a callee owes at its end: all of the heap `g` that it was entered with stands, and its own objects are `own` -/
noncomputable def LeaveV (g h₀ : Heap) (L : Addr) (m : Str → Option Value) (news : List (Addr × Obj)) (R : Result → Shared → Prop) (v : Value) (s' : Shared) : Prop :=
  ∃ L' m' own, Fr g L' s'.heap m' ∧ News g L' s'.heap own ∧ (Fr h₀ L s'.heap m → News h₀ L s'.heap (own ++ news) → (∀ q ∈ news, ∀ p ∈ own, q.1 ≠ p.1) → R (.ok (.ret v)) s')

theorem enterV {K : Frag} {prog : Program} {w : World} {A₀ A : Around} {s : Shared} {base h₀ : Heap} {outer : List Env} {L : Addr} {m mg mb : Str → Option Value} {env : Env} {news : List (Addr × Obj)} {p : Program} {loose : List Str} {mean : ExcName → Option Value}
    {R : Result → Shared → Prop} {name qual : Str} {params : Arguments} {body : List Stmt} {scope : Scope} {dV kV doc pm cdv ct oc : Value} {an od : Option Addr} {osl : Array (Option Value)} {f : Addr} {args : Args} {binds : List (Str × Value)}
    (B : Below A₀ base outer h₀) (F : Fr h₀ L s.heap m) (X₀ : K.In h₀) (N : News h₀ L s.heap news) (T : Top p loose mean mg mb h₀) (hA : A.frames = some (env :: outer)) (hf : env.frame = some L) (hke : env.scope.kind = .function)
    (ho : K.lookup f = some ⟨oc, od, .func (fnOf name qual params body scope dV kV doc pm an cdv ct), osl⟩) (hcd : codeIn K cdv qual = true) (hroom : A.depth < recursionLimit)
    (hbind : BindsTo s (fnOf name qual params body scope dV kV doc pm an cdv ct) args binds) (hloc : ∀ y ∈ binds, scope.names.lookup y.1 = some .local)
    (h : ∀ L' h₁, Fr s.heap L' h₁ (fun y => binds.reverse.lookup y) → News s.heap L' h₁ [] → Below A base (env :: outer) s.heap → K.In s.heap → Top p loose mean mg mb s.heap →
      wpAny (model prog w) (A.deeper (envOf qual scope L' f cdv)) (execs body (envOf qual scope L' f cdv))
        (fun fl s' => LeaveV s.heap h₀ L m news R (match fl with | .ret v => v | _ => .none) s')
        (fun e s' => wpAny (model prog w) (A.deeper (envOf qual scope L' f cdv)) (leaving (envOf qual scope L' f cdv) e) (fun _ s'' => R (.error e) s'') (fun e' s'' => R (.error e') s'') s')
        { s with heap := h₁, toks := s.toks + binds.length })
    (hco : scope.isCoroutine = false) (hgen : scope.isGenerator = false) (hk : scope.kind = .function)
    (hcell : ∀ x ∈ scope.names, x.2 ≠ .cell) : codeAny (model prog w) A (.call (.ref f) args) R s := by
  have BG : Below A base (env :: outer) s.heap := ⟨hA, fun b o e => F.keep b o (B.stays b o e), (pushX B F hf hke).frames⟩
  refine codeAny_call_def (fd := fnOf name qual params body scope dV kV doc pm an cdv ct) (body := body) (binds := binds) hroom ((X₀.keeps F.keep) _ _ ho) rfl (T.nolimit.keeps F.keep) (codeRec_of (X₀.keeps F.keep) hcd) rfl hbind hcell hloc (fun h₁ hns hk₁ => ?_) hco hgen hk
  refine wpAny_mono (h _ h₁ ⟨hns, hk₁, Nat.le_refl _⟩ News.nil BG (X₀.keeps F.keep) (T.keeps F.keep)) (fun fl s' hl => ?_) fun _ _ y => y
  obtain ⟨L', m', own, F', N', k⟩ := hl
  obtain ⟨oL, es, ep, hL, hLd, hLk, hLf⟩ := F.ns
  refine k ⟨⟨oL, es, ep, F'.keep L oL hL, hLd, hLk, hLf⟩, fun b o e => F'.keep b o (F.keep b o e), F.above⟩ ?_ ?_
  · intro q hq
    rcases List.mem_append.mp hq with hq | hq
    · refine ⟨(N' q hq).1, fun e => ?_, ?_⟩
      · have := (N' q hq).2.2
        rw [e, hL] at this
        cases this
      · cases e : h₀.get? q.1 with
        | none => rfl
        | some o =>
          have := (N' q hq).2.2
          rw [F.keep _ _ e] at this
          cases this
    · exact ⟨F'.keep _ _ (N q hq).1, (N q hq).2.1, (N q hq).2.2⟩
  · intro q hq q' hq' e
    have h2 := (N' q' hq').2.2
    rw [← e, (N q hq).1] at h2
    cases h2

/-- the caller's side of a callee's end -/
theorem leave_back {h₀ : Heap} {L : Addr} {m : Str → Option Value} {news : List (Addr × Obj)} {s s' : Shared} {R : Result → Shared → Prop} {v : Value} (F : Fr h₀ L s.heap m) (N : News h₀ L s.heap news)
    (hl : LeaveV s.heap h₀ L m news R v s') : R (.ok (.ret v)) s' := by
  obtain ⟨L', m', own, F', N', k⟩ := hl
  obtain ⟨oL, es, ep, hL, hLd, hLk, hLf⟩ := F.ns
  refine k ⟨⟨oL, es, ep, F'.keep L oL hL, hLd, hLk, hLf⟩, fun b o e => F'.keep b o (F.keep b o e), F.above⟩ ?_ ?_
  · intro q hq
    rcases List.mem_append.mp hq with hq | hq
    · refine ⟨(N' q hq).1, fun e => ?_, ?_⟩
      · have := (N' q hq).2.2
        rw [e, hL] at this
        cases this
      · cases e : h₀.get? q.1 with
        | none => rfl
        | some o =>
          have := (N' q hq).2.2
          rw [F.keep _ _ e] at this
          cases this
    · exact ⟨F'.keep _ _ (N q hq).1, (N q hq).2.1, (N q hq).2.2⟩
  · intro q hq q' hq' e
    have h2 := (N' q' hq').2.2
    rw [← e, (N q hq).1] at h2
    cases h2

theorem enterVC {K : Frag} {prog : Program} {w : World} {A₀ A : Around} {s : Shared} {base h₀ : Heap} {outer : List Env} {L : Addr} {m mg mb : Str → Option Value} {env : Env} {news : List (Addr × Obj)} {p : Program} {loose : List Str} {mean : ExcName → Option Value}
    {R : Result → Shared → Prop} {name qual : Str} {params : Arguments} {body : List Stmt} {scope : Scope} {dV kV doc pm cdv ct oc : Value} {an od : Option Addr} {osl : Array (Option Value)} {f : Addr} {args : Args} {binds : List (Str × Value)}
    (B : Below A₀ base outer h₀) (F : Fr h₀ L s.heap m) (X₀ : K.In h₀) (N : News h₀ L s.heap news) (T : Top p loose mean mg mb h₀) (hA : A.frames = some (env :: outer)) (hf : env.frame = some L) (hke : env.scope.kind = .function)
    (ho : K.lookup f = some ⟨oc, od, .func (fnOf name qual params body scope dV kV doc pm an cdv ct), osl⟩) (hcd : codeIn K cdv qual = true) (hroom : A.depth < recursionLimit)
    (hbind : BindsTo s (fnOf name qual params body scope dV kV doc pm an cdv ct) args binds) (hkind : (binds.all fun y => scope.names.lookup y.1 == some .local || scope.names.lookup y.1 == some .cell) = true)
    (hnd : ((cellsFrom 0 scope.names []).map (·.1)).Nodup)
    (h : ∀ L' h₁ tk cells, Fr s.heap L' h₁ (bindL (envOfC qual scope L' f cdv).kindOf binds fun _ => none) → News s.heap L' h₁ cells →
      CellsAre (bindC (envOfC qual scope L' f cdv).kindOf binds fun _ => none) (cellsFrom (L' + 1) scope.names []) cells → Below A base (env :: outer) s.heap → K.In s.heap → Top p loose mean mg mb s.heap →
      wpAny (model prog w) (A.deeper (envOfC qual scope L' f cdv)) (execs body (envOfC qual scope L' f cdv))
        (fun fl s' => LeaveV s.heap h₀ L m news R (match fl with | .ret v => v | _ => .none) s')
        (fun e s' => wpAny (model prog w) (A.deeper (envOfC qual scope L' f cdv)) (leaving (envOfC qual scope L' f cdv) e) (fun _ s'' => R (.error e) s'') (fun e' s'' => R (.error e') s'') s')
        { s with heap := h₁, toks := tk })
    (hco : scope.isCoroutine = false) (hgen : scope.isGenerator = false) (hk : scope.kind = .function) : codeAny (model prog w) A (.call (.ref f) args) R s := by
  have BG : Below A base (env :: outer) s.heap := ⟨hA, fun b o e => F.keep b o (B.stays b o e), (pushX B F hf hke).frames⟩
  refine codeAny_call_function hroom ((X₀.keeps F.keep) _ _ ho) rfl hco hgen rfl (codeRec_of (X₀.keeps F.keep) hcd) (hbind _ _ _ _ ?_)
  refine wpAny_newFunctionEnv_cells hk (kindsX hkind _) fun env' he s' x => ?_
  subst he
  refine ⟨(T.nolimit.keeps F.keep).keeps x.toInCall.keep, codeAny_func ?_⟩
  obtain ⟨h₁, tk, rfl, _⟩ := x.done
  have hk₁ := x.toInCall.keep
  obtain ⟨cells, NC, Y⟩ := Cl.news (h₀ := s.heap) (Nat.le_refl _) fun n c hm => ⟨x.cell n c (lookup_of_mem_nodup (cellsFrom_names scope.names 0 (s.heap.objs.size + 1) [] [] rfl ▸ hnd) hm), x.above n c hm⟩
  exact wpAny_mono (h s.heap.objs.size h₁ tk cells ⟨x.toInCall.ns, hk₁, Nat.le_refl _⟩ NC Y BG (X₀.keeps F.keep) (T.keeps F.keep)) (fun fl s' hl => leave_back F N hl) fun _ _ y => y

/-- a contract: the call of the def at `f`, at a depth of at most `D`, gives back `R t` (a value that lies in no heap), and the caller's frame and ledger stand -/
@[reducible] def Ctr (D : Nat) (w : World) (mean : ExcName → Option Value) (mg mb : Str → Option Value) (f : Addr) (news : List (Addr × Obj)) (vs : List Value) (kw : List (Str × Value)) (R : Tok → Value) : Prop :=
  ∀ (dp un : Nat) (gd : Option (List Code)) (cn : Str) (cs : Scope) (a : Addr) (ccd : Value) (cl : List (Str × Addr)) (outer : List Env) (A₀ : Around) (base h₀ : Heap) (L : Addr) (m : Str → Option Value) (s : Shared) (Q E : Value → Shared → Prop),
    Below A₀ base outer h₀ → Fr h₀ L s.heap m → (KK w).In h₀ → News h₀ L s.heap news → Top view loose mean mg mb h₀ → cs.kind = .function → dp ≤ D → un ≤ 4 * D →
    (∀ (t : Tok) (h' : Heap) (tk' : Nat), Fr h₀ L h' m → News h₀ L h' news → Q (R t) { s with heap := h', toks := tk' }) →
    wpAny (model prog w) (ktrTop dp un gd cn cs L a ccd cl outer) (call (.ref f) vs kw) Q E s

theorem use_ctr {D : Nat} {w : World} {mean : ExcName → Option Value} {mg mb : Str → Option Value} {f : Addr} {news : List (Addr × Obj)} {vs : List Value} {kw : List (Str × Value)} {R : Tok → Value} (C : Ctr D w mean mg mb f news vs kw R)
    {dp un : Nat} {gd : Option (List Code)} {cn : Str} {cs : Scope} {a : Addr} {ccd : Value} {cl : List (Str × Addr)} {outer : List Env} {A₀ : Around} {base h₀ : Heap} {L : Addr} {m : Str → Option Value} {s : Shared} {Q E : Value → Shared → Prop}
    (B : Below A₀ base outer h₀) (F : Fr h₀ L s.heap m) (X : (KK w).In h₀) (N : News h₀ L s.heap news) (T : Top view loose mean mg mb h₀) (hk : cs.kind = .function) (hd : dp ≤ D) (hu : un ≤ 4 * D)
    (ret : ∀ (t : Tok) (h' : Heap) (tk' : Nat), Fr h₀ L h' m → News h₀ L h' news → Q (R t) { s with heap := h', toks := tk' }) :
    wpAny (model prog w) (ktrTop dp un gd cn cs L a ccd cl outer) (call (.ref f) vs kw) Q E s := C _ _ _ _ _ _ _ _ _ _ _ _ _ _ _ _ _ B F X N T hk hd hu ret

theorem leaveV_val {g h₀ : Heap} {L L' : Addr} {m m' : Str → Option Value} {news : List (Addr × Obj)} {R : Result → Shared → Prop} {v : Value} {s' : Shared} (F' : Fr g L' s'.heap m') (k : Fr h₀ L s'.heap m → News h₀ L s'.heap news → R (.ok (.ret v)) s') :
    LeaveV g h₀ L m news R v s' := ⟨L', m', [], F', News.nil, fun F N _ => k F N⟩
section
variable {prog : Program} {M : Model} {w : World} {A : Around} {E Q : Value → Shared → Prop} {env : Env} {h : Heap} {g : Array GenState} {d : Drawn} {k n : Nat} {o : OsState} {i a b : Int} {t u : Tok} {x : Str} {pos : Pos}
/-- the library's steps, the state written out: it isn't nested -/
theorem nI (h9 : Q (.int i k) ⟨h, g, d, k + 1, o⟩) : wpAny M A (eval (.Constant (.int i) n pos) env) Q E ⟨h, g, d, k, o⟩ := wpAny_Constant_int h9
theorem nS (h9 : Q (.str x k) ⟨h, g, d, k + 1, o⟩) : wpAny M A (eval (.Constant (.str x) n pos) env) Q E ⟨h, g, d, k, o⟩ := Calls.Constant_str h9
theorem nAdd (h9 : Q (.int (a + b) k) ⟨h, g, d, k + 1, o⟩) : wpAny (model prog w) A (binaryOp .Add (.int a t) (.int b u)) Q E ⟨h, g, d, k, o⟩ := add_int h9
theorem nSub (h9 : Q (.int (a - b) k) ⟨h, g, d, k + 1, o⟩) : wpAny (model prog w) A (binaryOp .Sub (.int a t) (.int b u)) Q E ⟨h, g, d, k, o⟩ := sub_int h9
theorem nAnd (h9 : Q (.int (Builtin.bitAnd a b) k) ⟨h, g, d, k + 1, o⟩) : wpAny (model prog w) A (binaryOp .BitAnd (.int a t) (.int b u)) Q E ⟨h, g, d, k, o⟩ := and_int h9
theorem nOr (h9 : Q (.int (Builtin.bitOr a b) k) ⟨h, g, d, k + 1, o⟩) : wpAny (model prog w) A (binaryOp .BitOr (.int a t) (.int b u)) Q E ⟨h, g, d, k, o⟩ := or_int h9
end
end Mine
end
section
open PySem PySem.W PyProof.Rows
namespace Mine
theorem fill_Mini : Mine.hd.heap_39 = Mine.hd.heap_39 ∧ PySem.Challenge.rw_pa0029_01 = PySem.Challenge.rw_pa0029_01 := by
  w_top off
  try (walk1; fail)
  k_fill
  exact ⟨rfl, rfl⟩

/-- a frame with one name set -/
noncomputable def upd (m : Str → Option Value) (x : Str) (v : Value) : Str → Option Value := fun y => if y = x then some v else m y
theorem fr_gen {h₀ h : Heap} {L : Addr} {m : Str → Option Value} (F : Fr h₀ L h m) : ∃ m', m' = m ∧ Fr h₀ L h m' := ⟨m, rfl, F⟩
theorem eqv {m m' : Str → Option Value} (e : m' = m) {x : Str} {v : Value} (h : m x = some v) : m' x = some v := e ▸ h
/-- an environment of a function, by what the steps below want of it -/
noncomputable def Loc (cs : Scope) (L : Addr) (env : Env) : Prop := env.scope = cs ∧ cs.kind = .function ∧ env.locals = L
inductive AtH (h₀ : Heap) (s₁ : Shared) (L : Addr) (m : Str → Option Value) (led : List (Addr × Obj)) (s' : Shared) : Prop
  | mk (h : Heap) (tk : Nat) (_ : s' = { s₁ with heap := h, toks := tk }) (_ : Fr h₀ L h m) (_ : News h₀ L h led) : AtH h₀ s₁ L m led s'
/-- an expression that gives `v`, changes nothing but the count of marks, and is none of the odd forms -/
noncomputable def VE (cs : Scope) (m : Str → Option Value) (e : Expr) (P : Value → Prop) : Prop :=
  (∀ t l env, swapsWith e t l env = pure false) ∧ (∀ r env, starEach (e :: r) env = (false, eval e env) :: starEach r env) ∧ (∀ op, behindInMarks op e = false) ∧
  ∀ {prog : Program} {w : World} {A : Around} {E : Value → Shared → Prop} {L : Addr} {env : Env} {h₀ : Heap} {s : Shared} {Q : Value → Shared → Prop}, Loc cs L env → Fr h₀ L s.heap m → (∀ v k, P v → Q v { s with toks := k }) → wpAny (model prog w) A (eval e env) Q E s
noncomputable def IsInt (i : Int) (v : Value) : Prop := ∃ t, v = .int i t
@[reducible] noncomputable def IE (cs : Scope) (m : Str → Option Value) (e : Expr) (i : Int) : Prop := VE cs m e (IsInt i)
/-- what is known after a statement is cut down to a claim of its own -/
noncomputable def CutA (I : Shared → Prop) (f : Flow) (s : Shared) : Prop := f = .next ∧ I s
/-- tests upon such -/
noncomputable def CE (cs : Scope) (m : Str → Option Value) (e : Expr) (b : Bool) : Prop :=
  ∀ {prog : Program} {w : World} {A : Around} {E : Value → Shared → Prop} {L : Addr} {env : Env} {h₀ : Heap} {s : Shared} {Q : Bool → Shared → Prop}, Loc cs L env → Fr h₀ L s.heap m → (∀ k, Q b { s with toks := k }) → wpAny (model prog w) A (isTrue e env (eval e env)) Q E s
section
variable {cs : Scope} {m : Str → Option Value} {a b : Expr} {p : Pos} {x y : Int} {k : Nat}
theorem IE.const : IE cs m (.Constant (.int x) k p) x := ⟨fun _ _ _ => rfl, fun _ _ => rfl, fun op => by cases op <;> rfl, fun _ _ hQ => wpAny_Constant_int (hQ _ _ ⟨_, rfl⟩)⟩
theorem VE.name {n : Str} {v : Value} (h1 : cs.names.lookup n = some .local) (h2 : (n == ("__debug__" : Str)) = false) (h3 : m n = some v) : VE cs m (.Name n p) (fun v' => v' = v) :=
  ⟨fun _ _ _ => rfl, fun _ _ => rfl, fun op => by cases op <;> rfl, fun {_ _ _ _ L env _ s _} V F hQ => by
    obtain ⟨rfl, fn, rfl⟩ := V
    exact wpAny_Name (wpAny_loadName_local fn h1 F.ns h3 (hQ _ s.toks rfl)) h2⟩
theorem VE.mono {P P' : Value → Prop} (h : VE cs m a P) (hp : ∀ v, P v → P' v) : VE cs m a P' := ⟨h.1, h.2.1, h.2.2.1, fun V F hQ => h.2.2.2 V F fun v k hv => hQ v k (hp v hv)⟩
theorem IE.name {n : Str} {t : Tok} (h3 : m n = some (.int x t)) (h1 : cs.names.lookup n = some .local := by rfl) (h2 : (n == ("__debug__" : Str)) = false := by rfl) : IE cs m (.Name n p) x := (VE.name h1 h2 h3).mono fun _ h => ⟨t, h⟩
theorem IE.bin {op : Operator} {z : Int} (ha : IE cs m a x) (hb : IE cs m b y) (ho : ∀ {prog : Program} {w : World} {A : Around} {E : Value → Shared → Prop} {s : Shared} {t u : Tok} {Q : Value → Shared → Prop}, Q (.int z s.toks) { s with toks := s.toks + 1 } → wpAny (model prog w) A (binaryOp op (.int x t) (.int y u)) Q E s) : IE cs m (.BinOp a op b p) z :=
  ⟨fun _ _ _ => rfl, fun _ _ => rfl, fun op => by cases op <;> rfl, fun V F hQ => wpAny_BinOp (ha.2.2.2 V F fun _ _ h1 => hb.2.2.2 V F fun _ _ h2 => by
    obtain ⟨t, rfl⟩ := h1
    obtain ⟨u, rfl⟩ := h2
    exact ho (hQ _ _ ⟨_, rfl⟩))⟩
theorem IE.add (ha : IE cs m a x) (hb : IE cs m b y) : IE cs m (.BinOp a .Add b p) (x + y) := ha.bin hb fun h => PyProof.Rows.add_int h
theorem IE.sub (ha : IE cs m a x) (hb : IE cs m b y) : IE cs m (.BinOp a .Sub b p) (x - y) := ha.bin hb fun h => PyProof.Rows.sub_int h
theorem IE.and (ha : IE cs m a x) (hb : IE cs m b y) : IE cs m (.BinOp a .BitAnd b p) (Builtin.bitAnd x y) := ha.bin hb fun h => and_int h
theorem IE.or (ha : IE cs m a x) (hb : IE cs m b y) : IE cs m (.BinOp a .BitOr b p) (Builtin.bitOr x y) := ha.bin hb fun h => or_int h
theorem IE.shl (ha : IE cs m a x) (hb : IE cs m b (k : Int)) (h1 : (k : Int) ≤ 1000000) (h2 : x.natAbs < 2 ^ 64) : IE cs m (.BinOp a .LShift b p) (x * 2 ^ k) := ha.bin hb fun h => lshift_int_small (Int.natCast_nonneg _) h1 h2 h
theorem IE.shr (ha : IE cs m a x) (hb : IE cs m b (k : Int)) : IE cs m (.BinOp a .RShift b p) (x.fdiv (2 ^ k)) := ha.bin hb fun h => rshift_int (Int.natCast_nonneg _) h
theorem CE.cmp {op : CmpOp} {c : Bool} (ha : IE cs m a x) (hb : IE cs m b y) (ho : ∀ {prog : Program} {w : World} {A : Around} {E : Value → Shared → Prop} {s : Shared} {t u : Tok} {Q : Value → Shared → Prop}, Q (.bool c) s → wpAny (model prog w) A (compareOp op (.int x t) (.int y u)) Q E s) : CE cs m (.Compare a [op] [b] p) c :=
  fun V F hQ => wpAny_isTrue_Compare1 (ha.2.2.2 V F fun _ _ h1 => hb.2.2.2 V F fun _ k h2 => by
    obtain ⟨t, rfl⟩ := h1
    obtain ⟨u, rfl⟩ := h2
    exact ho (wpAny_truthy_bool (hQ k))) (hb.2.2.1 op)
theorem CE.eq (ha : IE cs m a x) (hb : IE cs m b y) : CE cs m (.Compare a [.Eq] [b] p) (x == y) := CE.cmp ha hb fun h => PyProof.Rows.eq_int h
theorem CE.ge (ha : IE cs m a x) (hb : IE cs m b y) : CE cs m (.Compare a [.GtE] [b] p) (decide (y ≤ x)) := CE.cmp ha hb fun h => PyProof.Rows.ge_int h
theorem CE.range {c : Expr} {z : Int} (ha : IE cs m a x) (hb : IE cs m b y) (hc : IE cs m c z) : CE cs m (.Compare a [.LtE, .LtE] [b, c] p) (decide (x ≤ y) && decide (y ≤ z)) :=
  fun V F hQ => isTrue_chain (ha.2.2.2 V F fun _ _ h1 => test_link (hb.2.2.2 V F fun _ _ h2 => by
    obtain ⟨t, rfl⟩ := h1
    obtain ⟨u, rfl⟩ := h2
    refine PyProof.Rows.le_int (wpAny_truthy_bool ?_)
    revert hQ
    cases decide (x ≤ y) with
    | false => exact fun hQ => hQ _
    | true => exact fun hQ => test_last (hc.2.2.2 V F fun _ _ h3 => by
        obtain ⟨r, rfl⟩ := h3
        exact PyProof.Rows.le_int (wpAny_truthy_bool (hQ _))))) (hc.2.2.1 .LtE)
theorem CE.ne (ha : IE cs m a x) (hb : IE cs m b y) : CE cs m (.Compare a [.NotEq] [b] p) (x != y) := CE.cmp ha hb fun h => PyProof.Rows.ne_int h
theorem CE.and_no {r : List Expr} {c : Bool} (h : CE cs m a c) (hc : c = false) : CE cs m (.BoolOp .And (a :: r) p) false := fun V F hQ => isTrue_and (h V F fun k => by subst hc; exact hQ k)
theorem CE.bool {n : Str} {c : Bool} (h3 : m n = some (.bool c)) (h1 : cs.names.lookup n = some .local := by rfl) (h2 : (n == ("__debug__" : Str)) = false := by rfl) : CE cs m (.Name n p) c :=
  fun V F hQ => isTrue_plain ((VE.name h1 h2 h3).2.2.2 V F fun _ k h => by subst h; exact wpAny_truthy_bool (hQ k))
theorem CE.no {n : Str} {q : Pos} {t : Tok} {r : List Expr} (h3 : m n = some (.int 0 t)) (h1 : cs.names.lookup n = some .local := by rfl) (h2 : (n == ("__debug__" : Str)) = false := by rfl) : CE cs m (.BoolOp .And (.Name n q :: r) p) false :=
  fun V F hQ => isTrue_and (isTrue_plain ((IE.name h3 h1 h2).2.2.2 V F fun _ k h => by
    obtain ⟨u, rfl⟩ := h
    exact truthy_int (hQ k)))
end
section
variable {prog : Program} {w : World} {A : Around} {E : Value → Shared → Prop} {cs : Scope} {L : Addr} {env : Env} {m : Str → Option Value} {h₀ : Heap}
/-- what comes after a block -/
noncomputable def Aft (prog : Program) (w : World) (A : Around) (E : Value → Shared → Prop) (env : Env) (rest : List Stmt) (Q : Flow → Shared → Prop) (f : Flow) (s' : Shared) : Prop := match f with | .next => wpAny (model prog w) A (execs rest env) Q E s' | f => Q f s'
variable {s₁ s : Shared} {led : List (Addr × Obj)} {rest body orelse : List Stmt} {Q : Flow → Shared → Prop} {x : Str} {p pos : Pos} {e : Expr} {v : Int}
theorem run_nil (h : wpAny (model prog w) A (execs rest env) Q E s) : wpAny (model prog w) A (execs [] env) (Aft prog w A E env rest Q) E s := wpAny_execs_nil h
theorem aft_ret {v : Value} (h : Q (.ret v) s) : Aft prog w A E env rest Q (.ret v) s := h
theorem run_set (V : Loc cs L env) (hA : AtH h₀ s₁ L m led s) (he : IE cs m e v) (k : ∀ t s', AtH h₀ s₁ L (upd m x (.int v t)) led s' → wpAny (model prog w) A (execs rest env) Q E s') (hx : cs.names.lookup x = some .local := by rfl) :
    wpAny (model prog w) A (execs (.Assign [.Name x p] e pos :: rest) env) Q E s := by
  obtain ⟨h, tk, rfl, F, N⟩ := hA
  have V' := V
  obtain ⟨rfl, fn, rfl⟩ := V
  refine wpAny_execs_cons (wpAny_Assign_Name (he.2.2.2 V' F fun v u hv => ?_) (he.1 _ _ _))
  obtain ⟨t, rfl⟩ := hv
  exact wpAny_storeName_local hx F.ns (fun h' hn hs => k t _ ⟨h', _, rfl, F.set hn hs, N.set hs⟩) (by rw [fn]; rfl)
theorem run_if (V : Loc cs L env) (hA : AtH h₀ s₁ L m led s) {b : Bool} (hc : CE cs m e b)
    (k : ∀ s', AtH h₀ s₁ L m led s' → if b then wpAny (model prog w) A (execs body env) (Aft prog w A E env rest Q) E s' else wpAny (model prog w) A (execs orelse env) (Aft prog w A E env rest Q) E s') :
    wpAny (model prog w) A (execs (.If e body orelse pos :: rest) env) Q E s := by
  obtain ⟨h, tk, rfl, F, N⟩ := hA
  exact wpAny_execs_cons (wpAny_If (hc V F fun u => k _ ⟨h, u, rfl, F, N⟩))
theorem run_if_t (V : Loc cs L env) (hA : AtH h₀ s₁ L m led s) {b : Bool} (hc : CE cs m e b) (hb : b = true)
    (k : ∀ s', AtH h₀ s₁ L m led s' → wpAny (model prog w) A (execs body env) (Aft prog w A E env rest Q) E s') :
    wpAny (model prog w) A (execs (.If e body orelse pos :: rest) env) Q E s := run_if V hA hc fun s' h => by rw [if_pos hb]; exact k s' h
theorem run_if_f (V : Loc cs L env) (hA : AtH h₀ s₁ L m led s) {b : Bool} (hc : CE cs m e b) (hb : b = false)
    (k : ∀ s', AtH h₀ s₁ L m led s' → wpAny (model prog w) A (execs orelse env) (Aft prog w A E env rest Q) E s') :
    wpAny (model prog w) A (execs (.If e body orelse pos :: rest) env) Q E s := run_if V hA hc fun s' h => by subst hb; exact k s' h
theorem run_if2 (V : Loc cs L env) (hA : AtH h₀ s₁ L m led s) {b : Bool} (hc : CE cs m e b) (kt : b = true → ∀ s', AtH h₀ s₁ L m led s' → wpAny (model prog w) A (execs body env) (Aft prog w A E env rest Q) E s')
    (kf : b = false → ∀ s', AtH h₀ s₁ L m led s' → wpAny (model prog w) A (execs orelse env) (Aft prog w A E env rest Q) E s') : wpAny (model prog w) A (execs (.If e body orelse pos :: rest) env) Q E s :=
  run_if V hA hc fun s' h => by
    cases b with
    | true => exact kt rfl s' h
    | false => exact kf rfl s' h
theorem run_app (V : Loc cs L env) {vs : List Value} {nn : Nat} {own : List (Addr × Obj)} {D : Addr} {p1 p2 p3 : Pos} (hA : AtH h₀ s₁ L m ((D, listOf vs.toArray nn) :: own) s) (he : IE cs m e v) (hm : m x = some (.ref D)) (hoff : ∀ q ∈ own, q.1 ≠ D) (hl : vs.length ≤ 4000)
    (k : ∀ t s', AtH h₀ s₁ L m ((D, listOf (vs ++ [Value.int v t]).toArray (nn + 1)) :: own) s' → wpAny (model prog w) A (execs rest env) Q E s') (hx : cs.names.lookup x = some .local := by rfl) (hd : (x == ("__debug__" : Str)) = false := by rfl) (hp : (p2.endLine == p3.line) = true := by rfl) :
    wpAny (model prog w) A (execs (.Expr (.Call (.Attribute (.Name x p1) (Str.ofString "append") p2) [e] [] p3) pos :: rest) env) Q E s := by
  obtain ⟨h, tk, rfl, F, N⟩ := hA
  obtain ⟨h1, h2, _, h4⟩ := he
  have hpos : methodCallPos true (.Name x p1) env p2 p3 = pure p3 := by unfold methodCallPos; rw [hp]; rfl
  refine wpAny_execs_cons (wpAny_Expr_any (MethodCall_ (pl := do return (← importBound (.Name x p1) env).getD true) ((VE.name hx hd hm).2.2.2 V F fun _ _ e => ?_) ?_) (by unfold interactive; rw [V.1, V.2.1]; rfl))
  · subst e
    refine listMethod_K N (.head _) PySem.F.slot_list_append PySem.F.type_list_append (callWith_method1 (args_cons (h4 V F fun v u hv => args_nil ?_) (h2 _ _)) (h2 _ _))
    obtain ⟨t, rfl⟩ := hv
    refine append_K F N (.head hoff) (fun h' F' N' => ?_) (by rw [sizeLine_eq, List.size_toArray]; (first | lia | omega))
    rw [List.push_toArray] at N'
    exact k t _ ⟨h', u, rfl, F', N'⟩
  · show (do
      let ov ← eval (.Name x p1) env
      standAt p2.atName
      methodCall (.Name x p1) (Str.ofString "append") p2 p3 env ov 1 (backTo p3 (starEach [e] env)) (backToKw p3 (keywordEach [] env))) = _
    unfold methodCall
    rw [h2, show methodCallForm 1 (backTo p3 ((false, eval e env) :: starEach [] env)) (backToKw p3 (keywordEach [] env)) = true from rfl, hpos]
    rfl
theorem run_cut {M : Model} {st : Stmt} (I : Shared → Prop) (first : wpAny M A (exec st env) (CutA I) E s) (k : ∀ s', I s' → wpAny M A (execs rest env) Q E s') : wpAny M A (execs (st :: rest) env) Q E s :=
  wpAny_execs_cons (wpAny_mono first (fun f s' h => by obtain ⟨rfl, h⟩ := h; exact k s' h) fun _ _ e => e)
theorem ints_snoc {vs : List Value} {ns : List Int} {k : Int} {t : Tok} (h : IntsAre vs ns) : IntsAre (vs ++ [Value.int k t]) (ns ++ [k]) := IntsAre.append h (.cons _ _ .nil)
theorem nat64 {c : Int} (h0 : 0 ≤ c) (h1 : c < 65536) : c.natAbs < 2 ^ 64 := by lia
theorem loc_of {cn : Str} {a : Addr} {cd : Value} (h : cs.kind = .function := by rfl) : Loc cs L (envOf cn cs L a cd) := ⟨rfl, h, rfl⟩
/-- a return of a whole number -/
theorem run_ret (V : Loc cs L env) (hA : AtH h₀ s₁ L m led s) (he : IE cs m e v) (k : ∀ t s', AtH h₀ s₁ L m led s' → Q (.ret (.int v t)) s') : wpAny (model prog w) A (execs (.Return (some e) pos :: rest) env) Q E s := by
  obtain ⟨h, tk, rfl, F, N⟩ := hA
  refine wpAny_execs_cons (wpAny_Return_some (he.2.2.2 V F fun v' u hv => ?_))
  obtain ⟨t, rfl⟩ := hv
  exact k t _ ⟨h, u, rfl, F, N⟩
/-- the end of a call, by such a state -/
theorem leaveA {g h₀ : Heap} {L L' : Addr} {m m' : Str → Option Value} {news : List (Addr × Obj)} {R : Result → Shared → Prop} {x y : Int} {t : Tok} {s s' : Shared} (hA : AtH g s L' m' [] s') (e : y = x)
    (k : ∀ t h' tk', Fr h₀ L h' m → News h₀ L h' news → R (.ok (.ret (.int x t))) { s with heap := h', toks := tk' }) : LeaveV g h₀ L m news R (.int y t) s' := by
  obtain ⟨h, tk, rfl, F, N⟩ := hA
  subst e
  exact leaveV_val F fun F9 N9 => k _ _ _ F9 N9
theorem gen_env {M : Model} {P : Around → Env → Prop} (h : P A env) (k : ∀ A' env', P A' env' → wpAny M A' (execs body env') Q E s) : wpAny M A (execs body env) Q E s := k _ _ h
theorem run_call {M : Model} {st : Stmt} (hA : AtH h₀ s₁ L m led s) (x : Str) (v : Int) (first : wpAny M A (exec st env) (CutA fun s' => ∃ t, AtH h₀ s₁ L (upd m x (.int v t)) led s') E s) (k : ∀ t s', AtH h₀ s₁ L (upd m x (.int v t)) led s' → wpAny M A (execs rest env) Q E s') : wpAny M A (execs (st :: rest) env) Q E s :=
  wpAny_execs_cons (wpAny_mono first (fun f s' h => by obtain ⟨rfl, t, h⟩ := h; exact k t s' h) fun _ _ e => e)
/-- while test: body, turned `n` times -/
theorem run_while (V : Loc cs L env) (hE : PassesOwn (model prog w) A env E) {D : Addr} {own : List (Addr × Obj)} (J : Nat → (Str → Option Value) → Obj → Prop) (n : Nat) {o : Obj} (hj : J n m o) (hA : AtH h₀ s₁ L m ((D, o) :: own) s)
    (go : ∀ k m o, J (k + 1) m o → ∃ b, CE cs m e b ∧ b = true) (stop : ∀ m o, J 0 m o → ∃ b, CE cs m e b ∧ b = false)
    (turn : ∀ k m o s', J (k + 1) m o → AtH h₀ s₁ L m ((D, o) :: own) s' → wpAny (model prog w) A (execs body env) (CutA fun s'' => ∃ m' o', J k m' o' ∧ AtH h₀ s₁ L m' ((D, o') :: own) s'') E s')
    (done : ∀ m o s', J 0 m o → AtH h₀ s₁ L m ((D, o) :: own) s' → wpAny (model prog w) A (execs rest env) Q E s') : wpAny (model prog w) A (execs (.While e body [] pos :: rest) env) Q E s := by
  refine wpAny_execs_cons (whl_start (n + 1) ?_)
  induction n generalizing m o s with
  | zero =>
    obtain ⟨h, tk, rfl, F, N⟩ := hA
    obtain ⟨b, hc, hb⟩ := stop m o hj
    exact whl_turn hE (hc V F fun u => .no hb (wpAny_execs_nil (done m o _ hj ⟨h, u, rfl, F, N⟩)))
  | succ k ih =>
    obtain ⟨h, tk, rfl, F, N⟩ := hA
    obtain ⟨b, hc, hb⟩ := go k m o hj
    exact whl_turn hE (hc V F fun u => .yes hb (wpAny_mono (turn k m o _ hj ⟨h, u, rfl, F, N⟩) (fun f s' hf => by obtain ⟨rfl, m', o', h1, h2⟩ := hf; exact ih h1 h2) fun _ _ e => e))
/-- for x in y: body, where y is a name that holds octets; the own list's object `o` at `D` is all that the loop may change but the frame -/
theorem run_bytes (V : Loc cs L env) (hh : A.handled = none) {b : Array UInt8} {tb : Tok} {D : Addr} {o₀ : Obj} {m₀ : Str → Option Value} {y : Str} {py : Pos} (J : List Int → (Str → Option Value) → Obj → Prop)
    (hA : AtH h₀ s₁ L m₀ [(D, o₀)] s) (hy : m₀ y = some (.bytes b tb)) (hE : PassesOwn (model prog w) A env E) (hj : J [] m₀ o₀)
    (turn : ∀ pre n t m o own s', pre.length < b.size → n ∈ KBw.bInts b → 0 ≤ n → n < 256 → (∀ q ∈ own, q.1 ≠ D) → J pre m o → AtH h₀ s₁ L (upd m x (.int n t)) ((D, o) :: own) s' →
      wpAny (model prog w) A (execs body env) (CutA fun s'' => ∃ m' o', J (pre ++ [n]) m' o' ∧ AtH h₀ s₁ L m' ((D, o') :: own) s'') E s')
    (done : ∀ m o s', J (KBw.bInts b) m o → AtH h₀ s₁ L m [(D, o)] s' → wpAny (model prog w) A (execs rest env) Q E s')
    (hx : cs.names.lookup x = some .local := by rfl) (hx2 : cs.names.lookup y = some .local := by rfl) (hd : (y == ("__debug__" : Str)) = false := by rfl) :
    wpAny (model prog w) A (execs (.For (.Name x p) (.Name y py) body [] pos :: rest) env) Q E s := by
  obtain ⟨h, tk, rfl, F, N⟩ := hA
  have V' := V
  obtain ⟨rfl, fn, rfl⟩ := V
  refine wpAny_execs_cons (For_invVF F hx (by rw [fn]; rfl) ((VE.name hx2 hd hy).2.2.2 V' F fun v k hv => ?_) (fun _ => rfl) hE)
  subst hv
  refine KBw.pyIter_bytes ?_
  have W := KBw.walks (prog := prog) (w := w) hh h.objs.size b tb
  refine loop_invN (fun i m nx => ∃ o, nx = [(D, o)] ∧ J ((KBw.bInts b).take i) m o) W ?_ ?_ ?_ ?_ ⟨_, Heap.get?_push_size _ rfl, rfl, rfl⟩ (F.push _) (fun p hp => ⟨Heap.get?_push_of_some _ (N p hp).1, (N p hp).2⟩) ⟨o₀, rfl, hj⟩ ?_ ?_
  · exact fun hm => absurd F.ns.lt ((List.mem_singleton.mp hm) ▸ Nat.lt_irrefl _)
  · exact fun b' hb => List.mem_singleton.mp hb ▸ next_is_new F
  · exact fun p hp hI => absurd (Heap.lt_size (N p hp).1) ((List.mem_singleton.mp hI) ▸ Nat.lt_irrefl _)
  · exact fun p hp hI => absurd (Heap.lt_size (N p hp).1) ((List.mem_singleton.mp hI) ▸ Nat.lt_irrefl _)
  · rintro i v m₁ nx h' tk' own hi ⟨n, u, hn, rfl⟩ - hoff ⟨o, rfl, hJ⟩ F₁ N₁
    have hn' := KBw.ints_get hn
    have hb := KBw.ints_in (List.mem_of_getElem? hn')
    have hs : (KBw.bInts b).take (i + 1) = (KBw.bInts b).take i ++ [(n.toNat : Int)] := by rw [List.take_add_one, hn']; rfl
    refine wpAny_mono (turn _ (n.toNat : Int) u m₁ o own _ (by rw [List.length_take]; exact Nat.lt_of_le_of_lt (Nat.min_le_left _ _) hi) (List.mem_of_getElem? hn') hb.1 hb.2 (hoff.ne (.head _)) hJ ⟨h', tk', rfl, F₁, N₁⟩) (fun f s' hf => ?_) fun _ _ e => e
    obtain ⟨rfl, m', o', hJ', h2, tk2, rfl, F2, N2⟩ := hf
    exact InvEndN.intro F2 N2 ⟨o', rfl, hs ▸ hJ'⟩ rfl (fun q hq => List.mem_singleton.mp hq ▸ .head _) fun q hq => .tail _ hq
  · rintro m₁ nx h' tk' ⟨o, rfl, hJ⟩ F₁ N₁
    rw [← KBw.ints_length b, List.take_length] at hJ
    exact done m₁ o _ hJ ⟨h', tk', rfl, F₁, N₁⟩
end
end Mine
end
section
open PySem PySem.W PyProof.Rows
namespace Mine

noncomputable def b64v (c : Int) : Int := if 65 ≤ c ∧ c ≤ 90 then c - 65 else if 97 ≤ c ∧ c ≤ 122 then c - 71 else if 48 ≤ c ∧ c ≤ 57 then c + 4 else if c = 43 then 62 else if c = 47 then 63 else 64
theorem b64v_A {c : Int} (h : 65 ≤ c ∧ c ≤ 90) : c - 65 = b64v c := (if_pos h).symm
theorem b64v_a {c : Int} (h : 97 ≤ c ∧ c ≤ 122) : c - 71 = b64v c := ((if_neg fun q => absurd (Int.le_trans h.1 q.2) (by decide)).trans (if_pos h)).symm
theorem b64v_0 {c : Int} (h : 48 ≤ c ∧ c ≤ 57) : c + 4 = b64v c := ((if_neg fun q => absurd (Int.le_trans q.1 h.2) (by decide)).trans ((if_neg fun q => absurd (Int.le_trans q.1 h.2) (by decide)).trans (if_pos h))).symm
theorem b64v_p {c : Int} (h : c = 43) : 62 = b64v c := by subst h; decide
theorem b64v_s {c : Int} (h : c = 47) : 63 = b64v c := by subst h; decide
theorem b64v_n {c : Int} (h1 : ¬ (65 ≤ c ∧ c ≤ 90)) (h2 : ¬ (97 ≤ c ∧ c ≤ 122)) (h3 : ¬ (48 ≤ c ∧ c ≤ 57)) (h4 : c ≠ 43) (h5 : c ≠ 47) : 64 = b64v c := ((if_neg h1).trans ((if_neg h2).trans ((if_neg h3).trans ((if_neg h4).trans (if_neg h5))))).symm
theorem rng {x y z : Int} (h : (decide (x ≤ y) && decide (y ≤ z)) = true) : x ≤ y ∧ y ≤ z := ⟨of_decide_eq_true (Bool.and_eq_true_iff.mp h).1, of_decide_eq_true (Bool.and_eq_true_iff.mp h).2⟩
theorem rng_n {x y z : Int} (h : (decide (x ≤ y) && decide (y ≤ z)) = false) : ¬ (x ≤ y ∧ y ≤ z) := fun q => by rw [decide_eq_true q.1, decide_eq_true q.2] at h; cases h
theorem b64v_ctr (w : World) (mean : ExcName → Option Value) (mg mb : Str → Option Value) (news : List (Addr × Obj)) (c : Int) (t : Tok) : Ctr 470 w mean mg mb 114 news [.int c t] [] (fun t => .int (b64v c) t) := by
  k_with_none
  (k_with "eval Constant int" => (with_reducible refine nI ?_))
  (k_with "eval Constant str" => (with_reducible refine nS ?_))
  (k_with "binaryOp Add int int" => (with_reducible refine nAdd ?_))
  (k_with "binaryOp Sub int int" => (with_reducible refine nSub ?_))
  (k_with "binaryOp BitAnd int int" => (with_reducible refine nAnd ?_))
  (k_with "binaryOp BitOr int int" => (with_reducible refine nOr ?_))
  dsimp only [Ctr, KK, prog, loose, view]
  intro dp un gd cn cs a ccd cl outer A₀ base h₀ L m s Q E B F X N T hk hd hu hret
  refine lower 470 (4 * 470) (by dsimp only; omega) (by dsimp only; omega) ?_
  dsimp only
  refine wpAny_call ?_
  k_dflt (refine' enterV (binds := [(Str.ofString "c", .int c t)]) ?k1 ?k2 ?k3 ?k4 ?k5 ?kA ?kF ?kK ?k6 ?k7 ?k8 ?k9 ?kB ?_ ?c2 ?c3 ?c4 ?c5; (case kA => exact rfl); (case kF => exact rfl); (case kK => first | exact rfl | assumption); (case k1 => k_asm); (case k2 => k_asm); (case k3 => k_asm); (case k4 => k_asm); (case k5 => k_asm); (case k6 => k_is); (case k7 => k_is); (case k8 => exact Nat.le_of_ble_eq_true rfl); (case k9 => (refine' kp_binds ?kx ?ke; (case kx => k_in); (case ke => (intro S; kernel_rfl)))); (case c5 => decide); (case kB => exact locs rfl); (case c2 => exact rfl); (case c3 => exact rfl); (case c4 => exact rfl); k_whole; intro L' h' F' N' B' X' T'; (try dsimp only); (try k_lift B'); (try k_fold))
  obtain ⟨m9, hm9, F9⟩ := fr_gen F'
  have f1 : m9 (Str.ofString "c") = some (.int c t) := eqv hm9 rfl
  have hA : AtH _ s _ m9 [] ⟨h', s.gens, s.drawn, s.toks + 1, s.os⟩ := ⟨_, _, rfl, F9, N'⟩
  clear hm9 F9 F' N'
  refine run_if2 loc_of hA (CE.range IE.const (IE.name f1) IE.const) (fun hb s1 hA => run_ret loc_of hA (IE.sub (IE.name f1) IE.const) fun t s2 hA => aft_ret (by show LeaveV _ _ _ _ _ _ _ _; exact leaveA hA (b64v_A (rng hb)) hret)) fun h1 s1 hA => run_nil ?_
  refine run_if2 loc_of hA (CE.range IE.const (IE.name f1) IE.const) (fun hb s1 hA => run_ret loc_of hA (IE.sub (IE.name f1) IE.const) fun t s2 hA => aft_ret (by show LeaveV _ _ _ _ _ _ _ _; exact leaveA hA (b64v_a (rng hb)) hret)) fun h2 s1 hA => run_nil ?_
  refine run_if2 loc_of hA (CE.range IE.const (IE.name f1) IE.const) (fun hb s1 hA => run_ret loc_of hA (IE.add (IE.name f1) IE.const) fun t s2 hA => aft_ret (by show LeaveV _ _ _ _ _ _ _ _; exact leaveA hA (b64v_0 (rng hb)) hret)) fun h3 s1 hA => run_nil ?_
  refine run_if2 loc_of hA (CE.eq (IE.name f1) IE.const) (fun hb s1 hA => run_ret loc_of hA IE.const fun t s2 hA => aft_ret (by show LeaveV _ _ _ _ _ _ _ _; exact leaveA hA (b64v_p (eq_of_beq hb)) hret)) fun h4 s1 hA => run_nil ?_
  refine run_if2 loc_of hA (CE.eq (IE.name f1) IE.const) (fun hb s1 hA => run_ret loc_of hA IE.const fun t s2 hA => aft_ret (by show LeaveV _ _ _ _ _ _ _ _; exact leaveA hA (b64v_s (eq_of_beq hb)) hret)) fun h5 s1 hA => run_nil ?_
  exact run_ret loc_of hA IE.const fun t s2 hA => by show LeaveV _ _ _ _ _ _ _ _; exact leaveA hA (b64v_n (rng_n h1) (rng_n h2) (rng_n h3) (ne_of_beq_false h4) (ne_of_beq_false h5)) hret
end Mine
end
section
open PySem PySem.W PyProof.Rows
namespace Mine

noncomputable def Vb (bs : List Int) : Int := bs.foldl (fun a b => a * 256 + b) 0
noncomputable def Wb (vs : List Int) : Int := vs.foldl (fun a v => a * 64 + b64v v) 0
theorem Vb_snoc (l : List Int) (x : Int) : Vb (l ++ [x]) = Vb l * 256 + x := by simp [Vb]
theorem Wb_snoc (l : List Int) (x : Int) : Wb (l ++ [x]) = Wb l * 64 + b64v x := by simp [Wb]
theorem and_shift (a : Int) : ∀ (k : Nat) (b : Int), 0 ≤ b → b < 2 ^ k → Builtin.bitAnd (a * 2 ^ k) b = 0
  | 0, b, h0, h1 => by
    have : b = 0 := by simp at h1; (first | lia | omega)
    rw [this, bitAnd_zero]
  | k + 1, b, h0, h1 => by
    have hp : (2 : Int) ^ (k + 1) = 2 ^ k * 2 := Int.pow_succ 2 k
    have e1 : a * 2 ^ (k + 1) / 2 = a * 2 ^ k := by rw [hp, ← Int.mul_assoc]; exact Int.mul_ediv_cancel _ (by decide)
    have e2 : a * 2 ^ (k + 1) % 2 = 0 := by rw [hp, ← Int.mul_assoc]; exact Int.mul_emod_left _ _
    rw [kbt_halves, e1, e2, and_shift a k (b / 2) (by (first | lia | omega)) (by rw [hp] at h1; (first | lia | omega))]
    simp
theorem or_shift (a : Int) (k : Nat) (b : Int) (h0 : 0 ≤ b) (h1 : b < 2 ^ k) : Builtin.bitOr (a * 2 ^ k) b = a * 2 ^ k + b := by
  rw [bitOr_and, and_shift a k b h0 h1]; (first | lia | omega)
noncomputable def InvA (pre out : List Int) (q left pads : Int) : Prop :=
  pads = 0 ∧ 0 ≤ left ∧ left < 64 ∧ (∀ x ∈ out, 0 ≤ x ∧ x < 256) ∧ out.length ≤ pre.length ∧
  ((q = 0 ∧ Wb pre = Vb out ∧ 4 * out.length = 3 * pre.length) ∨ (q = 1 ∧ Wb pre = Vb out * 64 + left ∧ 4 * out.length + 3 = 3 * pre.length) ∨
   (q = 2 ∧ Wb pre = Vb out * 16 + left ∧ left < 16 ∧ 4 * out.length + 2 = 3 * pre.length) ∨ (q = 3 ∧ Wb pre = Vb out * 4 + left ∧ left < 4 ∧ 4 * out.length + 1 = 3 * pre.length))
theorem invA_start : InvA [] [] 0 0 0 := ⟨rfl, Int.le_refl _, by decide, (fun _ h => nomatch h), Nat.le_refl _, .inl ⟨rfl, rfl, rfl⟩⟩
theorem InvA.room {pre out : List Int} {q left pads : Int} {k : Nat} (h : InvA pre out q left pads) (hv : k = out.length) (hp : pre.length < 1000) : k ≤ 4000 := Nat.le_trans (Nat.le_of_lt (Nat.lt_of_le_of_lt (hv ▸ h.2.2.2.2.1) hp)) (by decide)
section
variable {pre out : List Int} {n left : Int}
theorem all_snoc (hout : ∀ x ∈ out, 0 ≤ x ∧ x < 256) {x : Int} (h : 0 ≤ x ∧ x < 256) : ∀ y ∈ out ++ [x], 0 ≤ y ∧ y < 256 := fun y hy => by
  rcases List.mem_append.mp hy with h' | h'
  · exact hout y h'
  · rw [List.mem_singleton.mp h']; exact h
theorem snoc_len {α : Type} (l : List α) (x : α) : (l ++ [x]).length = l.length + 1 := List.length_append
theorem fdiv_pow (x : Int) (k : Nat) (b : Int) (hb : (2 : Int) ^ k = b) (h : 0 ≤ b) : x.fdiv (2 ^ k) = x / b := by rw [hb, Int.fdiv_eq_ediv_of_nonneg _ h]
theorem len_le {a b : Nat} (h : a ≤ b) : a ≤ b + 1 ∧ a + 1 ≤ b + 1 := by (first | lia | omega)
theorem inv0 (hP : InvA pre out 0 left 0) (h0 : 0 ≤ b64v n) (h1 : b64v n < 64) (hW : Wb pre = Vb out) (hL : 4 * out.length = 3 * pre.length) : InvA (pre ++ [n]) out 1 (b64v n) 0 :=
  ⟨rfl, h0, h1, hP.2.2.2.1, by rw [snoc_len]; exact (len_le hP.2.2.2.2.1).1, .inr (.inl ⟨rfl, by rw [Wb_snoc, hW], by rw [snoc_len, hL]; rfl⟩)⟩
theorem inv_n1 {l v W V : Int} (h0 : 0 ≤ l) (h1 : l < 64) (h2 : 0 ≤ v) (h3 : v < 64) (hW : W = V * 64 + l) : (0 ≤ v / 16 ∧ v / 16 < 4) ∧ (0 ≤ l * 4 + v / 16 ∧ l * 4 + v / 16 < 256) ∧ (0 ≤ v % 16 ∧ v % 16 < 64 ∧ v % 16 < 16) ∧ W * 64 + v = (V * 256 + (l * 4 + v / 16)) * 16 + v % 16 := by
  have e := Int.emod_add_mul_ediv v 16
  have e1 := Int.emod_nonneg v (show (16 : Int) ≠ 0 by decide)
  have e2 := Int.emod_lt_of_pos v (show (0 : Int) < 16 by decide)
  generalize v / 16 = d at *
  generalize v % 16 = r at *
  subst hW e
  refine ⟨?_, ?_, ?_, ?_⟩ <;> lia
theorem inv1 (hP : InvA pre out 1 left 0) (h0 : 0 ≤ b64v n) (h1 : b64v n < 64) (hW : Wb pre = Vb out * 64 + left) (hL : 4 * out.length + 3 = 3 * pre.length) :
    InvA (pre ++ [n]) (out ++ [Builtin.bitOr (left * 2 ^ 2) ((b64v n).fdiv (2 ^ 4))]) 2 (Builtin.bitAnd (b64v n) 15) 0 := by
  obtain ⟨_, hl0, hl1, hout, hol, _⟩ := hP
  obtain ⟨a, b, c, d⟩ := inv_n1 hl0 hl1 h0 h1 hW
  have e1 : Builtin.bitOr (left * 2 ^ 2) ((b64v n).fdiv (2 ^ 4)) = left * 4 + b64v n / 16 := by
    rw [fdiv_pow _ 4 16 rfl (by decide)]; exact or_shift left 2 _ a.1 a.2
  rw [e1, bitAnd_m4]
  exact ⟨rfl, c.1, c.2.1, all_snoc hout b, by rw [snoc_len, snoc_len]; exact (len_le hol).2, .inr (.inr (.inl ⟨rfl, by rw [Wb_snoc, Vb_snoc, d], c.2.2, by rw [snoc_len, snoc_len, Nat.mul_succ 3, ← hL]; rfl⟩))⟩
theorem inv_n2 {l v W V : Int} (h0 : 0 ≤ l) (h1 : l < 16) (h2 : 0 ≤ v) (h3 : v < 64) (hW : W = V * 16 + l) : (0 ≤ v / 4 ∧ v / 4 < 16) ∧ (0 ≤ l * 16 + v / 4 ∧ l * 16 + v / 4 < 256) ∧ (0 ≤ v % 4 ∧ v % 4 < 64 ∧ v % 4 < 4) ∧ W * 64 + v = (V * 256 + (l * 16 + v / 4)) * 4 + v % 4 := by
  have e := Int.emod_add_mul_ediv v 4
  have e1 := Int.emod_nonneg v (show (4 : Int) ≠ 0 by decide)
  have e2 := Int.emod_lt_of_pos v (show (0 : Int) < 4 by decide)
  generalize v / 4 = d at *
  generalize v % 4 = r at *
  subst hW e
  refine ⟨?_, ?_, ?_, ?_⟩ <;> lia
theorem inv2 (hP : InvA pre out 2 left 0) (h0 : 0 ≤ b64v n) (h1 : b64v n < 64) (hW : Wb pre = Vb out * 16 + left) (hl : left < 16) (hL : 4 * out.length + 2 = 3 * pre.length) :
    InvA (pre ++ [n]) (out ++ [Builtin.bitOr (left * 2 ^ 4) ((b64v n).fdiv (2 ^ 2))]) 3 (Builtin.bitAnd (b64v n) 3) 0 := by
  obtain ⟨_, hl0, hl1, hout, hol, _⟩ := hP
  obtain ⟨a, b, c, d⟩ := inv_n2 hl0 hl h0 h1 hW
  have e1 : Builtin.bitOr (left * 2 ^ 4) ((b64v n).fdiv (2 ^ 2)) = left * 16 + b64v n / 4 := by
    rw [fdiv_pow _ 2 4 rfl (by decide)]; exact or_shift left 4 _ a.1 a.2
  rw [e1, bitAnd_m2]
  exact ⟨rfl, c.1, c.2.1, all_snoc hout b, by rw [snoc_len, snoc_len]; exact (len_le hol).2, .inr (.inr (.inr ⟨rfl, by rw [Wb_snoc, Vb_snoc, d], c.2.2, by rw [snoc_len, snoc_len, Nat.mul_succ 3, ← hL]; rfl⟩))⟩
theorem inv_n3 {l v W V : Int} (h0 : 0 ≤ l) (h1 : l < 4) (h2 : 0 ≤ v) (h3 : v < 64) (hW : W = V * 4 + l) : (0 ≤ l * 64 + v ∧ l * 64 + v < 256) ∧ W * 64 + v = V * 256 + (l * 64 + v) := by (first | lia | omega)
theorem inv3 (hP : InvA pre out 3 left 0) (h0 : 0 ≤ b64v n) (h1 : b64v n < 64) (hW : Wb pre = Vb out * 4 + left) (hl : left < 4) (hL : 4 * out.length + 1 = 3 * pre.length) :
    InvA (pre ++ [n]) (out ++ [Builtin.bitOr (left * 2 ^ 6) (b64v n)]) 0 0 0 := by
  obtain ⟨_, hl0, hl1, hout, hol, _⟩ := hP
  obtain ⟨b, d⟩ := inv_n3 hl0 hl h0 h1 hW
  rw [show Builtin.bitOr (left * 2 ^ 6) (b64v n) = left * 64 + b64v n from or_shift left 6 _ h0 h1]
  exact ⟨rfl, Int.le_refl _, by decide, all_snoc hout b, by rw [snoc_len, snoc_len]; exact (len_le hol).2, .inl ⟨rfl, by rw [Wb_snoc, Vb_snoc, d], by rw [snoc_len, snoc_len, Nat.mul_succ 3, ← hL]; rfl⟩⟩
theorem InvA.done {q pads : Int} {k : Nat} (h : InvA pre out q left pads) (hp : pre.length = k) (h4 : k % 4 = 0) (hk : k ≤ 1000) : q = 0 ∧ pads = 0 ∧ (∀ x ∈ out, 0 ≤ x ∧ x < 256) ∧ Wb pre = Vb out ∧ 4 * out.length = 3 * k ∧ out.length ≤ 1000 := by
  subst hp
  obtain ⟨rfl, _, _, ho, hol, h⟩ := h
  have key : ∀ c : Nat, c < 4 → 4 * out.length + c = 3 * pre.length → c = 0 := fun c hc h => by (first | lia | omega)
  rcases h with ⟨h, hW, hL⟩ | ⟨_, _, hL⟩ | ⟨_, _, _, hL⟩ | ⟨_, _, _, hL⟩
  · exact ⟨h, rfl, ho, hW, hL, Nat.le_trans hol hk⟩
  · cases key 3 (by decide) hL
  · cases key 2 (by decide) hL
  · cases key 1 (by decide) hL
end
/-- the `n` last figures of `v` to the base `B`, the greatest first -/
noncomputable def dig (B : Int) : Nat → Int → List Int
  | 0, _ => []
  | n + 1, v => dig B n (v / B) ++ [v % B]
theorem dig_length (B : Int) : ∀ n v, (dig B n v).length = n
  | 0, _ => rfl
  | n + 1, v => by simp [dig, dig_length B n]
theorem dig_in (B : Int) (hB : 0 < B) : ∀ n v, ∀ x ∈ dig B n v, 0 ≤ x ∧ x < B
  | 0, _, x, hx => nomatch hx
  | n + 1, v, x, hx => by
    rcases List.mem_append.mp hx with h | h
    · exact dig_in B hB n _ x h
    · rw [List.mem_singleton.mp h]; exact ⟨Int.emod_nonneg _ (by (first | lia | omega)), Int.emod_lt_of_pos _ hB⟩
noncomputable def val (B : Int) (l : List Int) : Int := l.foldl (fun a b => a * B + b) 0
theorem val_snoc (B : Int) (l : List Int) (x : Int) : val B (l ++ [x]) = val B l * B + x := by simp [val]
theorem dig_snoc (B : Int) (hB : 0 < B) (n : Nat) (v x : Int) (h0 : 0 ≤ x) (h1 : x < B) : dig B (n + 1) (v * B + x) = dig B n v ++ [x] := by
  have hd : (v * B + x) / B = v := by
    rw [Int.add_comm, Int.add_mul_ediv_right _ _ (by (first | lia | omega)), Int.ediv_eq_zero_of_lt h0 h1, Int.zero_add]
  have hm : (v * B + x) % B = x := by rw [Int.add_comm, Int.add_mul_emod_self_right, Int.emod_eq_of_lt h0 h1]
  rw [dig, hd, hm]
theorem snoc_ind {α : Type} {P : List α → Prop} (h0 : P []) (h1 : ∀ l x, P l → P (l ++ [x])) (l : List α) : P l := by
  have key : ∀ n (l : List α), l.length = n → P l := by
    intro n
    induction n with
    | zero => intro l hl; rw [List.length_eq_zero_iff.mp hl]; exact h0
    | succ n ih =>
      intro l hl
      have hne : l ≠ [] := by intro e; rw [e] at hl; cases hl
      rw [← List.dropLast_concat_getLast hne]
      exact h1 _ _ (ih _ (by rw [List.length_dropLast]; (first | lia | omega)))
  exact key _ l rfl
theorem dig_val (B : Int) (hB : 0 < B) (l : List Int) : (∀ x ∈ l, 0 ≤ x ∧ x < B) → dig B l.length (val B l) = l := by
  refine snoc_ind (P := fun l => (∀ x ∈ l, 0 ≤ x ∧ x < B) → dig B l.length (val B l) = l) (fun _ => rfl) ?_ l
  intro l x ih h
  have hx := h x (by simp)
  rw [List.length_append, List.length_singleton, val_snoc, dig_snoc B hB _ _ _ hx.1 hx.2, ih fun y hy => h y (by simp [hy])]
theorem Vb_val (l : List Int) : Vb l = val 256 l := rfl
theorem out_is {out : List Int} {v : Int} {n : Nat} (hout : ∀ x ∈ out, 0 ≤ x ∧ x < 256) (hW : v = Vb out) (hL : 4 * out.length = 3 * n) : out = dig 256 (3 * n / 4) v := by
  have : 3 * n / 4 = out.length := by (first | lia | omega)
  rw [this, hW, Vb_val, dig_val 256 (by decide) out hout]
theorem ints_of {f : Nat → Int} : ∀ (zs : List Value) (i : Nat), (∀ j y, zs[j]? = some y → ∃ t, y = Value.int (f (i + j)) t) → IntsAre zs ((List.range zs.length).map fun j => f (i + j))
  | [], _, _ => .nil
  | z :: zs, i, h => by
    obtain ⟨t, rfl⟩ := h 0 z (by simp)
    have ih := ints_of (f := f) zs (i + 1) fun j y hj => by
      rw [show i + 1 + j = i + (j + 1) by (first | lia | omega)]
      exact h (j + 1) y (by simpa using hj)
    rw [List.length_cons, List.range_succ_eq_map, List.map_cons, List.map_map]
    refine .cons _ _ ?_
    have e : (List.range zs.length).map (fun j => f (i + 1 + j)) = (List.range zs.length).map ((fun j => f (i + j)) ∘ Nat.succ) := List.map_congr_left fun j _ => by show f (i + 1 + j) = f (i + (j + 1)); rw [show i + 1 + j = i + (j + 1) by (first | lia | omega)]
    rw [← e]
    exact ih
theorem dig_map (B : Int) (hB : 0 < B) : ∀ (n : Nat) (v : Int), dig B n v = (List.range n).map fun j => v / B ^ (n - 1 - j) % B
  | 0, _ => rfl
  | n + 1, v => by
    rw [dig, dig_map B hB n, List.range_succ, List.map_append]
    congr 1
    · refine List.map_congr_left fun j hj => ?_
      have hj' := List.mem_range.mp hj
      have e : n + 1 - 1 - j = (n - 1 - j) + 1 := by (first | lia | omega)
      rw [e, Int.pow_succ, Int.mul_comm, Int.ediv_ediv_of_nonneg (by (first | lia | omega))]
    · simp
end Mine
end
section
open PySem PySem.W PyProof.Rows
namespace Mine

section
open PyProof.Rows.LCg
/-- what a list comprehension wants of its iterable: an iterator laid anew, its walk, and the turns -/
noncomputable def SrcV (prog : Program) (w : World) (A : Around) (h₀ : Heap) (L : Addr) (m : Str → Option Value) (env : Env) (elt : Expr) (x : Str) (scope : Scope) (cl : List (Str × Addr)) (Fin : Shared → List Value → List (Addr × Obj) → Prop) (xv : Value) (s₁ : Shared) : Prop :=
  ∃ (news : List (Addr × Obj)) (n : Nat) (P : Nat → Value → Prop) (St : Nat → Heap → Prop) (S : List (Addr × Obj) → Prop) (o : Obj) (fp : List Addr), Fr h₀ L s₁.heap m ∧ News h₀ L s₁.heap news ∧ n ≤ sizeLine ∧
    (∀ (Q : Value → Shared → Prop) (E : Value → Shared → Prop), Q (.ref s₁.heap.objs.size) { s₁ with heap := s₁.heap.push o } → wpAny (model prog w) A (pyIter xv) Q E s₁) ∧
    Walks prog w A s₁.heap.objs.size fp [s₁.heap.objs.size] n P St ∧ (∀ b ∈ fp, b ≤ s₁.heap.objs.size) ∧ (∀ i h, St i h → ∃ o, h.get? s₁.heap.objs.size = some o) ∧
    (∀ i h h' o nw, St i h → h.get? s₁.heap.objs.size = some o → h'.get? s₁.heap.objs.size = some o → (∀ b o, h₀.get? b = some o → h'.get? b = some o) → News h₀ L h' nw → S nw → St i h') ∧ St 0 (s₁.heap.push o) ∧ S news ∧
    ∀ s₂ : Shared, (∃ h, s₂ = { s₁ with heap := h }) → CompRest prog w A h₀ L m env elt x scope cl s₂ S P (Fin s₂) n 0 [] news
section
variable {prog : Program} {w : World} {A : Around} {E : Value → Shared → Prop} {s : Shared} {h₀ : Heap} {L : Addr} {m : Str → Option Value} {env : Env}
theorem ListComp_V {elt iter : Expr} {x : Str} {px : Pos} {scope : Scope} {cl : List (Str × Addr)} {pos : Pos} {Q : Value → Shared → Prop} (_F : Fr h₀ L s.heap m)
    (hclos : closureFor scope env = pure cl) (hcell : ∀ y ∈ scope.names, y.2 ≠ .cell) (hkind : scope.kind = .function)
    (hnames : ∀ y ∈ scope.names, y.2 = .local → scope.names.lookup y.1 = some .local) (hx : scope.names.lookup x = some .local)
    (h : wpAny (model prog w) A (eval iter env) (SrcV prog w A h₀ L m env elt x scope cl (fun s₂ => FinE h₀ L m s₂ Q)) E s)
    (hs : ∀ x, foldedSetIterable iter env x = pure x := by intro _; rfl) :
    wpAny (model prog w) A (eval (.ListComp elt [⟨.Name x px, iter, [], 0⟩] scope pos) env) Q E s := by
  rw [eval_ListComp]
  refine wpAny_comprehension_free (use := none) rfl hs hclos hkind hnames (wpAny_mono h (fun xv s₁ h₁ => ?_) fun _ _ e => e)
  obtain ⟨news, n, P, St, S, o, fp, F, N, hsz, hit, W, hfp, hIo, hSt, hst, hS, R⟩ := h₁
  refine hit _ _ ?_
  refine block_U W hsz hIo hSt hcell hkind hx hst (fun b hb => ?_)
      (F.keeps fun _ _ e => Heap.get?_push_of_some _ e) (N.grown fun _ _ e => Heap.get?_push_of_some _ e) (Nat.ne_of_lt F.ns.lt) (next_is_new F) (fun p hp => Nat.ne_of_lt (Heap.lt_size (N p hp).1)) hS (R _ ⟨_, rfl⟩) ?_
  · show b < (s₁.heap.push _).objs.size
    rw [Heap.size_push]; exact Nat.lt_succ_of_le (hfp b hb)
  · intro D C h tk m' ys news' F' N' o1 hn hC₀ hD₀ hCL hDL hCD offC fin
    refine ⟨m', hn, fun h'' hs'' => fin D h'' tk (F'.change hs'' hCL hC₀) (fun p hp => ?_) o1⟩
    refine ⟨hs''.extBut _ _ ?_ (N' p hp).1, (N' p hp).2⟩
    rcases List.mem_cons.mp hp with rfl | hp
    · exact Ne.symm hCD
    · exact offC p hp
/-- a walk whose state is the iterator's own object -/
theorem one_st {I : Addr} {n : Nat} {P : Nat → Value → Prop} {St : Nat → Heap → Prop} (W : Walks prog w A I [I] [I] n P St) :
    ∀ i h h' o (nw : List (Addr × Obj)), St i h → h.get? I = some o → h'.get? I = some o → (∀ b o, h₀.get? b = some o → h'.get? b = some o) → News h₀ L h' nw → (fun _ => True) nw → St i h' :=
  fun i h h' o nw st e e' _ _ _ => W.frame i h h' st fun b hb o' e2 => by
    rw [List.mem_singleton.mp hb] at e2 ⊢
    rw [e] at e2
    cases e2
    exact e'
theorem srcV_str {elt : Expr} {x : Str} {scope : Scope} {cl : List (Str × Addr)} {Fin : Shared → List Value → List (Addr × Obj) → Prop} {t : Str} {tk : Tok} {news : List (Addr × Obj)} {s₁ : Shared}
    (hh : A.handled = none) (F : Fr h₀ L s₁.heap m) (N : News h₀ L s₁.heap news) (hz : t.cps.size ≤ sizeLine) (ha : t.cps.all (· < 128) = true)
    (h : ∀ g, CompRest prog w A h₀ L m env elt x scope cl { s₁ with heap := g } (fun _ => True) (SignAt t) (Fin { s₁ with heap := g }) t.cps.size 0 [] news) :
    SrcV prog w A h₀ L m env elt x scope cl Fin (.str t tk) s₁ :=
  ⟨news, _, _, _, fun _ => True, _, _, F, N, hz, fun _ _ hQ => wpAny_pyIter_ascii ha hQ, Walks.strAscii hh _ t tk, fun b hb => Nat.le_of_eq (List.mem_singleton.mp hb), fun _ _ st => let ⟨o, e, _⟩ := st; ⟨o, e⟩, one_st (prog := prog) (w := w) (Walks.strAscii hh _ t tk), ⟨_, Heap.get?_push_size _ rfl, rfl, rfl⟩, trivial, fun _ ⟨g, e⟩ => e ▸ h g⟩
theorem srcV_range {elt : Expr} {x : Str} {scope : Scope} {cl : List (Str × Addr)} {Fin : Shared → List Value → List (Addr × Obj) → Prop} {r : Addr} {a b c : Int} {t u v : Tok} {n : Nat} {news : List (Addr × Obj)} {s₁ : Shared}
    (hh : A.handled = none) (F : Fr h₀ L s₁.heap m) (N : News h₀ L s₁.heap news) (hr : IsRange s₁.heap r a b c t u v) (hsm : Builtin.Range.small a b c = true) (hn : Builtin.Range.rangeSize a b c = ((n : Nat) : Int)) (hsz : n ≤ sizeLine)
    (h : ∀ g, CompRest prog w A h₀ L m env elt x scope cl { s₁ with heap := g } (fun _ => True) (fun i v => ∃ t, v = .int (a + i * c) t) (Fin { s₁ with heap := g }) n 0 [] news) :
    SrcV prog w A h₀ L m env elt x scope cl Fin (.ref r) s₁ :=
  ⟨news, _, _, _, fun _ => True, _, _, F, N, hsz, fun _ _ hQ => wpAny_pyIter_range hr hsm hQ, Walks.range hh _ a c n, fun b hb => Nat.le_of_eq (List.mem_singleton.mp hb), fun _ _ st => ⟨_, st⟩, one_st (prog := prog) (w := w) (Walks.range hh _ a c n), by show IsRangeIter _ _ _ _ _; rw [hn]; simpa using Heap.get?_push_size _ rfl, trivial, fun _ ⟨g, e⟩ => e ▸ h g⟩
theorem srcV_list {elt : Expr} {x : Str} {scope : Scope} {cl : List (Str × Addr)} {Fin : Shared → List Value → List (Addr × Obj) → Prop} {ax : Addr} {its : Array Value} {news : List (Addr × Obj)} {s₁ : Shared}
    (hh : A.handled = none) (F : Fr h₀ L s₁.heap m) (N : News h₀ L s₁.heap news) (hl : SrcAt h₀ ax its news) (hsz : its.size ≤ sizeLine)
    (h : ∀ g, CompRest prog w A h₀ L m env elt x scope cl { s₁ with heap := g } (SrcAt h₀ ax its) (fun i v => its[i]? = some v) (Fin { s₁ with heap := g }) its.size 0 [] news) :
    SrcV prog w A h₀ L m env elt x scope cl Fin (.ref ax) s₁ := by
  have hl' := hl.list F.keep N
  have hlt : ax < s₁.heap.objs.size := by obtain ⟨_, e, _⟩ := hl'; exact Heap.lt_size e
  refine ⟨news, _, _, _, SrcAt h₀ ax its, _, _, F, N, hsz, fun _ _ hQ => wpAny_pyIter_list hl' hQ, Walks.list hh _ ax (Nat.ne_of_lt hlt) its, ?_, fun _ _ st => let ⟨o, e, _⟩ := st.1; ⟨o, e⟩, list_st, ⟨⟨_, Heap.get?_push_size _ rfl, rfl, rfl⟩, hl'.push _⟩, hl, fun _ ⟨g, e⟩ => e ▸ h g⟩
  intro b hb
  rcases List.mem_cons.mp hb with rfl | hb
  · exact Nat.le_refl _
  · rw [List.mem_singleton.mp hb]; exact Nat.le_of_lt hlt
/-- an element's end: the frame and the ledger stand, the value is as asked -/
noncomputable def ElEnd (h₀ : Heap) (L : Addr) (m : Str → Option Value) (s : Shared) (led : List (Addr × Obj)) (g : Value → Prop) (y : Value) (s' : Shared) : Prop :=
  ∃ h' tk', s' = { s with heap := h', toks := tk' } ∧ Fr h₀ L h' m ∧ News h₀ L h' led ∧ g y
theorem ElEnd.intro {led : List (Addr × Obj)} {g : Value → Prop} {y : Value} {h' : Heap} {tk' : Nat} (F : Fr h₀ L h' m) (N : News h₀ L h' led) (hg : g y) : ElEnd h₀ L m s led g y { s with heap := h', toks := tk' } := ⟨h', tk', rfl, F, N, hg⟩
/-- a comprehension whose element is reckoned, item by item, and leaves the ledger as it was -/
theorem compRest_map {elt : Expr} {x : Str} {scope : Scope} {cl : List (Str × Addr)} {S : List (Addr × Obj) → Prop} {P : Nat → Value → Prop} {Fin : List Value → List (Addr × Obj) → Prop} {news : List (Addr × Obj)} {n : Nat} (g : Nat → Value → Prop) (hS : S news)
    (body : ∀ i v I oI C oC D ys m₂ h tk (E' : Value → Shared → Prop), i < n → P i v → NsObj oC m₂ → m₂ x = some v → Fr h₀ L h m → News h₀ L h ((I, oI) :: (C, oC) :: (D, lst ys) :: news) → Off3 I C D news → ((@Ne Nat I C) ∧ (@Ne Nat I D) ∧ (@Ne Nat C D)) →
      wpAny (model prog w) A (eval elt (compEnvC scope cl C env)) (ElEnd h₀ L m s ((I, oI) :: (C, oC) :: (D, lst ys) :: news) (g i)) E' { s with heap := h, toks := tk }) :
    ∀ (k i : Nat) (ys : List Value), i + k = n → (∀ zs : List Value, zs.length = k → (∀ j y, zs[j]? = some y → g (i + j) y) → Fin (ys ++ zs) news) → CompRest prog w A h₀ L m env elt x scope cl s S P Fin k i ys news
  | 0, i, ys, _, fin => CompRest.zero (by simpa using fin [] rfl (fun j y h => by simp at h))
  | k + 1, i, ys, hn, fin => CompRest.succ fun v I oI C oC D m₂ h tk E' hP hC hx F N off ne => by
    refine wpAny_mono (body i v I oI C oC D ys m₂ h tk E' (by (first | lia | omega)) hP hC hx F N off ne) ?_ (fun _ _ e => e)
    rintro y s' ⟨h', tk', rfl, F', N', hg⟩
    refine ⟨h', tk', news, rfl, F', N', off, hS, compRest_map g hS body k (i + 1) (ys ++ [y]) (by (first | lia | omega)) fun zs hz hj => ?_⟩
    rw [List.append_assoc]
    refine fin (y :: zs) (by simp [hz]) fun j z hjz => ?_
    cases j with
    | zero => simp at hjz; subst hjz; exact hg
    | succ j => rw [show i + (j + 1) = i + 1 + j by (first | lia | omega)]; exact hj j z (by simpa using hjz)
end
end
end Mine
end
section
open PySem PySem.W PyProof.Rows
namespace Mine

noncomputable def decN (n : Int) : List Nat := (Nat.toDigits 10 n.toNat).map Char.toNat
noncomputable def numS (n : Int) : Str := Str.ofString (toString n)
theorem numS_cps {n : Int} (h : 0 ≤ n) : (numS n).cps.toList = decN n := by
  obtain ⟨k, rfl⟩ := Int.eq_ofNat_of_zero_le h
  exact KIN.signs_num k
theorem decN_digits (n : Int) : ∀ c ∈ decN n, 48 ≤ c ∧ c ≤ 57 := by
  intro c hc
  obtain ⟨d, hd, rfl⟩ := List.mem_map.mp hc
  have := Nat.isDigit_of_mem_toDigits (by decide) (by decide) hd
  simp only [Char.isDigit, Bool.and_eq_true, decide_eq_true_eq, ge_iff_le, UInt32.le_iff_toNat_le] at this
  exact this
theorem decN_len {n : Int} (h1 : n < 10 ^ 20) : (decN n).length ≤ 20 := by
  unfold decN
  rw [List.length_map]
  refine digits10_le (by decide) ?_
  have : (10 : Int) ^ 20 = ((10 ^ 20 : Nat) : Int) := rfl
  (first | lia | omega)
noncomputable def wt (n : Int) : Int := ((decN n).map fun (c : Nat) => (c : Int) - 48).sum
theorem int_sign {c : Nat} (h : 48 ≤ c ∧ c ≤ 57) : PySem.intText? ⟨#[c]⟩ = some ((c : Int) - 48) := by
  have := PySem.intText_digits (x := ⟨#[c]⟩) (fun d hd => by simp at hd; subst hd; exact h) (by simp) (by show 1 ≤ 4300; decide)
  rw [this]
  congr 1
  show ((0 * 10 + (c - 48) : Nat) : Int) = _
  (first | lia | omega)
end Mine
end
section
open PySem PySem.W PyProof.Rows
namespace Mine

theorem enterLaw {K : Frag} {prog : Program} {w : World} {s : Shared} {mg mb : Str → Option Value} {p : Program} {loose : List Str} {mean : ExcName → Option Value}
    {R : Result → Shared → Prop} {name qual : Str} {params : Arguments} {body : List Stmt} {scope : Scope} {dV kV doc pm cdv ct oc : Value} {an od : Option Addr} {osl : Array (Option Value)} {f : Addr} {args : Args} {binds : List (Str × Value)}
    (X₀ : K.In s.heap) (T : Top p loose mean mg mb s.heap)
    (ho : K.lookup f = some ⟨oc, od, .func (fnOf name qual params body scope dV kV doc pm an cdv ct), osl⟩) (hcd : codeIn K cdv qual = true)
    (hbind : BindsTo s (fnOf name qual params body scope dV kV doc pm an cdv ct) args binds) (hkind : (binds.all fun y => scope.names.lookup y.1 == some .local || scope.names.lookup y.1 == some .cell) = true)
    (hnd : ((cellsFrom 0 scope.names []).map (·.1)).Nodup)
    (h : ∀ L' h₁ tk cells, Fr s.heap L' h₁ (bindL (envOfC qual scope L' f cdv).kindOf binds fun _ => none) → News s.heap L' h₁ cells →
      CellsAre (bindC (envOfC qual scope L' f cdv).kindOf binds fun _ => none) (cellsFrom (L' + 1) scope.names []) cells → Below callerA s.heap [] s.heap →
      wpC (model prog w) (callerA.deeper (envOfC qual scope L' f cdv)) (execs body (envOfC qual scope L' f cdv))
        (fun fl s' => R (.ok (.ret (match fl with | .ret v => v | _ => .none))) s') (fun _ _ => False)
        { s with heap := h₁, toks := tk })
    (hco : scope.isCoroutine = false) (hgen : scope.isGenerator = false) (hk : scope.kind = .function) : codeC (model prog w) callerA (.call (.ref f) args) R s := by
  refine codeC_call_function (Nat.le_of_ble_eq_true rfl) (X₀ _ _ ho) rfl hco hgen rfl (codeRec_of X₀ hcd) (hbind _ _ _ _ ?_)
  refine wpAny_newFunctionEnv_cells hk (kindsX hkind _) fun env' he s' x => ?_
  subst he
  refine ⟨T.nolimit.keeps x.toInCall.keep, codeC_func ?_⟩
  obtain ⟨h₁, tk, rfl, _⟩ := x.done
  have hk₁ := x.toInCall.keep
  obtain ⟨cells, NC, Y⟩ := Cl.news (h₀ := s.heap) (Nat.le_refl _) fun n c hm => ⟨x.cell n c (lookup_of_mem_nodup (cellsFrom_names scope.names 0 (s.heap.objs.size + 1) [] [] rfl ▸ hnd) hm), x.above n c hm⟩
  exact wpC_mono (h s.heap.objs.size h₁ tk cells ⟨x.toInCall.ns, hk₁, Nat.le_refl _⟩ NC Y (below_caller _)) (fun fl s' hl => hl) fun _ _ y => y.elim
theorem map_getD {β : Type} (l : List Int) (f : Int → β) : ((List.range l.length).map fun j => f (l.getD (0 + j) 0)) = l.map f := by
  refine List.ext_getElem? fun j => ?_
  rw [List.getElem?_map, List.getElem?_map]
  simp only [Nat.zero_add]
  by_cases hj : j < l.length
  · rw [List.getElem?_range hj, List.getElem?_eq_getElem hj]
    simp [List.getD_eq_getElem?_getD, hj]
  · rw [List.getElem?_eq_none (by simpa using hj), List.getElem?_eq_none (by simpa using hj)]
    rfl
theorem ints_map {zs : List Value} {l : List Int} {f : Int → Int} (hz : zs.length = l.length) (hj : ∀ j y, zs[j]? = some y → ∃ t, y = Value.int (f (l.getD (0 + j) 0)) t) : IntsAre zs (l.map f) := by
  have := ints_of (f := fun i => f (l.getD i 0)) zs 0 hj
  rw [hz, map_getD] at this
  exact this
/-- kept from the walker's sight -/
noncomputable def Hid (P : Value → Shared → Prop) : Value → Shared → Prop := P
section
open PyProof.Rows.LCg
theorem Assign_LC {prog : Program} {w : World} {A : Around} {E : Value → Shared → Prop} {s : Shared} {h₀ : Heap} {L : Addr} {m : Str → Option Value} {env : Env} {elt iter : Expr} {x y : Str} {px py : Pos} {scope : Scope} {cl : List (Str × Addr)} {pos spos : Pos} {Q : Flow → Shared → Prop} (F₀ : Fr h₀ L s.heap m) (hLe : env.locals = L)
    (hsw : swapsWith (.ListComp elt [⟨.Name x px, iter, [], 0⟩] scope pos) (some (.Name y py)) spos.line env = pure true)
    (hclos : closureFor scope env = pure cl) (hcell : ∀ z ∈ scope.names, z.2 ≠ .cell) (hkind : scope.kind = .function)
    (hnames : ∀ z ∈ scope.names, z.2 = .local → scope.names.lookup z.1 = some .local) (hx : scope.names.lookup x = some .local)
    (hy : env.kindOf y = some .local) (hp : (env.scope.kind == .class || (env.scope.kind == .module && env.locals != env.globals)) = false)
    (h : wpAny (model prog w) A (eval iter env) (Hid (CompSrc prog w A h₀ L m env elt x scope cl (fun s₂ => FinA h₀ L m s₂ y Q))) E s)
    (hs : ∀ x, foldedSetIterable iter env x = pure x := by intro _; rfl) :
    wpAny (model prog w) A (exec (.Assign [.Name y py] (.ListComp elt [⟨.Name x px, iter, [], 0⟩] scope pos) spos) env) Q E s :=
  Assign_ListComp_U F₀ hLe hsw hclos hcell hkind hnames hx hy hp h hs
end
theorem if_no {P Q : Prop} (h : Q) : if false = true then P else Q := by simpa using h
section
open PyProof.Rows.LCg
variable {prog : Program} {w : World} {A : Around} {s : Shared} {h₀ : Heap} {L : Addr} {m : Str → Option Value} {env : Env}
theorem SrcAt.mono {ax : Addr} {its : Array Value} {l l' : List (Addr × Obj)} (h : SrcAt h₀ ax its l) (hs : ∀ p ∈ l, p ∈ l') : SrcAt h₀ ax its l' := by
  rcases h with h | ⟨o, hm, r⟩
  · exact .inl h
  · exact .inr ⟨o, hs _ hm, r⟩
end
end Mine
end
section
open PySem PySem.W PyProof.Rows
namespace Mine

theorem wt_ctr (w : World) (mean : ExcName → Option Value) (mg mb : Str → Option Value) (news : List (Addr × Obj)) (v : Int) (t : Tok) (h0 : 0 ≤ v) (h1 : v < 10 ^ 20) : Ctr 460 w mean mg mb 168 news [.int v t] [] (fun t => .int (wt v) t) := by
  k_with_none
  (k_with "eval ListComp" => (k_here; k_dflt (refine ListComp_V (by k_asm) (by with_unfolding_all rfl) (by decide) (by rfl) (by decide) (by rfl) ?_)))
  (k_with "exec Assign cons ListComp" => walk_at "exec Assign")
  dsimp only [Ctr, KK, prog, loose, view]
  intro dp un gd cn cs a ccd cl outer A₀ base h₀ L m s Q E B F X N T hk hd hu hret
  refine lower 460 (4 * 460) (by dsimp only; omega) (by dsimp only; omega) ?_
  dsimp only
  refine wpAny_call ?_
  k_dflt (refine' enterV (binds := [(Str.ofString "number", .int v t)]) ?k1 ?k2 ?k3 ?k4 ?k5 ?kA ?kF ?kK ?k6 ?k7 ?k8 ?k9 ?kB ?_ ?c2 ?c3 ?c4 ?c5; (case kA => exact rfl); (case kF => exact rfl); (case kK => first | exact rfl | assumption); (case k1 => k_asm); (case k2 => k_asm); (case k3 => k_asm); (case k4 => k_asm); (case k5 => k_asm); (case k6 => k_is); (case k7 => k_is); (case k8 => exact Nat.le_of_ble_eq_true rfl); (case k9 => (refine' kp_binds ?kx ?ke; (case kx => k_in); (case ke => (intro S; kernel_rfl)))); (case c5 => decide); (case kB => exact locs rfl); (case c2 => exact rfl); (case c3 => exact rfl); (case c4 => exact rfl); k_whole; intro L' h' F' N' B' X' T'; (try dsimp only); (try k_lift B'); (try k_fold))
  k_steps
  have hl := decN_len h1
  have hc := numS_cps h0
  have hsz : (numS v).cps.size = (decN v).length := by rw [← hc]; simp
  refine srcV_str (t := numS v) rfl (by k_asm) (by k_asm) (by rw [hsz, sizeLine_eq]; omega) ?ha fun g => ?_
  case ha =>
    rw [← Array.all_toList, hc, List.all_eq_true]
    intro c hc'
    have := decN_digits v c hc'
    simp; omega
  refine compRest_map (n := (numS v).cps.size) (fun i y => ∃ t, y = .int (((decN v).getD i 0 : Int) - 48) t) trivial ?body _ 0 [] (by omega) ?fin
  case body =>
    intro i x I oI C oC D ys m₂ h tk E' hi hP hC hx F2 N2 off ne
    obtain ⟨c, u, hcu, rfl⟩ := hP
    have hcl : (decN v)[i]? = some c := by rw [← hc]; simpa using hcu
    have hcd := decN_digits v c (List.mem_of_getElem? hcl)
    have hread := int_sign hcd
    have hlen1 : PySem.Str.length ⟨#[c]⟩ ≤ 640 := by show 1 ≤ 640; decide
    k_steps
    refine ElEnd.intro (by k_asm) (by k_asm) ⟨_, congrArg (Value.int · _) ?_⟩
    rw [List.getD_eq_getElem?_getD, hcl]
    rfl
  case fin =>
    intro zs hz hj
    dsimp only [List.nil_append]
    intro D h tk F2 N2 off
    have hI : IntsAre zs ((decN v).map fun (c : Nat) => (c : Int) - 48) := by
      have := ints_of (f := fun i => ((decN v).getD i 0 : Int) - 48) zs 0 hj
      rw [hz, hsz] at this
      have e : ((List.range (decN v).length).map fun j => (((decN v).getD (0 + j) 0 : Nat) : Int) - 48) = (decN v).map fun (c : Nat) => (c : Int) - 48 := by
        refine List.ext_getElem? fun j => ?_
        rw [List.getElem?_map, List.getElem?_map]
        by_cases hj : j < (decN v).length
        · simp [hj]
        · simp [hj]
      rw [← e]
      exact this
    k_steps
    (refine leaveV_val (by k_asm) ?_; intro F9 N9; dsimp only)
    exact hret _ _ _ F9 N9
end Mine
end
section
open PySem PySem.W PyProof.Rows
namespace Mine

section
open Builtin
theorem enc_entry (x : PySem.Str) (t t2 : Tok) : «str.encode» ⟨[.str x t, .str (PySem.Str.ofString "ascii") t2], []⟩ = (_codecs.encodeRoad "str.encode" (.str x t) x (PySem.Str.ofString "ascii") none >>= fun v => ret v) := by kernel_rfl
theorem enc_road (x : PySem.Str) (v : Value) : _codecs.encodeRoad "str.encode" v x (PySem.Str.ofString "ascii") none = (_codecs.encodeNarrow "str.encode" _codecs.asciiCodec none v x >>= fun b => mkBytes b) := by kernel_rfl
noncomputable def encA (x : PySem.Str) : Array UInt8 := x.cps.map Nat.toUInt8
theorem foldl_push (l : List Nat) : ∀ acc : Array UInt8, l.foldl (fun acc y => acc ++ #[y.toUInt8]) acc = acc ++ (l.map Nat.toUInt8).toArray := by
  induction l with
  | nil => intro acc; simp
  | cons y l ih => intro acc; rw [List.foldl_cons, ih]; simp
theorem good_of {x : PySem.Str} (hx : ∀ c ∈ x.cps.toList, c < 128) : Array.findIdx? _codecs.asciiCodec.bad x.cps = none := by
  rw [Array.findIdx?_eq_none_iff]
  intro c hc
  have := hx c (Array.mem_toList_iff.mpr hc)
  show decide (c ≥ 128) = false
  exact decide_eq_false (by (first | lia | omega))
theorem enc_loop {σ : Type} (x : Array Nat) (R : Array UInt8) (f : Nat → Nat × Array UInt8 × σ → Sem (ForInStep (Nat × Array UInt8 × σ))) (st : σ) (h0 : 0 < x.size → f 0 (0, #[], st) = pure (.yield (x.size, R, st)))
    (h1 : ∀ j, f j (x.size, R, st) = pure (.done (x.size, R, st))) (hR : x.size = 0 → R = #[]) : forIn (List.range' 0 x.size) (0, #[], st) f = pure (x.size, R, st) := by
  cases hn : x.size with
  | zero => rw [hR hn]; rfl
  | succ k =>
    rw [hn] at h0 h1
    rw [List.range'_succ, List.forIn_cons, h0 (Nat.succ_pos k), pure_bind]
    cases k with
    | zero => rfl
    | succ j =>
      show (forIn (List.range' (0 + 1) (j + 1)) _ f : Sem _) = _
      rw [List.range'_succ, List.forIn_cons, h1, pure_bind]
theorem enc_narrow (id : String) (v : Value) (x : PySem.Str) (hx : ∀ c ∈ x.cps.toList, c < 128) (hz : x.cps.size ≤ sizeLine) : _codecs.encodeNarrow id _codecs.asciiCodec none v x = pure (encA x) := by
  have hg := good_of hx
  have hfold : Array.foldl (fun acc y => acc ++ (_codecs.asciiCodec.bytesOf y).toArray) #[] x.cps = encA x := by
    have := foldl_push x.cps.toList #[]
    rw [← Array.foldl_toList]
    exact this.trans (by simp [encA, ← Array.toList_map])
  have hes : (encA x).size = x.cps.size := by simp [encA]
  unfold _codecs.encodeNarrow
  dsimp only
  rw [KPc.range_list, show x.length = x.cps.size from rfl, enc_loop (σ := _codecs.Faults) x.cps (encA x) _ {} ?_ ?_ ?_]
  · rfl
  · intro hp
    have hc : x.cps[0]? = some (x.cps[0]'hp) := Array.getElem?_eq_getElem _
    have hc8 : (!_codecs.asciiCodec.bad (x.cps[0]'hp)) = true := by
      have := hx _ (Array.mem_toList_iff.mpr (Array.getElem_mem hp))
      show (!decide (_ ≥ 128)) = true
      rw [decide_eq_false (by (first | lia | omega))]; rfl
    dsimp only
    rw [if_neg (by show ¬ (0 > sizeLine); (first | lia | omega))]
    simp only [hc, hc8, if_true, pure_bind, Array.extract_size, hg, Option.getD_none, Nat.zero_add, hfold]
  · intro j
    have hno : x.cps[x.cps.size]? = none := Array.getElem?_eq_none (Nat.le_refl _)
    dsimp only
    rw [if_neg (by rw [hes]; (first | lia | omega))]
    simp only [hno, pure_bind]
  · intro h
    have : x.cps = #[] := Array.eq_empty_of_size_eq_zero h
    simp [encA, this]
theorem enc_call {prog : Program} {w : World} {A : Around} {E Q : _} {s : Shared} {x : PySem.Str} {t t2 : Tok} (hx : ∀ c ∈ x.cps.toList, c < 128) (hz : x.cps.size ≤ sizeLine)
    (h : Q (.bytes (encA x) s.toks) { s with toks := s.toks + 1 }) : wpAny (model prog w) A (call (.builtin "str.encode") [.str x t, .str (PySem.Str.ofString "ascii") t2]) Q E s := by
  refine call_meets F.slot_str_encode (typeIs_str _ _ _) F.entry_str_encode (F.args_str_encode_2 _ _) (S := fun _ R s => R (.ok (.ret (.bytes (encA x) s.toks))) { s with toks := s.toks + 1 }) (.of_wp fun prog w A R s hS => ?_) h
  rw [enc_entry, enc_road, enc_narrow _ _ _ hx hz]
  refine wpAny_bind (wpAny_bind (wpAny_pure (wpAny_mkBytes ?_ (by simp [encA]; exact hz))))
  exact wpAny_pure ⟨_, rfl, hS⟩
theorem enc_method {M : Model} {A : Around} {E : Value → Shared → Prop} {s : Shared} {x : PySem.Str} {t : Tok} {pl : Sem Bool} {Q : Value × List Value → Shared → Prop} (h : Q (.builtin "str.encode", [.str x t]) s) : wpAny M A (getMethod (.str x t) "encode" pl) Q E s := by
  with_reducible exact GM.of (.str x t) (typeIs_str _ _ _) F.slot_str_encode F.type_str_encode GM.noRef h
theorem dec_entry (c : UInt8) (cs : List UInt8) (t t2 : Tok) : «bytes.decode» ⟨[.bytes (c :: cs).toArray t, .str (PySem.Str.ofString "ascii") t2], []⟩ =
    (mkStr (PySem.Str.ofString "utf-8") >>= fun _ => mkStr (PySem.Str.ofString "ascii") >>= fun e => mkStr (PySem.Str.ofString "bytes.decode") >>= fun d => call (.builtin "_codecs.decode.text") [.bytes (c :: cs).toArray t, e, .none, d] >>= fun v => ret v) := by kernel_rfl
theorem dec_road (id : String) (b : Array UInt8) : _codecs.decodeRoad id b (PySem.Str.ofString "ascii") none [] = (_codecs.runDecoder id _codecs.asciiDecoder none true b 0 [] >>= fun r => mkStr ⟨r.1⟩) := by kernel_rfl
theorem dec_args (a b : Value) : argsOk "bytes.decode" ⟨[a, b], []⟩ := by
  unfold argsOk; rw [signature?_of (id := "bytes.decode") (n := ['e', 'd', 'o', 'c', 'e', 'd']) (o := ['s', 'e', 't', 'y', 'b']) (by kernel_rfl) FB.owner_bytes]; kernel_rfl
noncomputable def decA (b : Array UInt8) : PySem.Str := ⟨b.map UInt8.toNat⟩
theorem dec_loop {σ : Type} (b : Array UInt8) (hz : b.size ≤ sizeLine) (f : Nat → Nat × Array Nat × σ → Sem (ForInStep (Nat × Array Nat × σ)))
    (hf : ∀ i p (hp : p < b.size) out st, out.size ≤ sizeLine → f i (p, out, st) = pure (.yield (p + 1, out.push (b[p]).toNat, st))) :
    ∀ (k j p : Nat) (st : σ), p + k = b.size → forIn (List.range' j k) (p, (b.extract 0 p).map UInt8.toNat, st) f = pure (b.size, b.map UInt8.toNat, st)
  | 0, j, p, st, h => by
    have : p = b.size := by (first | lia | omega)
    subst this
    simp
  | k + 1, j, p, st, h => by
    have hp : p < b.size := by (first | lia | omega)
    rw [List.range'_succ, List.forIn_cons, hf j p hp _ _ (by simp; (first | lia | omega)), pure_bind]
    have e : ((b.extract 0 p).map UInt8.toNat).push (b[p]).toNat = (b.extract 0 (p + 1)).map UInt8.toNat := by
      rw [← Array.map_push]
      congr 1
      exact Array.push_extract_getElem hp
    rw [e]
    exact dec_loop b hz f hf k (j + 1) (p + 1) st (by (first | lia | omega))
theorem dec_run (id : String) (b : Array UInt8) (hx : ∀ c ∈ b.toList, c.toNat < 128) (hz : b.size ≤ sizeLine) : _codecs.runDecoder id _codecs.asciiDecoder none true b 0 [] = pure ((decA b).cps, b.size) := by
  unfold _codecs.runDecoder
  dsimp only
  rw [KPc.range_list]
  have e0 : ((0 : Nat), (#[] : Array Nat), ({} : _codecs.Faults)) = (0, (b.extract 0 0).map UInt8.toNat, {}) := by simp
  rw [e0, dec_loop (σ := _codecs.Faults) b hz _ ?_ b.size 0 0 {} (by (first | lia | omega))]
  · rfl
  · intro i p hp out st ho
    have hc : (b[p]).toNat < 128 := hx _ (Array.mem_toList_iff.mpr (Array.getElem_mem hp))
    have hfind : _codecs.asciiDecoder.find true b p = .text [(b[p]).toNat] (p + 1) := by
      show (if (b.getD p 0).toNat < 128 then _codecs.Found.char (b.getD p 0).toNat (p + 1) else _) = _
      have e : b.getD p 0 = b[p] := by simp [Array.getD, hp]
      rw [e, if_pos hc]
      rfl
    dsimp only
    rw [if_neg (by (first | lia | omega)), if_neg (by (first | lia | omega)), hfind]
    simp
theorem dec_call {prog : Program} {w : World} {A : Around} {E Q : _} {s : Shared} {b : Array UInt8} {t t2 : Tok} (hx : ∀ c ∈ b.toList, c.toNat < 128) (hz : b.size ≤ sizeLine) (h0 : 0 < b.size)
    (h : ∀ t' k, Q (.str (decA b) t') { s with toks := k }) : wpAny (model prog w) A (call (.builtin "bytes.decode") [.bytes b t, .str (PySem.Str.ofString "ascii") t2]) Q E s := by
  obtain ⟨l⟩ := b
  cases l with
  | nil => simp at h0
  | cons c cs =>
    refine call_meets FB.slot_bytes_decode (typeIs_bytes _ _ _) FB.entry_bytes_decode (dec_args _ _) (S := fun _ R s => ∀ t' k, R (.ok (.ret (.str (decA (c :: cs).toArray) t'))) { s with toks := k }) (.of_wp fun prog w A R s hS => ?_) h
    rw [dec_entry]
    refine wpAny_bind (wpAny_mkStr ?_ (by decide))
    refine wpAny_bind (wpAny_mkStr ?_ (by decide))
    refine wpAny_bind (wpAny_mkStr ?_ (by decide))
    refine wpAny_bind (call_function_meets KBd.kind_text KBd.plain_text KBd.entry_text (KBd.args_text _ _ _ _) (S := fun _ R s => R (.ok (.ret (.str (decA (c :: cs).toArray) s.toks))) { s with toks := s.toks + 1 }) (.of_wp fun prog w A R s hS => ?_) ?_)
    · show wpAny _ _ (Bytes.bytesLike _ (.bytes (c :: cs).toArray t) >>= fun r => _) _ _ s
      refine wpAny_bind (wpAny_of_eq KBd.like_eq ?_)
      refine wpAny_bind (wpAny_of_eq KBd.held_eq ?_)
      show wpAny _ _ (_codecs.decodeRoad _ (c :: cs).toArray (PySem.Str.ofString "ascii") none [] >>= fun v => _) _ _ s
      rw [dec_road, dec_run _ _ hx hz]
      refine wpAny_bind (wpAny_bind (wpAny_pure ?_))
      exact wpAny_mkStr (wpAny_pure ⟨_, rfl, hS⟩) (by show (decA _).cps.size ≤ _; simpa [decA] using hz)
    · exact wpAny_pure ⟨_, rfl, hS _ _⟩
end
end Mine
end
section
open PySem PySem.W PyProof.Rows
namespace Mine

theorem truth_ctr (w : World) (mean : ExcName → Option Value) (mg mb : Str → Option Value) (news : List (Addr × Obj)) : Ctr 460 w mean mg mb 107 news [.bool false] [] (fun _ => .bool false) := by
  k_with_none
  dsimp only [Ctr, KK, prog, loose, view]
  intro dp un gd cn cs a ccd cl outer A₀ base h₀ L m s Q E B F X N T hk hd hu hret
  refine lower 460 (4 * 460) (by dsimp only; omega) (by dsimp only; omega) ?_
  dsimp only
  refine wpAny_call ?_
  k_dflt (refine' enterV (binds := [(Str.ofString "x", .bool false)]) ?k1 ?k2 ?k3 ?k4 ?k5 ?kA ?kF ?kK ?k6 ?k7 ?k8 ?k9 ?kB ?_ ?c2 ?c3 ?c4 ?c5; (case kA => exact rfl); (case kF => exact rfl); (case kK => first | exact rfl | assumption); (case k1 => k_asm); (case k2 => k_asm); (case k3 => k_asm); (case k4 => k_asm); (case k5 => k_asm); (case k6 => k_is); (case k7 => k_is); (case k8 => exact Nat.le_of_ble_eq_true rfl); (case k9 => (refine' kp_binds ?kx ?ke; (case kx => k_in); (case ke => (intro S; kernel_rfl)))); (case c5 => decide); (case kB => exact locs rfl); (case c2 => exact rfl); (case c3 => exact rfl); (case c4 => exact rfl); k_whole; intro L' h' F' N' B' X' T'; (try dsimp only); (try k_lift B'); (try k_fold))
  k_steps
  (refine leaveV_val (by k_asm) ?_; intro F9 N9; dsimp only)
  exact hret 0 _ _ F9 N9
end Mine
end
section
open PySem PySem.W PyProof.Rows
namespace Mine

/-- the frame and the list before a turn -/
inductive JA (D : Addr) (pre : List Int) (m : Str → Option Value) (o : Obj) : Prop
  | mk (vs : List Value) (out : List Int) (nn : Nat) (q left ii : Int) (tq tl tp ti : Tok) (ho : o = listOf vs.toArray nn) (hf : IntsAre vs out) (hP : InvA pre out q left 0) (f1 : m (Str.ofString "out") = some (.ref D))
      (f2 : m (Str.ofString "quad_pos") = some (.int q tq)) (f3 : m (Str.ofString "leftchar") = some (.int left tl)) (f4 : m (Str.ofString "pads") = some (.int 0 tp)) (f5 : m (Str.ofString "i") = some (.int ii ti)) : JA D pre m o
theorem a2b_ctr (w : World) (mean : ExcName → Option Value) (mg mb : Str → Option Value) (news : List (Addr × Obj)) (b : Array UInt8) (t : Tok) (hb : b.size ≤ 1000) (hok : ∀ c ∈ KBw.bInts b, c ≠ 61 ∧ 0 ≤ b64v c ∧ b64v c < 64) (h4 : b.size % 4 = 0) :
    Ctr 440 w mean mg mb 122 news [.bytes b t] [(Str.ofString "strict_mode", .bool false)] (fun t => .bytes (byteArr (dig 256 (3 * b.size / 4) (Wb (KBw.bInts b)))) t) := by
  k_with_none
  (k_with "eval Name" => (k_here; k_dflt (refine nameX_L (by k_asm) (by first | assumption | rfl) ?_ (by rfl) (by rfl))))
  (k_with "eval Constant int" => (with_reducible refine nI ?_))
  (k_with "eval Constant str" => (with_reducible refine nS ?_))
  (k_with "binaryOp Add int int" => (with_reducible refine nAdd ?_))
  (k_with "binaryOp Sub int int" => (with_reducible refine nSub ?_))
  (k_with "binaryOp BitAnd int int" => (with_reducible refine nAnd ?_))
  (k_with "binaryOp BitOr int int" => (with_reducible refine nOr ?_))
  (k_with "call type:type" => ((with_reducible show wpAny _ _ (call _ [Value.bytes _ _]) _ _ _); refine call_type_of (Tx := "bytes") rfl (by decide +kernel) ?_))
  (k_with "call ref" => (k_here; (with_reducible show wpAny _ _ (call (Value.ref 107) _ _) _ _ _); k_dflt (refine use_ctr (truth_ctr _ _ _ _ _) (by k_asm) (by k_asm) (by k_asm) (by k_asm) (by k_asm) (by first | exact rfl | assumption) (by exact Nat.le_of_ble_eq_true rfl) (by exact Nat.le_of_ble_eq_true rfl) ?_); intro t9 h9 tk9 F9 N9; (try dsimp only); (try k_fold)))
  (k_with "call ref" => (k_here; (with_reducible show wpAny _ _ (call (Value.ref 114) _ _) _ _ _); k_dflt (refine use_ctr (b64v_ctr _ _ _ _ _ _ _) (by k_asm) (by k_asm) (by k_asm) (by k_asm) (by k_asm) (by first | exact rfl | assumption) (by exact Nat.le_of_ble_eq_true rfl) (by exact Nat.le_of_ble_eq_true rfl) ?_); intro t9 h9 tk9 F9 N9; (try dsimp only); (try k_fold)))
  dsimp only [Ctr, KK, prog, loose, view]
  intro dp un gd cn cs a ccd cl outer A₀ base h₀ L m s Q E B F X N T hk hd hu hret
  refine lower 440 (4 * 440) (by dsimp only; omega) (by dsimp only; omega) ?_
  dsimp only
  refine wpAny_call ?_
  k_dflt (refine' enterV (binds := [(Str.ofString "data", .bytes b t), (Str.ofString "strict_mode", .bool false)]) ?k1 ?k2 ?k3 ?k4 ?k5 ?kA ?kF ?kK ?k6 ?k7 ?k8 ?k9 ?kB ?_ ?c2 ?c3 ?c4 ?c5; (case kA => exact rfl); (case kF => exact rfl); (case kK => first | exact rfl | assumption); (case k1 => k_asm); (case k2 => k_asm); (case k3 => k_asm); (case k4 => k_asm); (case k5 => k_asm); (case k6 => k_is); (case k7 => k_is); (case k8 => exact Nat.le_of_ble_eq_true rfl); (case k9 => (refine' kp_binds ?kx ?ke; (case kx => k_in); (case ke => (intro S; kernel_rfl)))); (case c5 => decide); (case kB => exact locs rfl); (case c2 => exact rfl); (case c3 => exact rfl); (case c4 => exact rfl); k_whole; intro L' h' F' N' B' X' T'; (try dsimp only); (try k_lift B'); (try k_fold))
  obtain ⟨m9, hm9, F9⟩ := fr_gen F'
  have f1 : m9 (Str.ofString "data") = some (.bytes b t) := eqv hm9 rfl
  have f2 : m9 (Str.ofString "strict_mode") = some (.bool false) := eqv hm9 rfl
  have hA : AtH _ s _ m9 [] ⟨h', s.gens, s.drawn, s.toks + 2, s.os⟩ := ⟨_, _, rfl, F9, N'⟩
  clear hm9 F'
  refine run_cut (fun s' => AtH s.heap s L' (upd m9 (Str.ofString "ascii_data") (.bytes b t)) [] s') ?c1 ?_
  case c1 =>
    clear hA
    k_steps
    exact ⟨rfl, _, _, rfl, by assumption, by assumption⟩
  clear hA F9 N'
  intro s1 hA
  refine run_cut (fun s' => AtH s.heap s L' (upd (upd m9 (Str.ofString "ascii_data") (.bytes b t)) (Str.ofString "strict_mode") (.bool false)) [] s') ?c2 ?_
  case c2 =>
    obtain ⟨h1, tk1, rfl, F1, N1⟩ := hA
    k_steps
    exact ⟨rfl, _, _, rfl, by assumption, by assumption⟩
  clear hA
  intro s2 hA
  refine run_cut (fun s' => ∃ D, AtH s.heap s L' (upd (upd (upd m9 (Str.ofString "ascii_data") (.bytes b t)) (Str.ofString "strict_mode") (.bool false)) (Str.ofString "out") (.ref D)) [(D, listOf ([] : List Value).toArray 0)] s') ?c3 ?_
  case c3 =>
    obtain ⟨h1, tk1, rfl, F1, N1⟩ := hA
    k_steps
    exact ⟨rfl, _, _, _, rfl, by assumption, by assumption⟩
  clear hA
  rintro s3 ⟨D, hA⟩
  refine run_set loc_of hA IE.const ?_
  clear hA
  intro t4 s4 hA
  refine run_set loc_of hA IE.const ?_
  clear hA
  intro t5 s5 hA
  refine run_set loc_of hA IE.const ?_
  clear hA
  intro t6 s6 hA
  refine run_set loc_of hA IE.const ?_
  clear hA
  intro t7 s7 hA
  refine run_bytes loc_of rfl (JA D) hA rfl PassesOwn.leaving ⟨[], [], _, _, _, _, _, _, _, _, rfl, .nil, invA_start, rfl, rfl, rfl, rfl, rfl⟩ ?turn ?done
  case turn =>
    clear hA f1 f2
    rintro pre n tn m o own s0 hlen hmem - - o9 ⟨vs, out, nn, q, left, ii, tq, tl, tp, ti, rfl, hfa, hP, f6, f2, f3, f4, f5⟩ hA
    have hvl := hP.room hfa.length (Nat.lt_of_lt_of_le hlen hb)
    have hP' := hP
    obtain ⟨-, hl0, hl1, -, -, hq⟩ := hP'
    obtain ⟨hn1, hn2, hn3⟩ := hok n hmem
    refine run_if_f loc_of hA (CE.eq (IE.name (by rfl)) IE.const) (beq_false_of_ne hn1) ?_
    clear hA
    intro s1 hA
    refine run_nil ?_
    refine run_call hA (Str.ofString "this_ch") (b64v n) ?first ?_
    case first =>
      obtain ⟨h1, tk1, rfl, F1, N1⟩ := hA
      try k_fold
      k_steps
      exact ⟨rfl, _, _, _, rfl, by assumption, by assumption⟩
    clear hA
    intro t2 s2 hA
    refine run_if_f loc_of hA (CE.ge (IE.name rfl) IE.const) (decide_eq_false (Int.not_le.mpr hn3)) ?_
    clear hA
    intro s3 hA
    refine run_nil ?_
    refine run_if_f loc_of hA (CE.no (by exact f4)) rfl ?_
    clear hA
    intro s4 hA
    refine run_nil ?_
    refine gen_env (P := fun A' env' => Loc _ _ env') loc_of ?_
    intro A' env' V
    refine run_set V hA IE.const ?_
    clear hA
    intro t5 s5 hA
    rcases hq with ⟨rfl, hW, hL⟩ | ⟨rfl, hW, hL⟩ | ⟨rfl, hW, hl, hL⟩ | ⟨rfl, hW, hl, hL⟩
    · refine run_if_t V hA (CE.eq (IE.name (by exact f2)) IE.const) rfl ?_
      clear hA
      intro s6 hA
      refine run_set V hA IE.const ?_
      clear hA
      intro t7 s7 hA
      refine run_set V hA (IE.name (by rfl)) ?_
      clear hA
      intro t8 s8 hA
      refine run_nil ?_
      refine run_set V hA (IE.add (IE.name (by exact f5)) IE.const) ?_
      clear hA
      intro t9 s9 hA
      exact wpAny_execs_nil ⟨rfl, _, _, ⟨_, _, _, _, _, _, _, _, _, _, rfl, hfa, inv0 hP hn2 hn3 hW hL, by exact f6, rfl, rfl, rfl, rfl⟩, hA⟩
    · refine run_if_f V hA (CE.eq (IE.name (by exact f2)) IE.const) rfl ?_
      clear hA
      intro s6 hA
      refine run_if_t V hA (CE.eq (IE.name (by exact f2)) IE.const) rfl ?_
      clear hA
      intro s6 hA
      refine run_set V hA IE.const ?_
      clear hA
      intro t7 s7 hA
      refine run_app V hA (IE.or (IE.shl (k := 2) (IE.name (by exact f3)) IE.const (by decide) (nat64 hl0 (Int.lt_trans hl1 (by decide)))) (IE.shr (k := 4) (IE.name (by rfl)) IE.const)) (by exact f6) o9 hvl ?_
      clear hA
      intro t8 s8 hA
      refine run_set V hA (IE.and (IE.name (by rfl)) IE.const) ?_
      clear hA
      intro t8 s8 hA
      refine run_nil (run_nil ?_)
      refine run_set V hA (IE.add (IE.name (by exact f5)) IE.const) ?_
      clear hA
      intro t9 s9 hA
      exact wpAny_execs_nil ⟨rfl, _, _, ⟨_, _, _, _, _, _, _, _, _, _, rfl, ints_snoc hfa, inv1 hP hn2 hn3 hW hL, by exact f6, rfl, rfl, rfl, rfl⟩, hA⟩
    · refine run_if_f V hA (CE.eq (IE.name (by exact f2)) IE.const) rfl ?_
      clear hA
      intro s6 hA
      refine run_if_f V hA (CE.eq (IE.name (by exact f2)) IE.const) rfl ?_
      clear hA
      intro s6 hA
      refine run_if_t V hA (CE.eq (IE.name (by exact f2)) IE.const) rfl ?_
      clear hA
      intro s6 hA
      refine run_set V hA IE.const ?_
      clear hA
      intro t7 s7 hA
      refine run_app V hA (IE.or (IE.shl (k := 4) (IE.name (by exact f3)) IE.const (by decide) (nat64 hl0 (Int.lt_trans hl1 (by decide)))) (IE.shr (k := 2) (IE.name (by rfl)) IE.const)) (by exact f6) o9 hvl ?_
      clear hA
      intro t8 s8 hA
      refine run_set V hA (IE.and (IE.name (by rfl)) IE.const) ?_
      clear hA
      intro t8 s8 hA
      refine run_nil (run_nil (run_nil ?_))
      refine run_set V hA (IE.add (IE.name (by exact f5)) IE.const) ?_
      clear hA
      intro t9 s9 hA
      exact wpAny_execs_nil ⟨rfl, _, _, ⟨_, _, _, _, _, _, _, _, _, _, rfl, ints_snoc hfa, inv2 hP hn2 hn3 hW hl hL, by exact f6, rfl, rfl, rfl, rfl⟩, hA⟩
    · refine run_if_f V hA (CE.eq (IE.name (by exact f2)) IE.const) rfl ?_
      clear hA
      intro s6 hA
      refine run_if_f V hA (CE.eq (IE.name (by exact f2)) IE.const) rfl ?_
      clear hA
      intro s6 hA
      refine run_if_f V hA (CE.eq (IE.name (by exact f2)) IE.const) rfl ?_
      clear hA
      intro s6 hA
      refine run_set V hA IE.const ?_
      clear hA
      intro t7 s7 hA
      refine run_app V hA (IE.or (IE.shl (k := 6) (IE.name (by exact f3)) IE.const (by decide) (nat64 hl0 (Int.lt_trans hl1 (by decide)))) (IE.name (by rfl))) (by exact f6) o9 hvl ?_
      clear hA
      intro t8 s8 hA
      refine run_set V hA IE.const ?_
      clear hA
      intro t8 s8 hA
      refine run_nil (run_nil (run_nil ?_))
      refine run_set V hA (IE.add (IE.name (by exact f5)) IE.const) ?_
      clear hA
      intro t9 s9 hA
      exact wpAny_execs_nil ⟨rfl, _, _, ⟨_, _, _, _, _, _, _, _, _, _, rfl, ints_snoc hfa, inv3 hP hn2 hn3 hW hl hL, by exact f6, rfl, rfl, rfl, rfl⟩, hA⟩
  case done =>
    clear hA f1 f2
    rintro m o s8 ⟨vs, out, nn, q, left, ii, tq, tl, tp, ti, rfl, hfa, hP, f6, f2, f3, f4, f5⟩ hA
    obtain ⟨rfl, -, hout, hW, hL, hl2⟩ := hP.done (KBw.ints_length b) h4 hb
    refine run_if_f loc_of hA (CE.eq (IE.name f2) IE.const) rfl ?_
    clear hA
    intro s9 hA
    refine run_nil ?_
    refine run_if_f loc_of hA (CE.and_no (CE.ne (IE.name f2) IE.const) rfl) rfl ?_
    clear hA
    intro s10 hA
    refine run_nil ?_
    have hvl := hfa.length
    have hr' := out_is hout hW hL
    obtain ⟨h1, tk1, rfl, F1, N1⟩ := hA
    try k_fold
    k_steps
    show LeaveV _ _ _ _ _ _ _ _
    (refine leaveV_val (by k_asm) ?_; intro F9 N9; dsimp only)
    rw [hr']
    exact hret _ _ _ F9 N9
end Mine
end
section
open PySem PySem.W PyProof.Rows
namespace Mine

noncomputable def cpsI (x : Str) : List Int := x.cps.toList.map Int.ofNat
theorem cpsI_length (x : Str) : (cpsI x).length = x.cps.size := by simp [cpsI]
theorem bInts_encA {x : Str} (hx : ∀ c ∈ x.cps.toList, c < 128) : KBw.bInts (encA x) = cpsI x := by
  unfold KBw.bInts encA cpsI
  rw [Array.toList_map, List.map_map]
  refine List.map_congr_left fun c hc => ?_
  have := hx c hc
  show Int.ofNat (c.toUInt8).toNat = Int.ofNat c
  rw [Nat.toUInt8, UInt8.toNat_ofNat', Nat.mod_eq_of_lt (by omega)]
/-- the text is one of base 64's signs, whole fours -/
structure B64Text (x : Str) : Prop where
  ascii : ∀ c ∈ x.cps.toList, c < 128
  signs : ∀ c ∈ cpsI x, c ≠ 61 ∧ 0 ≤ b64v c ∧ b64v c < 64
  four : x.cps.size % 4 = 0
  size : x.cps.size ≤ 1000
theorem dec_ctr (w : World) (mean : ExcName → Option Value) (mg mb : Str → Option Value) (news : List (Addr × Obj)) (x : Str) (t : Tok) (hx : B64Text x) : Ctr 420 w mean mg mb 146 news [.str x t] [] (fun t => .bytes (byteArr (dig 256 (3 * x.cps.size / 4) (Wb (cpsI x)))) t) := by
  k_with_none
  (k_with "eval Constant int" => (with_reducible refine nI ?_))
  (k_with "eval Constant str" => (with_reducible refine nS ?_))
  (k_with "binaryOp Add int int" => (with_reducible refine nAdd ?_))
  (k_with "binaryOp Sub int int" => (with_reducible refine nSub ?_))
  (k_with "binaryOp BitAnd int int" => (with_reducible refine nAnd ?_))
  (k_with "binaryOp BitOr int int" => (with_reducible refine nOr ?_))
  (k_with "getMethod str" => (with_reducible refine enc_method ?_))
  (k_with "call builtin:str.encode" => ((with_reducible show wpAny _ _ (call (Value.builtin "str.encode") [Value.str _ _, Value.str _ _]) _ _ _); refine enc_call (by assumption) (by first | assumption | (rw [PySem.sizeLine_eq]; omega)) ?_))
  (k_with "call builtin:bytes.decode" => ((with_reducible show wpAny _ _ (call (Value.builtin "bytes.decode") [Value.bytes _ _, Value.str _ _]) _ _ _); refine dec_call (by assumption) (by first | assumption | (rw [PySem.sizeLine_eq]; omega)) (by first | assumption | omega) ?_; intro _ _))
  (k_with "call ref" => (k_here; (with_reducible show wpAny _ _ (call (Value.ref 122) _ _) _ _ _); k_dflt (refine use_ctr (a2b_ctr _ _ _ _ _ _ _ (by assumption) (by assumption) (by assumption)) (by k_asm) (by k_asm) (by k_asm) (by k_asm) (by k_asm) (by first | exact rfl | assumption) (by exact Nat.le_of_ble_eq_true rfl) (by exact Nat.le_of_ble_eq_true rfl) ?_); intro t9 h9 tk9 F9 N9; (try dsimp only); (try k_fold)))
  dsimp only [Ctr, KK, prog, loose, view]
  intro dp un gd cn cs a ccd cl outer A₀ base h₀ L m s Q E B F X N T hk hd hu hret
  refine lower 420 (4 * 420) (by dsimp only; omega) (by dsimp only; omega) ?_
  dsimp only
  obtain ⟨hx1, hx2, hx3, hx4⟩ := hx
  have es : (encA x).size = x.cps.size := by simp [encA]
  have hbe : (encA x).size ≤ 1000 := by omega
  have h4e : (encA x).size % 4 = 0 := by omega
  have hoke : ∀ c ∈ KBw.bInts (encA x), c ≠ 61 ∧ 0 ≤ b64v c ∧ b64v c < 64 := by rw [bInts_encA hx1]; exact hx2
  refine wpAny_call ?_
  k_dflt (refine' enterV (binds := [(Str.ofString "s", .str x t), (Str.ofString "altchars", .none), (Str.ofString "validate", .bool false)]) ?k1 ?k2 ?k3 ?k4 ?k5 ?kA ?kF ?kK ?k6 ?k7 ?k8 ?k9 ?kB ?_ ?c2 ?c3 ?c4 ?c5; (case kA => exact rfl); (case kF => exact rfl); (case kK => first | exact rfl | assumption); (case k1 => k_asm); (case k2 => k_asm); (case k3 => k_asm); (case k4 => k_asm); (case k5 => k_asm); (case k6 => k_is); (case k7 => k_is); (case k8 => exact Nat.le_of_ble_eq_true rfl); (case k9 => (refine' kp_binds ?kx ?ke; (case kx => k_in); (case ke => (intro S; kernel_rfl)))); (case c5 => decide); (case kB => exact locs rfl); (case c2 => exact rfl); (case c3 => exact rfl); (case c4 => exact rfl); k_whole; intro L' h' F' N' B' X' T'; (try dsimp only); (try k_lift B'); (try k_fold))
  k_steps
  (refine leaveV_val (by k_asm) ?_; intro F9 N9; dsimp only)
  rw [es, bInts_encA hx1]
  exact hret _ _ _ F9 N9
end Mine
end
section
open PySem PySem.W PyProof.Rows
namespace Mine

theorem val_ctr (w : World) (mean : ExcName → Option Value) (mg mb : Str → Option Value) (news : List (Addr × Obj)) (b : Array UInt8) (t : Tok) : Ctr 460 w mean mg mb 153 news [.bytes b t] [] (fun t => .int (Vb (KBw.bInts b)) t) := by
  k_with_none
  dsimp only [Ctr, KK, prog, loose, view]
  intro dp un gd cn cs a ccd cl outer A₀ base h₀ L m s Q E B F X N T hk hd hu hret
  refine lower 460 (4 * 460) (by dsimp only; omega) (by dsimp only; omega) ?_
  dsimp only
  refine wpAny_call ?_
  k_dflt (refine' enterV (binds := [(Str.ofString "octets", .bytes b t)]) ?k1 ?k2 ?k3 ?k4 ?k5 ?kA ?kF ?kK ?k6 ?k7 ?k8 ?k9 ?kB ?_ ?c2 ?c3 ?c4 ?c5; (case kA => exact rfl); (case kF => exact rfl); (case kK => first | exact rfl | assumption); (case k1 => k_asm); (case k2 => k_asm); (case k3 => k_asm); (case k4 => k_asm); (case k5 => k_asm); (case k6 => k_is); (case k7 => k_is); (case k8 => exact Nat.le_of_ble_eq_true rfl); (case k9 => (refine' kp_binds ?kx ?ke; (case kx => k_in); (case ke => (intro S; kernel_rfl)))); (case c5 => decide); (case kB => exact locs rfl); (case c2 => exact rfl); (case c3 => exact rfl); (case c4 => exact rfl); k_whole; intro L' h' F' N' B' X' T'; (try dsimp only); (try k_lift B'); (try k_fold))
  k_steps
  refine' KStb.kst_bytes (σ := Int × Nat) (fun c => []) (fun c => [(Str.ofString "value", .int c.1 c.2)]) (fun c => True) [] (fun pre c => c.1 = Vb pre) ⟨0, ?t1⟩ rfl rfl rfl ?kF ?kN trivial ?kk rfl ?turn ?done
  case kF => k_asm
  case kN => k_asm
  case kk => kst_all
  case turn =>
    intro c pre post n tn u h tk own hEq hLen hlo hhi hoff hfa hP F2 N2
    obtain ⟨v, tv⟩ := c
    dsimp only [kstB] at F2
    dsimp only at hP N2
    subst hP
    simp only [List.nil_append] at N2
    try k_fold
    k_steps
    rename News _ _ _ _ => nE
    exact kst_end (σ := Int × Nat) ⟨_, _⟩ (by assumption) nE (by kst_in) (by intro p hp; kst_mem) (by rfl) trivial (by kst_all) (by kst_same) (Vb_snoc _ _).symm
  case done =>
    intro c u h tk hLen hfa hP F2 N2
    obtain ⟨v, tv⟩ := c
    dsimp only [kstB] at F2
    dsimp only at hP N2
    subst hP
    dsimp only
    k_steps
    show LeaveV _ _ _ _ _ _ _ _
    (refine leaveV_val (by k_asm) ?_; intro F9 N9; dsimp only)
    exact hret _ _ _ F9 N9
end Mine
end
section
open PySem PySem.W PyProof.Rows
namespace Mine

noncomputable def tab64 : List UInt8 := [65, 66, 67, 68, 69, 70, 71, 72, 73, 74, 75, 76, 77, 78, 79, 80, 81, 82, 83, 84, 85, 86, 87, 88, 89, 90, 97, 98, 99, 100, 101, 102, 103, 104, 105, 106, 107, 108, 109, 110, 111, 112, 113, 114, 115, 116, 117, 118, 119, 120, 121, 122, 48, 49, 50, 51, 52, 53, 54, 55, 56, 57, 43, 47]
noncomputable def b64c (d : Int) : Int := ((tab64.getD d.toNat 0).toNat : Int)
theorem b64_item {prog : Program} {w : World} {A : Around} {E : Value → Shared → Prop} {s : Shared} {Q : Value → Shared → Prop} {value slice : Expr} {y : Int} {t u : Tok} (h : Q (.int (b64c (y % 64)) s.toks) { s with toks := s.toks + 1 })
    (hs : subscripted slice false (.bytes tab64.toArray t) (.int (Builtin.bitAnd y 63) u) = operate [.bytes tab64.toArray t, .int (Builtin.bitAnd y 63) u] (getItem (.bytes tab64.toArray t) (.int (Builtin.bitAnd y 63) u)) := by with_unfolding_all rfl)
    (ht : ∀ r, letTemporaryGo value (.bytes tab64.toArray t) r = pure () := by intro _; with_unfolding_all rfl) :
    wpAny (model prog w) A (subscriptTail value slice (.bytes tab64.toArray t) (.int (Builtin.bitAnd y 63) u)) Q E s := by
  rw [bitAnd_m6] at *
  exact KBy.item_N (by decide) (by (first | lia | omega)) (by show _ < (64 : Int); (first | lia | omega)) h hs ht
noncomputable def InvB (pre ds : List Int) (lb c : Int) : Prop :=
  0 ≤ c ∧ c < 65536 ∧ (∀ x ∈ ds, 0 ≤ x ∧ x < 64) ∧ ds.length ≤ 2 * pre.length ∧
  ((lb = 0 ∧ Vb pre = val 64 ds ∧ 6 * ds.length = 8 * pre.length) ∨ (lb = 2 ∧ Vb pre = val 64 ds * 4 + c % 4 ∧ 6 * ds.length + 2 = 8 * pre.length) ∨
   (lb = 4 ∧ Vb pre = val 64 ds * 16 + c % 16 ∧ 6 * ds.length + 4 = 8 * pre.length))
theorem leftC {c n : Int} (hn0 : 0 ≤ n) (hn1 : n < 256) : Builtin.bitAnd (Builtin.bitOr (c * 2 ^ 8) n) 65535 = (c * 256 + n) % 65536 := by
  rw [show Builtin.bitOr (c * 2 ^ 8) n = c * 256 + n from or_shift c 8 n hn0 hn1, bitAnd_m16]
theorem ds_snoc {ds : List Int} {x : Int} (hds : ∀ x ∈ ds, 0 ≤ x ∧ x < 64) (h0 : 0 ≤ x ∧ x < 64) : ∀ y ∈ ds ++ [x], 0 ≤ y ∧ y < 64 := fun y hy => by
  rcases List.mem_append.mp hy with h | h
  · exact hds y h
  · rw [List.mem_singleton.mp h]; exact h0
noncomputable def runB (c : Int) : Nat → Int → List Int → List Int
  | 0, _, out => out
  | k + 1, lb, out => runB c k (lb - 6) (out ++ [b64c (c.fdiv (2 ^ (lb - 6).toNat) % 64)])
section
variable {pre ds : List Int} {c n lb : Int}
theorem invB_start : InvB [] [] 0 0 := ⟨Int.le_refl _, by decide, (fun _ h => nomatch h), Nat.le_refl _, .inl ⟨rfl, rfl, rfl⟩⟩
theorem em64 (x : Int) : 0 ≤ x % 64 ∧ x % 64 < 64 := ⟨Int.emod_nonneg _ (by decide), Int.emod_lt_of_pos _ (by decide)⟩
theorem invB_n0 {c n q e : Int} (hn0 : 0 ≤ n) (hn1 : n < 256) (hq : q = (c * 256 + n) % 65536) : e * 256 + n = (e * 64 + q / 4 % 64) * 4 + q % 4 := by (first | lia | omega)
theorem invB_n2 {c n q e : Int} (hn0 : 0 ≤ n) (hn1 : n < 256) (hq : q = (c * 256 + n) % 65536) : (e * 4 + c % 4) * 256 + n = (e * 64 + q / 16 % 64) * 16 + q % 16 := by (first | lia | omega)
theorem invB_n4 {c n q e : Int} (hn0 : 0 ≤ n) (hn1 : n < 256) (hq : q = (c * 256 + n) % 65536) : (e * 16 + c % 16) * 256 + n = (e * 64 + q / 64 % 64) * 64 + q / 1 % 64 := by (first | lia | omega)
theorem invB_l {a b : Nat} (h : a ≤ 2 * b) : a + 1 ≤ 2 * (b + 1) ∧ a + 1 + 1 ≤ 2 * (b + 1) := by (first | lia | omega)
theorem invB_m {a b : Nat} : (6 * a = 8 * b → 6 * (a + 1) + 2 = 8 * (b + 1)) ∧ (6 * a + 2 = 8 * b → 6 * (a + 1) + 4 = 8 * (b + 1)) ∧ (6 * a + 4 = 8 * b → 6 * (a + 1 + 1) = 8 * (b + 1)) := by (first | lia | omega)
theorem InvB.turn (h : InvB pre ds lb c) (hn0 : 0 ≤ n) (hn1 : n < 256) : ∃ (K : Nat) (lf : Int) (ds' : List Int), K ≤ 2 ∧ lb + 8 = 6 * (K : Int) + lf ∧ 0 ≤ lf ∧ lf < 6 ∧ runB (Builtin.bitAnd (Builtin.bitOr (c * 2 ^ 8) n) 65535) K (lb + 8) (ds.map b64c) = ds'.map b64c ∧ InvB (pre ++ [n]) ds' lf (Builtin.bitAnd (Builtin.bitOr (c * 2 ^ 8) n) 65535) := by
  rw [leftC hn0 hn1]
  obtain ⟨q, hq⟩ : ∃ q, q = (c * 256 + n) % 65536 := ⟨_, rfl⟩
  have q0 : 0 ≤ q := hq ▸ Int.emod_nonneg _ (by decide)
  have q1 : q < 65536 := hq ▸ Int.emod_lt_of_pos _ (by decide)
  obtain ⟨_, _, hds, hdl, h⟩ := h
  rw [← hq]
  rcases h with ⟨rfl, hW, hL⟩ | ⟨rfl, hW, hL⟩ | ⟨rfl, hW, hL⟩
  · refine ⟨1, 2, ds ++ [q / 4 % 64], by decide, rfl, by decide, by decide, ?_, q0, q1, ds_snoc hds (em64 _), by rw [snoc_len, snoc_len]; exact (invB_l hdl).1, .inr (.inl ⟨rfl, by rw [Vb_snoc, val_snoc, hW]; exact invB_n0 hn0 hn1 hq, by rw [snoc_len, snoc_len]; exact invB_m.1 hL⟩)⟩
    rw [List.map_append, ← fdiv_pow q 2 4 rfl (by decide)]; rfl
  · refine ⟨1, 4, ds ++ [q / 16 % 64], by decide, rfl, by decide, by decide, ?_, q0, q1, ds_snoc hds (em64 _), by rw [snoc_len, snoc_len]; exact (invB_l hdl).1, .inr (.inr ⟨rfl, by rw [Vb_snoc, val_snoc, hW]; exact invB_n2 hn0 hn1 hq, by rw [snoc_len, snoc_len]; exact invB_m.2.1 hL⟩)⟩
    rw [List.map_append, ← fdiv_pow q 4 16 rfl (by decide)]; rfl
  · refine ⟨2, 0, ds ++ [q / 64 % 64] ++ [q / 1 % 64], by decide, rfl, by decide, by decide, ?_, q0, q1, ds_snoc (ds_snoc hds (em64 _)) (em64 _), by rw [snoc_len, snoc_len, snoc_len]; exact (invB_l hdl).2, .inl ⟨rfl, by rw [Vb_snoc, val_snoc, val_snoc, hW]; exact invB_n4 hn0 hn1 hq, by rw [snoc_len, snoc_len, snoc_len]; exact invB_m.2.2 hL⟩⟩
    rw [List.map_append, List.map_append, ← fdiv_pow q 6 64 rfl (by decide), ← fdiv_pow q 0 1 rfl (by decide)]; rfl
theorem InvB.room (h : InvB pre ds lb c) : c.natAbs < 2 ^ 64 := nat64 h.1 h.2.1
theorem InvB.len {vs : List Value} {K : Nat} (h : InvB pre ds lb c) (hv : IntsAre vs (ds.map b64c)) (hp : pre.length < 1000) (hK : K ≤ 2) : vs.length + K ≤ 2002 := by
  have h1 := hv.length
  have h2 := h.2.2.2.1
  rw [List.length_map] at h1
  clear h hv
  (first | lia | omega)
theorem InvB.done {k : Nat} (h : InvB pre ds lb c) (hp : pre.length = k) (h3 : k % 3 = 0) (hk : k ≤ 1000) : lb = 0 ∧ Vb pre = val 64 ds ∧ (∀ x ∈ ds, 0 ≤ x ∧ x < 64) ∧ 6 * ds.length = 8 * k ∧ ds.length ≤ 2000 := by
  subst hp
  obtain ⟨_, _, hds, hdl, h⟩ := h
  have key : ∀ c : Nat, 0 < c → c < 6 → 6 * ds.length + c = 8 * pre.length → c = 3 := fun c h1 h2 h => by (first | lia | omega)
  rcases h with ⟨h, hW, hL⟩ | ⟨_, _, hL⟩ | ⟨_, _, hL⟩
  · exact ⟨h, hW, hds, hL, Nat.le_trans hdl (Nat.mul_le_mul_left 2 hk)⟩
  · cases key 2 (by decide) (by decide) hL
  · cases key 4 (by decide) (by decide) hL
end
theorem six_le {k : Nat} {lf lb : Int} (h : lb = 6 * ((k + 1 : Nat) : Int) + lf) (h0 : 0 ≤ lf) : 6 ≤ lb ∧ lb - 6 = 6 * (k : Int) + lf ∧ 0 ≤ lb - 6 := by (first | lia | omega)
theorem not_six {lf lb : Int} (h : lb = 6 * ((0 : Nat) : Int) + lf) (h1 : lf < 6) : ¬ 6 ≤ lb ∧ lb = lf := by (first | lia | omega)
theorem digs_are {ds : List Int} {v : Int} {n : Nat} (hds : ∀ x ∈ ds, 0 ≤ x ∧ x < 64) (hW : v = val 64 ds) (hL : 6 * ds.length = 8 * n) : ds = dig 64 (4 * n / 3) v := by
  have : 4 * n / 3 = ds.length := by (first | lia | omega)
  rw [this, hW, dig_val 64 (by decide) ds hds]
theorem b64c_in (d : Int) : 0 ≤ b64c d ∧ b64c d < 128 := by
  unfold b64c
  generalize d.toNat = k
  have key : ∀ k, (tab64.getD k 0).toNat < 128 := by
    intro k
    by_cases h : k < 64
    · have : ∀ k : Fin 64, (tab64.getD k.val 0).toNat < 128 := by decide
      exact this ⟨k, h⟩
    · rw [List.getD_eq_getElem?_getD, List.getElem?_eq_none (by show 64 ≤ k; (first | lia | omega))]; decide
  have := key k
  (first | lia | omega)
theorem b64c_all (ds : List Int) : ∀ x ∈ ds.map b64c, 0 ≤ x ∧ x < 256 := fun x hx => by
  obtain ⟨d, _, rfl⟩ := List.mem_map.mp hx
  exact ⟨(b64c_in d).1, Int.lt_trans (b64c_in d).2 (by decide)⟩
/-- the frame and the list before a turn -/
inductive JB (D : Addr) (pre : List Int) (m : Str → Option Value) (o : Obj) : Prop
  | mk (vs : List Value) (ds : List Int) (nn : Nat) (lb c : Int) (tb tc : Tok) (ho : o = listOf vs.toArray nn) (hf : IntsAre vs (ds.map b64c)) (hP : InvB pre ds lb c) (f1 : m (Str.ofString "out") = some (.ref D))
      (f2 : m (Str.ofString "leftbits") = some (.int lb tb)) (f3 : m (Str.ofString "leftchar") = some (.int c tc)) (f4 : m (Str.ofString "newline") = some (.bool false)) : JB D pre m o
/-- the same while signs are given out: `k` are yet to come -/
inductive JW (D : Addr) (c lf : Int) (fin : List Int) (k : Nat) (m : Str → Option Value) (o : Obj) : Prop
  | mk (vs : List Value) (out : List Int) (nn : Nat) (lb : Int) (tb tc : Tok) (ho : o = listOf vs.toArray nn) (hf : IntsAre vs out) (hk : vs.length + k ≤ 2002) (hl : lb = 6 * (k : Int) + lf) (hr : runB c k lb out = fin) (f1 : m (Str.ofString "out") = some (.ref D))
      (f2 : m (Str.ofString "leftbits") = some (.int lb tb)) (f3 : m (Str.ofString "leftchar") = some (.int c tc)) (f4 : m (Str.ofString "newline") = some (.bool false)) : JW D c lf fin k m o
theorem b2a_ctr (w : World) (mean : ExcName → Option Value) (mg mb : Str → Option Value) (news : List (Addr × Obj)) (b : Array UInt8) (t : Tok) (hb : b.size ≤ 1000) (h3 : b.size % 3 = 0) :
    Ctr 440 w mean mg mb 130 news [.bytes b t] [(Str.ofString "newline", .bool false)] (fun t => .bytes (byteArr ((dig 64 (4 * b.size / 3) (Vb (KBw.bInts b))).map b64c)) t) := by
  k_with_none
  (k_with "eval Name" => (k_here; k_dflt (refine nameX_L (by k_asm) (by first | assumption | rfl) ?_ (by rfl) (by rfl))))
  (k_with "eval Constant int" => (with_reducible refine nI ?_))
  (k_with "eval Constant str" => (with_reducible refine nS ?_))
  (k_with "binaryOp Add int int" => (with_reducible refine nAdd ?_))
  (k_with "binaryOp Sub int int" => (with_reducible refine nSub ?_))
  (k_with "binaryOp BitAnd int int" => (with_reducible refine nAnd ?_))
  (k_with "binaryOp BitOr int int" => (with_reducible refine nOr ?_))
  (k_with "call type:type" => ((with_reducible show wpAny _ _ (call _ [Value.bytes _ _]) _ _ _); refine call_type_of (Tx := "bytes") rfl (by decide +kernel) ?_))
  (k_with "call ref" => (k_here; (with_reducible show wpAny _ _ (call (Value.ref 107) _ _) _ _ _); k_dflt (refine use_ctr (truth_ctr _ _ _ _ _) (by k_asm) (by k_asm) (by k_asm) (by k_asm) (by k_asm) (by first | exact rfl | assumption) (by exact Nat.le_of_ble_eq_true rfl) (by exact Nat.le_of_ble_eq_true rfl) ?_); intro t9 h9 tk9 F9 N9; (try dsimp only); (try k_fold)))
  (k_with "subscriptTail" => ((with_reducible show wpAny _ _ (subscriptTail _ _ (Value.bytes _ _) (Value.int (Builtin.bitAnd _ 63) _)) _ _ _); k_dflt (refine b64_item ?_)))
  dsimp only [Ctr, KK, prog, loose, view]
  intro dp un gd cn cs a ccd cl outer A₀ base h₀ L m s Q E B F X N T hk hd hu hret
  refine lower 440 (4 * 440) (by dsimp only; omega) (by dsimp only; omega) ?_
  dsimp only
  refine wpAny_call ?_
  k_dflt (refine' enterV (binds := [(Str.ofString "data", .bytes b t), (Str.ofString "newline", .bool false)]) ?k1 ?k2 ?k3 ?k4 ?k5 ?kA ?kF ?kK ?k6 ?k7 ?k8 ?k9 ?kB ?_ ?c2 ?c3 ?c4 ?c5; (case kA => exact rfl); (case kF => exact rfl); (case kK => first | exact rfl | assumption); (case k1 => k_asm); (case k2 => k_asm); (case k3 => k_asm); (case k4 => k_asm); (case k5 => k_asm); (case k6 => k_is); (case k7 => k_is); (case k8 => exact Nat.le_of_ble_eq_true rfl); (case k9 => (refine' kp_binds ?kx ?ke; (case kx => k_in); (case ke => (intro S; kernel_rfl)))); (case c5 => decide); (case kB => exact locs rfl); (case c2 => exact rfl); (case c3 => exact rfl); (case c4 => exact rfl); k_whole; intro L' h' F' N' B' X' T'; (try dsimp only); (try k_lift B'); (try k_fold))
  obtain ⟨m9, hm9, F9⟩ := fr_gen F'
  have f1 : m9 (Str.ofString "data") = some (.bytes b t) := eqv hm9 rfl
  have f2 : m9 (Str.ofString "newline") = some (.bool false) := eqv hm9 rfl
  have hA : AtH _ s _ m9 [] ⟨h', s.gens, s.drawn, s.toks + 2, s.os⟩ := ⟨_, _, rfl, F9, N'⟩
  clear hm9 F'
  refine run_cut (fun s' => AtH s.heap s L' (upd m9 (Str.ofString "bin_data") (.bytes b t)) [] s') ?c1 ?_
  case c1 =>
    clear hA
    k_steps
    exact ⟨rfl, _, _, rfl, by assumption, by assumption⟩
  clear hA F9 N'
  intro s1 hA
  refine run_cut (fun s' => AtH s.heap s L' (upd (upd m9 (Str.ofString "bin_data") (.bytes b t)) (Str.ofString "newline") (.bool false)) [] s') ?c2 ?_
  case c2 =>
    obtain ⟨h1, tk1, rfl, F1, N1⟩ := hA
    k_steps
    exact ⟨rfl, _, _, rfl, by assumption, by assumption⟩
  clear hA
  intro s2 hA
  refine run_cut (fun s' => ∃ D, AtH s.heap s L' (upd (upd (upd m9 (Str.ofString "bin_data") (.bytes b t)) (Str.ofString "newline") (.bool false)) (Str.ofString "out") (.ref D)) [(D, listOf ([] : List Value).toArray 0)] s') ?c3 ?_
  case c3 =>
    obtain ⟨h1, tk1, rfl, F1, N1⟩ := hA
    k_steps
    exact ⟨rfl, _, _, _, rfl, by assumption, by assumption⟩
  clear hA
  rintro s3 ⟨D, hA⟩
  refine run_set loc_of hA IE.const ?_
  clear hA
  intro t4 s4 hA
  refine run_set loc_of hA IE.const ?_
  clear hA
  intro t5 s5 hA
  refine run_bytes loc_of rfl (JB D) hA rfl PassesOwn.leaving ⟨[], [], _, _, _, _, _, rfl, .nil, invB_start, rfl, rfl, rfl, rfl⟩ ?turn ?done
  case turn =>
    clear hA f1 f2
    rintro pre n tn m o own s0 hlen hmem hn0 hn1 o9 ⟨vs, ds, nn, lb, c, tb, tc, rfl, hfa, hP, f1, f2, f3, f4⟩ hA
    have hc1 := hP.room
    obtain ⟨K, lf, ds', hK, hlb, hl0, hl1, hrun, hP'⟩ := hP.turn hn0 hn1
    have hvl := hP.len hfa (Nat.lt_of_lt_of_le hlen hb) hK
    clear hP hmem
    refine run_set loc_of hA (IE.and (IE.or (IE.shl (k := 8) (IE.name (by exact f3)) IE.const (by decide) hc1) (IE.name (by rfl))) IE.const) ?_
    clear hA
    intro t6 s6 hA
    refine run_set loc_of hA (IE.add (IE.name (by exact f2)) IE.const) ?_
    clear hA
    intro t7 s7 hA
    refine run_while loc_of PassesOwn.leaving (JW D (Builtin.bitAnd (Builtin.bitOr (c * 2 ^ 8) n) 65535) lf (ds'.map b64c)) K ⟨vs, _, nn, _, _, _, rfl, hfa, hvl, hlb, hrun, by exact f1, rfl, rfl, by exact f4⟩ hA ?go ?stop ?wturn ?wdone
    case go => exact fun k m o ⟨_, _, _, _, _, _, _, _, _, hl, _, _, g2, _, _⟩ => ⟨_, CE.ge (IE.name g2) IE.const, decide_eq_true (six_le hl hl0).1⟩
    case stop => exact fun m o ⟨_, _, _, _, _, _, _, _, _, hl, _, _, g2, _, _⟩ => ⟨_, CE.ge (IE.name g2) IE.const, decide_eq_false (not_six hl hl1).1⟩
    case wturn =>
      clear hA f1 f2 f3 f4 hfa hvl hrun hP' hlb
      rintro k m o s0 ⟨vs, out, nn, lb, tb, tc, rfl, hfa, hvl, hl, hr, f1, f2, f3, f4⟩ hA
      obtain ⟨h6, hl', h0⟩ := six_le hl hl0
      generalize Builtin.bitAnd (Builtin.bitOr (c * 2 ^ 8) n) 65535 = c9 at *
      refine run_cut (fun s' => ∃ t, AtH s.heap s L' m ((D, listOf (vs ++ [Value.int (b64c (c9.fdiv (2 ^ (lb - 6).toNat) % 64)) t]).toArray (nn + 1)) :: own) s') ?c4 ?_
      case c4 =>
        obtain ⟨h1, tk1, rfl, F1, N1⟩ := hA
        try k_fold
        k_steps
        refine append_K F1 N1 (.head o9) (fun h' F' N' => ?_) (by rw [sizeLine_eq, List.size_toArray]; exact Nat.le_trans (Nat.le_add_right _ _) (Nat.le_trans hvl (by decide)))
        rw [List.push_toArray] at N'
        exact ⟨rfl, _, _, _, rfl, F', N'⟩
      clear hA
      rintro s1 ⟨t1, hA⟩
      refine run_set loc_of hA (IE.sub (IE.name f2) IE.const) ?_
      clear hA
      intro t2 s2 hA
      exact wpAny_execs_nil ⟨rfl, _, _, ⟨_, _, _, _, _, _, rfl, ints_snoc hfa, by rw [snoc_len, Nat.add_assoc, Nat.add_comm 1]; exact hvl, hl', hr, by exact f1, rfl, by exact f3, by exact f4⟩, hA⟩
    case wdone =>
      clear hA
      rintro m o s0 ⟨vs, out, nn, lb, tb, tc, rfl, hfa, hvl, hl, hr, f1, f2, f3, f4⟩ hA
      obtain ⟨_, rfl⟩ := not_six hl hl1
      exact wpAny_execs_nil ⟨rfl, _, _, ⟨_, _, _, _, _, _, _, rfl, (show out = _ from hr) ▸ hfa, hP', f1, f2, f3, f4⟩, hA⟩
  case done =>
    clear hA f1 f2
    rintro m o s8 ⟨vs, ds, nn, lb, c, tb, tc, rfl, hfa, hP, f1, f2, f3, f4⟩ hA
    obtain ⟨rfl, hW, hds, hL, hl2⟩ := hP.done (KBw.ints_length b) h3 hb
    refine run_if_f loc_of hA (CE.eq (IE.name f2) IE.const) rfl ?_
    clear hA
    intro s9 hA
    refine run_if_f loc_of hA (CE.eq (IE.name f2) IE.const) rfl ?_
    clear hA
    intro s10 hA
    refine run_nil ?_
    refine run_nil ?_
    refine run_if_f loc_of hA (CE.bool f4) rfl ?_
    clear hA
    intro s11 hA
    refine run_nil ?_
    have hvl := hfa.length
    have hbr := b64c_all ds
    have hr' := digs_are hds hW hL
    rw [List.length_map] at hvl
    obtain ⟨h1, tk1, rfl, F1, N1⟩ := hA
    try k_fold
    k_steps
    show LeaveV _ _ _ _ _ _ _ _
    (refine leaveV_val (by k_asm) ?_; intro F9 N9; dsimp only)
    rw [hr']
    exact hret _ _ _ F9 N9
end Mine
end
section
open PySem PySem.W PyProof.Rows
namespace Mine

theorem enc_ctr (w : World) (mean : ExcName → Option Value) (mg mb : Str → Option Value) (news : List (Addr × Obj)) (b : Array UInt8) (t : Tok) (hb : b.size ≤ 1000) (h3 : b.size % 3 = 0) :
    Ctr 420 w mean mg mb 138 news [.bytes b t] [] (fun t => .bytes (byteArr ((dig 64 (4 * b.size / 3) (Vb (KBw.bInts b))).map b64c)) t) := by
  k_with_none
  (k_with "eval Constant int" => (with_reducible refine nI ?_))
  (k_with "eval Constant str" => (with_reducible refine nS ?_))
  (k_with "binaryOp Add int int" => (with_reducible refine nAdd ?_))
  (k_with "binaryOp Sub int int" => (with_reducible refine nSub ?_))
  (k_with "binaryOp BitAnd int int" => (with_reducible refine nAnd ?_))
  (k_with "binaryOp BitOr int int" => (with_reducible refine nOr ?_))
  (k_with "call ref" => (k_here; (with_reducible show wpAny _ _ (call (Value.ref 130) _ _) _ _ _); k_dflt (refine use_ctr (b2a_ctr _ _ _ _ _ _ _ (by assumption) (by assumption)) (by k_asm) (by k_asm) (by k_asm) (by k_asm) (by k_asm) (by first | exact rfl | assumption) (by exact Nat.le_of_ble_eq_true rfl) (by exact Nat.le_of_ble_eq_true rfl) ?_); intro t9 h9 tk9 F9 N9; (try dsimp only); (try k_fold)))
  dsimp only [Ctr, KK, prog, loose, view]
  intro dp un gd cn cs a ccd cl outer A₀ base h₀ L m s Q E B F X N T hk hd hu hret
  refine lower 420 (4 * 420) (by dsimp only; omega) (by dsimp only; omega) ?_
  dsimp only
  refine wpAny_call ?_
  k_dflt (refine' enterV (binds := [(Str.ofString "s", .bytes b t), (Str.ofString "altchars", .none)]) ?k1 ?k2 ?k3 ?k4 ?k5 ?kA ?kF ?kK ?k6 ?k7 ?k8 ?k9 ?kB ?_ ?c2 ?c3 ?c4 ?c5; (case kA => exact rfl); (case kF => exact rfl); (case kK => first | exact rfl | assumption); (case k1 => k_asm); (case k2 => k_asm); (case k3 => k_asm); (case k4 => k_asm); (case k5 => k_asm); (case k6 => k_is); (case k7 => k_is); (case k8 => exact Nat.le_of_ble_eq_true rfl); (case k9 => (refine' kp_binds ?kx ?ke; (case kx => k_in); (case ke => (intro S; kernel_rfl)))); (case c5 => decide); (case kB => exact locs rfl); (case c2 => exact rfl); (case c3 => exact rfl); (case c4 => exact rfl); k_whole; intro L' h' F' N' B' X' T'; (try dsimp only); (try k_lift B'); (try k_fold))
  k_steps
  (refine leaveV_val (by k_asm) ?_; intro F9 N9; dsimp only)
  exact hret _ _ _ F9 N9
end Mine
end
section
open PySem PySem.W PyProof.Rows
namespace Mine

theorem pow256 (k : Nat) : (256 : Int) ^ k ≠ 0 := Int.ne_of_gt (Int.pow_pos (by decide))
theorem oct_el {v : Int} {k : Nat} : (v.fdiv (256 ^ ((k : Nat) : Int).toNat)).fmod 256 = v / 256 ^ k % 256 := by
  have hp : (0 : Int) < 256 ^ k := Int.pow_pos (by decide)
  rw [Int.toNat_natCast, Int.fdiv_eq_ediv_of_nonneg _ (by omega), Int.fmod_eq_emod_of_nonneg _ (by decide)]
theorem oct_ctr (w : World) (mean : ExcName → Option Value) (mg mb : Str → Option Value) (news : List (Addr × Obj)) (v : Int) (t : Tok) (h0 : 0 ≤ v) (h1 : v < 256 ^ 15) :
    Ctr 460 w mean mg mb 158 news [.int v t] [] (fun t => .bytes (byteArr (dig 256 15 v)) t) := by
  k_with_none
  (k_with "eval ListComp" => (k_here; k_dflt (refine ListComp_V (by k_asm) (by with_unfolding_all rfl) (by decide) (by rfl) (by decide) (by rfl) ?_)))
  (k_with "exec Assign cons ListComp" => walk_at "exec Assign")
  dsimp only [Ctr, KK, prog, loose, view]
  intro dp un gd cn cs a ccd cl outer A₀ base h₀ L m s Q E B F X N T hk hd hu hret
  refine lower 460 (4 * 460) (by dsimp only; omega) (by dsimp only; omega) ?_
  dsimp only
  refine wpAny_call ?_
  k_dflt (refine' enterVC (binds := [(Str.ofString "value", .int v t)]) ?k1 ?k2 ?k3 ?k4 ?k5 ?kA ?kF ?kK ?k6 ?k7 ?k8 ?k9 ?kB ?kD ?_ ?c2 ?c3 ?c4; (case kA => exact rfl); (case kF => exact rfl); (case kK => first | exact rfl | assumption); (case k1 => k_asm); (case k2 => k_asm); (case k3 => k_asm); (case k4 => k_asm); (case k5 => k_asm); (case k6 => k_is); (case k7 => k_is); (case k8 => exact Nat.le_of_ble_eq_true rfl); (case k9 => (refine' kp_binds ?kx ?ke; (case kx => k_in); (case ke => (intro S; kernel_rfl)))); (case kB => exact rfl); (case kD => decide +kernel); (case c2 => exact rfl); (case c3 => exact rfl); (case c4 => exact rfl); k_whole; intro L' h' tk' cells' F' N' Y' B' X' T'; k_cells Y'; (try simp only [List.cons_append, List.nil_append] at N'); (try dsimp only); (try k_lift B'); (try k_fold))
  k_steps
  refine srcV_range (n := 15) rfl (by k_asm) (by k_asm) (by k_asm) (by decide) (by decide) (by decide) fun g => ?_
  refine compRest_map (n := 15) (fun i y => ∃ t, y = .int (v / 256 ^ (14 - i) % 256) t) trivial ?body 15 0 [] rfl ?fin
  case body =>
    intro i x I oI C oC D ys m₂ h tk E' hi hP hC hx F2 N2 off ne
    obtain ⟨tp, rfl⟩ := hP
    have hpl : (14 + (i : Int) * -1) = ((14 - i : Nat) : Int) := by omega
    rw [hpl] at hx
    k_steps
    · rename (256 : Int) ^ _ = 0 => hz
      exact absurd hz (pow256 _)
    · exact ElEnd.intro (by k_asm) (by k_asm) ⟨_, congrArg (Value.int · _) oct_el⟩
  case fin =>
    intro zs hz hj
    dsimp only [List.nil_append]
    intro D h tk F2 N2 off
    have hI : IntsAre zs (dig 256 15 v) := by
      have := ints_of (f := fun j => v / 256 ^ (14 - j) % 256) zs 0 hj
      rw [hz] at this
      rw [dig_map 256 (by decide)]
      simpa using this
    have hr : ∀ x ∈ dig 256 15 v, 0 ≤ x ∧ x < 256 := dig_in 256 (by decide) 15 v
    have hlen : (dig 256 15 v).length = 15 := dig_length 256 15 v
    k_steps
    (refine leaveV_val (by k_asm) ?_; intro F9 N9; dsimp only)
    exact hret _ _ _ F9 N9
end Mine
end
section
open PySem PySem.W PyProof.Rows
namespace Mine

noncomputable def drawn (n : Int) : Int := ((List.range 10).map fun p => n / 3 ^ p % 3 * 10 ^ p).sum
theorem drawn_el {v : Int} {k : Nat} : (v.fdiv (3 ^ ((k : Nat) : Int).toNat)).fmod 3 * 10 ^ ((k : Nat) : Int).toNat = v / 3 ^ k % 3 * 10 ^ k := by
  have hp : (0 : Int) < 3 ^ k := Int.pow_pos (by decide)
  rw [Int.toNat_natCast, Int.fdiv_eq_ediv_of_nonneg _ (by omega), Int.fmod_eq_emod_of_nonneg _ (by decide)]
theorem drawn_ctr (w : World) (mean : ExcName → Option Value) (mg mb : Str → Option Value) (news : List (Addr × Obj)) (v : Int) (t : Tok) : Ctr 460 w mean mg mb 163 news [.int v t] [] (fun t => .int (drawn v) t) := by
  k_with_none
  (k_with "eval ListComp" => (k_here; k_dflt (refine ListComp_V (by k_asm) (by with_unfolding_all rfl) (by decide) (by rfl) (by decide) (by rfl) ?_)))
  (k_with "exec Assign cons ListComp" => walk_at "exec Assign")
  dsimp only [Ctr, KK, prog, loose, view]
  intro dp un gd cn cs a ccd cl outer A₀ base h₀ L m s Q E B F X N T hk hd hu hret
  refine lower 460 (4 * 460) (by dsimp only; omega) (by dsimp only; omega) ?_
  dsimp only
  refine wpAny_call ?_
  k_dflt (refine' enterVC (binds := [(Str.ofString "number", .int v t)]) ?k1 ?k2 ?k3 ?k4 ?k5 ?kA ?kF ?kK ?k6 ?k7 ?k8 ?k9 ?kB ?kD ?_ ?c2 ?c3 ?c4; (case kA => exact rfl); (case kF => exact rfl); (case kK => first | exact rfl | assumption); (case k1 => k_asm); (case k2 => k_asm); (case k3 => k_asm); (case k4 => k_asm); (case k5 => k_asm); (case k6 => k_is); (case k7 => k_is); (case k8 => exact Nat.le_of_ble_eq_true rfl); (case k9 => (refine' kp_binds ?kx ?ke; (case kx => k_in); (case ke => (intro S; kernel_rfl)))); (case kB => exact rfl); (case kD => decide +kernel); (case c2 => exact rfl); (case c3 => exact rfl); (case c4 => exact rfl); k_whole; intro L' h' tk' cells' F' N' Y' B' X' T'; k_cells Y'; (try simp only [List.cons_append, List.nil_append] at N'); (try dsimp only); (try k_lift B'); (try k_fold))
  k_steps
  refine srcV_range (n := 10) rfl (by k_asm) (by k_asm) (by k_asm) (by decide) (by decide) (by decide) fun g => ?_
  refine compRest_map (n := 10) (fun i y => ∃ t, y = .int (v / 3 ^ i % 3 * 10 ^ i) t) trivial ?body 10 0 [] rfl ?fin
  case body =>
    intro i x I oI C oC D ys m₂ h tk E' hi hP hC hx F2 N2 off ne
    obtain ⟨tp, rfl⟩ := hP
    have hpl : (0 + (i : Int) * 1) = (i : Int) := by omega
    rw [hpl] at hx
    k_steps
    · rename (3 : Int) ^ _ = 0 => hz
      exact absurd hz (Int.ne_of_gt (Int.pow_pos (by decide)))
    · exact ElEnd.intro (by k_asm) (by k_asm) ⟨_, congrArg (Value.int · _) drawn_el⟩
  case fin =>
    intro zs hz hj
    dsimp only [List.nil_append]
    intro D h tk F2 N2 off
    have hI : IntsAre zs ((List.range 10).map fun p => v / 3 ^ p % 3 * 10 ^ p) := by
      have := ints_of (f := fun p => v / 3 ^ p % 3 * 10 ^ p) zs 0 hj
      rw [hz] at this
      simpa using this
    k_steps
    (refine leaveV_val (by k_asm) ?_; intro F9 N9; dsimp only)
    exact hret _ _ _ F9 N9
end Mine
end
section
open PySem PySem.W PyProof.Rows
namespace Mine

/-- what a callee with a try owes at its end: the heap that it was entered with stands, but for the slots of the caller's frame -/
noncomputable def LeaveT (fs : List Addr) (g h₀ : Heap) (L : Addr) (m : Str → Option Value) (news : List (Addr × Obj)) (R : Result → Shared → Prop) (v : Value) (s' : Shared) : Prop :=
  ∃ g' L' m' own, KtsTurn fs g g' ∧ Fr g' L' s'.heap m' ∧ News g' L' s'.heap own ∧ (Fr h₀ L s'.heap m → News h₀ L s'.heap (own ++ news) → (∀ q ∈ news, ∀ p ∈ own, q.1 ≠ p.1) → R (.ok (.ret v)) s')
theorem leaveT_ {fs : List Addr} {g g' h₀ : Heap} {L L' : Addr} {m m' : Str → Option Value} {news own : List (Addr × Obj)} {R : Result → Shared → Prop} {v : Value} {s' : Shared} (T : KtsTurn fs g g') (F' : Fr g' L' s'.heap m') (N' : News g' L' s'.heap own)
    (k : Fr h₀ L s'.heap m → News h₀ L s'.heap (own ++ news) → (∀ q ∈ news, ∀ p ∈ own, q.1 ≠ p.1) → R (.ok (.ret v)) s') : LeaveT fs g h₀ L m news R v s' := ⟨g', L', m', own, T, F', N', k⟩
/-- an item of a list that an outer frame laid -/
theorem item_up {prog : Program} {w : World} {A : Around} {E : Value → Shared → Prop} {s : Shared} {Q : Value → Shared → Prop} {value slice : Expr} {H G : Heap} {pa L1 L2 : Addr} {vs : List Value} {m1 m2 : Str → Option Value} {k : Int} {u : Tok} {v : Value}
    (hl : H.IsList pa vs.toArray) (F1 : Fr H L1 G m1) (F2 : Fr G L2 s.heap m2) (h0 : 0 ≤ k) (hhi : k < 2 ^ 63) (hx : vs[k.toNat]? = some v) (h : Q v s)
    (hs : subscripted slice false (.ref pa) (.int k u) = operate [.ref pa, .int k u] (getItem (.ref pa) (.int k u)) := by with_unfolding_all rfl) :
    wpAny (model prog w) A (subscriptTail value slice (.ref pa) (.int k u)) Q E s := by
  have hl' : s.heap.IsList pa vs.toArray := let ⟨o, e, r⟩ := hl; ⟨o, F2.keep _ _ (F1.keep _ _ e), r⟩
  exact tail_any hl'.typeIs slot_list_getitem.lookup (wpAny_getItem_list hl' h0 hhi (by simpa using hx) h) hs
end Mine
end
section
open PySem PySem.W PyProof.Rows
namespace Mine

section
variable {M : Model} {A : Around} {E : Value → Shared → Prop} {s : Shared} {env : Env} {K : Frag} {f : Value} {pos : Pos} {Q : Value → Shared → Prop}
/-- the ends named: they are not written out at each step below -/
theorem wpC_fold {α : Type} {t : Sem α} {R : α → Shared → Prop} (h : let qc := R; let ec := E; wpC M A t qc ec s) : wpC M A t R E s := h
theorem wpC_callK {h₀ : Heap} {e : Expr} {rest : List Expr} (_X : K.In h₀) (hk : keepIn K f = true) (h : wpAny M A (spliced (backTo pos (starEach (e :: rest) env))) (fun vs s₁ => K.In s₁.heap ∧ wpC M A (call f ([] ++ vs)) Q E s₁) E s)
    (he : starEach (e :: rest) env = (false, eval e env) :: starEach rest env := by rfl) (hplain : (backTo pos (starEach rest env)).any (·.1) = false := by rfl) :
    wpC M A (callWith pos f [] (backTo pos (starEach (e :: rest) env)) []) Q E s := by
  rw [he] at h ⊢
  exact wpC_callWith (by show (false || (backTo pos (starEach rest env)).any (·.1)) = false; rw [hplain]; rfl) (keeps_K hk) (Calls.evalArgs_plain h)
theorem wpC_callT {T : String} {e : Expr} {rest : List Expr} (h : wpAny M A (spliced (backTo pos (starEach (e :: rest) env))) (fun vs s₁ => wpC M A (call (.type T) ([] ++ vs)) Q E s₁) E s)
    (he : starEach (e :: rest) env = (false, eval e env) :: starEach rest env := by rfl) (hplain : (backTo pos (starEach rest env)).any (·.1) = false := by rfl) :
    wpC M A (callWith pos (.type T) [] (backTo pos (starEach (e :: rest) env)) []) Q E s := by
  rw [he] at h ⊢
  exact wpC_callWith (P := fun _ => True) (by show (false || (backTo pos (starEach rest env)).any (·.1)) = false; rw [hplain]; rfl) (fun _ _ => ⟨.machine, .inr (.inl rfl), Looks.now⟩) (Calls.evalArgs_plain (wpAny_mono h (fun _ _ x => ⟨True.intro, x⟩) fun _ _ x => x))
end
theorem enterTC {K : Frag} {prog : Program} {w : World} {A₀ A : Around} {s : Shared} {base h₀ : Heap} {L : Addr} {m mg mb : Str → Option Value} {env : Env} {news : List (Addr × Obj)} {p : Program} {loose : List Str} {mean : ExcName → Option Value}
    {R : Result → Shared → Prop} {name qual : Str} {params : Arguments} {body : List Stmt} {scope : Scope} {dV kV doc pm cdv ct oc : Value} {an od : Option Addr} {osl : Array (Option Value)} {f : Addr} {args : Args} {binds : List (Str × Value)}
    (B : Below A₀ base [] h₀) (F : Fr h₀ L s.heap m) (X₀ : K.In h₀) (N : News h₀ L s.heap news) (T : Top p loose mean mg mb h₀) (hA : A.frames = some [env]) (hf : env.frame = some L) (hke : env.scope.kind = .function)
    (ho : K.lookup f = some ⟨oc, od, .func (fnOf name qual params body scope dV kV doc pm an cdv ct), osl⟩) (hcd : codeIn K cdv qual = true) (hroom : A.depth < recursionLimit)
    (hbind : BindsTo s (fnOf name qual params body scope dV kV doc pm an cdv ct) args binds) (hloc : ∀ y ∈ binds, scope.names.lookup y.1 = some .local)
    (h : ∀ L' h₁, Fr s.heap L' h₁ (fun y => binds.reverse.lookup y) → News s.heap L' h₁ [] → Below A base [env] s.heap → K.In s.heap → Top p loose mean mg mb s.heap → KtsDicts ([env].filterMap (·.frame)) s.heap →
      wpC (model prog w) (A.deeper (envOf qual scope L' f cdv)) (execs body (envOf qual scope L' f cdv))
        (fun fl s' => LeaveT ([env].filterMap (·.frame)) s.heap h₀ L m news R (match fl with | .ret v => v | _ => .none) s')
        (fun e s' => wpAny (model prog w) (A.deeper (envOf qual scope L' f cdv)) (leaving (envOf qual scope L' f cdv) e) (fun _ s'' => R (.error e) s'') (fun e' s'' => R (.error e') s'') s')
        { s with heap := h₁, toks := s.toks + binds.length })
    (hco : scope.isCoroutine = false) (hgen : scope.isGenerator = false) (hk : scope.kind = .function)
    (hcell : ∀ x ∈ scope.names, x.2 ≠ .cell) : codeC (model prog w) A (.call (.ref f) args) R s := by
  have BG : Below A base [env] s.heap := ⟨hA, fun b o e => F.keep b o (B.stays b o e), (pushX B F hf hke).frames⟩
  have hfs : [env].filterMap (·.frame) = [L] := by simp [hf]
  obtain ⟨oL, es, ep, hL, hLd, hLk, hLf⟩ := F.ns
  have hD : KtsDicts ([env].filterMap (·.frame)) s.heap := by
    rw [hfs]
    intro b hb
    rw [List.mem_singleton.mp hb]
    exact ⟨oL, es, ep, hL, hLd⟩
  refine codeC_call_def (fd := fnOf name qual params body scope dV kV doc pm an cdv ct) (body := body) (binds := binds) hroom ((X₀.keeps F.keep) _ _ ho) rfl (T.nolimit.keeps F.keep) (codeRec_of (X₀.keeps F.keep) hcd) rfl hbind hcell hloc (fun h₁ hns hk₁ => ?_) hco hgen hk
  refine wpC_mono (h _ h₁ ⟨hns, hk₁, Nat.le_refl _⟩ News.nil BG (X₀.keeps F.keep) (T.keeps F.keep) hD) (fun fl s' hl => ?_) fun _ _ y => y
  obtain ⟨g', L', m', own, T', F', N', k⟩ := hl
  rw [hfs] at T'
  have nL₀ : h₀.get? L = none := kts_self F
  obtain ⟨sl, hs⟩ := T'.up hL
  have keep : ∀ b o, s.heap.get? b = some o → b ≠ L → s'.heap.get? b = some o := fun b o e hb => F'.keep b o (T'.other b o e (by simpa using hb))
  refine k ⟨⟨_, es, ep, F'.keep _ _ hs, hLd, hLk, hLf⟩, fun b o e => keep b o (F.keep b o e) (fun q => by rw [q, nL₀] at e; cases e), F.above⟩ ?_ ?_
  · intro q hq
    rcases List.mem_append.mp hq with hq | hq
    · refine ⟨(N' q hq).1, fun e => ?_, ?_⟩
      · have := (N' q hq).2.2
        rw [e, hs] at this
        cases this
      · cases e : h₀.get? q.1 with
        | none => rfl
        | some o =>
          obtain ⟨sl', hs'⟩ := T'.up (F.keep _ _ e)
          have := (N' q hq).2.2
          rw [hs'] at this
          cases this
    · exact ⟨keep _ _ (N q hq).1 (N q hq).2.1, (N q hq).2.1, (N q hq).2.2⟩
  · intro q hq q' hq' e
    have h2 := (N' q' hq').2.2
    obtain ⟨sl', hs'⟩ := T'.up (N q hq).1
    rw [← e, hs'] at h2
    cases h2
theorem enterVc {K : Frag} {prog : Program} {w : World} {A₀ A : Around} {s : Shared} {base h₀ : Heap} {outer : List Env} {L : Addr} {m mg mb : Str → Option Value} {env : Env} {news : List (Addr × Obj)} {p : Program} {loose : List Str} {mean : ExcName → Option Value}
    {R : Result → Shared → Prop} {name qual : Str} {params : Arguments} {body : List Stmt} {scope : Scope} {dV kV doc pm cdv ct oc : Value} {an od : Option Addr} {osl : Array (Option Value)} {f : Addr} {args : Args} {binds : List (Str × Value)}
    (B : Below A₀ base outer h₀) (F : Fr h₀ L s.heap m) (X₀ : K.In h₀) (N : News h₀ L s.heap news) (T : Top p loose mean mg mb h₀) (hA : A.frames = some (env :: outer)) (hf : env.frame = some L) (hke : env.scope.kind = .function)
    (ho : K.lookup f = some ⟨oc, od, .func (fnOf name qual params body scope dV kV doc pm an cdv ct), osl⟩) (hcd : codeIn K cdv qual = true) (hroom : A.depth < recursionLimit)
    (hbind : BindsTo s (fnOf name qual params body scope dV kV doc pm an cdv ct) args binds) (hloc : ∀ y ∈ binds, scope.names.lookup y.1 = some .local)
    (h : ∀ L' h₁, Fr s.heap L' h₁ (fun y => binds.reverse.lookup y) → News s.heap L' h₁ [] → Below A base (env :: outer) s.heap → K.In s.heap → Top p loose mean mg mb s.heap →
      wpC (model prog w) (A.deeper (envOf qual scope L' f cdv)) (execs body (envOf qual scope L' f cdv))
        (fun fl s' => LeaveV s.heap h₀ L m news R (match fl with | .ret v => v | _ => .none) s')
        (fun e s' => wpAny (model prog w) (A.deeper (envOf qual scope L' f cdv)) (leaving (envOf qual scope L' f cdv) e) (fun _ s'' => R (.error e) s'') (fun e' s'' => R (.error e') s'') s')
        { s with heap := h₁, toks := s.toks + binds.length })
    (hco : scope.isCoroutine = false) (hgen : scope.isGenerator = false) (hk : scope.kind = .function)
    (hcell : ∀ x ∈ scope.names, x.2 ≠ .cell) : codeC (model prog w) A (.call (.ref f) args) R s := by
  have BG : Below A base (env :: outer) s.heap := ⟨hA, fun b o e => F.keep b o (B.stays b o e), (pushX B F hf hke).frames⟩
  refine codeC_call_def (fd := fnOf name qual params body scope dV kV doc pm an cdv ct) (body := body) (binds := binds) hroom ((X₀.keeps F.keep) _ _ ho) rfl (T.nolimit.keeps F.keep) (codeRec_of (X₀.keeps F.keep) hcd) rfl hbind hcell hloc (fun h₁ hns hk₁ => ?_) hco hgen hk
  exact wpC_mono (h _ h₁ ⟨hns, hk₁, Nat.le_refl _⟩ News.nil BG (X₀.keeps F.keep) (T.keeps F.keep)) (fun fl s' hl => leave_back F N hl) fun _ _ y => y
theorem wpC_execs_at (k : Nat) {M : Model} {A : Around} {E : Value → Shared → Prop} {s : Shared} {env : Env} {body : List Stmt} {Q : Flow → Shared → Prop} (h : wpAny M A (execs (body.take k) env) (fun f s' => match f with | .next => wpC M A (execs (body.drop k) env) Q E s' | f => Q f s') E s) : wpC M A (execs body env) Q E s := by
  have := wpC_execs_skip (body.take k) (rest := body.drop k) h
  rwa [List.take_append_drop] at this
theorem wpC_AssignN {M : Model} {A : Around} {E : Value → Shared → Prop} {s : Shared} {env : Env} {x : Str} {xp : Pos} {value : Expr} {pos : Pos} {Q : Flow → Shared → Prop} (h : wpC M A (eval value env) (fun v s₁ => wpAny M A (assign (.Name x xp) env v) (fun _ => Q .next) E s₁) E s)
    (hs : swapsWithSole [.Name x xp] value pos.line env = pure false := by rfl) (hw : swappedStores [.Name x xp] value env = pure none := by rfl) : wpC M A (exec (.Assign [.Name x xp] value pos) env) Q E s := by
  refine wpC_Assign (wpC_mono h (fun v s₁ h₁ => ?_) fun _ _ x => x) hs hw
  show wpAny M A (do assignAll v [assign (.Name x xp) env]; pure .next) Q E s₁
  exact wpAny_bind (wpAny_mono h₁ (fun _ _ x => wpAny_pure x) fun _ _ x => x)
theorem wpC_AssignT {M : Model} {A : Around} {E : Value → Shared → Prop} {s : Shared} {env : Env} {elts : List Expr} {k : Nat} {tpos : Pos} {value : Expr} {pos : Pos} {Q : Flow → Shared → Prop} (h : wpC M A (eval value env) (fun v s₁ => wpAny M A (assign (.Tuple elts k tpos) env v) (fun _ => Q .next) E s₁) E s)
    (hs : swapsWithSole [.Tuple elts k tpos] value pos.line env = pure false := by rfl) (hw : swappedStores [.Tuple elts k tpos] value env = pure none := by rfl) : wpC M A (exec (.Assign [.Tuple elts k tpos] value pos) env) Q E s := by
  refine wpC_Assign (wpC_mono h (fun v s₁ h₁ => ?_) fun _ _ x => x) hs hw
  show wpAny M A (do assignAll v [assign (.Tuple elts k tpos) env]; pure .next) Q E s₁
  exact wpAny_bind (wpAny_mono h₁ (fun _ _ x => wpAny_pure x) fun _ _ x => x)
end Mine
end
section
open PySem PySem.W PyProof.Rows
namespace Mine

/-- a loop over range(N), under a claim -/
theorem forRangeC {prog : Program} {w : World} {A : Around} {E : Value → Shared → Prop} {s : Shared} {env : Env} {h₀ : Heap} {x : Str} {px : Pos} {body : List Stmt} {r : Addr} {n : Nat} {b : Int} {t u v : Tok} {m₀ : Str → Option Value} {news : List (Addr × Obj)} {R : Result → Shared → Prop}
    (stored : List Str) (hh : A.handled = none) (hr : IsRange s.heap r 0 b 1 t u v) (hb : b = (n : Int)) (hn : n ≤ 1000) (hx : env.kindOf x = some .local) (hp : (env.scope.kind == .class || (env.scope.kind == .module && env.locals != env.globals)) = false)
    (F : Fr h₀ env.locals s.heap m₀) (N : News h₀ env.locals s.heap news)
    (turn : ∀ (i : Nat) (ti : Tok) (u : Str → Option Value) h tk I oI, i < n → (∀ p ∈ news, p.1 ≠ I) → Fr h₀ env.locals h (fun y => if y = x then some (.int (i : Int) ti) else if stored.contains y then u y else m₀ y) → News h₀ env.locals h ((I, oI) :: news) →
      wpC (model prog w) A (execs body env) (TurnC h₀ env.locals x stored m₀ ((I, oI) :: news) { s with heap := h, toks := tk }) (fun _ _ => False) { s with heap := h, toks := tk })
    (done : ∀ (u : Str → Option Value) h tk, Fr h₀ env.locals h (fun y => if y = x then u y else if stored.contains y then u y else m₀ y) → News h₀ env.locals h news → R (.ok .next) { s with heap := h, toks := tk }) :
    wpAny (model prog w) A (pyIter (.ref r)) (fun it s₂ => codeC (model prog w) A (.forLoop (.Name x px) it body [] env) R s₂) E s := by
  subst hb
  have hsz : Builtin.Range.rangeSize 0 (n : Int) 1 = (n : Int) := by
    have := rangeSize_nat 0 (n : Int)
    simpa using this
  refine wpAny_pyIter_range hr (small_one (by (first | lia | omega)) (by (first | lia | omega)) (by (first | lia | omega)) (by (first | lia | omega))) ?_
  rw [hsz]
  have hold : ∀ b o, s.heap.get? b = some o → b ≠ s.heap.objs.size := fun b o e q => absurd (Heap.lt_size e) (q ▸ Nat.lt_irrefl _)
  have hI0 : h₀.get? s.heap.objs.size = none := by
    cases e : h₀.get? s.heap.objs.size with
    | none => rfl
    | some o => exact absurd rfl (hold _ _ (F.keep _ _ e))
  refine loopC (n := n) (P := fun i v => ∃ t, v = .int (0 + (i : Int) * 1) t) (St := fun i h => IsRangeIter h s.heap.objs.size (0 + (i : Nat) * 1) ((n : Int) - (i : Nat)) 1) stored (Walks.range hh s.heap.objs.size 0 1 n) hx hp hI0 ?_ ?_ ?_ ?_ ?_ (F.push _) (fun p hp => ⟨Heap.get?_push_of_some _ (N p hp).1, (N p hp).2⟩) ?_ ?_
  · obtain ⟨oL, _, _, hL, _⟩ := F.ns
    exact hold _ _ hL
  · exact fun p hp => hold _ _ (N p hp).1
  · show IsRangeIter _ _ _ _ _
    simp only [Int.ofNat_zero, Int.zero_mul, Int.add_zero, Int.sub_zero]
    exact Heap.get?_push_size _ rfl
  · intro i h h' nw st e _ _ _
    show h'.get? _ = _
    rw [e]
    exact st
  · exact fun i h st => ⟨_, st⟩
  · intro i v u h tk oI hi hP F' N'
    obtain ⟨ti, rfl⟩ := hP
    have e : (0 + (i : Int) * 1) = (i : Int) := by (first | lia | omega)
    rw [e] at F'
    exact turn i ti u h tk _ oI hi (fun p hp => hold _ _ (N p hp).1) F' N'
  · intro u h tk F' N'
    exact done u h tk F' N'
end Mine
end
section
open PySem PySem.W PyProof.Rows
namespace Mine

theorem News.head {h₀ : Heap} {L : Addr} {h : Heap} {p : Addr × Obj} {l : List (Addr × Obj)} (N : News h₀ L h (p :: l)) : News h₀ L h [p] := fun q hq => N q (by rw [List.mem_singleton.mp hq]; exact List.mem_cons_self ..)
/-- what _law_told gives back: nothing where the figures are refused, and else a triple -/
noncomputable def ToldIs (host y : Str) (own : List (Addr × Obj)) (v : Value) : Prop :=
  (PySem.intText? y = none ∧ v = .none ∧ own = []) ∨ (∃ n a t1 t2, PySem.intText? y = some n ∧ v = .ref a ∧ own = [(a, { cls := .type "tuple", data := .seq #[.str host t1, .int n t2, .bool true] 0 })])
theorem told_C (w : World) (mean : ExcName → Option Value) (mg mb : Str → Option Value) (news : List (Addr × Obj)) (x host y : Str) (p0 p1 p2 p4 : Str) (t t1 : Tok) (pa : Addr) (v2 : Value) (hxl : x.length ≤ 1000)
    (g1 : (Txt.slice x none (some 3) != Str.ofString "229") = false) (g2 : 0 ≤ Txt.find x (Str.ofString "(")) (g3 : Txt.find x (Str.ofString "(") + 1 < Txt.find3 x (Str.ofString ")") (Txt.find x (Str.ofString "(") + 1))
    (g4 : Txt.find3 x (Str.ofString ")") (Txt.find x (Str.ofString "(") + 1) < (x.length : Int))
    (g5 : (Txt.item x (Txt.find x (Str.ofString "(") + 1) != Txt.item x (Txt.find3 x (Str.ofString ")") (Txt.find x (Str.ofString "(") + 1) - 1)) = false)
    (hsp : Txt.split (Txt.slice x (some (Txt.find x (Str.ofString "(") + 1)) (some (Txt.find3 x (Str.ofString ")") (Txt.find x (Str.ofString "(") + 1)))) (Txt.item x (Txt.find x (Str.ofString "(") + 1)) = [p0, p1, p2, y, p4])
    (hyl : y.length ≤ 640) (hrep : (reprText y).length ≤ 3000)
    (dp un : Nat) (gd : Option (List Code)) (cn : Str) (cs : Scope) (a : Addr) (ccd : Value) (cl : List (Str × Addr)) (A₀ : Around) (h₀ : Heap) (L : Addr) (m : Str → Option Value) (s : Shared) (Q E : Value → Shared → Prop)
    (B : Below A₀ h₀ [] h₀) (F : Fr h₀ L s.heap m) (X : (KK w).In h₀) (N : News h₀ L s.heap news) (hpa : s.heap.IsList pa [.str host t1, v2].toArray) (T : Top view loose mean mg mb h₀) (hk : cs.kind = .function) (hd : dp ≤ 420) (hu : un ≤ 4 * 420)
    (hret : ∀ v h' tk own, ToldIs host y own v → Fr h₀ L h' m → News h₀ L h' (own ++ news) → (∀ q ∈ news, ∀ p ∈ own, q.1 ≠ p.1) → Q v { s with heap := h', toks := tk }) :
    wpC (model prog w) (ktrTop dp un gd cn cs L a ccd cl []) (call (.ref 175) [.str x t, .ref pa] []) Q E s := by
  k_with_none
  (k_with "subscriptTail" => ((with_reducible show wpAny _ _ (subscriptTail _ _ (Value.ref _) (Value.int 0 _)) _ _ _); k_dflt (refine item_up (vs := [_, _]) (by assumption) (by assumption) (by assumption) (by decide) (by decide) rfl ?_)))
  dsimp only [KK, prog, loose, view] at *
  refine wpC_units 420 (4 * 420) (by dsimp only; omega) (by dsimp only; omega) ?_
  try dsimp only
  refine wpC_call ?_
  k_dflt (refine' enterTC (binds := [(Str.ofString "reply", .str x t), (Str.ofString "peer", .ref pa)]) ?k1 ?k2 ?k3 ?k4 ?k5 ?kA ?kF ?kK ?k6 ?k7 ?k8 ?k9 ?kB ?_ ?c2 ?c3 ?c4 ?c5; (case kA => exact rfl); (case kF => exact rfl); (case kK => first | exact rfl | assumption); (case k1 => k_asm); (case k2 => k_asm); (case k3 => k_asm); (case k4 => k_asm); (case k5 => k_asm); (case k6 => k_is); (case k7 => k_is); (case k8 => exact Nat.le_of_ble_eq_true rfl); (case k9 => (refine' kp_binds ?kx ?ke; (case kx => k_in); (case ke => (intro S; kernel_rfl)))); (case c5 => decide); (case kB => exact locs rfl); (case c2 => exact rfl); (case c3 => exact rfl); (case c4 => exact rfl); k_whole; intro L' h' F' N' B' X' T' D'; (try dsimp only); (try k_fold))
  refine wpC_fold ?_
  intro qc ec
  refine wpC_execs_cons (wpC_Try (wpC_execs_cons (wpC_AssignT (wpC_Call ?_))))
  try k_fold
  k_steps
  k_dflt (refine' wpC_callK ?k1 ?k2 ?_; (case k1 => k_asm); (case k2 => k_is); k_whole)
  try k_fold
  k_steps
  refine wpC_fold ?_
  intro qv ev
  refine wpC_call ?_
  k_dflt (refine' enterVc (binds := [(Str.ofString "resp", .str x t), (Str.ofString "peer", .ref pa)]) ?k1 ?k2 ?k3 ?k4 ?k5 ?kA ?kF ?kK ?k6 ?k7 ?k8 ?k9 ?kB ?_ ?c2 ?c3 ?c4 ?c5; (case kA => exact rfl); (case kF => exact rfl); (case kK => first | exact rfl | assumption); (case k1 => k_asm); (case k2 => k_asm); (case k3 => k_asm); (case k4 => k_asm); (case k5 => k_asm); (case k6 => k_is); (case k7 => k_is); (case k8 => exact Nat.le_of_ble_eq_true rfl); (case k9 => (refine' kp_binds ?kx ?ke; (case kx => k_in); (case ke => (intro S; kernel_rfl)))); (case c5 => decide); (case kB => exact locs rfl); (case c2 => exact rfl); (case c3 => exact rfl); (case c4 => exact rfl); k_whole; intro L' h' F' N' B' X' T'; (try dsimp only); (try k_lift B'); (try k_fold))
  refine wpC_fold ?_
  intro qc2 ec2
  refine wpC_execs_at 9 ?_
  dsimp only [List.take, List.drop]
  try k_fold
  k_steps
  · exfalso
    rename List.map _ _ = Txt.split _ _ => hl0
    rename ((List.length _ : Nat) : Int) ≠ 5 => hl1
    rw [hsp] at hl0
    have h5 := congrArg List.length hl0
    simp only [List.length_map, List.length_cons, List.length_nil] at h5
    omega
  rename List.map _ _ = Txt.split _ _ => hl0
  rw [hsp] at hl0
  try dsimp only
  refine wpC_execs_cons (wpC_AssignN (wpC_Call ?_))
  try k_fold
  k_steps
  refine wpC_callT ?_
  try k_fold
  k_steps
  rename (List.map _ _)[Int.toNat 3]? = some _ => hy3
  rename List.map _ _ = [p0, p1, p2, y, p4] => hl1
  rw [hl1] at hy3
  obtain rfl := Option.some.inj (show some y = some _ from hy3)
  try dsimp only [List.nil_append]
  cases hi : PySem.intText? y with
  | some n =>
    refine wpC_of (KIN.call_text hi hyl ?_)
    try k_fold
    k_steps
    try dsimp only
    refine wpC_of ?_
    try k_fold
    k_steps
    show LeaveV _ _ _ _ _ _ _ _
    refine ⟨_, _, _, by k_asm, by k_asm, ?_⟩
    intro F9 N9 O9
    try simp only [List.cons_append, List.nil_append] at N9
    try dsimp only
    try k_fold
    k_steps
    try dsimp only
    refine wpC_of ?_
    try k_fold
    k_steps
    try dsimp only
    refine wpC_of ?_
    try k_fold
    k_steps
    try dsimp only
    show LeaveT _ _ _ _ _ _ _ _ _
    rename News s.heap _ _ _ => nE
    refine leaveT_ (KtsTurn.refl) (by k_asm) (News.head nE) ?_
    intro F9 N9 O9
    exact hret _ _ _ _ (.inr ⟨n, _, _, _, hi, rfl, rfl⟩) F9 N9 O9
  | none =>
    refine wpC_int_refused hyl hi rfl hrep ?_
    intro h9 tk9 e9 hx9
    try k_fold
    k_steps
    try dsimp only
    show LeaveT _ _ _ _ _ _ _ _ _
    refine leaveT_ (by assumption) (by k_asm) News.nil ?_
    intro F9 N9 O9
    exact hret _ _ _ [] (.inl ⟨hi, rfl, rfl⟩) F9 N9 O9
end Mine
end
section
open PySem PySem.W PyProof.Rows
namespace Mine

section
open PySem.NumText
/-- low figures first -/
noncomputable def ev (B : Int) (l : List Int) : Int := l.foldr (fun c e => c + B * e) 0
theorem ev_nil (B : Int) : ev B [] = 0 := rfl
theorem ev_cons (B c : Int) (l : List Int) : ev B (c :: l) = c + B * ev B l := rfl
noncomputable def dl (B : Int) : Nat → Int → List Int
  | 0, _ => []
  | n + 1, v => v % B :: dl B n (v / B)
theorem dig_dl (B : Int) : ∀ n v, dig B n v = (dl B n v).reverse
  | 0, _ => rfl
  | n + 1, v => by rw [dig, dl, List.reverse_cons, dig_dl B n]
theorem val_reverse (B : Int) : ∀ l : List Int, val B l.reverse = ev B l
  | [] => rfl
  | c :: l => by rw [List.reverse_cons, val_snoc, val_reverse B l, ev_cons, Int.mul_comm]; (first | lia | omega)
theorem div_step {B c e : Int} (hB : 0 < B) (h0 : 0 ≤ c) (h1 : c < B) : (c + B * e) / B = e ∧ (c + B * e) % B = c := by
  constructor
  · rw [Int.add_mul_ediv_left _ _ (by (first | lia | omega)), Int.ediv_eq_zero_of_lt h0 h1, Int.zero_add]
  · rw [Int.add_mul_emod_self_left, Int.emod_eq_of_lt h0 h1]
theorem dl_zero (B : Int) : ∀ n, dl B n 0 = List.replicate n 0
  | 0 => rfl
  | n + 1 => by rw [dl, Int.zero_emod, Int.zero_ediv, dl_zero B n]; rfl
theorem dl_ev {B : Int} (hB : 0 < B) : ∀ (l : List Int) (n : Nat), (∀ x ∈ l, 0 ≤ x ∧ x < B) → l.length ≤ n → dl B n (ev B l) = l ++ List.replicate (n - l.length) 0
  | [], n, _, _ => by simp [ev_nil, dl_zero]
  | c :: l, 0, _, hn => by simp at hn
  | c :: l, n + 1, h, hn => by
    have hc := h c (List.mem_cons_self ..)
    obtain ⟨e1, e2⟩ := div_step (e := ev B l) hB hc.1 hc.2
    rw [dl, ev_cons, e1, e2, dl_ev hB l n (fun x hx => h x (List.mem_cons_of_mem _ hx)) (by simpa using hn)]
    simp
theorem ev_zeros (B : Int) : ∀ n, ev B (List.replicate n 0) = 0
  | 0 => rfl
  | n + 1 => by rw [List.replicate_succ, ev_cons, ev_zeros B n]; simp
theorem ev_append (B : Int) : ∀ a b : List Int, ev B (a ++ b) = ev B a + B ^ a.length * ev B b
  | [], b => by simp [ev_nil]
  | c :: a, b => by
    rw [List.cons_append, ev_cons, ev_append B a b, ev_cons, List.length_cons, Int.pow_succ, Int.mul_add, Int.mul_comm (B ^ a.length) B, Int.mul_assoc]; (first | lia | omega)
theorem ev_pad (B : Int) (l : List Int) (n : Nat) : ev B (l ++ List.replicate n 0) = ev B l := by rw [ev_append, ev_zeros]; simp
theorem ev_bounds {B M : Int} (hB : 1 < B) : ∀ l : List Int, (∀ x ∈ l, 0 ≤ x ∧ x ≤ M) → 0 ≤ ev B l ∧ ev B l * (B - 1) ≤ M * (B ^ l.length - 1)
  | [], _ => by simp [ev_nil]
  | c :: l, h => by
    have hc := h c (List.mem_cons_self ..)
    obtain ⟨i0, i1⟩ := ev_bounds hB l fun x hx => h x (List.mem_cons_of_mem _ hx)
    rw [ev_cons, List.length_cons]
    refine ⟨by have := Int.mul_nonneg (show (0 : Int) ≤ B by (first | lia | omega)) i0; (first | lia | omega), ?_⟩
    have h1 : B * (ev B l * (B - 1)) ≤ B * (M * (B ^ l.length - 1)) := Int.mul_le_mul_of_nonneg_left i1 (by (first | lia | omega))
    have h2 : c * (B - 1) ≤ M * (B - 1) := Int.mul_le_mul_of_nonneg_right hc.2 (by (first | lia | omega))
    have e1 : (c + B * ev B l) * (B - 1) = c * (B - 1) + B * (ev B l * (B - 1)) := by rw [Int.add_mul, Int.mul_assoc]
    have e2 : M * (B ^ (l.length + 1) - 1) = M * (B - 1) + B * (M * (B ^ l.length - 1)) := by
      rw [Int.pow_succ]
      simp only [Int.mul_sub, Int.mul_one]
      rw [← Int.mul_assoc B M, Int.mul_comm B M, Int.mul_assoc M B, Int.mul_comm B (B ^ l.length)]
      (first | lia | omega)
    rw [e1, e2]; (first | lia | omega)
noncomputable def G64 : Nat → Int
  | 0 => 0
  | n + 1 => 52 + 64 * G64 n
theorem ev_52 : ∀ l : List Int, ev 64 (l.map (52 + ·)) = ev 64 l + G64 l.length
  | [] => rfl
  | c :: l => by rw [List.map_cons, ev_cons, ev_52 l, ev_cons, List.length_cons, G64]; (first | lia | omega)
/-- nothing is carried -/
theorem dl_plain : ∀ (C : List Int) (n : Nat), (∀ c ∈ C, 0 ≤ c ∧ c ≤ 9) → C.length ≤ n → dl 64 n (ev 64 C + G64 n) = (C ++ List.replicate (n - C.length) 0).map (52 + ·)
  | [], 0, _, _ => rfl
  | [], n + 1, h, _ => by
    rw [ev_nil, Int.zero_add, G64, dl]
    obtain ⟨e1, e2⟩ := div_step (B := 64) (c := 52) (e := G64 n) (by decide) (by decide) (by decide)
    have := dl_plain [] n (fun _ h => nomatch h) (Nat.zero_le _)
    rw [ev_nil, Int.zero_add] at this
    rw [e1, e2, this]
    rfl
  | c :: C, 0, _, hn => by simp at hn
  | c :: C, n + 1, h, hn => by
    have hc := h c (List.mem_cons_self ..)
    have e : ev 64 (c :: C) + G64 (n + 1) = (52 + c) + 64 * (ev 64 C + G64 n) := by rw [ev_cons, G64]; (first | lia | omega)
    obtain ⟨e1, e2⟩ := div_step (B := 64) (c := 52 + c) (e := ev 64 C + G64 n) (by decide) (by (first | lia | omega)) (by (first | lia | omega))
    rw [e, dl, e1, e2, dl_plain C n (fun x hx => h x (List.mem_cons_of_mem _ hx)) (by simpa using hn)]
    simp
/-- a figure that is none of the ten signs of a decimal number -/
theorem dl_odd : ∀ (C : List Int) (n : Nat), (∀ c ∈ C, 0 ≤ c ∧ c ≤ 63) → C.length ≤ n → (∃ c ∈ C, 10 ≤ c) → ∃ d ∈ dl 64 n (ev 64 C + G64 n), ¬ (52 ≤ d ∧ d ≤ 61)
  | [], _, _, _, ⟨c, hc, _⟩ => nomatch hc
  | c :: C, 0, _, hn, _ => by simp at hn
  | c :: C, n + 1, h, hn, hx => by
    have hc := h c (List.mem_cons_self ..)
    have e : ev 64 (c :: C) + G64 (n + 1) = (52 + c) + 64 * (ev 64 C + G64 n) := by rw [ev_cons, G64]; (first | lia | omega)
    by_cases h10 : 10 ≤ c
    · refine ⟨_, List.mem_cons_self .., ?_⟩
      rw [e]; (first | lia | omega)
    · obtain ⟨x, hx, hx10⟩ := hx
      obtain ⟨e1, e2⟩ := div_step (B := 64) (c := 52 + c) (e := ev 64 C + G64 n) (by decide) (by (first | lia | omega)) (by (first | lia | omega))
      have hx' : x ∈ C := by
        rcases List.mem_cons.mp hx with rfl | hx
        · (first | lia | omega)
        · exact hx
      obtain ⟨d, hd, hd'⟩ := dl_odd C n (fun x hx => h x (List.mem_cons_of_mem _ hx)) (by simpa using hn) ⟨x, hx', hx10⟩
      refine ⟨d, ?_, hd'⟩
      rw [e, dl, e1]
      exact List.mem_cons_of_mem _ hd
/-! products of figures -/
noncomputable def addL : List Int → List Int → List Int
  | [], b => b
  | a, [] => a
  | x :: a, y :: b => (x + y) :: addL a b
theorem ev_addL (B : Int) : ∀ a b, ev B (addL a b) = ev B a + ev B b
  | [], b => by simp [addL, ev_nil]
  | x :: a, [] => by simp [addL, ev_nil]
  | x :: a, y :: b => by rw [addL, ev_cons, ev_addL B a b, ev_cons, ev_cons, Int.mul_add]; (first | lia | omega)
theorem addL_le {M N : Int} (hM : 0 ≤ M) (hN : 0 ≤ N) : ∀ a b : List Int, (∀ x ∈ a, 0 ≤ x ∧ x ≤ M) → (∀ x ∈ b, 0 ≤ x ∧ x ≤ N) → ∀ x ∈ addL a b, 0 ≤ x ∧ x ≤ M + N
  | [], b, _, hb, x, hx => by have := hb x hx; (first | lia | omega)
  | y :: a, [], ha, _, x, hx => by have := ha x hx; (first | lia | omega)
  | y :: a, z :: b, ha, hb, x, hx => by
    have hy := ha y (List.mem_cons_self ..)
    have hz := hb z (List.mem_cons_self ..)
    rcases List.mem_cons.mp hx with rfl | hx
    · (first | lia | omega)
    · exact addL_le hM hN a b (fun x hx => ha x (List.mem_cons_of_mem _ hx)) (fun x hx => hb x (List.mem_cons_of_mem _ hx)) x hx
theorem addL_length : ∀ a b : List Int, (addL a b).length = max a.length b.length
  | [], b => by simp [addL]
  | x :: a, [] => by simp [addL]
  | x :: a, y :: b => by rw [addL, List.length_cons, addL_length a b, List.length_cons, List.length_cons]; (first | lia | omega)
noncomputable def mulL : List Int → List Int → List Int
  | [], _ => []
  | x :: a, b => addL (b.map (x * ·)) (0 :: mulL a b)
theorem ev_smul (B x : Int) : ∀ b, ev B (b.map (x * ·)) = x * ev B b
  | [] => by simp [ev_nil]
  | y :: b => by rw [List.map_cons, ev_cons, ev_smul B x b, ev_cons, Int.mul_add, ← Int.mul_assoc, Int.mul_comm B x, Int.mul_assoc]
theorem ev_mulL (B : Int) : ∀ a b, ev B (mulL a b) = ev B a * ev B b
  | [], b => by simp [mulL, ev_nil]
  | x :: a, b => by rw [mulL, ev_addL, ev_smul, ev_cons, ev_mulL B a b, ev_cons, Int.add_mul, Int.mul_assoc]; (first | lia | omega)
theorem mulL_le (b : List Int) (hb : ∀ x ∈ b, 0 ≤ x ∧ x ≤ 2) : ∀ a : List Int, (∀ x ∈ a, 0 ≤ x ∧ x ≤ 2) → ∀ x ∈ mulL a b, 0 ≤ x ∧ x ≤ 4 * a.length
  | [], _, x, hx => nomatch hx
  | y :: a, ha, x, hx => by
    have hy := ha y (List.mem_cons_self ..)
    have ih := mulL_le b hb a fun x hx => ha x (List.mem_cons_of_mem _ hx)
    have := addL_le (M := 4) (N := 4 * a.length) (by decide) (by (first | lia | omega)) (b.map (y * ·)) (0 :: mulL a b) (fun z hz => by
      obtain ⟨u, hu, rfl⟩ := List.mem_map.mp hz
      have hu := hb u hu
      have : y = 0 ∨ y = 1 ∨ y = 2 := by (first | lia | omega)
      rcases this with rfl | rfl | rfl <;> (first | lia | omega)) (fun z hz => by
      rcases List.mem_cons.mp hz with rfl | hz
      · (first | lia | omega)
      · exact ih z hz) x hx
    rw [List.length_cons]; (first | lia | omega)
theorem mulL_length (b : List Int) (hb : b.length = 10) : ∀ a : List Int, (mulL a b).length ≤ a.length + 9
  | [] => by simp [mulL]
  | y :: a => by
    have := mulL_length b hb a
    rw [mulL, addL_length, List.length_map, hb, List.length_cons, List.length_cons]; (first | lia | omega)
/-! the sum of the decimal figures -/
theorem decN_small {n : Int} (h0 : 0 ≤ n) (h1 : n < 10) : decN n = [(48 + n).toNat] := by
  obtain ⟨k, rfl⟩ := Int.eq_ofNat_of_zero_le h0
  have hk : k < 10 := by (first | lia | omega)
  show (Nat.toDigits 10 k).map Char.toNat = _
  rw [Nat.toDigits_of_lt_base hk]
  have key : ∀ k : Nat, k < 10 → [(Nat.digitChar k)].map Char.toNat = [((48 : Int) + (k : Nat)).toNat] := by decide
  exact key k hk
theorem decN_step {n : Int} (h1 : 10 ≤ n) : decN n = decN (n / 10) ++ [(48 + n % 10).toNat] := by
  obtain ⟨k, rfl⟩ := Int.eq_ofNat_of_zero_le (show 0 ≤ n by (first | lia | omega))
  have hm : k % 10 < 10 := Nat.mod_lt k (by decide)
  have t : Nat.toDigits 10 (k / 10) ++ Nat.toDigits 10 (k % 10) = Nat.toDigits 10 (10 * (k / 10) + k % 10) := Nat.toDigits_append_toDigits (by decide) (by (first | lia | omega)) hm
  rw [Nat.div_add_mod] at t
  have e2 := decN_small (n := ((k % 10 : Nat) : Int)) (by (first | lia | omega)) (by (first | lia | omega))
  have e2' : (Nat.toDigits 10 (k % 10)).map Char.toNat = [(48 + ((k % 10 : Nat) : Int)).toNat] := e2
  show (Nat.toDigits 10 k).map Char.toNat = (Nat.toDigits 10 ((k : Int) / 10).toNat).map Char.toNat ++ [(48 + (k : Int) % 10).toNat]
  rw [← t, List.map_append, e2']
  rfl
theorem wt_zero : wt 0 = 0 := by decide
theorem wt_step {n : Int} (h0 : 0 ≤ n) : wt n = n % 10 + wt (n / 10) := by
  by_cases h : n < 10
  · have e1 : n / 10 = 0 := by (first | lia | omega)
    have e2 : n % 10 = n := by (first | lia | omega)
    rw [e1, wt_zero, e2]
    unfold wt
    rw [decN_small h0 h]
    simp; (first | lia | omega)
  · unfold wt
    rw [decN_step (by (first | lia | omega)), List.map_append, List.sum_append]
    simp; (first | lia | omega)
theorem wt_le (n : Nat) : wt (n : Int) ≤ n := by
  induction n using Nat.strongRecOn with
  | ind n ih =>
    by_cases h : n = 0
    · subst h; exact Int.le_of_eq wt_zero
    · rw [wt_step (by (first | lia | omega))]
      have := ih (n / 10) (by (first | lia | omega))
      have e : ((n : Int) / 10) = ((n / 10 : Nat) : Int) := by (first | lia | omega)
      rw [e]; (first | lia | omega)
theorem wt_carry : ∀ (l : List Int) (m : Int), 0 ≤ m → (∀ x ∈ l, 0 ≤ x) → wt (m + ev 10 l) ≤ m + l.sum ∧ ((∃ x ∈ l, 10 ≤ x) → wt (m + ev 10 l) < m + l.sum)
  | [], m, h0, _ => by
    obtain ⟨k, rfl⟩ := Int.eq_ofNat_of_zero_le h0
    have := wt_le k
    refine ⟨by simpa [ev_nil] using this, fun ⟨x, hx, _⟩ => nomatch hx⟩
  | c :: l, m, h0, h => by
    have hc := h c (List.mem_cons_self ..)
    have hl : ∀ x ∈ l, 0 ≤ x := fun x hx => h x (List.mem_cons_of_mem _ hx)
    have he : 0 ≤ ev 10 l := by
      clear h hc
      induction l with
      | nil => exact Int.le_refl _
      | cons y l ih =>
        have := hl y (List.mem_cons_self ..)
        have := ih fun x hx => hl x (List.mem_cons_of_mem _ hx)
        rw [ev_cons]; (first | lia | omega)
    have e0 : m + ev 10 (c :: l) = (m + c) + 10 * ev 10 l := by rw [ev_cons]; (first | lia | omega)
    rw [e0, wt_step (by (first | lia | omega))]
    have e1 : ((m + c) + 10 * ev 10 l) % 10 = (m + c) % 10 := by (first | lia | omega)
    have e2 : ((m + c) + 10 * ev 10 l) / 10 = (m + c) / 10 + ev 10 l := by (first | lia | omega)
    rw [e1, e2, List.sum_cons]
    obtain ⟨i1, i2⟩ := wt_carry l ((m + c) / 10) (by (first | lia | omega)) hl
    refine ⟨by (first | lia | omega), fun ⟨x, hx, hx10⟩ => ?_⟩
    rcases List.mem_cons.mp hx with rfl | hx
    · (first | lia | omega)
    · have := i2 ⟨x, hx, hx10⟩
      (first | lia | omega)
theorem wt_plain : ∀ (l : List Int), (∀ x ∈ l, 0 ≤ x ∧ x ≤ 9) → wt (ev 10 l) = l.sum ∧ 0 ≤ ev 10 l
  | [], _ => ⟨wt_zero, Int.le_refl _⟩
  | c :: l, h => by
    have hc := h c (List.mem_cons_self ..)
    obtain ⟨i1, i2⟩ := wt_plain l fun x hx => h x (List.mem_cons_of_mem _ hx)
    obtain ⟨e1, e2⟩ := div_step (B := 10) (c := c) (e := ev 10 l) (by decide) hc.1 (by (first | lia | omega))
    refine ⟨?_, by rw [ev_cons]; (first | lia | omega)⟩
    rw [ev_cons, wt_step (by (first | lia | omega)), e1, e2, i1, List.sum_cons]
/-! the decimal text, noughts ahead -/
theorem num48 {n : Int} (h : 0 ≤ n) : n = ((48 + n).toNat : Int) - 48 := by lia
theorem decN_pad : ∀ (k : Nat) (n : Int), 0 ≤ n → n < 10 ^ (k + 1) → (decN n).length ≤ k + 1 ∧ dig 10 (k + 1) n = List.replicate (k + 1 - (decN n).length) 0 ++ (decN n).map fun (c : Nat) => (c : Int) - 48
  | k, n, h0, h1 => by
    by_cases h : n < 10
    · rw [decN_small h0 h, dig, Int.ediv_eq_zero_of_lt h0 h, Int.emod_eq_of_lt h0 h, dig_dl, dl_zero, List.reverse_replicate]
      exact ⟨Nat.succ_le_succ (Nat.zero_le k), congrArg (fun x => List.replicate k 0 ++ [x]) (num48 h0)⟩
    · cases k with
      | zero => exact absurd h1 h
      | succ k =>
        obtain ⟨i1, i2⟩ := decN_pad k (n / 10) (Int.ediv_nonneg h0 (by decide)) (by rw [Int.pow_succ] at h1; exact Int.ediv_lt_of_lt_mul (by decide) h1)
        rw [decN_step (Int.not_lt.mp h), dig, i2, List.length_append, List.length_singleton, List.map_append, ← List.append_assoc, Nat.add_sub_add_right]
        exact ⟨Nat.succ_le_succ i1, congrArg (fun x => _ ++ [x]) (num48 (Int.emod_nonneg n (by decide)))⟩
end
end Mine
end
section
open PySem PySem.W PyProof.Rows
namespace Mine

section
open PySem.NumText
/-! texts of base 64's signs -/
noncomputable def sgn (d : Int) : Nat := (b64c d).toNat
noncomputable def T64 (ds : List Int) : Str := decA (byteArr (ds.map b64c))
theorem sgn_all : ∀ k : Nat, k < 64 → (b64c (k : Int)).toNat.toUInt8.toNat = sgn k ∧ 43 ≤ sgn k ∧ sgn k ≤ 122 ∧ sgn k ≠ 95 ∧ sgn k ≠ 45 ∧ sgn k ≠ 59 ∧ (sgn k = 43 ↔ k = 62) ∧ ((48 ≤ sgn k ∧ sgn k ≤ 57) ↔ (52 ≤ k ∧ k ≤ 61)) ∧ (52 ≤ k → k ≤ 61 → sgn k + 4 = k) := by decide +kernel
theorem sgn_at {d : Int} (h0 : 0 ≤ d) (h1 : d < 64) : (b64c d).toNat.toUInt8.toNat = sgn d ∧ 43 ≤ sgn d ∧ sgn d ≤ 122 ∧ sgn d ≠ 95 ∧ sgn d ≠ 45 ∧ sgn d ≠ 59 ∧ (sgn d = 43 ↔ d = 62) ∧ ((48 ≤ sgn d ∧ sgn d ≤ 57) ↔ (52 ≤ d ∧ d ≤ 61)) ∧ (52 ≤ d → d ≤ 61 → (sgn d : Int) + 4 = d) := by
  obtain ⟨k, rfl⟩ := Int.eq_ofNat_of_zero_le h0
  obtain ⟨a1, a2, a3, a4, a5, a6, a7, a8, a9⟩ := sgn_all k (by (first | lia | omega))
  refine ⟨a1, a2, a3, a4, a5, a6, by rw [a7]; (first | lia | omega), by rw [a8]; (first | lia | omega), fun h2 h3 => ?_⟩
  have := a9 (by (first | lia | omega)) (by (first | lia | omega))
  (first | lia | omega)
theorem T64_cps {ds : List Int} (h : ∀ d ∈ ds, 0 ≤ d ∧ d < 64) : (T64 ds).cps.toList = ds.map sgn := by
  unfold T64 decA byteArr
  rw [Array.toList_map, List.map_map, List.map_map]
  refine List.map_congr_left fun d hd => ?_
  exact (sgn_at (h d hd).1 (h d hd).2).1
theorem T64_length (ds : List Int) : (T64 ds).length = ds.length := by
  show (T64 ds).cps.size = _
  unfold T64 decA byteArr
  simp
theorem step_odd {p : Array Nat × Bool} {c : Nat} (h1 : ¬ (48 ≤ c ∧ c ≤ 57)) (h2 : c ≠ 95) : step 10 p c = none := by
  unfold NumText.step
  rw [if_neg (by rw [beq_iff_eq]; exact h2)]
  unfold digit?
  rw [if_neg (by simp only [Bool.and_eq_true, decide_eq_true_eq]; exact h1)]
  by_cases h3 : (decide (97 ≤ c) && decide (c ≤ 122)) = true
  · rw [if_pos h3]
    simp only [Bool.and_eq_true, decide_eq_true_eq] at h3
    exact if_neg (by (first | lia | omega))
  · rw [if_neg h3]
    by_cases h4 : (decide (65 ≤ c) && decide (c ≤ 90)) = true
    · rw [if_pos h4]
      simp only [Bool.and_eq_true, decide_eq_true_eq] at h4
      exact if_neg (by (first | lia | omega))
    · rw [if_neg h4]
theorem foldl_odd : ∀ (cs : List Nat) (p : Array Nat × Bool), (∀ c ∈ cs, c ≠ 95) → (∃ c ∈ cs, ¬ (48 ≤ c ∧ c ≤ 57)) → cs.foldlM (step 10) p = none
  | [], _, _, ⟨c, hc, _⟩ => nomatch hc
  | c :: cs, (ds, b), h, ⟨x, hx, hx'⟩ => by
    rw [List.foldlM_cons]
    by_cases hc : 48 ≤ c ∧ c ≤ 57
    · rw [step_digit hc]
      refine foldl_odd cs _ (fun y hy => h y (List.mem_cons_of_mem _ hy)) ⟨x, ?_, hx'⟩
      rcases List.mem_cons.mp hx with rfl | hx
      · exact absurd hc hx'
      · exact hx
    · rw [step_odd hc (h c (List.mem_cons_self ..))]; rfl
/-- a text with a sign that is no figure is no number, if no sign of plus or minus opens it -/
theorem intText_odd {x : Str} {c₀ : Nat} {r : List Nat} (e : x.cps.toList = c₀ :: r) (h : ∀ c ∈ c₀ :: r, 33 ≤ c ∧ c < 128 ∧ c ≠ 95) (h0 : c₀ ≠ 45 ∧ c₀ ≠ 43) (hx : ∃ c ∈ c₀ :: r, ¬ (48 ≤ c ∧ c ≤ 57)) : PySem.intText? x = none := by
  have e1 : numTextOf x = x.cps.toList := by
    refine if_pos ?_
    rw [← Array.all_toList, e, List.all_eq_true]
    intro c hc
    exact decide_eq_true (h c hc).2.1
  have e2 : numSeenOf x = x.cps.toList := by
    show (numTextOf x).takeWhile _ = _
    rw [e1, e]
    refine takeWhile_all fun c hc => ?_
    have := h c hc
    exact bne_iff_ne.mpr (by (first | lia | omega))
  have hd : ∀ cs : List Nat, (∀ c ∈ cs, 33 ≤ c ∧ c < 128 ∧ c ≠ 95) → cs.dropWhile blank = cs := fun cs hcs => by
    cases cs with
    | nil => rfl
    | cons a cs => exact dropWhile_of (hcs a (List.mem_cons_self ..)).1
  have es : sign ((c₀ :: r).dropWhile blank) = (false, c₀ :: r) := by rw [hd _ h]; exact sign_of h0.1 h0.2
  have ec : core (c₀ :: r) = c₀ :: r := by
    unfold core
    rw [es]
    show ((c₀ :: r).reverse.dropWhile blank).reverse = _
    rw [hd _ fun c hc => h c (List.mem_reverse.mp hc), List.reverse_reverse]
  have en : digits? 10 (core (c₀ :: r)) = none := by
    rw [ec]
    unfold digits?
    rw [foldl_odd _ _ (fun c hc => (h c hc).2.2) hx]
    rfl
  unfold PySem.intText?
  rw [e2, e, en]
  exact ite_self _
theorem T64_odd {d₀ : Int} {r : List Int} (h : ∀ d ∈ d₀ :: r, 0 ≤ d ∧ d < 64) (h0 : d₀ ≠ 62) (hx : ∃ d ∈ d₀ :: r, ¬ (52 ≤ d ∧ d ≤ 61)) : PySem.intText? (T64 (d₀ :: r)) = none := by
  have h9 := sgn_at (h d₀ (List.mem_cons_self ..)).1 (h d₀ (List.mem_cons_self ..)).2
  refine intText_odd (c₀ := sgn d₀) (r := r.map sgn) (by rw [T64_cps h]; rfl) (fun c hc => ?_) ⟨h9.2.2.2.2.1, fun q => h0 (h9.2.2.2.2.2.2.1.mp q)⟩ ?_
  · obtain ⟨d, hd, rfl⟩ := List.mem_map.mp (show c ∈ (d₀ :: r).map sgn from hc)
    have := sgn_at (h d hd).1 (h d hd).2
    (first | lia | omega)
  · obtain ⟨d, hd, hd'⟩ := hx
    exact ⟨sgn d, List.mem_map_of_mem (f := sgn) hd, fun q => hd' ((sgn_at (h d hd).1 (h d hd).2).2.2.2.2.2.2.2.1.mp q)⟩
theorem digitsVal_val (l : List Int) : (∀ d ∈ l, 52 ≤ d ∧ d ≤ 61) → ((digitsVal (l.map sgn) : Nat) : Int) = val 10 (l.map (· - 52)) := by
  refine snoc_ind (P := fun l => (∀ d ∈ l, 52 ≤ d ∧ d ≤ 61) → ((digitsVal (l.map sgn) : Nat) : Int) = val 10 (l.map (· - 52))) (fun _ => rfl) ?_ l
  intro l x ih h
  have hx := h x (by simp)
  have := (sgn_at (d := x) (by (first | lia | omega)) (by (first | lia | omega))).2.2.2.2.2.2.2.2 hx.1 hx.2
  have ih' := ih fun d hd => h d (by simp [hd])
  rw [List.map_append, List.map_append, List.map_singleton, List.map_singleton, val_snoc, ← ih']
  unfold digitsVal
  rw [List.foldl_append, List.foldl_cons, List.foldl_nil]
  (first | lia | omega)
theorem T64_read {ds : List Int} (h : ∀ d ∈ ds, 52 ≤ d ∧ d ≤ 61) (hne : ds ≠ []) (hl : ds.length ≤ 640) : PySem.intText? (T64 ds) = some (val 10 (ds.map (· - 52))) := by
  have h64 : ∀ d ∈ ds, 0 ≤ d ∧ d < 64 := fun d hd => by have := h d hd; (first | lia | omega)
  have e := T64_cps h64
  rw [← digitsVal_val ds h, ← e]
  refine PySem.intText_digits ?_ ?_ (by rw [T64_length]; (first | lia | omega))
  · rw [e]
    intro c hc
    obtain ⟨d, hd, rfl⟩ := List.mem_map.mp hc
    have hd' := h d hd
    exact (sgn_at (by (first | lia | omega)) (by (first | lia | omega))).2.2.2.2.2.2.2.1.mpr hd'
  · rw [e]; intro q; exact hne (List.map_eq_nil_iff.mp q)
end
theorem foldl_app {α : Type} (l : List (Array α)) : ∀ acc : Array α, (l.foldl (· ++ ·) acc).toList = acc.toList ++ (l.map Array.toList).flatten := by
  induction l with
  | nil => intro acc; simp
  | cons x l ih => intro acc; rw [List.foldl_cons, ih]; simp
theorem b64v_fig {x : Int} (h0 : 0 ≤ x) (h1 : x < 10) : b64v (48 + x) = 52 + x := by
  unfold b64v
  rw [if_neg (by (first | lia | omega)), if_neg (by (first | lia | omega)), if_pos (by (first | lia | omega))]; (first | lia | omega)
theorem Wb_val (l : List Int) : Wb l = val 64 (l.map b64v) := by
  unfold Wb val
  rw [List.foldl_map]
theorem val_dig {B : Int} (hB : 0 < B) : ∀ (n : Nat) (v : Int), 0 ≤ v → v < B ^ n → val B (dig B n v) = v
  | 0, v, h0, h1 => by rw [Int.pow_zero] at h1; show (0 : Int) = v; (first | lia | omega)
  | n + 1, v, h0, h1 => by
    rw [dig, val_snoc, val_dig hB n (v / B) (Int.ediv_nonneg h0 (by (first | lia | omega))) (by rw [Int.pow_succ] at h1; exact Int.ediv_lt_of_lt_mul hB h1)]
    exact Int.ediv_mul_add_emod v B
theorem T64_signs {D : List Int} (hin : ∀ d ∈ D, 0 ≤ d ∧ d < 64) : ∀ d ∈ (T64 D).cps.toList, 43 ≤ d ∧ d ≤ 122 ∧ d ≠ 59 := by
  intro d hd
  rw [T64_cps hin] at hd
  obtain ⟨e, he, rfl⟩ := List.mem_map.mp hd
  have := sgn_at (hin e he).1 (hin e he).2
  (first | lia | omega)
theorem bytes64 {D : List Int} (hin : ∀ d ∈ D, 0 ≤ d ∧ d < 64) : ∀ c ∈ (byteArr (D.map b64c)).toList, c.toNat < 128 := by
  intro c hc
  unfold byteArr at hc
  rw [List.map_map] at hc
  obtain ⟨d, hd, rfl⟩ := List.mem_map.mp hc
  have := sgn_at (hin d hd).1 (hin d hd).2
  show (b64c d).toNat.toUInt8.toNat < 128
  (first | lia | omega)
end Mine
end
section
open PySem PySem.W PyProof.Rows
namespace Mine

/-! the numbers of the law -/
noncomputable def GR : Int := 52 * (64 ^ 20 / 63)
theorem GR_is : GR = G64 20 := by decide +kernel
/-- a number of at most ten figures, each at most two -/
noncomputable def Plainly (n : Int) : Prop := ∃ a : List Int, a.length = 10 ∧ (∀ x ∈ a, 0 ≤ x ∧ x ≤ 2) ∧ n = ev 10 a
noncomputable def text (n : Int) : Str := Txt.mul (Str.ofString "0") (20 - ((numS n).length : Int)) ++ numS n
noncomputable def polyT (n : Int) : Int := Vb (KBw.bInts (byteArr (dig 256 (3 * (text n).cps.size / 4) (Wb (cpsI (text n)))))) - GR
noncomputable def figs (V : Int) : Str := T64 (dig 64 20 V)
theorem mul_nought (k : Int) : (Txt.mul (Str.ofString "0") k).cps.toList = List.replicate k.toNat 48 := by
  have e0 : Str.ofString "0" = ⟨#[48]⟩ := by decide +kernel
  rw [e0]
  unfold Txt.mul
  by_cases h1 : k < 1
  · rw [if_pos h1, show k.toNat = 0 by omega]; rfl
  · rw [if_neg h1]
    by_cases h2 : (k == 1 || (⟨#[48]⟩ : Str).length == 0) = true
    · rw [if_pos h2]
      have : k = 1 := by
        rcases Bool.or_eq_true_iff.mp h2 with h | h
        · exact beq_iff_eq.mp h
        · exact absurd h (by decide)
      subst this
      rfl
    · rw [if_neg h2]
      show (List.foldl (· ++ ·) #[] (List.replicate k.toNat #[48])).toList = _
      rw [foldl_app, List.map_replicate]
      generalize k.toNat = n
      induction n with
      | zero => rfl
      | succ n ih => rw [List.replicate_succ, List.flatten_cons, List.replicate_succ]; simpa using ih
theorem text_cps {n : Int} (h0 : 0 ≤ n) (h1 : n < 10 ^ 20) : cpsI (text n) = (dig 10 20 n).map (48 + ·) := by
  obtain ⟨i1, i2⟩ := decN_pad 19 n h0 h1
  have hs := numS_cps h0
  have hl : ((numS n).length : Int) = (decN n).length := by rw [← hs, Array.length_toList]; rfl
  unfold cpsI text
  rw [Str.cps_append, Array.toList_append, mul_nought, hs, hl, i2, List.map_append, List.map_append, List.map_replicate, List.map_replicate, List.map_map]
  rw [show (20 - ((decN n).length : Int)).toNat = 19 + 1 - (decN n).length by omega]
  rw [show (Int.ofNat 48 : Int) = 48 + 0 from rfl]
  refine congrArg (List.replicate _ _ ++ ·) (List.map_congr_left fun c hc => ?_)
  have := decN_digits n c hc
  show (c : Int) = 48 + ((c : Int) - 48)
  omega
theorem text_size {n : Int} (h0 : 0 ≤ n) (h1 : n < 10 ^ 20) : (text n).cps.size = 20 := by
  rw [← cpsI_length, text_cps h0 h1, List.length_map, dig_length]
theorem text_b64 {n : Int} (h0 : 0 ≤ n) (h1 : n < 10 ^ 20) : B64Text (text n) := by
  have hc := text_cps h0 h1
  have hs := text_size h0 h1
  have hd : ∀ c ∈ cpsI (text n), 48 ≤ c ∧ c < 58 := by
    rw [hc]
    intro c hc
    obtain ⟨d, hd, rfl⟩ := List.mem_map.mp hc
    have := dig_in 10 (by decide) 20 n d hd
    show 48 ≤ 48 + d ∧ 48 + d < 58
    omega
  refine ⟨fun c hc => ?_, fun c hc => ?_, by rw [hs], by rw [hs]; decide⟩
  · have := hd (c : Int) (List.mem_map_of_mem (f := Int.ofNat) hc)
    omega
  · have h := hd c hc
    have e := b64v_fig (x := c - 48) (by omega) (by omega)
    rw [show 48 + (c - 48) = c by omega] at e
    omega
theorem Plainly.small {n : Int} (h : Plainly n) : 0 ≤ n ∧ n < 10 ^ 10 := by
  obtain ⟨a, ha, hx, rfl⟩ := h
  have := ev_bounds (B := 10) (M := 2) (by decide) a hx
  rw [ha] at this
  have e : (10 : Int) ^ 10 = 10000000000 := by decide
  rw [e] at *
  omega
theorem polyT_is {a : List Int} (ha : a.length = 10) (hx : ∀ x ∈ a, 0 ≤ x ∧ x ≤ 2) : polyT (ev 10 a) = ev 64 a := by
  obtain ⟨h0, h1⟩ := Plainly.small ⟨a, ha, hx, rfl⟩
  have h2 : ev 10 a < 10 ^ 20 := Int.lt_trans h1 (by decide)
  have hW : Wb (cpsI (text (ev 10 a))) = ev 64 a + GR := by
    rw [Wb_val, text_cps h0 h2, dig_dl, dl_ev (by decide) a 20 (fun x hx' => by have := hx x hx'; omega) (by omega), List.map_map]
    have e : ((a ++ List.replicate (20 - a.length) 0).reverse.map (b64v ∘ (48 + ·))) = ((a ++ List.replicate (20 - a.length) 0).map (52 + ·)).reverse := by
      rw [← List.map_reverse]
      refine List.map_congr_left fun x hx' => ?_
      have : 0 ≤ x ∧ x < 10 := by
        rcases List.mem_append.mp (List.mem_reverse.mp hx') with h | h
        · have := hx x h; omega
        · rw [(List.mem_replicate.mp h).2]; decide
      exact b64v_fig this.1 this.2
    rw [e, val_reverse, ev_52, ev_pad, GR_is]
    rw [List.length_append, List.length_replicate, ha]
  have hb := ev_bounds (B := 64) (M := 2) (by decide) a hx
  rw [ha] at hb
  have e1 : (64 : Int) ^ 10 = 1152921504606846976 := by decide
  have e2 : GR = 1097140567949454371285682018009173300 := by decide +kernel
  have e3 : (256 : Int) ^ 15 = 1329227995784915872903807060280344576 := by decide +kernel
  unfold polyT
  rw [text_size h0 h2, hW, KBa.ints_make (dig_in 256 (by decide) _ _), Vb_val, val_dig (by decide) _ _ (by omega) (by
    show _ < (256 : Int) ^ 15
    rw [e3]; omega)]
  omega
theorem prod_bounds {p q : Int} (hp0 : 0 ≤ p) (hp1 : p * 63 ≤ 2 * (64 ^ 10 - 1)) (hq0 : 0 ≤ q) (hq1 : q * 63 ≤ 2 * (64 ^ 10 - 1)) : 0 ≤ p * q ∧ p * q < 64 ^ 19 := by
  have e1 : (64 : Int) ^ 10 = 1152921504606846976 := by decide
  rw [e1] at *
  refine ⟨Int.mul_nonneg hp0 hq0, ?_⟩
  have h := Int.mul_le_mul (show p ≤ 36600682685931650 by omega) (show q ≤ 36600682685931650 by omega) hq0 (by decide)
  have e2 : (64 : Int) ^ 19 = 20769187434139310514121985316880384 := by decide +kernel
  rw [e2]; omega
/-- the plain law: what the reply's figures are read as -/
theorem law_plain {n m : Int} (hn : Plainly n) (hm : Plainly m) :
    (0 ≤ n * m ∧ n * m < 10 ^ 20) ∧ (0 ≤ polyT n * polyT m + GR ∧ polyT n * polyT m + GR < 256 ^ 15) ∧ polyT n * polyT m ≤ 64 ^ 19 ∧ 0 ≤ polyT n * polyT m ∧
    (wt (n * m) = wt n * wt m → PySem.intText? (figs (polyT n * polyT m + GR)) = some (n * m)) ∧ (wt (n * m) ≠ wt n * wt m → PySem.intText? (figs (polyT n * polyT m + GR)) = none) := by
  obtain ⟨hn0, hn1⟩ := hn.small
  obtain ⟨hm0, hm1⟩ := hm.small
  obtain ⟨a, ha, hax, rfl⟩ := hn
  obtain ⟨b, hb, hbx, rfl⟩ := hm
  rw [polyT_is ha hax, polyT_is hb hbx]
  have ba := ev_bounds (B := 64) (M := 2) (by decide) a hax
  have bb := ev_bounds (B := 64) (M := 2) (by decide) b hbx
  rw [ha] at ba
  rw [hb] at bb
  obtain ⟨p0, p1⟩ := prod_bounds ba.1 ba.2 bb.1 bb.2
  have e2 : GR = 1097140567949454371285682018009173300 := by decide +kernel
  have e3 : (256 : Int) ^ 15 = 1329227995784915872903807060280344576 := by decide +kernel
  have e4 : (64 : Int) ^ 19 = 20769187434139310514121985316880384 := by decide +kernel
  have hmul : 0 ≤ ev 10 a * ev 10 b ∧ ev 10 a * ev 10 b < 10 ^ 20 := by
    refine ⟨Int.mul_nonneg hn0 hm0, ?_⟩
    have h := Int.mul_le_mul (show ev 10 a ≤ 10 ^ 10 - 1 by omega) (show ev 10 b ≤ 10 ^ 10 - 1 by omega) hm0 (by decide)
    exact Int.lt_of_le_of_lt h (by decide)
  refine ⟨hmul, ⟨by omega, by rw [e3]; omega⟩, by omega, p0, ?_⟩
  have hC := mulL_le b hbx a hax
  rw [ha] at hC
  have hCl := mulL_length b hb a
  rw [ha] at hCl
  rw [← ev_mulL 10 a b, ← ev_mulL 64 a b, GR_is]
  have hsum : wt (ev 10 a) * wt (ev 10 b) = (mulL a b).sum := by
    have s1 : ∀ l : List Int, l.sum = ev 1 l := fun l => by
      induction l with
      | nil => rfl
      | cons x l ih => rw [List.sum_cons, ih, ev_cons, Int.one_mul]
    rw [(wt_plain a fun x hx => by have := hax x hx; omega).1, (wt_plain b fun x hx => by have := hbx x hx; omega).1, s1, s1, s1, ev_mulL]
  rw [hsum]
  by_cases h10 : ∃ c ∈ mulL a b, 10 ≤ c
  · have hw := (wt_carry (mulL a b) 0 (Int.le_refl _) fun x hx => (hC x hx).1).2 h10
    rw [Int.zero_add, Int.zero_add] at hw
    refine ⟨fun q => absurd q (by omega), fun _ => ?_⟩
    obtain ⟨d, hd, hd'⟩ := dl_odd (mulL a b) 20 (fun c hc => by have := hC c hc; omega) (by omega) h10
    have hin : ∀ d ∈ dig 64 20 (ev 64 (mulL a b) + G64 20), 0 ≤ d ∧ d < 64 := dig_in 64 (by decide) _ _
    have hlen := dig_length 64 20 (ev 64 (mulL a b) + G64 20)
    have hval := val_dig (B := 64) (by decide) 20 (ev 64 (mulL a b) + G64 20) (by rw [← GR_is, ev_mulL]; omega) (by
      rw [← GR_is, ev_mulL]
      have : (64 : Int) ^ 20 = 1329227995784915872903807060280344576 := by decide +kernel
      rw [this]; omega)
    have hd2 : d ∈ dig 64 20 (ev 64 (mulL a b) + G64 20) := by rw [dig_dl]; exact List.mem_reverse.mpr hd
    unfold figs
    generalize dig 64 20 (ev 64 (mulL a b) + G64 20) = D at *
    cases D with
    | nil => simp at hlen
    | cons d₀ r =>
      refine T64_odd hin ?_ ⟨d, hd2, hd'⟩
      intro q
      subst q
      have hr : 0 ≤ val 64 r := by
        have := ev_bounds (B := 64) (M := 63) (by decide) r.reverse fun x hx => by have := hin x (List.mem_cons_of_mem _ (List.mem_reverse.mp hx)); omega
        rw [← val_reverse, List.reverse_reverse] at this
        exact this.1
      have hcons : val 64 (62 :: r) = 62 * 64 ^ r.length + val 64 r := by
        have h1 := val_reverse 64 (r.reverse ++ [62])
        rw [ev_append, List.reverse_append, List.reverse_reverse] at h1
        have h2 := val_reverse 64 r.reverse
        rw [List.reverse_reverse] at h2
        rw [show val 64 (62 :: r) = val 64 ([62].reverse ++ r) from rfl, h1, List.length_reverse, ← h2, ev_cons, ev_nil]
        omega
      have hrl : r.length = 19 := by simpa using hlen
      rw [hrl, e4] at hcons
      rw [hcons, ev_mulL, ← GR_is] at hval
      omega
  · have h9 : ∀ c ∈ mulL a b, 0 ≤ c ∧ c ≤ 9 := fun c hc => ⟨(hC c hc).1, by
      by_cases h : 10 ≤ c
      · exact absurd ⟨c, hc, h⟩ h10
      · omega⟩
    have hw := (wt_plain _ h9).1
    refine ⟨fun _ => ?_, fun q => absurd hw q⟩
    unfold figs
    have e := dl_plain (mulL a b) 20 h9 (by omega)
    have hin : ∀ d ∈ dig 64 20 (ev 64 (mulL a b) + G64 20), 52 ≤ d ∧ d ≤ 61 := by
      rw [dig_dl, e]
      intro d hd
      obtain ⟨x, hx, rfl⟩ := List.mem_map.mp (List.mem_reverse.mp hd)
      have : 0 ≤ x ∧ x ≤ 9 := by
        rcases List.mem_append.mp hx with h | h
        · exact h9 x h
        · rw [(List.mem_replicate.mp h).2]; decide
      omega
    rw [T64_read hin (by intro q; have := congrArg List.length q; rw [dig_length] at this; cases this) (by rw [dig_length]; decide)]
    rw [dig_dl, e, List.map_reverse, val_reverse, List.map_map]
    have e5 : (mulL a b ++ List.replicate (20 - (mulL a b).length) 0).map ((· - 52) ∘ (52 + ·)) = mulL a b ++ List.replicate (20 - (mulL a b).length) 0 := by
      refine (List.map_congr_left fun x _ => ?_).trans (List.map_id _)
      show 52 + x - 52 = x
      omega
    rw [e5, ev_pad]
noncomputable def drawn0 (n : Int) : Int := ((List.range 10).map fun p => n / 3 ^ p % 3 * 10 ^ p).sum
theorem drawn0_plain (n : Int) : Plainly (drawn0 n) := by
  refine ⟨(List.range 10).map fun p => n / 3 ^ p % 3, by simp, fun x hx => ?_, ?_⟩
  · obtain ⟨p, _, rfl⟩ := List.mem_map.mp hx
    generalize n / 3 ^ p = y
    omega
  · have e : List.range 10 = [0, 1, 2, 3, 4, 5, 6, 7, 8, 9] := by decide
    unfold drawn0
    rw [e]
    simp only [List.map_cons, List.map_nil, List.sum_cons, List.sum_nil, ev_cons, ev_nil]
    generalize n / 3 ^ 0 % 3 = y0, n / 3 ^ 1 % 3 = y1, n / 3 ^ 2 % 3 = y2, n / 3 ^ 3 % 3 = y3, n / 3 ^ 4 % 3 = y4, n / 3 ^ 5 % 3 = y5, n / 3 ^ 6 % 3 = y6, n / 3 ^ 7 % 3 = y7, n / 3 ^ 8 % 3 = y8, n / 3 ^ 9 % 3 = y9
    omega
theorem wt_nonneg : ∀ n : Nat, 0 ≤ wt (n : Int) := fun n => by
  induction n using Nat.strongRecOn with
  | ind n ih =>
    by_cases h : n = 0
    · subst h; exact Int.le_of_eq wt_zero.symm
    · rw [wt_step (by omega)]
      have := ih (n / 10) (by omega)
      have e : ((n : Int) / 10) = ((n / 10 : Nat) : Int) := by omega
      rw [e]; omega
theorem Plainly.fits {n m : Int} (h : Plainly n) : IntMulOk n m ∧ IntMulOk (polyT n) (polyT m) ∧ IntMulOk (wt n) (wt m) := by
  obtain ⟨h0, h1⟩ := h.small
  have e1 : (10 : Int) ^ 10 = 10000000000 := by decide
  rw [e1] at h1
  refine ⟨.of_left (intBits_le_64 (by omega) (by omega)), .of_left ?_, .of_left ?_⟩
  · obtain ⟨a, ha, hx, rfl⟩ := h
    rw [polyT_is ha hx]
    have hb := ev_bounds (B := 64) (M := 2) (by decide) a hx
    rw [ha] at hb
    have e2 : (64 : Int) ^ 10 = 1152921504606846976 := by decide
    exact intBits_le_64 (by omega) (by omega)
  · obtain ⟨k, rfl⟩ := Int.eq_ofNat_of_zero_le h0
    have a1 := wt_nonneg k
    have a2 := wt_le k
    exact intBits_le_64 (by omega) (by omega)
end Mine
end
section
open PySem PySem.W PyProof.Rows
namespace Mine

section
variable {prog : Program} {w : World} {A : Around} {E : Value → Shared → Prop} {s : Shared} {Q : Value → Shared → Prop}
theorem item_txt {value slice : Expr} {l : Addr} {vs : List Value} {k : Int} {u : Tok} {x : Str} {tx : Tok} (hl : s.heap.IsList l vs.toArray) (hx : vs[k.toNat]? = some (.str x tx)) (h0 : 0 ≤ k) (hfit : k < 2 ^ 63)
    (h : Q (.str x tx) s) (hs : subscripted slice false (.ref l) (.int k u) = operate [.ref l, .int k u] (getItem (.ref l) (.int k u)) := by with_unfolding_all rfl) :
    wpAny (model prog w) A (subscriptTail value slice (.ref l) (.int k u)) Q E s :=
  tail_any hl.typeIs slot_list_getitem.lookup (wpAny_getItem_list hl h0 hfit (by simpa using hx) h) hs
noncomputable def Mark (c : Nat) : Prop := c = 124 ∨ c = 33 ∨ c = 59 ∨ c = 126
theorem item_mark {value slice : Expr} {k : Int} {t u : Tok} (h : ∀ y c, y = (⟨#[c]⟩ : Str) → y.length ≤ 16 → Mark c → ∀ t' tk, Q (.str y t') { s with toks := tk })
    (hs : subscripted slice false (.str (Str.ofString "|!;~") t) (.int (k.fmod 4) u) = operate [.str (Str.ofString "|!;~") t, .int (k.fmod 4) u] (getItem (.str (Str.ofString "|!;~") t) (.int (k.fmod 4) u)) := by with_unfolding_all rfl)
    (ht : ∀ r, letTemporaryGo value (.str (Str.ofString "|!;~") t) r = pure () := by intro _; with_unfolding_all rfl) :
    wpAny (model prog w) A (subscriptTail value slice (.str (Str.ofString "|!;~") t) (.int (k.fmod 4) u)) Q E s := by
  have hb : 0 ≤ k.fmod 4 ∧ k.fmod 4 < 4 := by rw [Int.fmod_eq_emod_of_nonneg _ (by decide)]; omega
  have hl : (Str.ofString "|!;~").length = 4 := by decide +kernel
  have hm : Mark ((Txt.charAt (Str.ofString "|!;~") (k.fmod 4)).getD 0) := by
    have : k.fmod 4 = 0 ∨ k.fmod 4 = 1 ∨ k.fmod 4 = 2 ∨ k.fmod 4 = 3 := by omega
    unfold Mark
    rcases this with e | e | e | e <;> rw [e] <;> decide +kernel
  refine item_str (fitsSsize_of (N := 9223372036854775808) (by omega) (by omega) (Int.le_refl _)) (by omega) (by omega) (fun _ => ?_) hs ht
  exact h _ _ rfl (show 1 ≤ 16 by decide) hm _ _
theorem join_5 {D : Addr} {x b c d : Str} {t ta tb tc td te : Tok} (hl : s.heap.IsList D #[.str (Str.ofString "") ta, .str b tb, .str c tc, .str d td, .str (Str.ofString "") te]) (hx : x.length ≤ 16)
    (hn : b.length + c.length + d.length ≤ 800) (h : ∀ y, y = Txt.join x [Str.ofString "", b, c, d, Str.ofString ""] → y.length ≤ 900 → ∀ t' k, Q (.str y t') { s with toks := k }) :
    wpAny (model prog w) A (call (.builtin "str.join") [.str x t, .ref D]) Q E s := by
  have e0 : (Str.ofString "").length = 0 := by decide +kernel
  refine join_listW hl (.cons _ ta (.cons b tb (.cons c tc (.cons d td (.cons _ te .nil))))) hx ?_ fun t' k => h _ rfl ?_ t' k
  · simp only [List.map_cons, List.map_nil, List.sum_cons, List.sum_nil, List.length_cons, List.length_nil]; omega
  · have := StrLaws.join_length_le x [Str.ofString "", b, c, d, Str.ofString ""]
    simp only [List.map_cons, List.map_nil, List.sum_cons, List.sum_nil, List.length_cons, List.length_nil] at this
    have e' : Txt.join x [Str.ofString "", b, c, d, Str.ofString ""] = Str.join x [Str.ofString "", b, c, d, Str.ofString ""] := StrLaws.glued_eq_join x _
    rw [e']
    omega
theorem eqv_triple (x : Str) (n : Int) : PyData.eqv (.tuple [.str x, .int n, .bool true]) (.tuple [.str x, .int n, .bool true]) = true := by
  simp [PyData.eqv, PyData.eqvAll]
theorem shaped_triple {x : Str} (hx : PyData.strOk x = true) (n : Int) : SeqAt.shaped (.tuple [.str x, .int n, .bool true]) = true := by
  simp [SeqAt.shaped, PyData.canLay0, PyData.canLayAll0, PyData.depth, PyData.depthAll, hx]
theorem ne_triple {a b : Addr} {x : Str} {n : Int} {t1 t2 t3 t4 : Tok} {k1 k2 : Nat} (ha : s.heap.get? a = some { cls := .type "tuple", data := .seq #[.str x t1, .int n t2, .bool true] k1 })
    (hb : s.heap.get? b = some { cls := .type "tuple", data := .seq #[.str x t3, .int n t4, .bool true] k2 }) (hx : PyData.strOk x = true) (hu : A.units + 64 < cLine) (h : Q (.bool false) s) :
    wpAny (model prog w) A (compareOp .NotEq (.ref a) (.ref b)) Q E s := by
  refine ne_dataH (da := .tuple [.str x, .int n, .bool true]) (db := .tuple [.str x, .int n, .bool true]) (reads_tuple_at ha rfl rfl (.cons (.str _ _) (.cons (.int _ _) (.cons (.bool _) .nil)))) (reads_tuple_at hb rfl rfl (.cons (.str _ _) (.cons (.int _ _) (.cons (.bool _) .nil)))) (shaped_triple hx n) (shaped_triple hx n) hu ?_
  rw [eqv_triple]
  exact h
end
end Mine
end
section
open PySem PySem.W PyProof.Rows
namespace Mine

section
theorem from_nat {n k : Nat} : fromIndex n (k : Int) = k := by unfold fromIndex; (first | lia | omega)
theorem at_mid {α : Type} {pre post : List α} {c : α} : (pre ++ c :: post)[pre.length]? = some c := by rw [List.getElem?_append_right (Nat.le_refl _), Nat.sub_self]; rfl
theorem find_at {X : Str} {pre post : List Nat} {c : Nat} (e : X.cps.toList = pre ++ c :: post) (h : c ∉ pre) : Txt.find X ⟨#[c]⟩ = pre.length := by
  unfold Txt.find
  have hat : X.cps.toList[pre.length]? = some c := by rw [e]; exact at_mid
  rcases StrLaws.occ_head X ⟨#[c]⟩ 1 (Nat.le_refl 1) with ⟨_, hn⟩ | ⟨k, r, h0, hk, hn⟩
  · exact absurd ((StrLaws.subAt_one X c pre.length).mpr hat) (hn _)
  · rw [h0]
    have hm := (StrLaws.subAt_one X c k).mp hk
    have h1 : ¬ k < pre.length := fun hlt => h (by rw [e, List.getElem?_append_left hlt] at hm; exact List.mem_of_getElem? hm)
    have h2 : ¬ pre.length < k := fun hlt => hn _ hlt ((StrLaws.subAt_one X c pre.length).mpr hat)
    exact congrArg (fun n : Nat => (n : Int)) (Nat.le_antisymm (Nat.le_of_not_lt h2) (Nat.le_of_not_lt h1))
theorem find3_at {X : Str} {pre mid post : List Nat} {c : Nat} {i : Int} (e : X.cps.toList = pre ++ (mid ++ c :: post)) (h : c ∉ mid) (hi : i = pre.length) : Txt.find3 X ⟨#[c]⟩ i = pre.length + mid.length := by
  unfold Txt.find3
  rw [hi, from_nat]
  have hat : X.cps.toList[pre.length + mid.length]? = some c := by rw [e, List.getElem?_append_right (Nat.le_add_right _ _), Nat.add_sub_cancel_left]; exact at_mid
  rcases StrLaws.occ_head_from X ⟨#[c]⟩ pre.length 1 (Nat.le_refl 1) with ⟨_, hn⟩ | ⟨k, r, h0, hlo, hk, hn⟩
  · exact absurd ((StrLaws.subAt_one X c _).mpr hat) (hn _ (Nat.le_add_right _ _))
  · rw [h0]
    have hm := (StrLaws.subAt_one X c k).mp hk
    have h1 : ¬ k < pre.length + mid.length := fun hlt => h (by rw [e, List.getElem?_append_right hlo, List.getElem?_append_left (Nat.sub_lt_left_of_lt_add hlo hlt)] at hm; exact List.mem_of_getElem? hm)
    have h2 : ¬ pre.length + mid.length < k := fun hlt => hn _ (Nat.le_add_right _ _) hlt ((StrLaws.subAt_one X c _).mpr hat)
    exact congrArg (fun n : Nat => (n : Int)) (Nat.le_antisymm (Nat.le_of_not_lt h2) (Nat.le_of_not_lt h1))
theorem item_at {X : Str} {i : Nat} {c : Nat} (h : X.cps.toList[i]? = some c) : Txt.item X (i : Int) = ⟨#[c]⟩ := by
  have hlt : i < X.length := by
    have := (List.getElem?_eq_some_iff.mp h).1
    rw [Array.length_toList] at this
    exact this
  unfold Txt.item Txt.charAt seqIndex?
  have e0 : (if ((i : Int)) < 0 then (i : Int) + (X.length : Nat) else (i : Int)) = i := if_neg (Int.not_lt.mpr (Int.natCast_nonneg _))
  rw [e0, if_pos (Bool.and_eq_true_iff.mpr ⟨decide_eq_true (Int.natCast_nonneg _), decide_eq_true (Int.ofNat_lt.mpr hlt)⟩)]
  have h' : X.cps[i]? = some c := by rw [← Array.getElem?_toList]; exact h
  simp [h']
noncomputable def cat (c : Nat) : List (List Nat) → List Nat
  | [] => []
  | [x] => x
  | x :: r => x ++ c :: cat c r
theorem join_cps (c : Nat) : ∀ l : List Str, (Str.join ⟨#[c]⟩ l).cps.toList = cat c (l.map fun x => x.cps.toList)
  | [] => rfl
  | [x] => rfl
  | x :: y :: r => by
    have ih := join_cps c (y :: r)
    show ((x ++ ⟨#[c]⟩ : Str) ++ Str.join ⟨#[c]⟩ (y :: r)).cps.toList = x.cps.toList ++ c :: cat c ((y :: r).map fun x => x.cps.toList)
    rw [← ih, Str.cps_append, Str.cps_append]
    simp
theorem cut_inj {c : Nat} {A B : List Nat} : ∀ {x y : List Nat}, c ∉ x → c ∉ y → x ++ c :: A = y ++ c :: B → x = y ∧ A = B
  | [], [], _, _, h => ⟨rfl, by simpa using h⟩
  | [], b :: y, _, hy, h => by
    injection h with h1 _
    exact absurd (h1 ▸ List.mem_cons_self ..) hy
  | a :: x, [], hx, _, h => by
    injection h with h1 _
    exact absurd (h1.symm ▸ List.mem_cons_self ..) hx
  | a :: x, b :: y, hx, hy, h => by
    injection h with h1 h2
    obtain ⟨e1, e2⟩ := cut_inj (fun q => hx (List.mem_cons_of_mem _ q)) (fun q => hy (List.mem_cons_of_mem _ q)) h2
    exact ⟨by rw [h1, e1], e2⟩
theorem cat_inj {c : Nat} : ∀ {l l' : List (List Nat)}, l ≠ [] → l' ≠ [] → (∀ x ∈ l, c ∉ x) → (∀ x ∈ l', c ∉ x) → cat c l = cat c l' → l = l'
  | [], _, h, _, _, _, _ => absurd rfl h
  | _, [], _, h, _, _, _ => absurd rfl h
  | [x], [y], _, _, _, _, h => by rw [show x = y from h]
  | [x], y :: z :: r, _, _, hx, _, h => by
    have h' : x = y ++ c :: cat c (z :: r) := h
    exact absurd (by rw [h']; simp) (hx x (List.mem_cons_self ..))
  | x :: z :: r, [y], _, _, _, hy, h => by
    have h' : x ++ c :: cat c (z :: r) = y := h
    exact absurd (by rw [← h']; simp) (hy y (List.mem_cons_self ..))
  | x :: z :: r, y :: z' :: r', _, _, hx, hy, h => by
    obtain ⟨e1, e2⟩ := cut_inj (hx x (List.mem_cons_self ..)) (hy y (List.mem_cons_self ..)) (show x ++ c :: cat c (z :: r) = y ++ c :: cat c (z' :: r') from h)
    have := cat_inj (l := z :: r) (l' := z' :: r') (by simp) (by simp) (fun q hq => hx q (List.mem_cons_of_mem _ hq)) (fun q hq => hy q (List.mem_cons_of_mem _ hq)) e2
    rw [e1, this]
theorem map_cps_inj : ∀ {l l' : List Str}, l.map (fun x => x.cps.toList) = l'.map (fun x => x.cps.toList) → l = l'
  | [], [], _ => rfl
  | [], _ :: _, h => by cases h
  | _ :: _, [], h => by cases h
  | x :: l, y :: l', h => by
    injection h with h1 h2
    rw [map_cps_inj h2, Str.ext' (Array.toList_inj.mp h1)]
theorem split_ne (x y : Str) : Txt.split x y ≠ [] := by
  unfold Txt.split
  split
  · simp
  · split
    · simp
    · rw [StrLaws.partsBetween_eq]
      obtain ⟨p, r, e⟩ := StrLaws.partsFrom_ne x y.length 0 (Builtin.Str.occurrences x y 0 x.length (x.length + 1))
      rw [e]; simp
theorem split_join {c : Nat} {l : List Str} (hne : l ≠ []) (h : ∀ x ∈ l, c ∉ x.cps.toList) : Txt.split (Str.join ⟨#[c]⟩ l) ⟨#[c]⟩ = l := by
  refine map_cps_inj (cat_inj (c := c) ?_ ?_ ?_ ?_ ?_)
  · intro q; exact split_ne _ _ (List.map_eq_nil_iff.mp q)
  · intro q; exact hne (List.map_eq_nil_iff.mp q)
  · intro x hx
    obtain ⟨p, hp, rfl⟩ := List.mem_map.mp hx
    exact StrLaws.split_free _ _ p hp
  · intro x hx
    obtain ⟨p, hp, rfl⟩ := List.mem_map.mp hx
    exact h p hp
  · rw [← join_cps, StrLaws.join_split, join_cps]
theorem last_at (a : List Nat) (c : Nat) : (a ++ [c])[(a ++ [c]).length - 1]? = some c := by simp
/-- what parse229 sees of a reply that is built of a mark and three texts -/
theorem reply_facts {c : Nat} {x1 x2 y X : Str} (hX : X = Str.ofString "229 (" ++ Txt.join ⟨#[c]⟩ [Str.ofString "", x1, x2, y, Str.ofString ""] ++ Str.ofString ")") (hc : c ≠ 41)
    (h1 : ∀ d ∈ x1.cps.toList, d ≠ c ∧ d ≠ 41) (h2 : ∀ d ∈ x2.cps.toList, d ≠ c ∧ d ≠ 41) (h3 : ∀ d ∈ y.cps.toList, d ≠ c ∧ d ≠ 41) :
    (Txt.slice X none (some 3) != Str.ofString "229") = false ∧ 0 ≤ Txt.find X (Str.ofString "(") ∧ Txt.find X (Str.ofString "(") + 1 < Txt.find3 X (Str.ofString ")") (Txt.find X (Str.ofString "(") + 1) ∧
    Txt.find3 X (Str.ofString ")") (Txt.find X (Str.ofString "(") + 1) < (X.length : Int) ∧
    (Txt.item X (Txt.find X (Str.ofString "(") + 1) != Txt.item X (Txt.find3 X (Str.ofString ")") (Txt.find X (Str.ofString "(") + 1) - 1)) = false ∧
    Txt.split (Txt.slice X (some (Txt.find X (Str.ofString "(") + 1)) (some (Txt.find3 X (Str.ofString ")") (Txt.find X (Str.ofString "(") + 1)))) (Txt.item X (Txt.find X (Str.ofString "(") + 1)) = [Str.ofString "", x1, x2, y, Str.ofString ""] := by
  have e1 : Str.ofString "229 (" = ⟨#[50, 50, 57, 32, 40]⟩ := by decide +kernel
  have e2 : Str.ofString ")" = ⟨#[41]⟩ := by decide +kernel
  have e3 : Str.ofString "(" = ⟨#[40]⟩ := by decide +kernel
  have e4 : Str.ofString "" = ⟨#[]⟩ := by decide +kernel
  have e5 : Str.ofString "229" = ⟨#[50, 50, 57]⟩ := by decide +kernel
  have ej : Txt.join ⟨#[c]⟩ [Str.ofString "", x1, x2, y, Str.ofString ""] = Str.join ⟨#[c]⟩ [Str.ofString "", x1, x2, y, Str.ofString ""] := StrLaws.glued_eq_join _ _
  have hin : (Str.join ⟨#[c]⟩ [Str.ofString "", x1, x2, y, Str.ofString ""]).cps.toList = c :: (x1.cps.toList ++ c :: (x2.cps.toList ++ c :: (y.cps.toList ++ [c]))) := by
    rw [join_cps, e4]; rfl
  rw [ej] at hX
  generalize hI : Str.join ⟨#[c]⟩ [Str.ofString "", x1, x2, y, Str.ofString ""] = I at *
  have hcps : X.cps.toList = [50, 50, 57, 32, 40] ++ (I.cps.toList ++ [41]) := by
    rw [hX, e1, e2, Str.cps_append, Str.cps_append]; simp
  have hIfree : 41 ∉ I.cps.toList := by
    rw [hin]
    simp only [List.mem_cons, List.mem_append, List.not_mem_nil, or_false]
    rintro (h | h | h | h | h | h | h)
    · exact hc h.symm
    · exact (h1 _ h).2 rfl
    · exact hc h.symm
    · exact (h2 _ h).2 rfl
    · exact hc h.symm
    · exact (h3 _ h).2 rfl
    · exact hc h.symm
  have hlen : X.length = 6 + I.cps.toList.length := by
    show X.cps.size = _
    rw [← Array.length_toList, hcps, List.length_append, List.length_append]
    simp only [List.length_cons, List.length_nil]; (first | lia | omega)
  have hIl : 4 ≤ I.cps.toList.length := by rw [hin]; simp; (first | lia | omega)
  have f1 : Txt.find X (Str.ofString "(") = 4 := by
    rw [e3]
    exact find_at (pre := [50, 50, 57, 32]) (post := I.cps.toList ++ [41]) (by rw [hcps]; rfl) (by decide)
  have f2 : Txt.find3 X (Str.ofString ")") (4 + 1) = 5 + (I.cps.toList.length : Int) := by
    rw [e2]
    exact find3_at (pre := [50, 50, 57, 32, 40]) (mid := I.cps.toList) (post := []) hcps hIfree rfl
  have i1 : Txt.item X (4 + 1) = ⟨#[c]⟩ := by
    refine item_at (i := 5) ?_
    rw [hcps, hin]; rfl
  have i2 : Txt.item X (5 + (I.cps.toList.length : Int) - 1) = ⟨#[c]⟩ := by
    have e : (5 + (I.cps.toList.length : Int) - 1) = ((5 + (I.cps.toList.length - 1) : Nat) : Int) := by (first | lia | omega)
    rw [e]
    refine item_at ?_
    have e' : I.cps.toList = (c :: (x1.cps.toList ++ c :: (x2.cps.toList ++ c :: y.cps.toList))) ++ [c] := by rw [hin]; simp
    rw [hcps]
    generalize I.cps.toList = IL at *
    rw [List.getElem?_append_right (by show 5 ≤ _; (first | lia | omega)), show 5 + (IL.length - 1) - [50, 50, 57, 32, 40].length = IL.length - 1 from Nat.add_sub_cancel_left .., List.getElem?_append_left (by (first | lia | omega)), e']
    exact last_at _ _
  have s1 : Txt.slice X (some (4 + 1)) (some (5 + (I.cps.toList.length : Int))) = I := by
    refine (eq_of_beq (slice_closesL (by decide) (by (first | lia | omega)) (by rw [hlen]; (first | lia | omega)))).trans ?_
    refine Str.ext' (Array.toList_inj.mp ?_)
    show (X.cps.toList.drop 5).take _ = _
    rw [hcps]
    have e6 : (5 + (I.cps.toList.length : Int) - (4 + 1)).toNat = I.cps.toList.length := by (first | lia | omega)
    rw [e6]
    show (I.cps.toList ++ [41]).take _ = _
    simp
  have s0 : Txt.slice X none (some 3) = Str.ofString "229" := by
    refine (eq_of_beq (slice_closes_toL (by decide) (by rw [hlen]; (first | lia | omega)))).trans ?_
    rw [e5]
    refine Str.ext' (Array.toList_inj.mp ?_)
    show (X.cps.toList.drop 0).take 3 = _
    rw [hcps]; rfl
  rw [f1, f2, i1, i2, s1, s0]
  refine ⟨by simp, by decide, by (first | lia | omega), by rw [hlen]; (first | lia | omega), by simp, ?_⟩
  rw [← hI]
  refine split_join (by simp) fun x hx => ?_
  simp only [List.mem_cons, List.not_mem_nil, or_false] at hx
  rcases hx with rfl | rfl | rfl | rfl | rfl
  · rw [e4]; simp
  · exact fun q => (h1 _ q).1 rfl
  · exact fun q => (h2 _ q).1 rfl
  · exact fun q => (h3 _ q).1 rfl
  · rw [e4]; simp
end
end Mine
end
section
open PySem PySem.W PyProof.Rows
namespace Mine

theorem text_signs {n : Int} (h0 : 0 ≤ n) (h1 : n < 10 ^ 20) : ∀ d ∈ (text n).cps.toList, 48 ≤ d ∧ d ≤ 57 := by
  intro d hd
  have h : (d : Int) ∈ cpsI (text n) := List.mem_map_of_mem (f := Int.ofNat) hd
  rw [text_cps h0 h1] at h
  obtain ⟨e, he, q⟩ := List.mem_map.mp h
  have := dig_in 10 (by decide) 20 n e he
  omega
theorem figs_signs (V : Int) : ∀ d ∈ (figs V).cps.toList, 43 ≤ d ∧ d ≤ 122 ∧ d ≠ 59 := T64_signs (dig_in 64 (by decide) 20 V)
theorem figs_repr (V : Int) : (reprText (figs V)).length ≤ 3000 := by
  refine Nat.le_trans (StrLaws.reprText_len _ fun c hc => ?_) ?_
  · have := figs_signs V c hc
    exact Nat.lt_of_le_of_lt this.2.1 (by decide)
  · have : (figs V).length = 20 := by unfold figs; rw [T64_length, dig_length]
    omega
theorem law_reply {n m V : Int} {c : Nat} {x1 x2 y : Str} (hn : Plainly n) (hm : Plainly m) (hc : Mark c) (hx1 : x1 = text n) (hx2 : x2 = text m) (hy : y = figs V) {X : Str}
    (hX : X = Str.ofString "229 (" ++ Txt.join ⟨#[c]⟩ [Str.ofString "", x1, x2, y, Str.ofString ""] ++ Str.ofString ")") (hl : (Txt.join ⟨#[c]⟩ [Str.ofString "", x1, x2, y, Str.ofString ""]).length ≤ 900) :
    X.length ≤ 1000 ∧ (Txt.slice X none (some 3) != Str.ofString "229") = false ∧ 0 ≤ Txt.find X (Str.ofString "(") ∧ Txt.find X (Str.ofString "(") + 1 < Txt.find3 X (Str.ofString ")") (Txt.find X (Str.ofString "(") + 1) ∧
    Txt.find3 X (Str.ofString ")") (Txt.find X (Str.ofString "(") + 1) < (X.length : Int) ∧
    (Txt.item X (Txt.find X (Str.ofString "(") + 1) != Txt.item X (Txt.find3 X (Str.ofString ")") (Txt.find X (Str.ofString "(") + 1) - 1)) = false ∧
    Txt.split (Txt.slice X (some (Txt.find X (Str.ofString "(") + 1)) (some (Txt.find3 X (Str.ofString ")") (Txt.find X (Str.ofString "(") + 1)))) (Txt.item X (Txt.find X (Str.ofString "(") + 1)) = [Str.ofString "", x1, x2, y, Str.ofString ""] := by
  refine ⟨?_, reply_facts hX ?_ ?_ ?_ ?_⟩
  · rw [hX, PySem.strLen_append, PySem.strLen_append]
    have e1 : (Str.ofString "229 (").length = 5 := by decide +kernel
    have e2 : (Str.ofString ")").length = 1 := by decide +kernel
    omega
  · unfold Mark at hc; omega
  · intro d hd
    have := text_signs hn.small.1 (Int.lt_trans hn.small.2 (by decide)) d (hx1 ▸ hd)
    unfold Mark at hc; omega
  · intro d hd
    have := text_signs hm.small.1 (Int.lt_trans hm.small.2 (by decide)) d (hx2 ▸ hd)
    unfold Mark at hc; omega
  · intro d hd
    have := figs_signs V d (hy ▸ hd)
    unfold Mark at hc; omega
end Mine
end
section
open PySem PySem.W PyProof.Rows
namespace Mine

theorem oct_size (v : Int) : (byteArr (dig 256 15 v)).size = 15 := by rw [byteArr_size, dig_length]
theorem figs_is {V : Int} (h0 : 0 ≤ V) (h1 : V < 256 ^ 15) : byteArr ((dig 64 (4 * (byteArr (dig 256 15 V)).size / 3) (Vb (KBw.bInts (byteArr (dig 256 15 V))))).map b64c) = byteArr ((dig 64 20 V).map b64c) := by
  rw [oct_size, KBa.ints_make (dig_in 256 (by decide) _ _), Vb_val, val_dig (by decide) _ _ h0 h1]
theorem dec_figs {prog : Program} {w : World} {A : Around} {E Q : Value → Shared → Prop} {s : Shared} {V : Int} {t t2 : Tok} (h0 : 0 ≤ V) (h1 : V < 256 ^ 15)
    (h : ∀ y, y = figs V → y.length = 20 → ∀ t' k, Q (.str y t') { s with toks := k }) :
    wpAny (model prog w) A (call (.builtin "bytes.decode") [.bytes (byteArr ((dig 64 (4 * (byteArr (dig 256 15 V)).size / 3) (Vb (KBw.bInts (byteArr (dig 256 15 V))))).map b64c)) t, .str (PySem.Str.ofString "ascii") t2]) Q E s := by
  rw [figs_is h0 h1]
  have hin : ∀ d ∈ dig 64 20 V, 0 ≤ d ∧ d < 64 := dig_in 64 (by decide) _ _
  have hs : (byteArr ((dig 64 20 V).map b64c)).size = 20 := by rw [byteArr_size, List.length_map, dig_length]
  refine dec_call ?_ (by rw [hs, PySem.sizeLine_eq]; decide) (by rw [hs]; decide) fun t' k => h _ rfl (by unfold figs; rw [T64_length, dig_length]) t' k
  exact bytes64 hin
theorem numS_len {k : Int} (h0 : 0 ≤ k) (h1 : k < 10 ^ 20) : (numS k).length ≤ 20 := by
  have hl := decN_len h1
  have hc := numS_cps h0
  have hsz : (numS k).cps.size = (decN k).length := by rw [← hc]; simp
  show (numS k).cps.size ≤ 20
  omega
theorem str_num {prog : Program} {w : World} {A : Around} {E : Value → Shared → Prop} {s : Shared} {Q : Value → Shared → Prop} {k : Int} {u : Tok} (h0 : 0 ≤ k) (h1 : k < 10 ^ 20)
    (h : ∀ x, x = numS k → x.length ≤ 20 → ∀ t tk, Q (.str x t) { s with toks := tk }) : wpAny (model prog w) A (call (.type "str") [.int k u]) Q E s :=
  P.str_of_int (shown (N := 2 ^ 1920) (by omega) (by have : (10 : Int) ^ 20 < 2 ^ 1920 := by decide +kernel
                                                     omega) (by decide +kernel)) (h _ rfl (numS_len h0 h1) _ _)
local macro_rules | `(tactic| mul_fits) => `(tactic| with_reducible assumption)
theorem law_walk : PySem.Challenge.rw_pa0029_01.Holds := by
  k_with_none
  (k_with "eval ListComp" => (k_here; k_dflt (refine ListComp_V (by k_asm) (by with_unfolding_all rfl) (by decide) (by rfl) (by decide) (by rfl) ?_)))
  (k_with "exec Assign cons ListComp" => walk_at "exec Assign")
  (k_with "subscriptTail Name Name ref int" => (k_here; (with_reducible show wpAny _ _ (subscriptTail _ _ (Value.ref _) (Value.int _ _)) _ _ _); k_dflt (refine item_txt (by is_list) (by assumption) (by l_idx) (by l_idx) ?_ (by with_unfolding_all rfl))))
  (k_with "subscriptTail" => ((with_reducible show wpAny _ _ (subscriptTail _ _ (Value.str (Str.ofString "|!;~") _) (Value.int (Int.fmod _ 4) _)) _ _ _); k_dflt (refine item_mark ?_); intro _ _ _ _ _ _ _))
  (k_with "call builtin:str.join" => ((with_reducible show wpAny _ _ (call (Value.builtin "str.join") [Value.str _ _, Value.ref _]) _ _ _); k_dflt (refine join_5 (by is_list) (by first | assumption | decide | decide +kernel) (by first | omega | decide) ?_); intro _ _ _ _ _))
  (k_with "compareOp NotEq ref ref" => (k_here; (with_reducible show wpAny _ _ (compareOp CmpOp.NotEq (Value.ref _) (Value.ref _)) _ _ _); k_dflt (refine ne_triple (by exact News.get (by k_asm) (by k_mem)) (by exact News.get (by k_asm) (by k_mem)) (by assumption) (by exact Nat.le_of_ble_eq_true rfl) ?_)))
  (k_with "call ref" => (k_here; (with_reducible show wpAny _ _ (call (Value.ref 163) _ _) _ _ _); k_dflt (refine use_ctr (drawn_ctr _ _ _ _ _ _ _) (by k_asm) (by k_asm) (by k_asm) (by k_asm) (by k_asm) (by first | exact rfl | assumption) (by exact Nat.le_of_ble_eq_true rfl) (by exact Nat.le_of_ble_eq_true rfl) ?_); intro t9 h9 tk9 F9 N9; (try dsimp only); (try k_fold)))
  (k_with "call ref" => (k_here; (with_reducible show wpAny _ _ (call (Value.ref 168) _ _) _ _ _); k_dflt (refine use_ctr (wt_ctr _ _ _ _ _ _ _ (by assumption) (by assumption)) (by k_asm) (by k_asm) (by k_asm) (by k_asm) (by k_asm) (by first | exact rfl | assumption) (by exact Nat.le_of_ble_eq_true rfl) (by exact Nat.le_of_ble_eq_true rfl) ?_); intro t9 h9 tk9 F9 N9; (try dsimp only); (try k_fold)))
  (k_with "call ref" => (k_here; (with_reducible show wpAny _ _ (call (Value.ref 146) _ _) _ _ _); k_dflt (refine use_ctr (dec_ctr _ _ _ _ _ _ _ (by assumption)) (by k_asm) (by k_asm) (by k_asm) (by k_asm) (by k_asm) (by first | exact rfl | assumption) (by exact Nat.le_of_ble_eq_true rfl) (by exact Nat.le_of_ble_eq_true rfl) ?_); intro t9 h9 tk9 F9 N9; (try dsimp only); (try k_fold)))
  (k_with "call ref" => (k_here; (with_reducible show wpAny _ _ (call (Value.ref 153) _ _) _ _ _); k_dflt (refine use_ctr (val_ctr _ _ _ _ _ _ _) (by k_asm) (by k_asm) (by k_asm) (by k_asm) (by k_asm) (by first | exact rfl | assumption) (by exact Nat.le_of_ble_eq_true rfl) (by exact Nat.le_of_ble_eq_true rfl) ?_); intro t9 h9 tk9 F9 N9; (try dsimp only); (try k_fold)))
  (k_with "call ref" => (k_here; (with_reducible show wpAny _ _ (call (Value.ref 158) _ _) _ _ _); k_dflt (refine use_ctr (oct_ctr _ _ _ _ _ _ _ (by assumption) (by assumption)) (by k_asm) (by k_asm) (by k_asm) (by k_asm) (by k_asm) (by first | exact rfl | assumption) (by exact Nat.le_of_ble_eq_true rfl) (by exact Nat.le_of_ble_eq_true rfl) ?_); intro t9 h9 tk9 F9 N9; (try dsimp only); (try k_fold)))
  (k_with "call ref" => (k_here; (with_reducible show wpAny _ _ (call (Value.ref 138) _ _) _ _ _); k_dflt (refine use_ctr (enc_ctr _ _ _ _ _ _ _ (by rw [oct_size]; decide) (by rw [oct_size])) (by k_asm) (by k_asm) (by k_asm) (by k_asm) (by k_asm) (by first | exact rfl | assumption) (by exact Nat.le_of_ble_eq_true rfl) (by exact Nat.le_of_ble_eq_true rfl) ?_); intro t9 h9 tk9 F9 N9; (try dsimp only); (try k_fold)))
  (k_with "call builtin:bytes.decode" => (refine dec_figs (by assumption) (by assumption) ?_; intro y9 hy9 hyl9 t9 tk9))
  (k_with "call type:str" => (refine str_num (by assumption) (by assumption) ?_; intro x9 hx9 hl9 t9 tk9))
  refine Mine.hd ?_
  k_fill
  intro w s₀ s₁ mg mb G Y fa o pm cd doc dV kV ho hd hcd hD hmg hg args vals as hpre hlay hrd hwl hlo
  have KX := kIn_of Y
  refine Ground.open G ?_
  intro T B D TE TW
  wrow_args hpre hlay hrd hwl hlo
  rename_i ks e1 e2 e3 e4 e5 x4 x3 sa vs x0 hLs hra hw1 hr0 hI hr1 hlen htr
  have hmg' : mg (Str.ofString "law") = some (.ref fa) := hmg
  clear hmg ho hd hcd hD B D TE TW G Y e1 e2 e3 e4 e5 hra hr1 htr
  have h180 : fa = 180 := by
    have e := mg_of (n := Str.ofString "law") (v := .ref 180) KX T.g (by k_is)
    rw [hmg'] at e
    exact Value.ref.inj (Option.some.inj e)
  subst h180
  refine wpC_call ?_
  k_dflt (refine' enterLaw (binds := [(Str.ofString "script", .ref sa)]) ?k3 ?k5 ?k6 ?k7 ?k9 ?kB ?kD ?_ ?c2 ?c3 ?c4; (case k3 => k_asm); (case k5 => k_asm); (case k6 => k_is); (case k7 => k_is); (case k9 => (refine' kp_binds ?kx ?ke; (case kx => k_in); (case ke => (intro S; kernel_rfl)))); (case kB => exact rfl); (case kD => decide +kernel); (case c2 => exact rfl); (case c3 => exact rfl); (case c4 => exact rfl); k_whole; intro L' h' tk' cells' F' N' Y' B'; k_cells Y'; (try simp only [List.cons_append, List.nil_append] at N'); (try dsimp only); (try k_fold))
  refine wpC_fold ?_
  intro qc ec
  refine wpC_execs_at 1 ?_
  dsimp only [List.take, List.drop]
  try k_fold
  k_steps
  rename IntsAre _ (List.take 3 ks) => hI3
  rename (List.take 3 ks).length = _ => hC3
  have hlen3 : (List.take 3 ks).length ≤ 3 := by rw [List.length_take]; omega
  have hsz3 := hI3.length
  refine srcV_list rfl (by k_asm) (by k_asm) (.inr ⟨_, List.mem_cons_self .., rfl, _, rfl⟩) (by rw [sizeLine_eq, List.size_toArray]; omega) fun g => ?_
  refine compRest_map (n := (List.take 3 ks).length) (fun i y => ∃ t, y = .int (drawn ((ks.take 3).getD i 0)) t) (.inr ⟨_, List.mem_cons_self .., rfl, _, rfl⟩) ?body _ 0 [] (by rw [List.size_toArray]; omega) ?fin
  case body =>
    intro i x I oI C oC D ys m₂ h tk E' hi hP hC hx F2 N2 off ne
    obtain ⟨k, u, rfl, hk⟩ := hI3.at i _ (by simpa using hP)
    try k_fold
    k_steps
    refine ElEnd.intro (by k_asm) (by k_asm) ⟨_, congrArg (Value.int · _) ?_⟩
    rw [List.getD_eq_getElem?_getD, hk]
    rfl
  case fin =>
    intro zs hz hj
    dsimp only [List.nil_append]
    intro D h tk F2 N2 off
    rw [List.size_toArray, hsz3] at hz
    have hIz : IntsAre zs ((ks.take 3).map drawn) := ints_map hz hj
    have hzl := hIz.length
    try k_fold
    k_steps
    rename IntsAre _ ([102, 2112, 11] ++ _) => hIn
    obtain ⟨nums, hnums⟩ : ∃ nums, nums = [102, 2112, 11] ++ (ks.take 3).map drawn := ⟨_, rfl⟩
    rw [← hnums] at hIn
    have hnl : nums.length ≤ 6 := by rw [hnums]; simp; omega
    have hgood : ∀ n ∈ nums, Plainly n := by
      rw [hnums]
      intro n hn
      rcases List.mem_append.mp hn with hn | hn
      · simp only [List.mem_cons, List.not_mem_nil, or_false] at hn
        rcases hn with rfl | rfl | rfl
        · exact ⟨[2, 0, 1, 0, 0, 0, 0, 0, 0, 0], by decide, by decide, by decide⟩
        · exact ⟨[2, 1, 1, 2, 0, 0, 0, 0, 0, 0], by decide, by decide, by decide⟩
        · exact ⟨[1, 1, 0, 0, 0, 0, 0, 0, 0, 0], by decide, by decide, by decide⟩
      · obtain ⟨k, _, rfl⟩ := List.mem_map.mp hn
        exact drawn0_plain k
    have hszn := hIn.length
    try dsimp only
    refine wpC_execs_cons (wpC_of ?_)
    refine Assign_LC (L := L') (F₀ := by k_asm) rfl (by with_unfolding_all rfl) (by with_unfolding_all rfl) (by decide) (by rfl) (by decide) (by rfl) (by rfl) (by rfl) ?_
    k_steps
    unfold Hid
    refine .inl ⟨_, _, _, rfl, rfl, by k_asm, by k_asm, .inr ⟨_, List.mem_cons_self .., rfl, _, rfl⟩, (by rw [sizeLine_eq, List.size_toArray]; omega), fun s₂ hg => ?_⟩
    obtain ⟨g, rfl⟩ := hg
    refine compRest_map (n := nums.length) (fun i y => ∃ t, y = .str (text (nums.getD i 0)) t) (.inr ⟨_, List.mem_cons_self .., rfl, _, rfl⟩) ?body2 _ 0 [] (by rw [List.size_toArray]; omega) ?fin2
    case body2 =>
      intro i x I oI C oC D ys m₂ h tk E' hi hP hC hx F2 N2 off ne
      obtain ⟨k, u, rfl, hk⟩ := hIn.at i _ (by simpa using hP)
      have hg := hgood k (List.mem_of_getElem? hk)
      obtain ⟨hk0, hk1⟩ : 0 ≤ k ∧ k < 10 ^ 20 := ⟨hg.small.1, Int.lt_trans hg.small.2 (by decide)⟩
      try k_fold
      k_steps
      refine ElEnd.intro (by k_asm) (by k_asm) ⟨_, congrArg (Value.str · _) ?_⟩
      subst_vars
      rw [List.getD_eq_getElem?_getD, hk]
      rfl
    case fin2 =>
      intro txs hz2 hj2
      dsimp only [List.nil_append]
      intro D2 h2 tk2 F3 N3 off2
      rw [List.size_toArray, hszn] at hz2
      try dsimp only
      refine wpC_execs_cons (wpC_of ?_)
      refine Assign_LC (L := L') (F₀ := by k_asm) rfl (by with_unfolding_all rfl) (by with_unfolding_all rfl) (by decide) (by rfl) (by decide) (by rfl) (by rfl) (by rfl) ?_
      k_steps
      unfold Hid
      refine .inl ⟨_, _, _, rfl, rfl, by k_asm, by k_asm, .inr ⟨_, List.mem_cons_of_mem _ (List.mem_cons_self ..), rfl, _, rfl⟩, (by rw [sizeLine_eq, List.size_toArray]; omega), fun s₂ hg => ?_⟩
      obtain ⟨g3, rfl⟩ := hg
      refine compRest_map (n := nums.length) (fun i y => ∃ t, y = .int (wt (nums.getD i 0)) t) (.inr ⟨_, List.mem_cons_of_mem _ (List.mem_cons_self ..), rfl, _, rfl⟩) ?body3 _ 0 [] (by rw [List.size_toArray]; omega) ?fin3
      case body3 =>
        intro i x I oI C oC D ys m₂ h tk E' hi hP hC hx F2 N2 off ne
        obtain ⟨k, u, rfl, hk⟩ := hIn.at i _ (by simpa using hP)
        have hg := hgood k (List.mem_of_getElem? hk)
        obtain ⟨hk0, hk1⟩ : 0 ≤ k ∧ k < 10 ^ 20 := ⟨hg.small.1, Int.lt_trans hg.small.2 (by decide)⟩
        try k_fold
        k_steps
        refine ElEnd.intro (by k_asm) (by k_asm) ⟨_, congrArg (Value.int · _) ?_⟩
        rw [List.getD_eq_getElem?_getD, hk]
        rfl
      case fin3 =>
        intro wts hz3 hj3
        dsimp only [List.nil_append]
        intro D3 h3 tk3 F4 N4 off3
        rw [List.size_toArray, hszn] at hz3
        have hIw : IntsAre wts (nums.map wt) := ints_map hz3 hj3
        try dsimp only
        have n1 : (@Ne Nat (L' + 1) D) := off.2.2.1
        have n2 : (@Ne Nat (L' + 1) D2) := off2.2.2.2.2.1
        have n3 : (@Ne Nat (L' + 1) D3) := off3.2.2.2.2.2.1
        refine wpC_execs_at 1 ?_
        dsimp only [List.take, List.drop]
        try k_fold
        k_steps
        rename _ = Data.cell (some _) => dG
        have hGR : 52 * (64 ^ Int.toNat 20 : Int).fdiv 63 = GR := by decide +kernel
        rw [hGR] at dG
        try dsimp only
        refine wpC_execs_cons (wpC_of ?_)
        refine Assign_LC (L := L') (F₀ := by k_asm) rfl (by with_unfolding_all rfl) (by with_unfolding_all rfl) (by decide) (by rfl) (by decide) (by rfl) (by rfl) (by rfl) ?_
        k_steps
        unfold Hid
        refine .inl ⟨_, _, _, rfl, rfl, by k_asm, by k_asm, .inr ⟨_, List.mem_cons_of_mem _ (List.mem_cons_self ..), rfl, _, rfl⟩, (by rw [sizeLine_eq, List.size_toArray]; omega), fun s₂ hg => ?_⟩
        obtain ⟨g4, rfl⟩ := hg
        refine compRest_map (n := nums.length) (fun i y => ∃ t, y = .int (polyT (nums.getD i 0)) t) (.inr ⟨_, List.mem_cons_of_mem _ (List.mem_cons_self ..), rfl, _, rfl⟩) ?body4 _ 0 [] (by rw [List.size_toArray]; omega) ?fin4
        case body4 =>
          intro i x I oI C oC D ys m₂ h tk E' hi hP hC hx F2 N2 off ne
          obtain ⟨u, rfl⟩ := hj2 i x (by simpa using hP)
          rw [Nat.zero_add] at hP hx
          obtain ⟨k, hk⟩ : ∃ k, nums[i]? = some k := ⟨_, List.getElem?_eq_getElem hi⟩
          have hg := hgood k (List.mem_of_getElem? hk)
          have hB : B64Text (text (nums.getD i 0)) := by
            rw [List.getD_eq_getElem?_getD, hk]
            exact text_b64 hg.small.1 (Int.lt_trans hg.small.2 (by decide))
          try k_fold
          k_steps
          exact ElEnd.intro (by k_asm) (by k_asm) ⟨_, rfl⟩
        case fin4 =>
          intro vls hz4 hj4
          dsimp only [List.nil_append]
          intro D4 h4 tk4 F5 N5 off4
          rw [List.size_toArray, hz2] at hz4
          have hIv : IntsAre vls (nums.map polyT) := ints_map hz4 hj4
          try dsimp only
          refine wpC_execs_cons (wpC_For ?_ (fun _ => rfl))
          try k_fold
          k_steps
          rename IsRange _ _ _ _ _ _ _ _ => hR
          rename News s₁.heap L' _ _ => nE
          rename Fr s₁.heap L' _ _ => fE
          refine forRangeC (n := nums.length) [Str.ofString "second", Str.ofString "product", Str.ofString "mark", Str.ofString "written", Str.ofString "inside", Str.ofString "plain", Str.ofString "due"] rfl hR rfl (by omega) rfl rfl fE nE ?turn1 ?done1
          case done1 =>
            intro u h tk F6 N6
            try dsimp only
            refine wpC_of ?_
            try k_fold
            k_steps
            try dsimp only
            refine GoodW.toG (goodW_bool F6 hg (fun _ => rfl) ?_ rfl)
            first | rfl | wrow_post
          case turn1 =>
            intro i ti u h tk I oI hi hneI F6 N6
            dsimp only at F6 N6 ⊢
            refine wpC_execs_cons (wpC_For ?_ (fun _ => rfl))
            try k_fold
            k_steps
            rename IsRange _ _ 0 ((i : Int) + 1) _ _ _ _ => hR2
            rename News s₁.heap L' _ _ => nE2
            rename Fr s₁.heap L' _ _ => fE2
            refine forRangeC (n := i + 1) [Str.ofString "product", Str.ofString "mark", Str.ofString "written", Str.ofString "inside", Str.ofString "plain", Str.ofString "due"] rfl hR2 (by omega) (by omega) rfl rfl fE2 nE2 ?turn2 ?done2
            case done2 =>
              intro u2 h2 tk2 F7 N7
              try dsimp only
              refine wpC_of (wpAny_execs_nil ?_)
              refine ⟨rfl, _, _, _, rfl, F7, N7, ?_⟩
              intro z hz hs
              have hs0 := hs
              simp only [List.contains_cons, List.contains_nil, Bool.or_false, Bool.or_eq_false_iff, beq_eq_false_iff_ne, ne_eq] at hs
              simp only [hz, hs, hs0, if_false, Bool.false_eq_true, List.contains_cons, List.contains_nil, Bool.or_false, Bool.or_eq_true, beq_iff_eq, or_false, false_or]
            case turn2 =>
              intro j tj u2 h2 tk2 I2 oI2 hj hneI2 F7 N7
              dsimp only at F7 N7 ⊢
              clear hR hR2 fE2 nE2 fE nE
              have hPi : Plainly (nums.getD (i : Int).toNat 0) := by
                rw [Int.toNat_natCast, List.getD_eq_getElem?_getD, List.getElem?_eq_getElem hi]
                exact hgood _ (List.getElem_mem hi)
              have hPj : Plainly (nums.getD (j : Int).toNat 0) := by
                rw [Int.toNat_natCast, List.getD_eq_getElem?_getD, List.getElem?_eq_getElem (show j < nums.length by omega)]
                exact hgood _ (List.getElem_mem (show j < nums.length by omega))
              obtain ⟨ti1, hti1⟩ := hj2 (i : Int).toNat _ (List.getElem?_eq_getElem (show (i : Int).toNat < txs.length by omega))
              obtain ⟨tj1, htj1⟩ := hj2 (j : Int).toNat _ (List.getElem?_eq_getElem (show (j : Int).toNat < txs.length by omega))
              have hxi := List.getElem?_eq_getElem (show (i : Int).toNat < txs.length by omega)
              have hxj := List.getElem?_eq_getElem (show (j : Int).toNat < txs.length by omega)
              rw [hti1, Nat.zero_add] at hxi
              rw [htj1, Nat.zero_add] at hxj
              obtain ⟨x1, hx1⟩ : ∃ x, x = text (nums.getD (i : Int).toNat 0) := ⟨_, rfl⟩
              obtain ⟨x2, hx2⟩ : ∃ x, x = text (nums.getD (j : Int).toNat 0) := ⟨_, rfl⟩
              have hxl1 : x1.length = 20 := by rw [hx1]; exact text_size hPi.small.1 (Int.lt_trans hPi.small.2 (by decide))
              have hxl2 : x2.length = 20 := by rw [hx2]; exact text_size hPj.small.1 (Int.lt_trans hPj.small.2 (by decide))
              have hok1 : PyData.strOk x1 = true := by
                unfold PyData.strOk
                rw [← Array.all_toList, List.all_eq_true]
                intro c hc
                have := text_signs hPi.small.1 (Int.lt_trans hPi.small.2 (by decide)) c (hx1 ▸ hc)
                exact decide_eq_true (by omega)
              rw [← hx1] at hxi
              rw [← hx2] at hxj
              clear hti1 htj1
              have hgi : ∀ (f : Int → Int) (k : Nat), k < nums.length → (nums.map f).getD (k : Int).toNat 0 = f (nums.getD (k : Int).toNat 0) := fun f k hk => by
                rw [Int.toNat_natCast, List.getD_eq_getElem?_getD, List.getD_eq_getElem?_getD, List.getElem?_map, List.getElem?_eq_getElem hk]
                rfl
              have hpi := hgi polyT i hi
              have hpj := hgi polyT j (by omega)
              have hwi := hgi wt i hi
              have hwj := hgi wt j (by omega)
              have hma : IntMulOk (nums.getD (i : Int).toNat 0) (nums.getD (j : Int).toNat 0) := hPi.fits.1
              have hmp : IntMulOk ((nums.map polyT).getD (i : Int).toNat 0) ((nums.map polyT).getD (j : Int).toNat 0) := by rw [hpi, hpj]; exact hPi.fits.2.1
              have hmw : IntMulOk ((nums.map wt).getD (i : Int).toNat 0) ((nums.map wt).getD (j : Int).toNat 0) := by rw [hwi, hwj]; exact hPi.fits.2.2
              obtain ⟨⟨hp0, hp1⟩, ⟨hv0, hv1⟩, _, _, hyes, hno⟩ := law_plain hPi hPj
              rw [← hpi, ← hpj] at hv0 hv1 hyes hno
              rw [← hwi, ← hwj] at hyes hno
              refine wpC_fold ?_
              intro qt et
              refine wpC_execs_at 6 ?_
              dsimp only [List.take, List.drop]
              try k_fold
              k_steps
              all_goals try dsimp only
              all_goals refine wpC_execs_cons (wpC_If_cmp (wpC_Call ?_) (by with_unfolding_all rfl))
              all_goals try k_fold
              all_goals k_steps
              all_goals k_dflt (refine' wpC_callK ?k1 ?k2 ?_; (case k1 => k_asm); (case k2 => k_is); k_whole)
              all_goals try k_fold
              all_goals k_steps
              all_goals try dsimp only [List.nil_append]
              all_goals
                rename Mark _ => hMk
                rename _ = ({ cps := #[_] } : Str) => hMe
                rename _ = figs _ => hFg
                rename _ = Txt.join _ _ => hJ
                subst hMe
                subst hJ
                rename (Txt.join _ _).length ≤ 900 => hJl
                obtain ⟨r0, r1, r2, r3, r4, r5, r6⟩ := law_reply hPi hPj hMk hx1 hx2 hFg rfl hJl
                have hrp := figs_repr ((nums.map polyT).getD (i : Int).toNat 0 * (nums.map polyT).getD (j : Int).toNat 0 + GR)
                rw [← hFg] at hrp
              · rename wt (nums.getD (i : Int).toNat 0 * nums.getD (j : Int).toNat 0) = _ => hpl
                have hv := hyes hpl
                rw [← hFg] at hv
                (k_dflt (refine' told_C _ _ _ _ _ _ x1 _ _ _ _ _ _ _ _ _ r0 r1 r2 r3 r4 r5 r6 ?hyla hrp _ _ _ _ _ _ _ _ _ _ _ _ _ _ _ ?kBa ?kFa ?kXa ?kNa ?kpaa ?kTa ?kka ?kda ?kua ?kreta; (case kFa => k_asm); (case kBa => exact B'); (case kXa => exact KX); (case kNa => k_asm); (case kTa => exact T); (case kka => exact rfl); (case kpaa => exact News.isList (by k_asm) (by k_mem)); (case hyla => omega); (case kda => first | decide | (dsimp only; decide)); (case kua => first | decide | (dsimp only; decide)); intro v9 h9 tk9 own9 hTold F9 N9 O9; (try dsimp only)))
                rcases hTold with ⟨hq, rfl, rfl⟩ | ⟨n, a, t1, t2, hq, rfl, rfl⟩
                · rw [hv] at hq; cases hq
                · obtain rfl := Option.some.inj (hq.symm.trans hv)
                  walk1
                  refine' ne_triple ?g1 ?g2 hok1 ?g3 ?_
                  case g1 => exact News.get N9 (List.mem_cons_self ..)
                  case g2 => exact News.get N9 (by k_mem)
                  case g3 => exact Nat.le_of_ble_eq_true rfl
                  walk1
                  refine if_no ?_
                  refine wpC_of (wpAny_execs_nil ?_)
                  try dsimp only
                  refine wpC_of (wpAny_execs_nil ?_)
                  refine ⟨rfl, _, _, _, rfl, F9, fun q hq9 => N9 q ?_, ?_⟩
                  · repeat (first | exact hq9 | refine List.mem_cons_of_mem _ ?_)
                  · intro z hz hs
                    have hs0 := hs
                    simp only [List.contains_cons, List.contains_nil, Bool.or_false, Bool.or_eq_false_iff, beq_eq_false_iff_ne, ne_eq] at hs
                    simp only [hz, hs, hs0, if_false, Bool.false_eq_true]
              · rename wt (nums.getD (i : Int).toNat 0 * nums.getD (j : Int).toNat 0) ≠ _ => hpl
                have hv := hno hpl
                rw [← hFg] at hv
                (k_dflt (refine' told_C _ _ _ _ _ _ x1 _ _ _ _ _ _ _ _ _ r0 r1 r2 r3 r4 r5 r6 ?hylb hrp _ _ _ _ _ _ _ _ _ _ _ _ _ _ _ ?kBb ?kFb ?kXb ?kNb ?kpab ?kTb ?kkb ?kdb ?kub ?kretb; (case kFb => k_asm); (case kBb => exact B'); (case kXb => exact KX); (case kNb => k_asm); (case kTb => exact T); (case kkb => exact rfl); (case kpab => exact News.isList (by k_asm) (by k_mem)); (case hylb => omega); (case kdb => first | decide | (dsimp only; decide)); (case kub => first | decide | (dsimp only; decide)); intro v9 h9 tk9 own9 hTold F9 N9 O9; (try dsimp only)))
                rcases hTold with ⟨hq, rfl, rfl⟩ | ⟨n, a, t1, t2, hq, rfl, rfl⟩
                · try k_fold
                  k_steps
                  refine wpC_of (wpAny_execs_nil ?_)
                  try dsimp only
                  refine wpC_of (wpAny_execs_nil ?_)
                  refine ⟨rfl, _, _, _, rfl, F9, fun q hq9 => N9 q ?_, ?_⟩
                  · repeat (first | exact hq9 | refine List.mem_cons_of_mem _ ?_)
                  · intro z hz hs
                    have hs0 := hs
                    simp only [List.contains_cons, List.contains_nil, Bool.or_false, Bool.or_eq_false_iff, beq_eq_false_iff_ne, ne_eq] at hs
                    simp only [hz, hs, hs0, if_false, Bool.false_eq_true]
                · rw [hv] at hq; cases hq
end Mine
end
theorem PySem.Challenge.cw_pa0029_01_holds : PySem.Challenge.rw_pa0029_01.Holds := by
  exact Mine.law_walk
