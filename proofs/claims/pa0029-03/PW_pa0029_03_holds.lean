import PyProof.Rows.All
import Wide.All
import OpenK.AllK
import Wide.FinOn
import PySem.Challenge.RW_pa0029_03
set_option Elab.async false
set_option maxRecDepth 100000
set_option maxHeartbeats 8000000
local macro_rules | `(tactic| walk_at $s:str) => `(tactic| k_extra $s)
section
open PySem PySem.W PyProof.Rows
namespace Mine
/-- the claim's caller stands on the stack, or is the code that runs -/
noncomputable def Cal (Γ : Ctx) : Prop := (Γ.code.isCaller || Γ.below.any fun x => x.1.isCaller) = true
/-- the claim's caller stands below -/
noncomputable def CalB (Γ : Ctx) : Prop := (Γ.below.any fun x => x.1.isCaller) = true
theorem CalB.cal {Γ : Ctx} (h : CalB Γ) : Cal Γ := by unfold Cal; unfold CalB at h; rw [h]; simp
theorem Cal.enter {Γ : Ctx} (h : Cal Γ) (c : Code) (hd : Option Value) (p : Pos) : CalB (Γ.enter c hd p) := by
  unfold CalB Ctx.enter
  rw [List.any_cons]
  exact h
/-- as wpAny, in the contexts alone that have the claim's caller on their stack -/
noncomputable def wpC {α : Type} (M : Model) (A : Around) (t : Sem α) (Q : α → Shared → Prop) (E : Value → Shared → Prop) (s : Shared) : Prop :=
  ∀ Γ p, Γ.In A → Cal Γ → Sem.wp M Γ t (fun a _ s' => Q a s') (fun e _ s' => E e s') p s
noncomputable def codeC (M : Model) (A : Around) (c : Code) (R : Result → Shared → Prop) (s : Shared) : Prop :=
  ∀ Γ p, Γ.code = c → Γ.Below A → CalB Γ → wpCode M Γ R p s
section
variable {α β : Type} {M : Model} {A : Around} {E : Value → Shared → Prop} {s : Shared}
theorem wpC_of {t : Sem α} {Q : α → Shared → Prop} (h : wpAny M A t Q E s) : wpC M A t Q E s := fun Γ p hΓ _ => h Γ p hΓ
theorem codeC_of {c : Code} {R : Result → Shared → Prop} (h : codeAny M A c R s) : codeC M A c R s := fun Γ p hc hΓ _ => h Γ p hc hΓ
theorem wpC_pure {a : α} {Q : α → Shared → Prop} (h : Q a s) : wpC M A (pure a) Q E s := wpC_of (wpAny_pure h)
theorem wpC_eq {t : Sem α} {a : α} {Q : α → Shared → Prop} (e : t = pure a) (h : Q a s) : wpC M A t Q E s := e ▸ wpC_pure h
theorem wpC_mono {t : Sem α} {Q Q' : α → Shared → Prop} {E' : Value → Shared → Prop} (h : wpC M A t Q E s) (hQ : ∀ a s, Q a s → Q' a s) (hE : ∀ e s, E e s → E' e s) : wpC M A t Q' E' s :=
  fun Γ p hΓ hC => Sem.wp_mono M Γ t (fun a _ s => hQ a s) (fun e _ s => hE e s) p s (h Γ p hΓ hC)
theorem codeC_mono {c : Code} {R R' : Result → Shared → Prop} (h : codeC M A c R s) (hR : ∀ r s, R r s → R' r s) : codeC M A c R' s :=
  fun Γ p hc hΓ hC => wpCode_mono hR (h Γ p hc hΓ hC)
theorem wpC_bind {m : Sem α} {f : α → Sem β} {Q : β → Shared → Prop} (h : wpC M A m (fun a s' => wpC M A (f a) Q E s') E s) : wpC M A (m >>= f) Q E s := fun Γ p hΓ hC => by
  rw [Sem.wp_bind']
  exact Sem.wp_mono M Γ m (fun a p' s' h' => h' Γ p' hΓ hC) (fun _ _ _ h' => h') p s (h Γ p hΓ hC)
theorem wpC_bindA {m : Sem α} {f : α → Sem β} {Q : β → Shared → Prop} (h : wpAny M A m (fun a s' => wpC M A (f a) Q E s') E s) : wpC M A (m >>= f) Q E s := wpC_bind (wpC_of h)
theorem wpC_onRaise {m : Sem α} {k : Value → Sem Unit} {Q : α → Shared → Prop} (h : wpC M A m Q (fun e s' => wpC M A (k e) (fun _ s'' => E e s'') E s') s) : wpC M A (m.onRaise k) Q E s := fun Γ p hΓ hC => by
  rw [Sem.wp_onRaise]
  exact Sem.wp_mono M Γ m (fun _ _ _ h' => h') (fun e p' s' h' => h' Γ p' hΓ hC) p s (h Γ p hΓ hC)
theorem wpC_attempt {m : Sem α} {Q : Except Value α → Shared → Prop} (h : wpC M A m (fun a => Q (.ok a)) (fun e => Q (.error e)) s) : wpC M A m.attempt Q E s := fun Γ p hΓ hC => by
  rw [Sem.wp_attempt]; exact h Γ p hΓ hC
theorem wpC_holding {vs : List Value} {m : Sem α} {Q : α → Shared → Prop} (h : wpC M A m Q E s) : wpC M A (holding vs m) Q E s := fun Γ p hΓ hC => by
  rw [Sem.wp_holding]; exact h Γ p hΓ hC
theorem wpC_keep {vs : List Value} {m : Sem α} {Q : α → Shared → Prop} (h : wpC M A m Q E s) : wpC M A (m.keep vs) Q E s := fun Γ p hΓ hC => by
  rw [Sem.wp_keep]; exact h Γ p hΓ hC
theorem wpC_standAt {pos : Pos} {Q : Unit → Shared → Prop} (h : Q () s) : wpC M A (standAt pos) Q E s := wpC_of (wpAny_standAt h)
theorem wpC_run {c : Code} {h : Option Value} {Q : Flow → Shared → Prop} (hc : codeC M (A.mark h) c (fun r s' => match r with | .ok f => Q f s' | .error e => E e s') s) (hnb : h ≠ some byPass) :
    wpC M A (run c h) Q E s := fun Γ p hΓ hC => by rw [Sem.wp_run]; exact hc _ p rfl (hΓ.enter c h p hnb) (hC.enter ..)
theorem wpC_runValue {c : Code} {Q : Value → Shared → Prop} (hc : codeC M A c (fun r s' => match r with | .ok (.ret v) => Q v s' | .ok _ => False | .error e => E e s') s) :
    wpC M A (runValue c) Q E s := fun Γ p hΓ hC => by rw [Sem.wp_runValue]; exact hc _ p rfl (hΓ.enter c none p (by intro x; cases x)) (hC.enter ..)
theorem wpC_call {f : Value} {pos : List Value} {kw : List (Str × Value)} {Q : Value → Shared → Prop} (hc : codeC M A (.call f ⟨pos, kw⟩) (fun r s' => match r with | .ok (.ret v) => Q v s' | .ok _ => False | .error e => E e s') s) :
    wpC M A (call f pos kw) Q E s := wpC_runValue hc
theorem codeC_of_tree {c : Code} {R : Result → Shared → Prop}
    (h : wpC M (A.under c) (M.den c) (fun fin s' => match fin with | .done f => R (.ok f) s' | .again c' => c'.quiet = true ∧ codeC M A c' R s') (fun e s' => R (.error e) s') s) : codeC M A c R s := fun Γ p hc hΓ hC => by
  rw [wpCode_iff_wp, hc]
  refine Sem.wp_mono M Γ _ (fun fin p' s' h' => ?_) (fun _ _ _ h' => h') p s (h Γ p (hc ▸ hΓ.in) hC.cal)
  cases fin with
  | done f => exact h'
  | again c' => exact ⟨h'.1, h'.2 (Γ.goto c') p' rfl (hΓ.goto c') hC⟩
theorem codeC_loop {c : Code} {R : Result → Shared → Prop} (hq : c.quiet = true) (I : Nat → Shared → Prop)
    (turn : ∀ n s, I n s → wpC M (A.under c) (M.den c) (fun fin s' => match fin with
        | .done f => R (.ok f) s'
        | .again c' => (c' = c ∧ ∃ m, m < n ∧ I m s') ∨ (c'.quiet = true ∧ codeC M A c' R s')) (fun e s' => R (.error e) s') s)
    (n : Nat) (h : I n s) : codeC M A c R s := by
  induction n using Nat.strongRecOn generalizing s with
  | ind n ih =>
    refine codeC_of_tree (wpC_mono (turn n s h) (fun fin s' hf => ?_) fun _ _ h' => h')
    cases fin with
    | done f => exact hf
    | again c' =>
      rcases hf with ⟨rfl, m, hm, hI⟩ | hf
      · exact ⟨hq, ih m hm hI⟩
      · exact hf
theorem wpC_units {t : Sem α} {Q : α → Shared → Prop} (D U : Nat) (hd : A.depth ≤ D) (hu : A.units ≤ U) (h : wpC M { A with depth := D, units := U } t Q E s) : wpC M A t Q E s :=
  fun Γ p hΓ => h Γ p ⟨hΓ.1, Nat.le_trans hΓ.2.1 hd, hΓ.2.2.1, hΓ.2.2.2.1, Nat.le_trans hΓ.2.2.2.2 hu⟩

/-- the mark that is never set under a claim -/
theorem wpC_mark {own : List String} {e : Value} {Q : Unit → Shared → Prop} (h : Q () s) : wpC M A (markTheRefusal own e) Q E s := fun Γ p _ hC => by
  have hc : ((Γ.code :: Γ.below.map (·.1)).any Code.isCaller) = true := by
    rw [List.any_cons, List.any_map]; exact hC
  have hm : pythonCodeMadeTheCall own (((Γ.code, p) :: Γ.below).map (·.1)) = false := by
    unfold pythonCodeMadeTheCall
    show (!((Γ.code :: Γ.below.map (·.1)).any Code.isCaller) && _ && _) = false
    rw [hc]; rfl
  unfold markTheRefusal
  rw [Sem.wp_bind']
  show Sem.wp M Γ (if pythonCodeMadeTheCall own (((Γ.code, p) :: Γ.below).map (·.1)) = true then _ else _) _ _ p s
  rw [if_neg (by rw [hm]; exact Bool.false_ne_true)]
  exact h
end

section
variable {M : Model} {A : Around} {E : Value → Shared → Prop} {s : Shared} {env : Env}
theorem wpC_execs_cons {st : Stmt} {rest : List Stmt} {Q : Flow → Shared → Prop} (h : wpC M A (exec st env) (fun f s' => match f with | .next => wpC M A (execs rest env) Q E s' | f => Q f s') E s) : wpC M A (execs (st :: rest) env) Q E s := by
  rw [execs_cons]
  refine wpC_bind (wpC_mono h (fun f s' h' => ?_) fun _ _ h' => h')
  cases f <;> first | exact h' | exact wpC_pure h'
/-- the first statements lie off the spine -/
theorem wpC_execs_skip (pre : List Stmt) {rest : List Stmt} {Q : Flow → Shared → Prop} (h : wpAny M A (execs pre env) (fun f s' => match f with | .next => wpC M A (execs rest env) Q E s' | f => Q f s') E s) : wpC M A (execs (pre ++ rest) env) Q E s := by
  have key : ∀ pre : List Stmt, execs (pre ++ rest) env = (do match ← execs pre env with | .next => execs rest env | f => pure f) := by
    intro pre
    induction pre with
    | nil => rfl
    | cons a pre ih =>
      rw [List.cons_append, execs_cons, ih, execs_cons]
      simp only [bind_assoc]
      congr 1
      funext f
      cases f <;> simp
  rw [key]
  refine wpC_bindA (wpAny_mono h (fun f s' h' => ?_) fun _ _ h' => h')
  cases f <;> first | exact h' | exact wpC_pure h'
theorem wpC_Assign {t value : Expr} {pos : Pos} {Q : Flow → Shared → Prop} (h : wpC M A (eval value env) (fun v s₁ => wpAny M A (assignStores env v none ((assignEach [t] env).map (·.2))) Q E s₁) E s)
    (hs : swapsWithSole [t] value pos.line env = pure false := by rfl) (hw : swappedStores [t] value env = pure none := by rfl) : wpC M A (exec (.Assign [t] value pos) env) Q E s := by
  rw [PyProof.Rows.exec_Assign]
  refine wpC_bind (wpC_standAt (wpC_bind (wpC_eq hs ?_)))
  simp only [Bool.false_eq_true, if_false]
  exact wpC_bind (wpC_mono h (fun v s₁ h₁ => wpC_bind (wpC_eq hw (wpC_of h₁))) fun _ _ h' => h')
theorem wpC_Try {body orelse : List Stmt} {h₀ : ExceptHandler} {hs : List ExceptHandler} {pos : Pos} {Q : Flow → Shared → Prop}
    (h : wpC M A (execs body env) (fun f s₁ => match f with | .next => wpAny M A (execs orelse env) Q E s₁ | f => Q f s₁)
      (fun e s₁ => wpAny M A (noteFrame e env) (fun _ s₂ => wpAny M A (setFlight e none) (fun _ s₃ => wpAny M A (handleBy e env (h₀ :: hs)) Q E s₃) E s₂) E s₁) s) :
    wpC M A (exec (.Try body (h₀ :: hs) orelse [] pos) env) Q E s := by
  rw [arm_exec_Try]
  refine wpC_bind (wpC_standAt ?_)
  unfold tryStmt
  simp only [List.isEmpty_nil, if_true, List.isEmpty_cons, Bool.false_and, Bool.false_eq_true, if_false]
  refine wpC_bind (wpC_attempt (wpC_mono h (fun f s₁ h₁ => ?_) fun e s₁ h₁ => ?_))
  · cases f <;> first | exact wpC_of h₁ | exact wpC_pure h₁
  · exact wpC_of (wpAny_bind (wpAny_mono h₁ (fun _ _ h₂ => wpAny_bind h₂) fun _ _ x => x))
theorem wpC_callWith {f : Value} {P : Heap → Prop} {first : List Value} {pos : Pos} {args : List (Bool × Sem Value)} {Q : Value → Shared → Prop} (hplain : args.any (·.1) = false)
    (hk : ∀ h, P h → ∃ k, (k = Keeper.frame ∨ k = Keeper.machine ∨ k = Keeper.boundFrame) ∧ Looks M h (keeperOf f) k)
    (h : wpAny M A (evalArgs f true args []) (fun a s₁ => P s₁.heap ∧ wpC M A (call f (first ++ a.pos) a.kw) Q E s₁) E s) : wpC M A (callWith pos f first args []) Q E s := by
  unfold callWith
  refine wpC_bindA (wpAny_holding (wpAny_mono h (fun a s₁ h₁ => ?_) fun _ _ x => x))
  refine wpC_bind (wpC_standAt ?_)
  obtain ⟨k, hk', L⟩ := hk _ h₁.1
  simp only [hplain, List.any_nil, Bool.or_false]
  refine wpC_bindA (L.here ?_)
  have tail : ∀ {t : Sem Value}, wpC M A t Q E s₁ → wpC M A (t >>= fun r => holding [r] point >>= fun _ => pure r) Q E s₁ :=
    fun ht => wpC_bind (wpC_mono ht (fun r s₂ hr => wpC_of (wpAny_bind (wpAny_holding (wpAny_point (wpAny_pure hr))))) fun _ _ x => x)
  have marked (mk : Value) : wpC M A (callMarked mk f (first ++ a.pos) a.kw) Q E s₁ := by unfold callMarked; exact wpC_keep h₁.2
  rcases hk' with rfl | rfl | rfl <;> dsimp only <;> first | exact tail h₁.2 | (split <;> first | exact tail h₁.2 | exact tail (marked _))
/-- a call by a name; the name and the arguments lie off the spine -/
theorem wpC_Call {func : Expr} {args : List Expr} {pos : Pos} {Q : Value → Shared → Prop}
    (h : wpAny M A (eval func env) (fun f s₁ => wpC M A (callWith pos f [] (backTo pos (starEach args env)) []) Q E s₁) E s)
    (he : eval (.Call func args [] pos) env = (do callWith pos (← eval func env) [] (backTo pos (starEach args env)) (backToKw pos (keywordEach [] env))) := by rfl) :
    wpC M A (eval (.Call func args [] pos) env) Q E s := by
  rw [he]; exact wpC_bindA h
end
end Mine
end
section
open PySem PySem.W PyProof.Rows PySem.Calls PySem.NumText
namespace Mine
theorem isType_int : isType (.type "int") = pure true := by rfl
theorem tc_int (x : Value) : ∃ K, Builtin.«type.__call__» ⟨[.type "int", x], []⟩ = (holding [.builtin "int.__new__"] (call (.builtin "int.__new__") [.type "int", x] []) >>= K) := by
  have h1 := F.called_int.notType
  have h2 := F.called_int.canCreate
  have h3 := F.called_int.made
  apply Exists.intro
  unfold Builtin.«type.__call__»
  simp only [h1, h2, F.typeCall_int_1, F.mro_int, h3, pure_bind, Bool.false_eq_true, if_false, List.isEmpty_cons]
  rfl
theorem ni_int (x : Str) (u : Tok) : Builtin.«int.__new__» ⟨[.type "int", .str x u], []⟩ = ((int_private% "intFromObject") (.str x u) >>= fun v => ret v) := by
  have f1 := F.conv_sub_int
  have f2 := F.madeHere_int
  unfold Builtin.«int.__new__»
  simp only [isType_int, f1, f2, pure_bind, Bool.not_true, Bool.false_eq_true, if_false]
  rfl
section
variable {M : Model} {A : Around} {E : Value → Shared → Prop} {s : Shared}
theorem wpC_obj {x : Str} {u : Tok} {Q : Value → Shared → Prop} (h : wpC M A ((int_private% "intFromText") (.str x u) (numTextOf x) 10) Q E s) : wpC M A ((int_private% "intFromObject") (.str x u)) Q E s := by
  have f3 := KIN.str_int
  have f4 := KIN.str_idx
  have f5 := KIN.str_trunc
  have f6 : typeOf (.str x u) = pure (.type "str") := rfl
  refine wpC_bindA ?_
  repeat (any_goals (first | assumption | wp_step))
end
section
variable {prog : Program} {w : World} {A : Around} {E : Value → Shared → Prop} {s : Shared}
theorem wpC_ite_true {α : Type} {M : Model} {c : Prop} [Decidable c] {a b : Sem α} {Q : α → Shared → Prop} (hc : c) (h : wpC M A a Q E s) : wpC M A (if c then a else b) Q E s := by rw [if_pos hc]; exact h
theorem wpC_ite_false {α : Type} {M : Model} {c : Prop} [Decidable c] {a b : Sem α} {Q : α → Shared → Prop} (hc : ¬ c) (h : wpC M A b Q E s) : wpC M A (if c then a else b) Q E s := by rw [if_neg hc]; exact h
/-- the refusal itself, once the literal is seen to be none -/
theorem wpC_refuse {x : Str} {u : Tok} {Q : Value → Shared → Prop} (hh : A.handled = none) (hr : (reprText x).length ≤ 3000)
    (h : ∀ h' tk e, Heap.NewExc s.heap h' e "ValueError" → E (.ref e) { s with heap := h', toks := tk }) :
    wpC (model prog w) A (do
      rule "int.__new__.invalid-literal"
      let shown ← pyRepr (Value.str x u)
      let m ← mkStr (Str.ofString (toString "invalid literal for int() with base " ++ toString 10 ++ toString ": ") ++ { cps := shown.cps.extract 0 200 })
      let refusal ← newExc (Value.type "ValueError") [m]
      markTheRefusal ["int.__new__"] refusal
      raiseNew refusal) Q E s := by
  have hp := plainExc_ValueError
  refine wpC_bindA (wpAny_rule ?_)
  refine wpC_bindA (wpAny_pyRepr_str ?_ (Nat.le_trans hr (by decide +kernel)))
  refine wpC_bindA (wpAny_mkStr ?_ ?_)
  · refine wpC_bindA ?_
    unfold newExc newTuple
    refine wpAny_bind (wpAny_newObj_type ?_)
    refine wpAny_bind (m := firstArgMember _ _) (wpAny_of_eq (a := Value.none) (by simp only [firstArgMember, hp.first]; rfl) ?_)
    rw [hp.own]
    refine wpAny_newObj_type ?_
    refine wpC_bind (wpC_mark ?_)
    refine wpC_of ?_
    unfold raiseNew
    refine wpAny_bind (wpAny_handled ?_)
    rw [hh]
    first
      | refine wpAny_throw ?_
      | refine wpAny_bind (wpAny_pure (wpAny_throw ?_))
    exact h _ _ _ ⟨fun b o hb => Heap.get?_push_of_some _ (Heap.get?_push_of_some _ hb), Heap.get?_none_of_le (by simp), _, .ref s.heap.objs.size, Heap.get?_push_size _ rfl, rfl, by simp⟩
  · have e1 : (Str.ofString (toString "invalid literal for int() with base " ++ toString 10 ++ toString ": ")).length ≤ 100 := by decide +kernel
    have e2 : ({ cps := (reprText x).cps.extract 0 200 } : Str).length ≤ 3000 := by
      refine Nat.le_trans ?_ hr
      show ((reprText x).cps.extract 0 200).size ≤ (reprText x).cps.size
      rw [Array.size_extract]; (first | lia | omega)
    have e3 : ∀ a b : Str, (a ++ b).length = a.length + b.length := fun a b => by
      show (a.cps ++ b.cps).size = _
      rw [Array.size_append]; rfl
    rw [e3]
    have : 3100 ≤ sizeLine := by decide +kernel
    (first | lia | omega)
theorem wpC_text {x : Str} {u : Tok} {Q : Value → Shared → Prop} (hl : x.length ≤ 640) (hn : PySem.intText? x = none) (hh : A.handled = none) (hr : (reprText x).length ≤ 3000)
    (h : ∀ h' tk e, Heap.NewExc s.heap h' e "ValueError" → E (.ref e) { s with heap := h', toks := tk }) : wpC (model prog w) A ((int_private% "intFromText") (.str x u) (numTextOf x) 10) Q E s := by
  have hs : (numSeenOf x).length ≤ 640 := Nat.le_trans (seen_length x) hl
  refine wpC_ite_true hs ?_
  refine wpC_bind (wpC_pure ?_)
  dsimp only
  rcases read0 x hs with ⟨m, h1, _⟩ | ⟨_, hr' | ⟨i, hr', hne⟩⟩
  · rw [hn] at h1; cases h1
  · rw [hr']
    exact wpC_refuse hh hr h
  · rw [hr']
    refine wpC_ite_false hne ?_
    exact wpC_refuse hh hr h
theorem codeC_builtin {id : String} {args : Args} {b : Builtin} {R : Result → Shared → Prop} (hb : entryFor table id = some b)
    (h : wpC (model prog w) (A.under (.builtin id args)) (b args) (fun fin s' => match fin with | .done f => R (.ok f) s' | .again c' => c'.quiet = true ∧ codeC (model prog w) A c' R s') (fun e s' => R (.error e) s') s) :
    codeC (model prog w) A (.builtin id args) R s := by
  refine codeC_of_tree ?_
  show wpC _ _ (match entryFor table id with | some b => b args | none => unsupported ((withoutEnding? id "#data").getD id)) _ _ s
  rw [hb]; exact h
/-- int(text), refused: under a claim no mark is left -/
theorem wpC_int_refused {x : Str} {u : Tok} {Q : Value → Shared → Prop} (hl : x.length ≤ 640) (hn : PySem.intText? x = none) (hh : A.handled = none) (hr : (reprText x).length ≤ 3000)
    (h : ∀ h' tk e, Heap.NewExc s.heap h' e "ValueError" → E (.ref e) { s with heap := h', toks := tk }) : wpC (model prog w) A (call (.type "int") [.str x u]) Q E s := by
  refine wpC_call (codeC_of_tree ?_)
  show wpC _ _ (callAny (.type "int") _) _ _ _
  refine wpC_pure ⟨Code.quiet_builtin _ (by decide +kernel), codeC_builtin F.entry_type_call ?_⟩
  rw [Around.under_plain (weight_type_call_type "int" [.str x u] []) (units_type_call_type "int" [.str x u] [])]
  obtain ⟨K, eK⟩ := tc_int (.str x u)
  rw [eK]
  refine wpC_bind (wpC_holding (wpC_call (codeC_of_tree ?_)))
  show wpC _ _ (do checkBuiltinCall "int.__new__" _; again (.builtin "int.__new__" _)) _ _ _
  refine wpC_bind (wpC_eq (F.newCall_int_1 _) (wpC_pure ⟨plainId_quiet F.called_int.plain _, codeC_builtin F.entry_int_new ?_⟩))
  rw [ni_int]
  exact wpC_bind (wpC_obj (wpC_text hl hn hh hr h))
end
section
variable {prog : Program} {w : World} {A : Around} {E : Value → Shared → Prop} {s : Shared} {env : Env}
theorem codeC_forLoop {R : Result → Shared → Prop} {target : Expr} {it : Value} {body orelse : List Stmt} (I : Nat → Shared → Prop)
    (turn : ∀ n s, I n s → wpAny (model prog w) A (pyNext it) (fun r s₁ => match r with
      | none => wpAny (model prog w) A (execs orelse env) (fun f s₃ => R (.ok f) s₃) (fun _ _ => False) s₁
      | some v => wpAny (model prog w) A (letOwnedTupleGo target it v) (fun _ s₂ => wpAny (model prog w) A (assign target env v) (fun _ s₂ => wpC (model prog w) A (execs body env) (fun f s₃ => match f with
          | .next | .cont => ∃ m, m < n ∧ I m s₃
          | .brk => R (.ok .next) s₃
          | .ret v => R (.ok (.ret v)) s₃) (fun _ _ => False) s₂) (fun _ _ => False) s₂) (fun _ _ => False) s₁) (fun _ _ => False) s)
    (n : Nat) (h : I n s) : codeC (model prog w) A (.forLoop target it body orelse env) R s := by
  refine codeC_loop rfl I (fun n s hI => ?_) n h
  show wpC _ _ ((forTurn target it body orelse env).onRaise (fun x => do noteFrame x env; theTreesLotGoes x)) _ _ s
  refine wpC_onRaise (wpC_mono (E := fun _ _ => False) (Q := fun (fin : PySem.Fin) s' => match fin with
        | .done f => R (.ok f) s'
        | .again c' => (c' = .forLoop target it body orelse env ∧ ∃ m, m < n ∧ I m s') ∨ (c'.quiet = true ∧ codeC (model prog w) A c' R s')) ?_ (fun _ _ h => h) fun _ _ h => h.elim)
  simp only [forTurn]
  refine wpC_bind (wpC_standAt (wpC_bindA (wpAny_onRaise (wpAny_mono (turn n s hI) (fun r s₁ h₁ => ?_) fun _ _ h' => h'.elim))))
  cases r with
  | none => exact wpC_pure (.inr ⟨rfl, codeC_of (codeAny_block (wpAny_mono h₁ (fun _ _ h => h) fun _ _ h => h.elim))⟩)
  | some v =>
    refine wpC_bindA (wpAny_mono h₁ (fun _ s₂ h₂ => ?_) fun _ _ h' => h')
    refine wpC_bindA (wpAny_mono h₂ (fun _ s₂ h₂ => wpC_bind (wpC_mono h₂ (fun f s₃ h₃ => ?_) fun _ _ h' => h')) fun _ _ h' => h')
    cases f with
    | next => exact wpC_pure (.inl ⟨rfl, h₃⟩)
    | cont => exact wpC_pure (.inl ⟨rfl, h₃⟩)
    | brk => exact wpC_pure h₃
    | ret v => exact wpC_pure h₃
theorem wpC_For {M : Model} {target iter : Expr} {body orelse : List Stmt} {pos : Pos} {Q : Flow → Shared → Prop}
    (h : wpAny M A (eval iter env) (fun x s₁ => wpAny M A (pyIter x) (fun it s₂ => codeC M A (.forLoop target it body orelse env) (fun r s' => match r with | .ok f => Q f s' | .error _ => False) s₂) E s₁) E s)
    (hs : ∀ x, foldedSetIterable iter env x = pure x) : wpC M A (exec (.For target iter body orelse pos) env) Q E s := by
  rw [exec_For]
  refine wpC_bind (wpC_standAt (wpC_bindA (wpAny_mono h (fun x s₁ h₁ => wpC_bind (wpC_eq (hs x) (wpC_bind (wpC_standAt (wpC_bindA (wpAny_holding (wpAny_mono h₁ (fun it s₂ h₂ => ?_) fun _ _ h' => h'))))))) fun _ _ h' => h')))
  unfold runOwn
  refine wpC_onRaise (wpC_run (codeC_mono h₂ fun r s' h' => ?_) (by intro x; cases x))
  cases r with
  | ok f => exact h'
  | error e => exact h'.elim
/-- the end of a turn: the frame stands but for what the body stores, the ledger stands -/
noncomputable def TurnC (h₀ : Heap) (L : Addr) (x : Str) (stored : List Str) (m₀ : Str → Option Value) (led : List (Addr × Obj)) (s : Shared) (f : Flow) (s' : Shared) : Prop :=
  f = .next ∧ ∃ h' tk' m', s' = { s with heap := h', toks := tk' } ∧ Fr h₀ L h' m' ∧ News h₀ L h' led ∧ ∀ z, z ≠ x → stored.contains z = false → m' z = m₀ z
/-- a loop over an iterator of its own, under a claim; it neither raises nor returns -/
theorem loopC {h₀ : Heap} {x : Str} {px : Pos} {body : List Stmt} {I : Addr} {fp : List Addr} {n : Nat} {P : Nat → Value → Prop} {St : Nat → Heap → Prop} {m₀ : Str → Option Value} {news : List (Addr × Obj)} {R : Result → Shared → Prop} (stored : List Str)
    (W : Walks prog w A I fp [I] n P St) (hx : env.kindOf x = some .local) (hp : (env.scope.kind == .class || (env.scope.kind == .module && env.locals != env.globals)) = false)
    (hI : h₀.get? I = none) (hIL : env.locals ≠ I) (hnw : ∀ p ∈ news, p.1 ≠ I) (hst : St 0 s.heap) (hSt : ∀ i h h' nw, St i h → h'.get? I = h.get? I → News h₀ env.locals h' nw → (∀ p ∈ news, p ∈ nw) → (∀ b o, h₀.get? b = some o → h'.get? b = some o) → St i h')
    (hIo : ∀ i h, St i h → ∃ o, h.get? I = some o) (F : Fr h₀ env.locals s.heap m₀) (N : News h₀ env.locals s.heap news)
    (turn : ∀ i v (u : Str → Option Value) h tk oI, i < n → P i v → Fr h₀ env.locals h (fun y => if y = x then some v else if stored.contains y then u y else m₀ y) → News h₀ env.locals h ((I, oI) :: news) →
      wpC (model prog w) A (execs body env) (TurnC h₀ env.locals x stored m₀ ((I, oI) :: news) { s with heap := h, toks := tk }) (fun _ _ => False) { s with heap := h, toks := tk })
    (done : ∀ (u : Str → Option Value) h tk, Fr h₀ env.locals h (fun y => if y = x then u y else if stored.contains y then u y else m₀ y) → News h₀ env.locals h news → R (.ok .next) { s with heap := h, toks := tk }) :
    codeC (model prog w) A (.forLoop (.Name x px) (.ref I) body [] env) R s := by
  refine codeC_forLoop
    (fun k s' => ∃ h' tk u i, s' = { s with heap := h', toks := tk } ∧ St i h' ∧ Fr h₀ env.locals h' (fun y => if y = x then u y else if stored.contains y then u y else m₀ y) ∧ News h₀ env.locals h' news ∧ i ≤ n ∧ k = n + 1 - i) ?_ (n + 1)
    ⟨s.heap, s.toks, m₀, 0, rfl, hst, by simpa using F, N, Nat.zero_le _, rfl⟩
  rintro k s' ⟨h', tk, u, i, rfl, hst', F', N', hi, rfl⟩
  have next : ∀ h₁ : Heap, (∀ b o, b ∉ [I] → h'.get? b = some o → h₁.get? b = some o) → Fr h₀ env.locals h₁ (fun y => if y = x then u y else if stored.contains y then u y else m₀ y) ∧ News h₀ env.locals h₁ news := fun h₁ hk₁ =>
    ⟨⟨F'.ns.at' fun o e => hk₁ _ o (by simpa using hIL) e, fun b o e => hk₁ b o (by simp only [List.mem_singleton]; intro q; rw [q, hI] at e; cases e) (F'.keep b o e), F'.above⟩, fun p hp => ⟨hk₁ _ _ (by simpa using hnw p hp) (N' p hp).1, (N' p hp).2⟩⟩
  by_cases hlt : i < n
  · refine W.item i _ _ _ hlt hst' fun v h₁ tk₁ hP hst₁ hk₁ => ?_
    obtain ⟨F₁, N₁⟩ := next h₁ hk₁
    refine wpAny_of_eq (a := ()) rfl ?_
    refine wpAny_assign_Name (wpAny_storeName_local hx F₁.ns (fun h₂ hn₂ hs₂ => ?_) hp)
    have F₂ := F₁.set hn₂ hs₂
    obtain ⟨oI, eI⟩ := hIo _ _ hst₁
    have eI₂ : h₂.get? I = some oI := (hs₂.2 I (Ne.symm hIL)).trans eI
    have N₂ : News h₀ env.locals h₂ ((I, oI) :: news) := by
      intro p hp
      rcases List.mem_cons.mp hp with rfl | hp
      · exact ⟨eI₂, Ne.symm hIL, hI⟩
      · exact (N₁.set hs₂) p hp
    have eF : (fun y => if y = x then some v else (fun y => if y = x then u y else if stored.contains y then u y else m₀ y) y) = (fun y => if y = x then some v else if stored.contains y then u y else m₀ y) := by
      funext y
      by_cases hy : y = x <;> simp [hy]
    rw [eF] at F₂
    refine wpC_mono (turn i v u h₂ _ oI hlt hP F₂ N₂) (fun f s₃ h₃ => ?_) fun _ _ e => e
    obtain ⟨rfl, h₃', tk₃, m', rfl, F₃, N₃, hm⟩ := h₃
    refine ⟨n + 1 - (i + 1), by (first | lia | omega), h₃', tk₃, m', i + 1, rfl, ?_, ?_, fun p hp => N₃ p (List.mem_cons_of_mem _ hp), hlt, rfl⟩
    · exact hSt _ _ _ _ hst₁ ((N₃ _ (List.mem_cons_self ..)).1.trans eI.symm) N₃ (fun p hp => List.mem_cons_of_mem _ hp) F₃.keep
    · have e : m' = (fun y => if y = x then m' y else if stored.contains y then m' y else m₀ y) := by
        funext y
        by_cases hy : y = x
        · simp [hy]
        · cases hs : stored.contains y with
          | true => simp [hy]
          | false => simp only [hy, if_false, Bool.false_eq_true]; exact hm y hy hs
      rw [← e]; exact F₃
  · have hin : i = n := by (first | lia | omega)
    subst hin
    refine W.done _ _ _ hst' fun h₁ tk₁ hk₁ => wpAny_execs_nil ?_
    obtain ⟨F₁, N₁⟩ := next h₁ hk₁
    exact done u h₁ tk₁ F₁ N₁
end
section
variable {prog : Program} {w : World} {A : Around} {s : Shared} {R : Result → Shared → Prop}
theorem codeC_func {body : List Stmt} {env : Env}
    (h : wpC (model prog w) (A.deeper env) (execs body env) (fun f s' => R (.ok (.ret (match f with | .ret v => v | _ => .none))) s')
      (fun e s' => wpAny (model prog w) (A.deeper env) (leaving env e) (fun _ s'' => R (.error e) s'') (fun e' s'' => R (.error e') s'') s') s) :
    codeC (model prog w) A (.func body env) R s := by
  refine codeC_of_tree ?_
  show wpC _ (A.deeper env) (do point; match ← (execs body env).onRaise (leaving env) with | .ret v => ret v | _ => ret .none) _ _ s
  refine wpC_bindA (wpAny_point (wpC_bind (wpC_onRaise (wpC_mono h (fun f s' h' => ?_) fun _ _ h' => wpC_of h'))))
  cases f <;> exact wpC_pure h'
theorem codeC_call_function {a : Addr} {args : Args} {o : Obj} {fd : FuncData} {body : List Stmt} (hroom : A.depth < recursionLimit) (ho : s.heap.get? a = some o)
    (hd' : o.data = .func fd) (hco : fd.scope.isCoroutine = false) (hgen : fd.scope.isGenerator = false) (hbody : fd.body = .stmts body) (hcd : s.heap.CodeRec fd.code fd.qualname)
    (h : wpAny (model prog w) A.in1 (bindArgs fd args) (fun binds s₁ =>
      wpAny (model prog w) A.in1 (newFunctionEnv fd.scope fd.globals fd.closure binds (fd.qualname ++ ".<locals>.") (some a) fd.code none fd.builtins)
        (fun env s₂ => s₂.heap.NoLimit ∧ codeC (model prog w) A (.func body env) R s₂) (fun e s' => R (.error e) s') s₁) (fun e s' => R (.error e) s') s) :
    codeC (model prog w) A (.call (.ref a) args) R s := by
  refine codeC_of_tree ?_
  show wpC _ A.in1 (callAny (.ref a) args) _ _ s
  simp only [callAny]
  refine wpC_bindA (wpAny_load ho ?_)
  obtain ⟨c, oc, vs, tq, hc, hoc, hdc, hq⟩ := hcd
  simp only [hd', callFunction, hco, hgen, hbody, hc]
  rw [hc] at h
  refine wpC_bindA (m := field (.ref c) 1) (wpAny_field hoc hdc hq (wpC_bindA (wpAny_pure ?_)))
  exact wpC_bindA (wpAny_mono h (fun binds s₁ h₁ => wpC_bindA (wpAny_mono h₁ (fun env s₂ h₂ => wpC_bindA (wpAny_enterFrame h₂.1 hroom (wpC_pure (And.intro rfl h₂.2)))) fun _ _ h' => h')) fun _ _ h' => h')
theorem codeC_call_def {a : Addr} {o : Obj} {fd : FuncData} {body : List Stmt} {args : Args} {binds : List (Str × Value)}
    (hroom : A.depth < recursionLimit) (ho : s.heap.get? a = some o) (hdata : o.data = .func fd) (hlim : s.heap.NoLimit) (hcd : s.heap.CodeRec fd.code fd.qualname)
    (hbody : fd.body = .stmts body) (hbind : BindsTo s fd args binds)
    (hcell : ∀ x ∈ fd.scope.names, x.2 ≠ .cell) (hloc : ∀ x ∈ binds, fd.scope.names.lookup x.1 = some .local)
    (h : ∀ h₀, h₀.Ns s.heap.objs.size (fun x => binds.reverse.lookup x) → (∀ b o, s.heap.get? b = some o → h₀.get? b = some o) →
      wpC (model prog w) (A.deeper (callEnv fd s.heap.objs.size a)) (execs body (callEnv fd s.heap.objs.size a)) (fun f s' => R (.ok (.ret (match f with | .ret v => v | _ => .none))) s')
        (fun e s' => wpAny (model prog w) (A.deeper (callEnv fd s.heap.objs.size a)) (leaving (callEnv fd s.heap.objs.size a) e) (fun _ s'' => R (.error e) s'') (fun e' s'' => R (.error e') s'') s')
        { s with heap := h₀, toks := s.toks + binds.length })
    (hco : fd.scope.isCoroutine = false := by rfl) (hgen : fd.scope.isGenerator = false := by rfl) (hk : fd.scope.kind = .function := by rfl) :
    codeC (model prog w) A (.call (.ref a) args) R s := by
  refine codeC_call_function hroom ho hdata hco hgen hbody hcd (hbind _ _ _ _ ?_)
  refine wpAny_newFunctionEnv hcell hloc (fun h₀ hns₀ hsb₀ => ⟨hlim.fresh _ hsb₀, codeC_func (h h₀ hns₀ fun b o e => ?_)⟩) hk
  exact hsb₀.extBut b o (Nat.ne_of_lt (Heap.lt_size e)) (Heap.get?_push_of_some _ e)
end
end Mine
end
section
open PySem PySem.W PyProof.Rows PySem.Calls
namespace Mine
/-- the walk that a law under a claim is asked for: as WalkO, in the contexts that have the claim's caller -/
abbrev WalkC (q : Program) (loose : List Str) (XP : (Str → Option Value) → Heap → Prop) (YP : World → Heap → Prop) (r : RowW) (d : DefRec) (kwd : List (Str × Expr)) (run : Value → List Value → Sem Value) : Prop :=
  ∀ (w : World) (s₀ s₁ : Shared) (mg mb : Str → Option Value), Ground q loose r.records XP w s₀ mg mb s₁.heap → YP w s₁.heap → ∀ (a : Addr) (o : Obj) (pm cd doc dV kV : Value), s₁.heap.get? a = some o →
    o.data = .func { docDef d.name d.params d.body d.scope pm cd doc with defaults := dV, kwdefaults := kV } → s₁.heap.CodeRec cd d.name → Dflts mg s₁.heap d.params kwd dV kV → mg d.name = some (.ref a) → s₁.gens = #[] →
    ∀ (args : List WData) (vals : List Value) (as : List Addr), r.claim.pre args = true → WData.layableAll args = true → ReadsAllW r.records (classAt s₀.heap) s₁.heap vals args as → WellAll w.params s₁.heap vals args → (∀ a ∈ as, (a == sysModules) = false) →
      wpC (model r.prog w) callerA (run (.ref a) vals) (fun v s' => GoodWG r.claim (classAt s₀.heap) (ExcName.means s₀.heap) args s₁ (.ok (.ret v)) s')
        (fun e s' => GoodWG r.claim (classAt s₀.heap) (ExcName.means s₀.heap) args s₁ (.error e) s') s₁
theorem caller_cal : Cal (⟨.builtin "claim.caller" {}, none, none, [], none⟩ : Ctx) := by unfold Cal; rfl
theorem thread_endsC {prog : Program} {w : World} {t : Sem Fin} {s : Shared} {R : Result → Shared → Prop} {G : Prop} (hreg : s.asleep)
    (h : wpC (model prog w) callerA t (fun fin s' => ∃ f, fin = .done f ∧ (R (.ok f) s' ∧ leftWithCleanup s'.gens = false)) (fun e s' => R (.error e) s' ∧ leftWithCleanup s'.gens = false) s)
    (k : ∀ n r s' s'', runN (denote table) prog w n s ⟨t, .builtin "claim.caller" {}, default, []⟩ = .halted (outcomeOf r) s' →
      schedN (denote table) prog w n (.single s ⟨t, .builtin "claim.caller" {}, default, []⟩) = .halted (outcomeOf r) s' → s'.forget = s''.forget → R r s'' → G) : G := by
  obtain ⟨n, r, s₁, s₂, hs, hn, hfo, hR⟩ := wp_halts_full (M := model prog w) (R := R) hreg (Sem.wp_mono (model prog w) _ t (fun fin p' s' h' => by
    obtain ⟨f, rfl, hf⟩ := h'
    exact hf) (fun _ _ _ h' => h') default s (h _ default caller_in caller_cal))
  exact k n r s₂ s₁ hn hs hfo hR
theorem ends_map {α β γ δ : Type} {P0 P0' P1 P2 P3 P4 P4' P5 : α → Prop} {R0 R0' R1 R2 R3 R4 R5 R5' : β → γ → δ → Prop}
    (h : (∃ v, P0 v ∧ P1 v ∧ P2 v ∧ P3 v ∧ P4 v ∧ P5 v) ∨ (∃ e o c, R0 e o c ∧ R1 e o c ∧ R2 e o c ∧ R3 e o c ∧ R5 e o c ∧ R4 e o c)) (f0 : ∀ v, P0 v → P0' v) (f4 : ∀ v, P4 v → P4' v) (g0 : ∀ e o c, R0 e o c → R0' e o c) (g5 : ∀ e o c, R4 e o c → R5' e o c) :
    (∃ v, P0' v ∧ P1 v ∧ P2 v ∧ P3 v ∧ P4' v ∧ P5 v) ∨ (∃ e o c, R0' e o c ∧ R1 e o c ∧ R2 e o c ∧ R3 e o c ∧ R5 e o c ∧ R5' e o c) := by
  rcases h with ⟨v, h0, h1, h2, h3, h4, h5⟩ | ⟨e, o, c, h0, h1, h2, h3, h5, h4⟩
  · exact .inl ⟨v, f0 v h0, h1, h2, h3, f4 v h4, h5⟩
  · exact .inr ⟨e, o, c, g0 _ _ _ h0, h1, h2, h3, h5, g5 _ _ _ h4⟩
theorem callFromC {c : ClaimW} {tree : List Value → Sem Fin} {w : World} {s : Shared} {free : Addr → Prop} {gens : Prop} {kept : Heap → Prop} (hz : s.asleep) (hgens : s.gens = #[])
    (hspec : ∀ args, c.pre args = true → WData.layableAll args = true →
      ∀ ord : List DictEntry → List DictEntry, (∀ l, (ord l).Perm l) →
      ∃ vs s₁, layAllW c.records (classAt s.heap) w.params ord args s = some (vs, s₁) ∧
        wpC (model c.prog w) callerA (tree vs) (fun fin s' => ∃ f, fin = .done f ∧ (c.Ends s args vs s₁ (.ok f) s' ∧ s'.os = s.os ∧ AllBare s'.gens ∧ kept s'.heap))
          (fun e s' => c.Ends s args vs s₁ (.error e) s' ∧ s'.os = s.os ∧ AllBare s'.gens ∧ kept s'.heap) s₁) :
    c.CallFrom (fun vs => ⟨tree vs, .builtin "claim.caller" {}, default, []⟩) w free gens kept s := by
  intro args hpre hlay ord hord
  obtain ⟨vs, s₁, hlaid, hcode⟩ := hspec args hpre hlay ord hord
  have hal := layAllW_rest _ _ _ hlaid
  refine thread_endsC (prog := c.prog) (w := w) (t := tree vs) (s := s₁) (R := fun r s' => c.Ends s args vs s₁ r s' ∧ s'.os = s.os ∧ kept s'.heap)
    (Shared.asleep_of_life hal.2.2.2 hz)
    (wpC_mono hcode (fun fin s' ⟨f, e, h1, h2, h3, h4⟩ => ⟨f, e, ⟨h1, h2, h4⟩, leftWithCleanup_false_of_bare h3⟩) fun e s' ⟨h1, h2, h3, h4⟩ => ⟨⟨h1, h2, h4⟩, leftWithCleanup_false_of_bare h3⟩) fun k r s' s'' hrun hsched hfo hR => ?_
  refine ⟨vs, s₁, hlaid, k, _, s', hsched, ?_⟩
  obtain ⟨hcase, hos, hkp⟩ := hR
  obtain ⟨eh, _, _, eo, _⟩ := Shared.forget_eq hfo
  have hcase := hcase.congr eh
  rw [← eh] at hkp
  rw [← eo] at hos
  have hlife : s'.heap.life = s.heap.life := (runN_life _ _ _ hrun).trans hal.2.2.2
  refine ⟨?_, (fun _ i x hx => by rw [hgens] at hx; cases hx), hkp, by rw [hlife], Shared.rest_eq hos⟩
  exact ends_map hcase (fun v e => by rw [e]; rfl) (fun v d b o y _ => d b o y) (fun e ob cls q => by rw [q]; rfl) (fun e ob cls d b o y _ => d b o y)
/-- the head of an open row, its walk asked for under the claim's caller alone -/
theorem PySem.W.holds_open {r : OpenRow} {q : Program} {loose : List Str} {Xt : Shared → Bool} {XP : (Str → Option Value) → Heap → Prop} {α : Type} {Yf : Shared → α} {Ya : World → α} {YP : World → Heap → Prop} {d : DefRec} {kwd : List (Str × Expr)} {N : Nat}
    (left : LeftO r.prog q loose Xt Yf Ya N) (hY : ∀ w s, Yf s = Ya w → YP w s.heap) (hYk : ∀ w h h', YP w h → (∀ b o, h.get? b = some o → h'.get? b = some o) → YP w h')
    (hX : ∀ s, Xt s = true → XP (s.heap.nsMap mainGlobals) s.heap) (hXk : ∀ mg h h', XP mg h → (∀ b o, h.get? b = some o → h'.get? b = some o) → XP mg h')
    (hdef : defOf q r.name = some (d, kwd)) (hp : r.prog.theDef r.name = some (d.params, d.body, d.scope)) (hk : kwWritten? d.params.kwonlyargs d.params.kw_defaults = some kwd) (hRf : ∀ s, Xt s = true → RecFacts r.records s.heap) (hwr : (!r.writes || r.records.isEmpty) = true)
    (k1 : r.wellSaid = true) (ok : (chainsOk q && opensWell r.prog && (frees r.toRowW && r.within.isEmpty)) = true) (hb : r.prog.bare) (hw : r.toRowW.promised)
    (call : WalkC q loose XP YP r.toRowW d kwd fun f vs => PySem.call f vs) : r.Holds := by
  refine ⟨k1, hw, ?_⟩
  obtain ⟨ok, k5⟩ := Bool.and_eq_true_iff.mp ok
  obtain ⟨hch, o1⟩ := Bool.and_eq_true_iff.mp ok
  obtain ⟨k5, k6⟩ := Bool.and_eq_true_iff.mp k5
  obtain ⟨hsame, hu, ha, hap, hm⟩ := frees_parts k5
  refine ⟨⟨hb, o1, by show r.makers.map _ = []; rw [hm]; rfl⟩, hw.witness, fun w => ⟨(left.behind hX hch w).1, fun s' hs' => ?_⟩⟩
  obtain ⟨s₀, hf, hg0, s, hT, hz, hgens, hg, G00, y⟩ := (left.behind (XP := fun mg h => XP mg h ∧ RecFacts r.records h) (fun s hs => ⟨hX s hs, hRf s hs⟩) hch w).2 s' hs'
  have G0 : Ground q loose [] XP w s (s.heap.nsMap mainGlobals) (s.heap.nsMap builtinsNs) s.heap := ⟨G00.T, G00.B, G00.D, G00.TE, G00.TD, G00.W, G00.X.1, G00.cls, G00.has, G00.apart, G00.once, G00.K⟩
  have RF := G00.X.2
  have hT' := hT
  refine ⟨s₀, hf, hg0, s, hT, ?_, RF.1, RF.2.1, ?_⟩
  · intro n hn
    obtain rfl : n = r.name := by split at hn <;> simp_all
    exact pinned_of_view hg G0 hdef hp hk
  have hgens : s.gens = #[] := Array.eq_empty_of_size_eq_zero (beq_iff_eq.mp hgens)
  have G : Ground q loose r.records XP w s _ _ s.heap := RF.ground G0
  refine callFromC (c := r.toRowW.claim) (tree := fun vs => do match ← nsGet mainNs r.name with
      | some f => do ret (← PySem.call f vs)
      | none => unsupported "claim.caller:no-such-global") hz hgens fun args hpre hlay ord hord => ?_
  obtain ⟨⟨vs, s₁⟩, hlaid⟩ := Option.isSome_iff_exists.mp (layAllW_isSome (P := w.params) (ord := ord) G.has args r.args s (pre_splitW hpre).1)
  have keeps := layAllW_keeps _ _ _ hlaid
  have hal := layAllW_rest _ _ _ hlaid
  obtain ⟨as, hrd, hin, hold⟩ := reads_layAllW hord _ _ _ hlaid hlay s₁.heap (fun _ _ e => e)
  have L : Laid r.records w s s₁ args vs as := ⟨⟨ord, hord, hlaid⟩, hrd, hin, hold, keeps, hal.1.trans hgens, hal.2.2.1⟩
  have G₁ := G.keeps hXk keeps
  have hi := ident_freeW hu ha hap
  have hwi : r.toRowW.claim.within = [] := List.isEmpty_iff.mp k6
  obtain ⟨a, o, pm, cd, doc, dV, kV, h1, h2, h3, h4, h5⟩ := G₁.fn hdef
  have h := call w s s₁ _ _ G₁ (hYk _ _ _ (hY w s y) keeps) a o pm cd doc dV kV h2 h3 h4 h5 (defOf_name hdef ▸ h1) L.gens args vs as hpre hlay L.reads L.well (L.low G.low)
  refine ⟨vs, s₁, hlaid, wpC_bindA (wpAny_nsGet G₁.T.g ?_)⟩
  rw [show (s.heap.nsMap mainGlobals) r.name = some (.ref a) from h1]
  refine wpC_bind (wpC_mono h (fun v s' g => wpC_pure ?_) fun e s' g => ?_)
  · have z := g.laid (c := r.toRowW.claim) hsame hwi hi L
    exact ⟨_, rfl, z.1, z.2.1, z.2.2, fun q => ⟨namesKept_of hT' hg _ keeps g.2.1.old, noTable hwr q⟩⟩
  · have z := g.laid (c := r.toRowW.claim) hsame hwi hi L
    exact ⟨z.1, z.2.1, z.2.2, fun q => ⟨namesKept_of hT' hg _ keeps g.2.1.old, noTable hwr q⟩⟩
end Mine
end
section
open PySem PySem.W PyProof.Rows
namespace Mine
open_top hd for PySem.Challenge.rw_pa0029_03
end Mine
end
section
open PySem PySem.W PyProof.Rows
namespace Mine
@[reducible] noncomputable def prog : Program := RowW.prog (OpenRow.toRowW (OpenLaw.row PySem.Challenge.rw_pa0029_03))
@[reducible] noncomputable def KK (w : World) : Frag := Mine.hd.heap_39 w.params
@[reducible] noncomputable def view : Program := Mine.hd.view_39
@[reducible] noncomputable def loose : List Str := looseW Mine.hd.view_39
      [Str.ofString "Error_ftplib", Str.ofString "bytes_types", Str.ofString "Error_binascii",
        Str.ofString "a2b_base64", Str.ofString "b2a_base64", Str.ofString "b64encode", Str.ofString "b64decode"]
theorem fill : Mine.hd.heap_39 = Mine.hd.heap_39 ∧ PySem.Challenge.rw_pa0029_03 = PySem.Challenge.rw_pa0029_03 := by
  k_fill
  exact ⟨rfl, rfl⟩

theorem lower {α : Type} {M : Model} {A : Around} {t : Sem α} {Q : α → Shared → Prop} {E : Value → Shared → Prop} {s : Shared} (D U : Nat)
    (hd : A.depth ≤ D) (hu : A.units ≤ U) (h : wpAny M { A with depth := D, units := U } t Q E s) : wpAny M A t Q E s :=
  fun Γ p hΓ => h Γ p ⟨hΓ.1, Nat.le_trans hΓ.2.1 hd, hΓ.2.2.1, hΓ.2.2.2.1, Nat.le_trans hΓ.2.2.2.2 hu⟩

/-- what a callee owes at its end: all of the heap `g` that it was entered with stands, and its own objects are `own` -/
noncomputable def LeaveV (g h₀ : Heap) (L : Addr) (m : Str → Option Value) (news : List (Addr × Obj)) (R : Result → Shared → Prop) (v : Value) (s' : Shared) : Prop :=
  ∃ L' m' own, Fr g L' s'.heap m' ∧ News g L' s'.heap own ∧ (Fr h₀ L s'.heap m → News h₀ L s'.heap (own ++ news) → (∀ q ∈ news, ∀ p ∈ own, q.1 ≠ p.1) → R (.ok (.ret v)) s')

theorem enterV {K : Frag} {prog : Program} {w : World} {A₀ A : Around} {s : Shared} {base h₀ : Heap} {outer : List Env} {L : Addr} {m mg mb : Str → Option Value} {env : Env} {news : List (Addr × Obj)} {p : Program} {loose : List Str} {mean : ExcName → Option Value}
    {R : Result → Shared → Prop} {name qual : Str} {params : Arguments} {body : List Stmt} {scope : Scope} {dV kV doc pm cdv ct oc : Value} {an od : Option Addr} {osl : Array (Option Value)} {f : Addr} {args : Args} {binds : List (Str × Value)}
    (B : Below A₀ base outer h₀) (F : Fr h₀ L s.heap m) (X₀ : K.In h₀) (N : News h₀ L s.heap news) (T : Top p loose mean mg mb h₀) (hA : A.frames = some (env :: outer)) (hf : env.frame = some L) (hke : env.scope.kind = .function)
    (ho : K.lookup f = some ⟨oc, od, .func (fnOf name qual params body scope dV kV doc pm an cdv ct), osl⟩) (hcd : codeIn K cdv qual = true) (hroom : A.depth < recursionLimit)
    (hbind : BindsTo s (fnOf name qual params body scope dV kV doc pm an cdv ct) args binds) (hloc : ∀ y ∈ binds, scope.names.lookup y.1 = some .local)
    (h : ∀ L' h₁, Fr s.heap L' h₁ (fun y => binds.reverse.lookup y) → News s.heap L' h₁ [] → Below A base (env :: outer) s.heap → K.In s.heap → Top p loose mean mg mb s.heap →
      wpAny (model prog w) (A.deeper (envOf qual scope L' f cdv)) (execs body (envOf qual scope L' f cdv))
        (fun fl s' => LeaveV s.heap h₀ L m news R (match fl with | .ret v => v | _ => .none) s')
        (fun e s' => wpAny (model prog w) (A.deeper (envOf qual scope L' f cdv)) (leaving (envOf qual scope L' f cdv) e) (fun _ s'' => R (.error e) s'') (fun e' s'' => R (.error e') s'') s')
        { s with heap := h₁, toks := s.toks + binds.length })
    (hco : scope.isCoroutine = false) (hgen : scope.isGenerator = false) (hk : scope.kind = .function)
    (hcell : ∀ x ∈ scope.names, x.2 ≠ .cell) : codeAny (model prog w) A (.call (.ref f) args) R s := by
  have BG : Below A base (env :: outer) s.heap := ⟨hA, fun b o e => F.keep b o (B.stays b o e), (pushX B F hf hke).frames⟩
  refine codeAny_call_def (fd := fnOf name qual params body scope dV kV doc pm an cdv ct) (body := body) (binds := binds) hroom ((X₀.keeps F.keep) _ _ ho) rfl (T.nolimit.keeps F.keep) (codeRec_of (X₀.keeps F.keep) hcd) rfl hbind hcell hloc (fun h₁ hns hk₁ => ?_) hco hgen hk
  refine wpAny_mono (h _ h₁ ⟨hns, hk₁, Nat.le_refl _⟩ News.nil BG (X₀.keeps F.keep) (T.keeps F.keep)) (fun fl s' hl => ?_) fun _ _ y => y
  obtain ⟨L', m', own, F', N', k⟩ := hl
  obtain ⟨oL, es, ep, hL, hLd, hLk, hLf⟩ := F.ns
  refine k ⟨⟨oL, es, ep, F'.keep L oL hL, hLd, hLk, hLf⟩, fun b o e => F'.keep b o (F.keep b o e), F.above⟩ ?_ ?_
  · intro q hq
    rcases List.mem_append.mp hq with hq | hq
    · refine ⟨(N' q hq).1, fun e => ?_, ?_⟩
      · have := (N' q hq).2.2
        rw [e, hL] at this
        cases this
      · cases e : h₀.get? q.1 with
        | none => rfl
        | some o =>
          have := (N' q hq).2.2
          rw [F.keep _ _ e] at this
          cases this
    · exact ⟨F'.keep _ _ (N q hq).1, (N q hq).2.1, (N q hq).2.2⟩
  · intro q hq q' hq' e
    have h2 := (N' q' hq').2.2
    rw [← e, (N q hq).1] at h2
    cases h2

/-- the caller's side of a callee's end -/
theorem leave_back {h₀ : Heap} {L : Addr} {m : Str → Option Value} {news : List (Addr × Obj)} {s s' : Shared} {R : Result → Shared → Prop} {v : Value} (F : Fr h₀ L s.heap m) (N : News h₀ L s.heap news)
    (hl : LeaveV s.heap h₀ L m news R v s') : R (.ok (.ret v)) s' := by
  obtain ⟨L', m', own, F', N', k⟩ := hl
  obtain ⟨oL, es, ep, hL, hLd, hLk, hLf⟩ := F.ns
  refine k ⟨⟨oL, es, ep, F'.keep L oL hL, hLd, hLk, hLf⟩, fun b o e => F'.keep b o (F.keep b o e), F.above⟩ ?_ ?_
  · intro q hq
    rcases List.mem_append.mp hq with hq | hq
    · refine ⟨(N' q hq).1, fun e => ?_, ?_⟩
      · have := (N' q hq).2.2
        rw [e, hL] at this
        cases this
      · cases e : h₀.get? q.1 with
        | none => rfl
        | some o =>
          have := (N' q hq).2.2
          rw [F.keep _ _ e] at this
          cases this
    · exact ⟨F'.keep _ _ (N q hq).1, (N q hq).2.1, (N q hq).2.2⟩
  · intro q hq q' hq' e
    have h2 := (N' q' hq').2.2
    rw [← e, (N q hq).1] at h2
    cases h2

/-- a contract: the call of the def at `f`, at a depth of at most `D`, gives back `R t` (a value that lies in no heap), and the caller's frame and ledger stand -/
@[reducible] def Ctr (D : Nat) (w : World) (mean : ExcName → Option Value) (mg mb : Str → Option Value) (f : Addr) (news : List (Addr × Obj)) (vs : List Value) (kw : List (Str × Value)) (R : Tok → Value) : Prop :=
  ∀ (dp un : Nat) (gd : Option (List Code)) (cn : Str) (cs : Scope) (a : Addr) (ccd : Value) (cl : List (Str × Addr)) (outer : List Env) (A₀ : Around) (base h₀ : Heap) (L : Addr) (m : Str → Option Value) (s : Shared) (Q E : Value → Shared → Prop),
    Below A₀ base outer h₀ → Fr h₀ L s.heap m → (KK w).In h₀ → News h₀ L s.heap news → Top view loose mean mg mb h₀ → cs.kind = .function → dp ≤ D → un ≤ 4 * D →
    (∀ (t : Tok) (h' : Heap) (tk' : Nat), Fr h₀ L h' m → News h₀ L h' news → Q (R t) { s with heap := h', toks := tk' }) →
    wpAny (model prog w) (ktrTop dp un gd cn cs L a ccd cl outer) (call (.ref f) vs kw) Q E s

theorem use_ctr {D : Nat} {w : World} {mean : ExcName → Option Value} {mg mb : Str → Option Value} {f : Addr} {news : List (Addr × Obj)} {vs : List Value} {kw : List (Str × Value)} {R : Tok → Value} (C : Ctr D w mean mg mb f news vs kw R)
    {dp un : Nat} {gd : Option (List Code)} {cn : Str} {cs : Scope} {a : Addr} {ccd : Value} {cl : List (Str × Addr)} {outer : List Env} {A₀ : Around} {base h₀ : Heap} {L : Addr} {m : Str → Option Value} {s : Shared} {Q E : Value → Shared → Prop}
    (B : Below A₀ base outer h₀) (F : Fr h₀ L s.heap m) (X : (KK w).In h₀) (N : News h₀ L s.heap news) (T : Top view loose mean mg mb h₀) (hk : cs.kind = .function) (hd : dp ≤ D) (hu : un ≤ 4 * D)
    (ret : ∀ (t : Tok) (h' : Heap) (tk' : Nat), Fr h₀ L h' m → News h₀ L h' news → Q (R t) { s with heap := h', toks := tk' }) :
    wpAny (model prog w) (ktrTop dp un gd cn cs L a ccd cl outer) (call (.ref f) vs kw) Q E s := C _ _ _ _ _ _ _ _ _ _ _ _ _ _ _ _ _ B F X N T hk hd hu ret

theorem leaveV_val {g h₀ : Heap} {L L' : Addr} {m m' : Str → Option Value} {news : List (Addr × Obj)} {R : Result → Shared → Prop} {v : Value} {s' : Shared} (F' : Fr g L' s'.heap m') (k : Fr h₀ L s'.heap m → News h₀ L s'.heap news → R (.ok (.ret v)) s') :
    LeaveV g h₀ L m news R v s' := ⟨L', m', [], F', News.nil, fun F N _ => k F N⟩
section
variable {prog : Program} {M : Model} {w : World} {A : Around} {E Q : Value → Shared → Prop} {env : Env} {h : Heap} {g : Array GenState} {d : Drawn} {k n : Nat} {o : OsState} {i a b : Int} {t u : Tok} {x : Str} {pos : Pos}
/-- the library's steps, the state written out: it isn't nested -/
theorem nI (h9 : Q (.int i k) ⟨h, g, d, k + 1, o⟩) : wpAny M A (eval (.Constant (.int i) n pos) env) Q E ⟨h, g, d, k, o⟩ := wpAny_Constant_int h9
theorem nS (h9 : Q (.str x k) ⟨h, g, d, k + 1, o⟩) : wpAny M A (eval (.Constant (.str x) n pos) env) Q E ⟨h, g, d, k, o⟩ := Calls.Constant_str h9
theorem nAdd (h9 : Q (.int (a + b) k) ⟨h, g, d, k + 1, o⟩) : wpAny (model prog w) A (binaryOp .Add (.int a t) (.int b u)) Q E ⟨h, g, d, k, o⟩ := add_int h9
theorem nSub (h9 : Q (.int (a - b) k) ⟨h, g, d, k + 1, o⟩) : wpAny (model prog w) A (binaryOp .Sub (.int a t) (.int b u)) Q E ⟨h, g, d, k, o⟩ := sub_int h9
theorem nAnd (h9 : Q (.int (Builtin.bitAnd a b) k) ⟨h, g, d, k + 1, o⟩) : wpAny (model prog w) A (binaryOp .BitAnd (.int a t) (.int b u)) Q E ⟨h, g, d, k, o⟩ := and_int h9
theorem nOr (h9 : Q (.int (Builtin.bitOr a b) k) ⟨h, g, d, k + 1, o⟩) : wpAny (model prog w) A (binaryOp .BitOr (.int a t) (.int b u)) Q E ⟨h, g, d, k, o⟩ := or_int h9
end
end Mine
end
section
open PySem PySem.W PyProof.Rows
namespace Mine
theorem fill_Mini : Mine.hd.heap_39 = Mine.hd.heap_39 ∧ PySem.Challenge.rw_pa0029_03 = PySem.Challenge.rw_pa0029_03 := by
  w_top off
  try (walk1; fail)
  k_fill
  exact ⟨rfl, rfl⟩

/-- a frame with one name set -/
noncomputable def upd (m : Str → Option Value) (x : Str) (v : Value) : Str → Option Value := fun y => if y = x then some v else m y
theorem fr_gen {h₀ h : Heap} {L : Addr} {m : Str → Option Value} (F : Fr h₀ L h m) : ∃ m', m' = m ∧ Fr h₀ L h m' := ⟨m, rfl, F⟩
theorem eqv {m m' : Str → Option Value} (e : m' = m) {x : Str} {v : Value} (h : m x = some v) : m' x = some v := e ▸ h
/-- an environment of a function, by what the steps below want of it -/
noncomputable def Loc (cs : Scope) (L : Addr) (env : Env) : Prop := env.scope = cs ∧ cs.kind = .function ∧ env.locals = L
inductive AtH (h₀ : Heap) (s₁ : Shared) (L : Addr) (m : Str → Option Value) (led : List (Addr × Obj)) (s' : Shared) : Prop
  | mk (h : Heap) (tk : Nat) (_ : s' = { s₁ with heap := h, toks := tk }) (_ : Fr h₀ L h m) (_ : News h₀ L h led) : AtH h₀ s₁ L m led s'
/-- an expression that gives `v`, changes nothing but the count of marks, and is none of the odd forms -/
noncomputable def VE (cs : Scope) (m : Str → Option Value) (e : Expr) (P : Value → Prop) : Prop :=
  (∀ t l env, swapsWith e t l env = pure false) ∧ (∀ r env, starEach (e :: r) env = (false, eval e env) :: starEach r env) ∧ (∀ op, behindInMarks op e = false) ∧
  ∀ {prog : Program} {w : World} {A : Around} {E : Value → Shared → Prop} {L : Addr} {env : Env} {h₀ : Heap} {s : Shared} {Q : Value → Shared → Prop}, Loc cs L env → Fr h₀ L s.heap m → (∀ v k, P v → Q v { s with toks := k }) → wpAny (model prog w) A (eval e env) Q E s
noncomputable def IsInt (i : Int) (v : Value) : Prop := ∃ t, v = .int i t
@[reducible] noncomputable def IE (cs : Scope) (m : Str → Option Value) (e : Expr) (i : Int) : Prop := VE cs m e (IsInt i)
/-- what is known after a statement is cut down to a claim of its own -/
noncomputable def CutA (I : Shared → Prop) (f : Flow) (s : Shared) : Prop := f = .next ∧ I s
/-- tests upon such -/
noncomputable def CE (cs : Scope) (m : Str → Option Value) (e : Expr) (b : Bool) : Prop :=
  ∀ {prog : Program} {w : World} {A : Around} {E : Value → Shared → Prop} {L : Addr} {env : Env} {h₀ : Heap} {s : Shared} {Q : Bool → Shared → Prop}, Loc cs L env → Fr h₀ L s.heap m → (∀ k, Q b { s with toks := k }) → wpAny (model prog w) A (isTrue e env (eval e env)) Q E s
section
variable {cs : Scope} {m : Str → Option Value} {a b : Expr} {p : Pos} {x y : Int} {k : Nat}
theorem IE.const : IE cs m (.Constant (.int x) k p) x := ⟨fun _ _ _ => rfl, fun _ _ => rfl, fun op => by cases op <;> rfl, fun _ _ hQ => wpAny_Constant_int (hQ _ _ ⟨_, rfl⟩)⟩
theorem VE.name {n : Str} {v : Value} (h1 : cs.names.lookup n = some .local) (h2 : (n == ("__debug__" : Str)) = false) (h3 : m n = some v) : VE cs m (.Name n p) (fun v' => v' = v) :=
  ⟨fun _ _ _ => rfl, fun _ _ => rfl, fun op => by cases op <;> rfl, fun {_ _ _ _ L env _ s _} V F hQ => by
    obtain ⟨rfl, fn, rfl⟩ := V
    exact wpAny_Name (wpAny_loadName_local fn h1 F.ns h3 (hQ _ s.toks rfl)) h2⟩
theorem VE.mono {P P' : Value → Prop} (h : VE cs m a P) (hp : ∀ v, P v → P' v) : VE cs m a P' := ⟨h.1, h.2.1, h.2.2.1, fun V F hQ => h.2.2.2 V F fun v k hv => hQ v k (hp v hv)⟩
theorem IE.name {n : Str} {t : Tok} (h3 : m n = some (.int x t)) (h1 : cs.names.lookup n = some .local := by rfl) (h2 : (n == ("__debug__" : Str)) = false := by rfl) : IE cs m (.Name n p) x := (VE.name h1 h2 h3).mono fun _ h => ⟨t, h⟩
theorem IE.bin {op : Operator} {z : Int} (ha : IE cs m a x) (hb : IE cs m b y) (ho : ∀ {prog : Program} {w : World} {A : Around} {E : Value → Shared → Prop} {s : Shared} {t u : Tok} {Q : Value → Shared → Prop}, Q (.int z s.toks) { s with toks := s.toks + 1 } → wpAny (model prog w) A (binaryOp op (.int x t) (.int y u)) Q E s) : IE cs m (.BinOp a op b p) z :=
  ⟨fun _ _ _ => rfl, fun _ _ => rfl, fun op => by cases op <;> rfl, fun V F hQ => wpAny_BinOp (ha.2.2.2 V F fun _ _ h1 => hb.2.2.2 V F fun _ _ h2 => by
    obtain ⟨t, rfl⟩ := h1
    obtain ⟨u, rfl⟩ := h2
    exact ho (hQ _ _ ⟨_, rfl⟩))⟩
theorem IE.add (ha : IE cs m a x) (hb : IE cs m b y) : IE cs m (.BinOp a .Add b p) (x + y) := ha.bin hb fun h => PyProof.Rows.add_int h
theorem IE.sub (ha : IE cs m a x) (hb : IE cs m b y) : IE cs m (.BinOp a .Sub b p) (x - y) := ha.bin hb fun h => PyProof.Rows.sub_int h
theorem IE.and (ha : IE cs m a x) (hb : IE cs m b y) : IE cs m (.BinOp a .BitAnd b p) (Builtin.bitAnd x y) := ha.bin hb fun h => and_int h
theorem IE.or (ha : IE cs m a x) (hb : IE cs m b y) : IE cs m (.BinOp a .BitOr b p) (Builtin.bitOr x y) := ha.bin hb fun h => or_int h
theorem IE.shl (ha : IE cs m a x) (hb : IE cs m b (k : Int)) (h1 : (k : Int) ≤ 1000000) (h2 : x.natAbs < 2 ^ 64) : IE cs m (.BinOp a .LShift b p) (x * 2 ^ k) := ha.bin hb fun h => lshift_int_small (Int.natCast_nonneg _) h1 h2 h
theorem IE.shr (ha : IE cs m a x) (hb : IE cs m b (k : Int)) : IE cs m (.BinOp a .RShift b p) (x.fdiv (2 ^ k)) := ha.bin hb fun h => rshift_int (Int.natCast_nonneg _) h
theorem CE.cmp {op : CmpOp} {c : Bool} (ha : IE cs m a x) (hb : IE cs m b y) (ho : ∀ {prog : Program} {w : World} {A : Around} {E : Value → Shared → Prop} {s : Shared} {t u : Tok} {Q : Value → Shared → Prop}, Q (.bool c) s → wpAny (model prog w) A (compareOp op (.int x t) (.int y u)) Q E s) : CE cs m (.Compare a [op] [b] p) c :=
  fun V F hQ => wpAny_isTrue_Compare1 (ha.2.2.2 V F fun _ _ h1 => hb.2.2.2 V F fun _ k h2 => by
    obtain ⟨t, rfl⟩ := h1
    obtain ⟨u, rfl⟩ := h2
    exact ho (wpAny_truthy_bool (hQ k))) (hb.2.2.1 op)
theorem CE.eq (ha : IE cs m a x) (hb : IE cs m b y) : CE cs m (.Compare a [.Eq] [b] p) (x == y) := CE.cmp ha hb fun h => PyProof.Rows.eq_int h
theorem CE.ge (ha : IE cs m a x) (hb : IE cs m b y) : CE cs m (.Compare a [.GtE] [b] p) (decide (y ≤ x)) := CE.cmp ha hb fun h => PyProof.Rows.ge_int h
theorem CE.range {c : Expr} {z : Int} (ha : IE cs m a x) (hb : IE cs m b y) (hc : IE cs m c z) : CE cs m (.Compare a [.LtE, .LtE] [b, c] p) (decide (x ≤ y) && decide (y ≤ z)) :=
  fun V F hQ => isTrue_chain (ha.2.2.2 V F fun _ _ h1 => test_link (hb.2.2.2 V F fun _ _ h2 => by
    obtain ⟨t, rfl⟩ := h1
    obtain ⟨u, rfl⟩ := h2
    refine PyProof.Rows.le_int (wpAny_truthy_bool ?_)
    revert hQ
    cases decide (x ≤ y) with
    | false => exact fun hQ => hQ _
    | true => exact fun hQ => test_last (hc.2.2.2 V F fun _ _ h3 => by
        obtain ⟨r, rfl⟩ := h3
        exact PyProof.Rows.le_int (wpAny_truthy_bool (hQ _))))) (hc.2.2.1 .LtE)
theorem CE.ne (ha : IE cs m a x) (hb : IE cs m b y) : CE cs m (.Compare a [.NotEq] [b] p) (x != y) := CE.cmp ha hb fun h => PyProof.Rows.ne_int h
theorem CE.and_no {r : List Expr} {c : Bool} (h : CE cs m a c) (hc : c = false) : CE cs m (.BoolOp .And (a :: r) p) false := fun V F hQ => isTrue_and (h V F fun k => by subst hc; exact hQ k)
theorem CE.bool {n : Str} {c : Bool} (h3 : m n = some (.bool c)) (h1 : cs.names.lookup n = some .local := by rfl) (h2 : (n == ("__debug__" : Str)) = false := by rfl) : CE cs m (.Name n p) c :=
  fun V F hQ => isTrue_plain ((VE.name h1 h2 h3).2.2.2 V F fun _ k h => by subst h; exact wpAny_truthy_bool (hQ k))
theorem CE.no {n : Str} {q : Pos} {t : Tok} {r : List Expr} (h3 : m n = some (.int 0 t)) (h1 : cs.names.lookup n = some .local := by rfl) (h2 : (n == ("__debug__" : Str)) = false := by rfl) : CE cs m (.BoolOp .And (.Name n q :: r) p) false :=
  fun V F hQ => isTrue_and (isTrue_plain ((IE.name h3 h1 h2).2.2.2 V F fun _ k h => by
    obtain ⟨u, rfl⟩ := h
    exact truthy_int (hQ k)))
end
section
variable {prog : Program} {w : World} {A : Around} {E : Value → Shared → Prop} {cs : Scope} {L : Addr} {env : Env} {m : Str → Option Value} {h₀ : Heap}
/-- what comes after a block -/
noncomputable def Aft (prog : Program) (w : World) (A : Around) (E : Value → Shared → Prop) (env : Env) (rest : List Stmt) (Q : Flow → Shared → Prop) (f : Flow) (s' : Shared) : Prop := match f with | .next => wpAny (model prog w) A (execs rest env) Q E s' | f => Q f s'
variable {s₁ s : Shared} {led : List (Addr × Obj)} {rest body orelse : List Stmt} {Q : Flow → Shared → Prop} {x : Str} {p pos : Pos} {e : Expr} {v : Int}
theorem run_nil (h : wpAny (model prog w) A (execs rest env) Q E s) : wpAny (model prog w) A (execs [] env) (Aft prog w A E env rest Q) E s := wpAny_execs_nil h
theorem aft_ret {v : Value} (h : Q (.ret v) s) : Aft prog w A E env rest Q (.ret v) s := h
theorem run_set (V : Loc cs L env) (hA : AtH h₀ s₁ L m led s) (he : IE cs m e v) (k : ∀ t s', AtH h₀ s₁ L (upd m x (.int v t)) led s' → wpAny (model prog w) A (execs rest env) Q E s') (hx : cs.names.lookup x = some .local := by rfl) :
    wpAny (model prog w) A (execs (.Assign [.Name x p] e pos :: rest) env) Q E s := by
  obtain ⟨h, tk, rfl, F, N⟩ := hA
  have V' := V
  obtain ⟨rfl, fn, rfl⟩ := V
  refine wpAny_execs_cons (wpAny_Assign_Name (he.2.2.2 V' F fun v u hv => ?_) (he.1 _ _ _))
  obtain ⟨t, rfl⟩ := hv
  exact wpAny_storeName_local hx F.ns (fun h' hn hs => k t _ ⟨h', _, rfl, F.set hn hs, N.set hs⟩) (by rw [fn]; rfl)
theorem run_if (V : Loc cs L env) (hA : AtH h₀ s₁ L m led s) {b : Bool} (hc : CE cs m e b)
    (k : ∀ s', AtH h₀ s₁ L m led s' → if b then wpAny (model prog w) A (execs body env) (Aft prog w A E env rest Q) E s' else wpAny (model prog w) A (execs orelse env) (Aft prog w A E env rest Q) E s') :
    wpAny (model prog w) A (execs (.If e body orelse pos :: rest) env) Q E s := by
  obtain ⟨h, tk, rfl, F, N⟩ := hA
  exact wpAny_execs_cons (wpAny_If (hc V F fun u => k _ ⟨h, u, rfl, F, N⟩))
theorem run_if_t (V : Loc cs L env) (hA : AtH h₀ s₁ L m led s) {b : Bool} (hc : CE cs m e b) (hb : b = true)
    (k : ∀ s', AtH h₀ s₁ L m led s' → wpAny (model prog w) A (execs body env) (Aft prog w A E env rest Q) E s') :
    wpAny (model prog w) A (execs (.If e body orelse pos :: rest) env) Q E s := run_if V hA hc fun s' h => by rw [if_pos hb]; exact k s' h
theorem run_if_f (V : Loc cs L env) (hA : AtH h₀ s₁ L m led s) {b : Bool} (hc : CE cs m e b) (hb : b = false)
    (k : ∀ s', AtH h₀ s₁ L m led s' → wpAny (model prog w) A (execs orelse env) (Aft prog w A E env rest Q) E s') :
    wpAny (model prog w) A (execs (.If e body orelse pos :: rest) env) Q E s := run_if V hA hc fun s' h => by subst hb; exact k s' h
theorem run_if2 (V : Loc cs L env) (hA : AtH h₀ s₁ L m led s) {b : Bool} (hc : CE cs m e b) (kt : b = true → ∀ s', AtH h₀ s₁ L m led s' → wpAny (model prog w) A (execs body env) (Aft prog w A E env rest Q) E s')
    (kf : b = false → ∀ s', AtH h₀ s₁ L m led s' → wpAny (model prog w) A (execs orelse env) (Aft prog w A E env rest Q) E s') : wpAny (model prog w) A (execs (.If e body orelse pos :: rest) env) Q E s :=
  run_if V hA hc fun s' h => by
    cases b with
    | true => exact kt rfl s' h
    | false => exact kf rfl s' h
theorem run_app (V : Loc cs L env) {vs : List Value} {nn : Nat} {own : List (Addr × Obj)} {D : Addr} {p1 p2 p3 : Pos} (hA : AtH h₀ s₁ L m ((D, listOf vs.toArray nn) :: own) s) (he : IE cs m e v) (hm : m x = some (.ref D)) (hoff : ∀ q ∈ own, q.1 ≠ D) (hl : vs.length ≤ 4000)
    (k : ∀ t s', AtH h₀ s₁ L m ((D, listOf (vs ++ [Value.int v t]).toArray (nn + 1)) :: own) s' → wpAny (model prog w) A (execs rest env) Q E s') (hx : cs.names.lookup x = some .local := by rfl) (hd : (x == ("__debug__" : Str)) = false := by rfl) (hp : (p2.endLine == p3.line) = true := by rfl) :
    wpAny (model prog w) A (execs (.Expr (.Call (.Attribute (.Name x p1) (Str.ofString "append") p2) [e] [] p3) pos :: rest) env) Q E s := by
  obtain ⟨h, tk, rfl, F, N⟩ := hA
  obtain ⟨h1, h2, _, h4⟩ := he
  have hpos : methodCallPos true (.Name x p1) env p2 p3 = pure p3 := by unfold methodCallPos; rw [hp]; rfl
  refine wpAny_execs_cons (wpAny_Expr_any (MethodCall_ (pl := do return (← importBound (.Name x p1) env).getD true) ((VE.name hx hd hm).2.2.2 V F fun _ _ e => ?_) ?_) (by unfold interactive; rw [V.1, V.2.1]; rfl))
  · subst e
    refine listMethod_K N (.head _) PySem.F.slot_list_append PySem.F.type_list_append (callWith_method1 (args_cons (h4 V F fun v u hv => args_nil ?_) (h2 _ _)) (h2 _ _))
    obtain ⟨t, rfl⟩ := hv
    refine append_K F N (.head hoff) (fun h' F' N' => ?_) (by rw [sizeLine_eq, List.size_toArray]; (first | lia | omega))
    rw [List.push_toArray] at N'
    exact k t _ ⟨h', u, rfl, F', N'⟩
  · show (do
      let ov ← eval (.Name x p1) env
      standAt p2.atName
      methodCall (.Name x p1) (Str.ofString "append") p2 p3 env ov 1 (backTo p3 (starEach [e] env)) (backToKw p3 (keywordEach [] env))) = _
    unfold methodCall
    rw [h2, show methodCallForm 1 (backTo p3 ((false, eval e env) :: starEach [] env)) (backToKw p3 (keywordEach [] env)) = true from rfl, hpos]
    rfl
theorem run_cut {M : Model} {st : Stmt} (I : Shared → Prop) (first : wpAny M A (exec st env) (CutA I) E s) (k : ∀ s', I s' → wpAny M A (execs rest env) Q E s') : wpAny M A (execs (st :: rest) env) Q E s :=
  wpAny_execs_cons (wpAny_mono first (fun f s' h => by obtain ⟨rfl, h⟩ := h; exact k s' h) fun _ _ e => e)
theorem ints_snoc {vs : List Value} {ns : List Int} {k : Int} {t : Tok} (h : IntsAre vs ns) : IntsAre (vs ++ [Value.int k t]) (ns ++ [k]) := IntsAre.append h (.cons _ _ .nil)
theorem nat64 {c : Int} (h0 : 0 ≤ c) (h1 : c < 65536) : c.natAbs < 2 ^ 64 := by lia
theorem loc_of {cn : Str} {a : Addr} {cd : Value} (h : cs.kind = .function := by rfl) : Loc cs L (envOf cn cs L a cd) := ⟨rfl, h, rfl⟩
/-- a return of a whole number -/
theorem run_ret (V : Loc cs L env) (hA : AtH h₀ s₁ L m led s) (he : IE cs m e v) (k : ∀ t s', AtH h₀ s₁ L m led s' → Q (.ret (.int v t)) s') : wpAny (model prog w) A (execs (.Return (some e) pos :: rest) env) Q E s := by
  obtain ⟨h, tk, rfl, F, N⟩ := hA
  refine wpAny_execs_cons (wpAny_Return_some (he.2.2.2 V F fun v' u hv => ?_))
  obtain ⟨t, rfl⟩ := hv
  exact k t _ ⟨h, u, rfl, F, N⟩
theorem leaveE {g h₀ : Heap} {L L' : Addr} {m m' : Str → Option Value} {news : List (Addr × Obj)} {R : Result → Shared → Prop} {V : Value} {s s' : Shared} (hA : AtH g s L' m' [] s')
    (k : ∀ h' tk', Fr h₀ L h' m → News h₀ L h' news → R (.ok (.ret V)) { s with heap := h', toks := tk' }) : LeaveV g h₀ L m news R V s' := by
  obtain ⟨h, tk, rfl, F, N⟩ := hA
  exact leaveV_val F fun F9 N9 => k _ _ F9 N9
/-- the end of a call, by such a state -/
theorem leaveA {g h₀ : Heap} {L L' : Addr} {m m' : Str → Option Value} {news : List (Addr × Obj)} {R : Result → Shared → Prop} {x y : Int} {t : Tok} {s s' : Shared} (hA : AtH g s L' m' [] s') (e : y = x)
    (k : ∀ t h' tk', Fr h₀ L h' m → News h₀ L h' news → R (.ok (.ret (.int x t))) { s with heap := h', toks := tk' }) : LeaveV g h₀ L m news R (.int y t) s' := by
  obtain ⟨h, tk, rfl, F, N⟩ := hA
  subst e
  exact leaveV_val F fun F9 N9 => k _ _ _ F9 N9
theorem gen_env {M : Model} {P : Around → Env → Prop} (h : P A env) (k : ∀ A' env', P A' env' → wpAny M A' (execs body env') Q E s) : wpAny M A (execs body env) Q E s := k _ _ h
theorem run_call {M : Model} {st : Stmt} (hA : AtH h₀ s₁ L m led s) (x : Str) (v : Int) (first : wpAny M A (exec st env) (CutA fun s' => ∃ t, AtH h₀ s₁ L (upd m x (.int v t)) led s') E s) (k : ∀ t s', AtH h₀ s₁ L (upd m x (.int v t)) led s' → wpAny M A (execs rest env) Q E s') : wpAny M A (execs (st :: rest) env) Q E s :=
  wpAny_execs_cons (wpAny_mono first (fun f s' h => by obtain ⟨rfl, t, h⟩ := h; exact k t s' h) fun _ _ e => e)
/-- while test: body, turned `n` times -/
theorem run_while (V : Loc cs L env) (hE : PassesOwn (model prog w) A env E) {D : Addr} {own : List (Addr × Obj)} (J : Nat → (Str → Option Value) → Obj → Prop) (n : Nat) {o : Obj} (hj : J n m o) (hA : AtH h₀ s₁ L m ((D, o) :: own) s)
    (go : ∀ k m o, J (k + 1) m o → ∃ b, CE cs m e b ∧ b = true) (stop : ∀ m o, J 0 m o → ∃ b, CE cs m e b ∧ b = false)
    (turn : ∀ k m o s', J (k + 1) m o → AtH h₀ s₁ L m ((D, o) :: own) s' → wpAny (model prog w) A (execs body env) (CutA fun s'' => ∃ m' o', J k m' o' ∧ AtH h₀ s₁ L m' ((D, o') :: own) s'') E s')
    (done : ∀ m o s', J 0 m o → AtH h₀ s₁ L m ((D, o) :: own) s' → wpAny (model prog w) A (execs rest env) Q E s') : wpAny (model prog w) A (execs (.While e body [] pos :: rest) env) Q E s := by
  refine wpAny_execs_cons (whl_start (n + 1) ?_)
  induction n generalizing m o s with
  | zero =>
    obtain ⟨h, tk, rfl, F, N⟩ := hA
    obtain ⟨b, hc, hb⟩ := stop m o hj
    exact whl_turn hE (hc V F fun u => .no hb (wpAny_execs_nil (done m o _ hj ⟨h, u, rfl, F, N⟩)))
  | succ k ih =>
    obtain ⟨h, tk, rfl, F, N⟩ := hA
    obtain ⟨b, hc, hb⟩ := go k m o hj
    exact whl_turn hE (hc V F fun u => .yes hb (wpAny_mono (turn k m o _ hj ⟨h, u, rfl, F, N⟩) (fun f s' hf => by obtain ⟨rfl, m', o', h1, h2⟩ := hf; exact ih h1 h2) fun _ _ e => e))
/-- for x in y: body, where y is a name that holds octets; the own list's object `o` at `D` is all that the loop may change but the frame -/
theorem run_bytes (V : Loc cs L env) (hh : A.handled = none) {b : Array UInt8} {tb : Tok} {D : Addr} {o₀ : Obj} {m₀ : Str → Option Value} {y : Str} {py : Pos} (J : List Int → (Str → Option Value) → Obj → Prop)
    (hA : AtH h₀ s₁ L m₀ [(D, o₀)] s) (hy : m₀ y = some (.bytes b tb)) (hE : PassesOwn (model prog w) A env E) (hj : J [] m₀ o₀)
    (turn : ∀ pre n t m o own s', pre.length < b.size → n ∈ KBw.bInts b → 0 ≤ n → n < 256 → (∀ q ∈ own, q.1 ≠ D) → J pre m o → AtH h₀ s₁ L (upd m x (.int n t)) ((D, o) :: own) s' →
      wpAny (model prog w) A (execs body env) (CutA fun s'' => ∃ m' o', J (pre ++ [n]) m' o' ∧ AtH h₀ s₁ L m' ((D, o') :: own) s'') E s')
    (done : ∀ m o s', J (KBw.bInts b) m o → AtH h₀ s₁ L m [(D, o)] s' → wpAny (model prog w) A (execs rest env) Q E s')
    (hx : cs.names.lookup x = some .local := by rfl) (hx2 : cs.names.lookup y = some .local := by rfl) (hd : (y == ("__debug__" : Str)) = false := by rfl) :
    wpAny (model prog w) A (execs (.For (.Name x p) (.Name y py) body [] pos :: rest) env) Q E s := by
  obtain ⟨h, tk, rfl, F, N⟩ := hA
  have V' := V
  obtain ⟨rfl, fn, rfl⟩ := V
  refine wpAny_execs_cons (For_invVF F hx (by rw [fn]; rfl) ((VE.name hx2 hd hy).2.2.2 V' F fun v k hv => ?_) (fun _ => rfl) hE)
  subst hv
  refine KBw.pyIter_bytes ?_
  have W := KBw.walks (prog := prog) (w := w) hh h.objs.size b tb
  refine loop_invN (fun i m nx => ∃ o, nx = [(D, o)] ∧ J ((KBw.bInts b).take i) m o) W ?_ ?_ ?_ ?_ ⟨_, Heap.get?_push_size _ rfl, rfl, rfl⟩ (F.push _) (fun p hp => ⟨Heap.get?_push_of_some _ (N p hp).1, (N p hp).2⟩) ⟨o₀, rfl, hj⟩ ?_ ?_
  · exact fun hm => absurd F.ns.lt ((List.mem_singleton.mp hm) ▸ Nat.lt_irrefl _)
  · exact fun b' hb => List.mem_singleton.mp hb ▸ next_is_new F
  · exact fun p hp hI => absurd (Heap.lt_size (N p hp).1) ((List.mem_singleton.mp hI) ▸ Nat.lt_irrefl _)
  · exact fun p hp hI => absurd (Heap.lt_size (N p hp).1) ((List.mem_singleton.mp hI) ▸ Nat.lt_irrefl _)
  · rintro i v m₁ nx h' tk' own hi ⟨n, u, hn, rfl⟩ - hoff ⟨o, rfl, hJ⟩ F₁ N₁
    have hn' := KBw.ints_get hn
    have hb := KBw.ints_in (List.mem_of_getElem? hn')
    have hs : (KBw.bInts b).take (i + 1) = (KBw.bInts b).take i ++ [(n.toNat : Int)] := by rw [List.take_add_one, hn']; rfl
    refine wpAny_mono (turn _ (n.toNat : Int) u m₁ o own _ (by rw [List.length_take]; exact Nat.lt_of_le_of_lt (Nat.min_le_left _ _) hi) (List.mem_of_getElem? hn') hb.1 hb.2 (hoff.ne (.head _)) hJ ⟨h', tk', rfl, F₁, N₁⟩) (fun f s' hf => ?_) fun _ _ e => e
    obtain ⟨rfl, m', o', hJ', h2, tk2, rfl, F2, N2⟩ := hf
    exact InvEndN.intro F2 N2 ⟨o', rfl, hs ▸ hJ'⟩ rfl (fun q hq => List.mem_singleton.mp hq ▸ .head _) fun q hq => .tail _ hq
  · rintro m₁ nx h' tk' ⟨o, rfl, hJ⟩ F₁ N₁
    rw [← KBw.ints_length b, List.take_length] at hJ
    exact done m₁ o _ hJ ⟨h', tk', rfl, F₁, N₁⟩
end
end Mine
end
section
open PySem PySem.W PyProof.Rows
namespace Mine

noncomputable def b64v (c : Int) : Int := if 65 ≤ c ∧ c ≤ 90 then c - 65 else if 97 ≤ c ∧ c ≤ 122 then c - 71 else if 48 ≤ c ∧ c ≤ 57 then c + 4 else if c = 43 then 62 else if c = 47 then 63 else 64
theorem b64v_A {c : Int} (h : 65 ≤ c ∧ c ≤ 90) : c - 65 = b64v c := (if_pos h).symm
theorem b64v_a {c : Int} (h : 97 ≤ c ∧ c ≤ 122) : c - 71 = b64v c := ((if_neg fun q => absurd (Int.le_trans h.1 q.2) (by decide)).trans (if_pos h)).symm
theorem b64v_0 {c : Int} (h : 48 ≤ c ∧ c ≤ 57) : c + 4 = b64v c := ((if_neg fun q => absurd (Int.le_trans q.1 h.2) (by decide)).trans ((if_neg fun q => absurd (Int.le_trans q.1 h.2) (by decide)).trans (if_pos h))).symm
theorem b64v_p {c : Int} (h : c = 43) : 62 = b64v c := by subst h; decide
theorem b64v_s {c : Int} (h : c = 47) : 63 = b64v c := by subst h; decide
theorem b64v_n {c : Int} (h1 : ¬ (65 ≤ c ∧ c ≤ 90)) (h2 : ¬ (97 ≤ c ∧ c ≤ 122)) (h3 : ¬ (48 ≤ c ∧ c ≤ 57)) (h4 : c ≠ 43) (h5 : c ≠ 47) : 64 = b64v c := ((if_neg h1).trans ((if_neg h2).trans ((if_neg h3).trans ((if_neg h4).trans (if_neg h5))))).symm
theorem rng {x y z : Int} (h : (decide (x ≤ y) && decide (y ≤ z)) = true) : x ≤ y ∧ y ≤ z := ⟨of_decide_eq_true (Bool.and_eq_true_iff.mp h).1, of_decide_eq_true (Bool.and_eq_true_iff.mp h).2⟩
theorem rng_n {x y z : Int} (h : (decide (x ≤ y) && decide (y ≤ z)) = false) : ¬ (x ≤ y ∧ y ≤ z) := fun q => by rw [decide_eq_true q.1, decide_eq_true q.2] at h; cases h
theorem b64v_ctr (w : World) (mean : ExcName → Option Value) (mg mb : Str → Option Value) (news : List (Addr × Obj)) (c : Int) (t : Tok) : Ctr 470 w mean mg mb 114 news [.int c t] [] (fun t => .int (b64v c) t) := by
  k_with_none
  (k_with "eval Constant int" => (with_reducible refine nI ?_))
  (k_with "eval Constant str" => (with_reducible refine nS ?_))
  (k_with "binaryOp Add int int" => (with_reducible refine nAdd ?_))
  (k_with "binaryOp Sub int int" => (with_reducible refine nSub ?_))
  (k_with "binaryOp BitAnd int int" => (with_reducible refine nAnd ?_))
  (k_with "binaryOp BitOr int int" => (with_reducible refine nOr ?_))
  dsimp only [Ctr, KK, prog, loose, view]
  intro dp un gd cn cs a ccd cl outer A₀ base h₀ L m s Q E B F X N T hk hd hu hret
  refine lower 470 (4 * 470) (by dsimp only; omega) (by dsimp only; omega) ?_
  dsimp only
  refine wpAny_call ?_
  k_dflt (refine' enterV (binds := [(Str.ofString "c", .int c t)]) ?k1 ?k2 ?k3 ?k4 ?k5 ?kA ?kF ?kK ?k6 ?k7 ?k8 ?k9 ?kB ?_ ?c2 ?c3 ?c4 ?c5; (case kA => exact rfl); (case kF => exact rfl); (case kK => first | exact rfl | assumption); (case k1 => k_asm); (case k2 => k_asm); (case k3 => k_asm); (case k4 => k_asm); (case k5 => k_asm); (case k6 => k_is); (case k7 => k_is); (case k8 => exact Nat.le_of_ble_eq_true rfl); (case k9 => (refine' kp_binds ?kx ?ke; (case kx => k_in); (case ke => (intro S; kernel_rfl)))); (case c5 => decide); (case kB => exact locs rfl); (case c2 => exact rfl); (case c3 => exact rfl); (case c4 => exact rfl); k_whole; intro L' h' F' N' B' X' T'; (try dsimp only); (try k_lift B'); (try k_fold))
  obtain ⟨m9, hm9, F9⟩ := fr_gen F'
  have f1 : m9 (Str.ofString "c") = some (.int c t) := eqv hm9 rfl
  have hA : AtH _ s _ m9 [] ⟨h', s.gens, s.drawn, s.toks + 1, s.os⟩ := ⟨_, _, rfl, F9, N'⟩
  clear hm9 F9 F' N'
  refine run_if2 loc_of hA (CE.range IE.const (IE.name f1) IE.const) (fun hb s1 hA => run_ret loc_of hA (IE.sub (IE.name f1) IE.const) fun t s2 hA => aft_ret (by show LeaveV _ _ _ _ _ _ _ _; exact leaveA hA (b64v_A (rng hb)) hret)) fun h1 s1 hA => run_nil ?_
  refine run_if2 loc_of hA (CE.range IE.const (IE.name f1) IE.const) (fun hb s1 hA => run_ret loc_of hA (IE.sub (IE.name f1) IE.const) fun t s2 hA => aft_ret (by show LeaveV _ _ _ _ _ _ _ _; exact leaveA hA (b64v_a (rng hb)) hret)) fun h2 s1 hA => run_nil ?_
  refine run_if2 loc_of hA (CE.range IE.const (IE.name f1) IE.const) (fun hb s1 hA => run_ret loc_of hA (IE.add (IE.name f1) IE.const) fun t s2 hA => aft_ret (by show LeaveV _ _ _ _ _ _ _ _; exact leaveA hA (b64v_0 (rng hb)) hret)) fun h3 s1 hA => run_nil ?_
  refine run_if2 loc_of hA (CE.eq (IE.name f1) IE.const) (fun hb s1 hA => run_ret loc_of hA IE.const fun t s2 hA => aft_ret (by show LeaveV _ _ _ _ _ _ _ _; exact leaveA hA (b64v_p (eq_of_beq hb)) hret)) fun h4 s1 hA => run_nil ?_
  refine run_if2 loc_of hA (CE.eq (IE.name f1) IE.const) (fun hb s1 hA => run_ret loc_of hA IE.const fun t s2 hA => aft_ret (by show LeaveV _ _ _ _ _ _ _ _; exact leaveA hA (b64v_s (eq_of_beq hb)) hret)) fun h5 s1 hA => run_nil ?_
  exact run_ret loc_of hA IE.const fun t s2 hA => by show LeaveV _ _ _ _ _ _ _ _; exact leaveA hA (b64v_n (rng_n h1) (rng_n h2) (rng_n h3) (ne_of_beq_false h4) (ne_of_beq_false h5)) hret
end Mine
end
section
open PySem PySem.W PyProof.Rows
namespace Mine

noncomputable def Vb (bs : List Int) : Int := bs.foldl (fun a b => a * 256 + b) 0
noncomputable def Wb (vs : List Int) : Int := vs.foldl (fun a v => a * 64 + b64v v) 0
theorem Vb_snoc (l : List Int) (x : Int) : Vb (l ++ [x]) = Vb l * 256 + x := by simp [Vb]
theorem Wb_snoc (l : List Int) (x : Int) : Wb (l ++ [x]) = Wb l * 64 + b64v x := by simp [Wb]
theorem and_shift (a : Int) : ∀ (k : Nat) (b : Int), 0 ≤ b → b < 2 ^ k → Builtin.bitAnd (a * 2 ^ k) b = 0
  | 0, b, h0, h1 => by
    have : b = 0 := by simp at h1; (first | lia | omega)
    rw [this, bitAnd_zero]
  | k + 1, b, h0, h1 => by
    have hp : (2 : Int) ^ (k + 1) = 2 ^ k * 2 := Int.pow_succ 2 k
    have e1 : a * 2 ^ (k + 1) / 2 = a * 2 ^ k := by rw [hp, ← Int.mul_assoc]; exact Int.mul_ediv_cancel _ (by decide)
    have e2 : a * 2 ^ (k + 1) % 2 = 0 := by rw [hp, ← Int.mul_assoc]; exact Int.mul_emod_left _ _
    rw [kbt_halves, e1, e2, and_shift a k (b / 2) (by (first | lia | omega)) (by rw [hp] at h1; (first | lia | omega))]
    simp
theorem or_shift (a : Int) (k : Nat) (b : Int) (h0 : 0 ≤ b) (h1 : b < 2 ^ k) : Builtin.bitOr (a * 2 ^ k) b = a * 2 ^ k + b := by
  rw [bitOr_and, and_shift a k b h0 h1]; (first | lia | omega)
noncomputable def InvA (pre out : List Int) (q left pads : Int) : Prop :=
  pads = 0 ∧ 0 ≤ left ∧ left < 64 ∧ (∀ x ∈ out, 0 ≤ x ∧ x < 256) ∧ out.length ≤ pre.length ∧
  ((q = 0 ∧ Wb pre = Vb out ∧ 4 * out.length = 3 * pre.length) ∨ (q = 1 ∧ Wb pre = Vb out * 64 + left ∧ 4 * out.length + 3 = 3 * pre.length) ∨
   (q = 2 ∧ Wb pre = Vb out * 16 + left ∧ left < 16 ∧ 4 * out.length + 2 = 3 * pre.length) ∨ (q = 3 ∧ Wb pre = Vb out * 4 + left ∧ left < 4 ∧ 4 * out.length + 1 = 3 * pre.length))
theorem invA_start : InvA [] [] 0 0 0 := ⟨rfl, Int.le_refl _, by decide, (fun _ h => nomatch h), Nat.le_refl _, .inl ⟨rfl, rfl, rfl⟩⟩
theorem InvA.room {pre out : List Int} {q left pads : Int} {k : Nat} (h : InvA pre out q left pads) (hv : k = out.length) (hp : pre.length < 1000) : k ≤ 4000 := Nat.le_trans (Nat.le_of_lt (Nat.lt_of_le_of_lt (hv ▸ h.2.2.2.2.1) hp)) (by decide)
section
variable {pre out : List Int} {n left : Int}
theorem all_snoc (hout : ∀ x ∈ out, 0 ≤ x ∧ x < 256) {x : Int} (h : 0 ≤ x ∧ x < 256) : ∀ y ∈ out ++ [x], 0 ≤ y ∧ y < 256 := fun y hy => by
  rcases List.mem_append.mp hy with h' | h'
  · exact hout y h'
  · rw [List.mem_singleton.mp h']; exact h
theorem snoc_len {α : Type} (l : List α) (x : α) : (l ++ [x]).length = l.length + 1 := List.length_append
theorem fdiv_pow (x : Int) (k : Nat) (b : Int) (hb : (2 : Int) ^ k = b) (h : 0 ≤ b) : x.fdiv (2 ^ k) = x / b := by rw [hb, Int.fdiv_eq_ediv_of_nonneg _ h]
theorem len_le {a b : Nat} (h : a ≤ b) : a ≤ b + 1 ∧ a + 1 ≤ b + 1 := by (first | lia | omega)
theorem inv0 (hP : InvA pre out 0 left 0) (h0 : 0 ≤ b64v n) (h1 : b64v n < 64) (hW : Wb pre = Vb out) (hL : 4 * out.length = 3 * pre.length) : InvA (pre ++ [n]) out 1 (b64v n) 0 :=
  ⟨rfl, h0, h1, hP.2.2.2.1, by rw [snoc_len]; exact (len_le hP.2.2.2.2.1).1, .inr (.inl ⟨rfl, by rw [Wb_snoc, hW], by rw [snoc_len, hL]; rfl⟩)⟩
theorem inv_n1 {l v W V : Int} (h0 : 0 ≤ l) (h1 : l < 64) (h2 : 0 ≤ v) (h3 : v < 64) (hW : W = V * 64 + l) : (0 ≤ v / 16 ∧ v / 16 < 4) ∧ (0 ≤ l * 4 + v / 16 ∧ l * 4 + v / 16 < 256) ∧ (0 ≤ v % 16 ∧ v % 16 < 64 ∧ v % 16 < 16) ∧ W * 64 + v = (V * 256 + (l * 4 + v / 16)) * 16 + v % 16 := by
  have e := Int.emod_add_mul_ediv v 16
  have e1 := Int.emod_nonneg v (show (16 : Int) ≠ 0 by decide)
  have e2 := Int.emod_lt_of_pos v (show (0 : Int) < 16 by decide)
  generalize v / 16 = d at *
  generalize v % 16 = r at *
  subst hW e
  refine ⟨?_, ?_, ?_, ?_⟩ <;> lia
theorem inv1 (hP : InvA pre out 1 left 0) (h0 : 0 ≤ b64v n) (h1 : b64v n < 64) (hW : Wb pre = Vb out * 64 + left) (hL : 4 * out.length + 3 = 3 * pre.length) :
    InvA (pre ++ [n]) (out ++ [Builtin.bitOr (left * 2 ^ 2) ((b64v n).fdiv (2 ^ 4))]) 2 (Builtin.bitAnd (b64v n) 15) 0 := by
  obtain ⟨_, hl0, hl1, hout, hol, _⟩ := hP
  obtain ⟨a, b, c, d⟩ := inv_n1 hl0 hl1 h0 h1 hW
  have e1 : Builtin.bitOr (left * 2 ^ 2) ((b64v n).fdiv (2 ^ 4)) = left * 4 + b64v n / 16 := by
    rw [fdiv_pow _ 4 16 rfl (by decide)]; exact or_shift left 2 _ a.1 a.2
  rw [e1, bitAnd_m4]
  exact ⟨rfl, c.1, c.2.1, all_snoc hout b, by rw [snoc_len, snoc_len]; exact (len_le hol).2, .inr (.inr (.inl ⟨rfl, by rw [Wb_snoc, Vb_snoc, d], c.2.2, by rw [snoc_len, snoc_len, Nat.mul_succ 3, ← hL]; rfl⟩))⟩
theorem inv_n2 {l v W V : Int} (h0 : 0 ≤ l) (h1 : l < 16) (h2 : 0 ≤ v) (h3 : v < 64) (hW : W = V * 16 + l) : (0 ≤ v / 4 ∧ v / 4 < 16) ∧ (0 ≤ l * 16 + v / 4 ∧ l * 16 + v / 4 < 256) ∧ (0 ≤ v % 4 ∧ v % 4 < 64 ∧ v % 4 < 4) ∧ W * 64 + v = (V * 256 + (l * 16 + v / 4)) * 4 + v % 4 := by
  have e := Int.emod_add_mul_ediv v 4
  have e1 := Int.emod_nonneg v (show (4 : Int) ≠ 0 by decide)
  have e2 := Int.emod_lt_of_pos v (show (0 : Int) < 4 by decide)
  generalize v / 4 = d at *
  generalize v % 4 = r at *
  subst hW e
  refine ⟨?_, ?_, ?_, ?_⟩ <;> lia
theorem inv2 (hP : InvA pre out 2 left 0) (h0 : 0 ≤ b64v n) (h1 : b64v n < 64) (hW : Wb pre = Vb out * 16 + left) (hl : left < 16) (hL : 4 * out.length + 2 = 3 * pre.length) :
    InvA (pre ++ [n]) (out ++ [Builtin.bitOr (left * 2 ^ 4) ((b64v n).fdiv (2 ^ 2))]) 3 (Builtin.bitAnd (b64v n) 3) 0 := by
  obtain ⟨_, hl0, hl1, hout, hol, _⟩ := hP
  obtain ⟨a, b, c, d⟩ := inv_n2 hl0 hl h0 h1 hW
  have e1 : Builtin.bitOr (left * 2 ^ 4) ((b64v n).fdiv (2 ^ 2)) = left * 16 + b64v n / 4 := by
    rw [fdiv_pow _ 2 4 rfl (by decide)]; exact or_shift left 4 _ a.1 a.2
  rw [e1, bitAnd_m2]
  exact ⟨rfl, c.1, c.2.1, all_snoc hout b, by rw [snoc_len, snoc_len]; exact (len_le hol).2, .inr (.inr (.inr ⟨rfl, by rw [Wb_snoc, Vb_snoc, d], c.2.2, by rw [snoc_len, snoc_len, Nat.mul_succ 3, ← hL]; rfl⟩))⟩
theorem inv_n3 {l v W V : Int} (h0 : 0 ≤ l) (h1 : l < 4) (h2 : 0 ≤ v) (h3 : v < 64) (hW : W = V * 4 + l) : (0 ≤ l * 64 + v ∧ l * 64 + v < 256) ∧ W * 64 + v = V * 256 + (l * 64 + v) := by (first | lia | omega)
theorem inv3 (hP : InvA pre out 3 left 0) (h0 : 0 ≤ b64v n) (h1 : b64v n < 64) (hW : Wb pre = Vb out * 4 + left) (hl : left < 4) (hL : 4 * out.length + 1 = 3 * pre.length) :
    InvA (pre ++ [n]) (out ++ [Builtin.bitOr (left * 2 ^ 6) (b64v n)]) 0 0 0 := by
  obtain ⟨_, hl0, hl1, hout, hol, _⟩ := hP
  obtain ⟨b, d⟩ := inv_n3 hl0 hl h0 h1 hW
  rw [show Builtin.bitOr (left * 2 ^ 6) (b64v n) = left * 64 + b64v n from or_shift left 6 _ h0 h1]
  exact ⟨rfl, Int.le_refl _, by decide, all_snoc hout b, by rw [snoc_len, snoc_len]; exact (len_le hol).2, .inl ⟨rfl, by rw [Wb_snoc, Vb_snoc, d], by rw [snoc_len, snoc_len, Nat.mul_succ 3, ← hL]; rfl⟩⟩
theorem InvA.done {q pads : Int} {k : Nat} (h : InvA pre out q left pads) (hp : pre.length = k) (h4 : k % 4 = 0) (hk : k ≤ 1000) : q = 0 ∧ pads = 0 ∧ (∀ x ∈ out, 0 ≤ x ∧ x < 256) ∧ Wb pre = Vb out ∧ 4 * out.length = 3 * k ∧ out.length ≤ 1000 := by
  subst hp
  obtain ⟨rfl, _, _, ho, hol, h⟩ := h
  have key : ∀ c : Nat, c < 4 → 4 * out.length + c = 3 * pre.length → c = 0 := fun c hc h => by (first | lia | omega)
  rcases h with ⟨h, hW, hL⟩ | ⟨_, _, hL⟩ | ⟨_, _, _, hL⟩ | ⟨_, _, _, hL⟩
  · exact ⟨h, rfl, ho, hW, hL, Nat.le_trans hol hk⟩
  · cases key 3 (by decide) hL
  · cases key 2 (by decide) hL
  · cases key 1 (by decide) hL
end
/-- the `n` last figures of `v` to the base `B`, the greatest first -/
noncomputable def dig (B : Int) : Nat → Int → List Int
  | 0, _ => []
  | n + 1, v => dig B n (v / B) ++ [v % B]
theorem dig_length (B : Int) : ∀ n v, (dig B n v).length = n
  | 0, _ => rfl
  | n + 1, v => by simp [dig, dig_length B n]
theorem dig_in (B : Int) (hB : 0 < B) : ∀ n v, ∀ x ∈ dig B n v, 0 ≤ x ∧ x < B
  | 0, _, x, hx => nomatch hx
  | n + 1, v, x, hx => by
    rcases List.mem_append.mp hx with h | h
    · exact dig_in B hB n _ x h
    · rw [List.mem_singleton.mp h]; exact ⟨Int.emod_nonneg _ (by (first | lia | omega)), Int.emod_lt_of_pos _ hB⟩
noncomputable def val (B : Int) (l : List Int) : Int := l.foldl (fun a b => a * B + b) 0
theorem val_snoc (B : Int) (l : List Int) (x : Int) : val B (l ++ [x]) = val B l * B + x := by simp [val]
theorem dig_snoc (B : Int) (hB : 0 < B) (n : Nat) (v x : Int) (h0 : 0 ≤ x) (h1 : x < B) : dig B (n + 1) (v * B + x) = dig B n v ++ [x] := by
  have hd : (v * B + x) / B = v := by
    rw [Int.add_comm, Int.add_mul_ediv_right _ _ (by (first | lia | omega)), Int.ediv_eq_zero_of_lt h0 h1, Int.zero_add]
  have hm : (v * B + x) % B = x := by rw [Int.add_comm, Int.add_mul_emod_self_right, Int.emod_eq_of_lt h0 h1]
  rw [dig, hd, hm]
theorem snoc_ind {α : Type} {P : List α → Prop} (h0 : P []) (h1 : ∀ l x, P l → P (l ++ [x])) (l : List α) : P l := by
  have key : ∀ n (l : List α), l.length = n → P l := by
    intro n
    induction n with
    | zero => intro l hl; rw [List.length_eq_zero_iff.mp hl]; exact h0
    | succ n ih =>
      intro l hl
      have hne : l ≠ [] := by intro e; rw [e] at hl; cases hl
      rw [← List.dropLast_concat_getLast hne]
      exact h1 _ _ (ih _ (by rw [List.length_dropLast]; (first | lia | omega)))
  exact key _ l rfl
theorem dig_val (B : Int) (hB : 0 < B) (l : List Int) : (∀ x ∈ l, 0 ≤ x ∧ x < B) → dig B l.length (val B l) = l := by
  refine snoc_ind (P := fun l => (∀ x ∈ l, 0 ≤ x ∧ x < B) → dig B l.length (val B l) = l) (fun _ => rfl) ?_ l
  intro l x ih h
  have hx := h x (by simp)
  rw [List.length_append, List.length_singleton, val_snoc, dig_snoc B hB _ _ _ hx.1 hx.2, ih fun y hy => h y (by simp [hy])]
theorem Vb_val (l : List Int) : Vb l = val 256 l := rfl
theorem out_is {out : List Int} {v : Int} {n : Nat} (hout : ∀ x ∈ out, 0 ≤ x ∧ x < 256) (hW : v = Vb out) (hL : 4 * out.length = 3 * n) : out = dig 256 (3 * n / 4) v := by
  have : 3 * n / 4 = out.length := by (first | lia | omega)
  rw [this, hW, Vb_val, dig_val 256 (by decide) out hout]
theorem ints_of {f : Nat → Int} : ∀ (zs : List Value) (i : Nat), (∀ j y, zs[j]? = some y → ∃ t, y = Value.int (f (i + j)) t) → IntsAre zs ((List.range zs.length).map fun j => f (i + j))
  | [], _, _ => .nil
  | z :: zs, i, h => by
    obtain ⟨t, rfl⟩ := h 0 z (by simp)
    have ih := ints_of (f := f) zs (i + 1) fun j y hj => by
      rw [show i + 1 + j = i + (j + 1) by (first | lia | omega)]
      exact h (j + 1) y (by simpa using hj)
    rw [List.length_cons, List.range_succ_eq_map, List.map_cons, List.map_map]
    refine .cons _ _ ?_
    have e : (List.range zs.length).map (fun j => f (i + 1 + j)) = (List.range zs.length).map ((fun j => f (i + j)) ∘ Nat.succ) := List.map_congr_left fun j _ => by show f (i + 1 + j) = f (i + (j + 1)); rw [show i + 1 + j = i + (j + 1) by (first | lia | omega)]
    rw [← e]
    exact ih
end Mine
end
section
open PySem PySem.W PyProof.Rows
namespace Mine

section
open PyProof.Rows.LCg
/-- what a list comprehension wants of its iterable: an iterator laid anew, its walk, and the turns -/
noncomputable def SrcV (prog : Program) (w : World) (A : Around) (h₀ : Heap) (L : Addr) (m : Str → Option Value) (env : Env) (elt : Expr) (x : Str) (scope : Scope) (cl : List (Str × Addr)) (Fin : Shared → List Value → List (Addr × Obj) → Prop) (xv : Value) (s₁ : Shared) : Prop :=
  ∃ (news : List (Addr × Obj)) (n : Nat) (P : Nat → Value → Prop) (St : Nat → Heap → Prop) (S : List (Addr × Obj) → Prop) (o : Obj) (fp : List Addr), Fr h₀ L s₁.heap m ∧ News h₀ L s₁.heap news ∧ n ≤ sizeLine ∧
    (∀ (Q : Value → Shared → Prop) (E : Value → Shared → Prop), Q (.ref s₁.heap.objs.size) { s₁ with heap := s₁.heap.push o } → wpAny (model prog w) A (pyIter xv) Q E s₁) ∧
    Walks prog w A s₁.heap.objs.size fp [s₁.heap.objs.size] n P St ∧ (∀ b ∈ fp, b ≤ s₁.heap.objs.size) ∧ (∀ i h, St i h → ∃ o, h.get? s₁.heap.objs.size = some o) ∧
    (∀ i h h' o nw, St i h → h.get? s₁.heap.objs.size = some o → h'.get? s₁.heap.objs.size = some o → (∀ b o, h₀.get? b = some o → h'.get? b = some o) → News h₀ L h' nw → S nw → St i h') ∧ St 0 (s₁.heap.push o) ∧ S news ∧
    ∀ s₂ : Shared, (∃ h, s₂ = { s₁ with heap := h }) → CompRest prog w A h₀ L m env elt x scope cl s₂ S P (Fin s₂) n 0 [] news
section
variable {prog : Program} {w : World} {A : Around} {E : Value → Shared → Prop} {s : Shared} {h₀ : Heap} {L : Addr} {m : Str → Option Value} {env : Env}
theorem ListComp_V {elt iter : Expr} {x : Str} {px : Pos} {scope : Scope} {cl : List (Str × Addr)} {pos : Pos} {Q : Value → Shared → Prop} (_F : Fr h₀ L s.heap m)
    (hclos : closureFor scope env = pure cl) (hcell : ∀ y ∈ scope.names, y.2 ≠ .cell) (hkind : scope.kind = .function)
    (hnames : ∀ y ∈ scope.names, y.2 = .local → scope.names.lookup y.1 = some .local) (hx : scope.names.lookup x = some .local)
    (h : wpAny (model prog w) A (eval iter env) (SrcV prog w A h₀ L m env elt x scope cl (fun s₂ => FinE h₀ L m s₂ Q)) E s)
    (hs : ∀ x, foldedSetIterable iter env x = pure x := by intro _; rfl) :
    wpAny (model prog w) A (eval (.ListComp elt [⟨.Name x px, iter, [], 0⟩] scope pos) env) Q E s := by
  rw [eval_ListComp]
  refine wpAny_comprehension_free (use := none) rfl hs hclos hkind hnames (wpAny_mono h (fun xv s₁ h₁ => ?_) fun _ _ e => e)
  obtain ⟨news, n, P, St, S, o, fp, F, N, hsz, hit, W, hfp, hIo, hSt, hst, hS, R⟩ := h₁
  refine hit _ _ ?_
  refine block_U W hsz hIo hSt hcell hkind hx hst (fun b hb => ?_)
      (F.keeps fun _ _ e => Heap.get?_push_of_some _ e) (N.grown fun _ _ e => Heap.get?_push_of_some _ e) (Nat.ne_of_lt F.ns.lt) (next_is_new F) (fun p hp => Nat.ne_of_lt (Heap.lt_size (N p hp).1)) hS (R _ ⟨_, rfl⟩) ?_
  · show b < (s₁.heap.push _).objs.size
    rw [Heap.size_push]; exact Nat.lt_succ_of_le (hfp b hb)
  · intro D C h tk m' ys news' F' N' o1 hn hC₀ hD₀ hCL hDL hCD offC fin
    refine ⟨m', hn, fun h'' hs'' => fin D h'' tk (F'.change hs'' hCL hC₀) (fun p hp => ?_) o1⟩
    refine ⟨hs''.extBut _ _ ?_ (N' p hp).1, (N' p hp).2⟩
    rcases List.mem_cons.mp hp with rfl | hp
    · exact Ne.symm hCD
    · exact offC p hp
/-- a walk whose state is the iterator's own object -/
theorem one_st {I : Addr} {n : Nat} {P : Nat → Value → Prop} {St : Nat → Heap → Prop} (W : Walks prog w A I [I] [I] n P St) :
    ∀ i h h' o (nw : List (Addr × Obj)), St i h → h.get? I = some o → h'.get? I = some o → (∀ b o, h₀.get? b = some o → h'.get? b = some o) → News h₀ L h' nw → (fun _ => True) nw → St i h' :=
  fun i h h' o nw st e e' _ _ _ => W.frame i h h' st fun b hb o' e2 => by
    rw [List.mem_singleton.mp hb] at e2 ⊢
    rw [e] at e2
    cases e2
    exact e'
theorem srcV_str {elt : Expr} {x : Str} {scope : Scope} {cl : List (Str × Addr)} {Fin : Shared → List Value → List (Addr × Obj) → Prop} {t : Str} {tk : Tok} {news : List (Addr × Obj)} {s₁ : Shared}
    (hh : A.handled = none) (F : Fr h₀ L s₁.heap m) (N : News h₀ L s₁.heap news) (hz : t.cps.size ≤ sizeLine) (ha : t.cps.all (· < 128) = true)
    (h : ∀ g, CompRest prog w A h₀ L m env elt x scope cl { s₁ with heap := g } (fun _ => True) (SignAt t) (Fin { s₁ with heap := g }) t.cps.size 0 [] news) :
    SrcV prog w A h₀ L m env elt x scope cl Fin (.str t tk) s₁ :=
  ⟨news, _, _, _, fun _ => True, _, _, F, N, hz, fun _ _ hQ => wpAny_pyIter_ascii ha hQ, Walks.strAscii hh _ t tk, fun b hb => Nat.le_of_eq (List.mem_singleton.mp hb), fun _ _ st => let ⟨o, e, _⟩ := st; ⟨o, e⟩, one_st (prog := prog) (w := w) (Walks.strAscii hh _ t tk), ⟨_, Heap.get?_push_size _ rfl, rfl, rfl⟩, trivial, fun _ ⟨g, e⟩ => e ▸ h g⟩
theorem srcV_list {elt : Expr} {x : Str} {scope : Scope} {cl : List (Str × Addr)} {Fin : Shared → List Value → List (Addr × Obj) → Prop} {ax : Addr} {its : Array Value} {news : List (Addr × Obj)} {s₁ : Shared}
    (hh : A.handled = none) (F : Fr h₀ L s₁.heap m) (N : News h₀ L s₁.heap news) (hl : SrcAt h₀ ax its news) (hsz : its.size ≤ sizeLine)
    (h : ∀ g, CompRest prog w A h₀ L m env elt x scope cl { s₁ with heap := g } (SrcAt h₀ ax its) (fun i v => its[i]? = some v) (Fin { s₁ with heap := g }) its.size 0 [] news) :
    SrcV prog w A h₀ L m env elt x scope cl Fin (.ref ax) s₁ := by
  have hl' := hl.list F.keep N
  have hlt : ax < s₁.heap.objs.size := by obtain ⟨_, e, _⟩ := hl'; exact Heap.lt_size e
  refine ⟨news, _, _, _, SrcAt h₀ ax its, _, _, F, N, hsz, fun _ _ hQ => wpAny_pyIter_list hl' hQ, Walks.list hh _ ax (Nat.ne_of_lt hlt) its, ?_, fun _ _ st => let ⟨o, e, _⟩ := st.1; ⟨o, e⟩, list_st, ⟨⟨_, Heap.get?_push_size _ rfl, rfl, rfl⟩, hl'.push _⟩, hl, fun _ ⟨g, e⟩ => e ▸ h g⟩
  intro b hb
  rcases List.mem_cons.mp hb with rfl | hb
  · exact Nat.le_refl _
  · rw [List.mem_singleton.mp hb]; exact Nat.le_of_lt hlt
/-- an element's end: the frame and the ledger stand, the value is as asked -/
noncomputable def ElEnd (h₀ : Heap) (L : Addr) (m : Str → Option Value) (s : Shared) (led : List (Addr × Obj)) (g : Value → Prop) (y : Value) (s' : Shared) : Prop :=
  ∃ h' tk', s' = { s with heap := h', toks := tk' } ∧ Fr h₀ L h' m ∧ News h₀ L h' led ∧ g y
theorem ElEnd.intro {led : List (Addr × Obj)} {g : Value → Prop} {y : Value} {h' : Heap} {tk' : Nat} (F : Fr h₀ L h' m) (N : News h₀ L h' led) (hg : g y) : ElEnd h₀ L m s led g y { s with heap := h', toks := tk' } := ⟨h', tk', rfl, F, N, hg⟩
/-- a comprehension whose element is reckoned, item by item, and leaves the ledger as it was -/
theorem compRest_map {elt : Expr} {x : Str} {scope : Scope} {cl : List (Str × Addr)} {S : List (Addr × Obj) → Prop} {P : Nat → Value → Prop} {Fin : List Value → List (Addr × Obj) → Prop} {news : List (Addr × Obj)} {n : Nat} (g : Nat → Value → Prop) (hS : S news)
    (body : ∀ i v I oI C oC D ys m₂ h tk (E' : Value → Shared → Prop), i < n → P i v → NsObj oC m₂ → m₂ x = some v → Fr h₀ L h m → News h₀ L h ((I, oI) :: (C, oC) :: (D, lst ys) :: news) → Off3 I C D news → ((@Ne Nat I C) ∧ (@Ne Nat I D) ∧ (@Ne Nat C D)) →
      wpAny (model prog w) A (eval elt (compEnvC scope cl C env)) (ElEnd h₀ L m s ((I, oI) :: (C, oC) :: (D, lst ys) :: news) (g i)) E' { s with heap := h, toks := tk }) :
    ∀ (k i : Nat) (ys : List Value), i + k = n → (∀ zs : List Value, zs.length = k → (∀ j y, zs[j]? = some y → g (i + j) y) → Fin (ys ++ zs) news) → CompRest prog w A h₀ L m env elt x scope cl s S P Fin k i ys news
  | 0, i, ys, _, fin => CompRest.zero (by simpa using fin [] rfl (fun j y h => by simp at h))
  | k + 1, i, ys, hn, fin => CompRest.succ fun v I oI C oC D m₂ h tk E' hP hC hx F N off ne => by
    refine wpAny_mono (body i v I oI C oC D ys m₂ h tk E' (by (first | lia | omega)) hP hC hx F N off ne) ?_ (fun _ _ e => e)
    rintro y s' ⟨h', tk', rfl, F', N', hg⟩
    refine ⟨h', tk', news, rfl, F', N', off, hS, compRest_map g hS body k (i + 1) (ys ++ [y]) (by (first | lia | omega)) fun zs hz hj => ?_⟩
    rw [List.append_assoc]
    refine fin (y :: zs) (by simp [hz]) fun j z hjz => ?_
    cases j with
    | zero => simp at hjz; subst hjz; exact hg
    | succ j => rw [show i + (j + 1) = i + 1 + j by (first | lia | omega)]; exact hj j z (by simpa using hjz)
end
end
end Mine
end
section
open PySem PySem.W PyProof.Rows
namespace Mine

noncomputable def decN (n : Int) : List Nat := (Nat.toDigits 10 n.toNat).map Char.toNat
noncomputable def numS (n : Int) : Str := Str.ofString (toString n)
theorem numS_cps {n : Int} (h : 0 ≤ n) : (numS n).cps.toList = decN n := by
  obtain ⟨k, rfl⟩ := Int.eq_ofNat_of_zero_le h
  exact KIN.signs_num k
theorem decN_digits (n : Int) : ∀ c ∈ decN n, 48 ≤ c ∧ c ≤ 57 := by
  intro c hc
  obtain ⟨d, hd, rfl⟩ := List.mem_map.mp hc
  have := Nat.isDigit_of_mem_toDigits (by decide) (by decide) hd
  simp only [Char.isDigit, Bool.and_eq_true, decide_eq_true_eq, ge_iff_le, UInt32.le_iff_toNat_le] at this
  exact this
theorem decN_len {n : Int} (h1 : n < 10 ^ 20) : (decN n).length ≤ 20 := by
  unfold decN
  rw [List.length_map]
  refine digits10_le (by decide) ?_
  have : (10 : Int) ^ 20 = ((10 ^ 20 : Nat) : Int) := rfl
  (first | lia | omega)
theorem decN_ne (n : Int) : decN n ≠ [] := by
  unfold decN
  intro h
  have := tDigits_len_ge 10 n.toNat
  rw [List.map_eq_nil_iff] at h
  rw [h] at this
  simp at this
theorem int_sign {c : Nat} (h : 48 ≤ c ∧ c ≤ 57) : PySem.intText? ⟨#[c]⟩ = some ((c : Int) - 48) := by
  have := PySem.intText_digits (x := ⟨#[c]⟩) (fun d hd => by simp at hd; subst hd; exact h) (by simp) (by show 1 ≤ 4300; decide)
  rw [this]
  congr 1
  show ((0 * 10 + (c - 48) : Nat) : Int) = _
  (first | lia | omega)
end Mine
end
section
open PySem PySem.W PyProof.Rows
namespace Mine

theorem enterLaw {K : Frag} {prog : Program} {w : World} {s : Shared} {mg mb : Str → Option Value} {p : Program} {loose : List Str} {mean : ExcName → Option Value}
    {R : Result → Shared → Prop} {name qual : Str} {params : Arguments} {body : List Stmt} {scope : Scope} {dV kV doc pm cdv ct oc : Value} {an od : Option Addr} {osl : Array (Option Value)} {f : Addr} {args : Args} {binds : List (Str × Value)}
    (X₀ : K.In s.heap) (T : Top p loose mean mg mb s.heap)
    (ho : K.lookup f = some ⟨oc, od, .func (fnOf name qual params body scope dV kV doc pm an cdv ct), osl⟩) (hcd : codeIn K cdv qual = true)
    (hbind : BindsTo s (fnOf name qual params body scope dV kV doc pm an cdv ct) args binds) (hkind : (binds.all fun y => scope.names.lookup y.1 == some .local || scope.names.lookup y.1 == some .cell) = true)
    (hnd : ((cellsFrom 0 scope.names []).map (·.1)).Nodup)
    (h : ∀ L' h₁ tk cells, Fr s.heap L' h₁ (bindL (envOfC qual scope L' f cdv).kindOf binds fun _ => none) → News s.heap L' h₁ cells →
      CellsAre (bindC (envOfC qual scope L' f cdv).kindOf binds fun _ => none) (cellsFrom (L' + 1) scope.names []) cells → Below callerA s.heap [] s.heap →
      wpC (model prog w) (callerA.deeper (envOfC qual scope L' f cdv)) (execs body (envOfC qual scope L' f cdv))
        (fun fl s' => R (.ok (.ret (match fl with | .ret v => v | _ => .none))) s') (fun _ _ => False)
        { s with heap := h₁, toks := tk })
    (hco : scope.isCoroutine = false) (hgen : scope.isGenerator = false) (hk : scope.kind = .function) : codeC (model prog w) callerA (.call (.ref f) args) R s := by
  refine codeC_call_function (Nat.le_of_ble_eq_true rfl) (X₀ _ _ ho) rfl hco hgen rfl (codeRec_of X₀ hcd) (hbind _ _ _ _ ?_)
  refine wpAny_newFunctionEnv_cells hk (kindsX hkind _) fun env' he s' x => ?_
  subst he
  refine ⟨T.nolimit.keeps x.toInCall.keep, codeC_func ?_⟩
  obtain ⟨h₁, tk, rfl, _⟩ := x.done
  have hk₁ := x.toInCall.keep
  obtain ⟨cells, NC, Y⟩ := Cl.news (h₀ := s.heap) (Nat.le_refl _) fun n c hm => ⟨x.cell n c (lookup_of_mem_nodup (cellsFrom_names scope.names 0 (s.heap.objs.size + 1) [] [] rfl ▸ hnd) hm), x.above n c hm⟩
  exact wpC_mono (h s.heap.objs.size h₁ tk cells ⟨x.toInCall.ns, hk₁, Nat.le_refl _⟩ NC Y (below_caller _)) (fun fl s' hl => hl) fun _ _ y => y.elim
theorem map_getD {β : Type} (l : List Int) (f : Int → β) : ((List.range l.length).map fun j => f (l.getD (0 + j) 0)) = l.map f := by
  refine List.ext_getElem? fun j => ?_
  rw [List.getElem?_map, List.getElem?_map]
  simp only [Nat.zero_add]
  by_cases hj : j < l.length
  · rw [List.getElem?_range hj, List.getElem?_eq_getElem hj]
    simp [List.getD_eq_getElem?_getD, hj]
  · rw [List.getElem?_eq_none (by simpa using hj), List.getElem?_eq_none (by simpa using hj)]
    rfl
theorem ints_map {zs : List Value} {l : List Int} {f : Int → Int} (hz : zs.length = l.length) (hj : ∀ j y, zs[j]? = some y → ∃ t, y = Value.int (f (l.getD (0 + j) 0)) t) : IntsAre zs (l.map f) := by
  have := ints_of (f := fun i => f (l.getD i 0)) zs 0 hj
  rw [hz, map_getD] at this
  exact this
/-- kept from the walker's sight -/
noncomputable def Hid (P : Value → Shared → Prop) : Value → Shared → Prop := P
section
open PyProof.Rows.LCg
theorem Assign_LC {prog : Program} {w : World} {A : Around} {E : Value → Shared → Prop} {s : Shared} {h₀ : Heap} {L : Addr} {m : Str → Option Value} {env : Env} {elt iter : Expr} {x y : Str} {px py : Pos} {scope : Scope} {cl : List (Str × Addr)} {pos spos : Pos} {Q : Flow → Shared → Prop} (F₀ : Fr h₀ L s.heap m) (hLe : env.locals = L)
    (hsw : swapsWith (.ListComp elt [⟨.Name x px, iter, [], 0⟩] scope pos) (some (.Name y py)) spos.line env = pure true)
    (hclos : closureFor scope env = pure cl) (hcell : ∀ z ∈ scope.names, z.2 ≠ .cell) (hkind : scope.kind = .function)
    (hnames : ∀ z ∈ scope.names, z.2 = .local → scope.names.lookup z.1 = some .local) (hx : scope.names.lookup x = some .local)
    (hy : env.kindOf y = some .local) (hp : (env.scope.kind == .class || (env.scope.kind == .module && env.locals != env.globals)) = false)
    (h : wpAny (model prog w) A (eval iter env) (Hid (CompSrc prog w A h₀ L m env elt x scope cl (fun s₂ => FinA h₀ L m s₂ y Q))) E s)
    (hs : ∀ x, foldedSetIterable iter env x = pure x := by intro _; rfl) :
    wpAny (model prog w) A (exec (.Assign [.Name y py] (.ListComp elt [⟨.Name x px, iter, [], 0⟩] scope pos) spos) env) Q E s :=
  Assign_ListComp_U F₀ hLe hsw hclos hcell hkind hnames hx hy hp h hs
end
section
open PyProof.Rows.LCg
variable {prog : Program} {w : World} {A : Around} {s : Shared} {h₀ : Heap} {L : Addr} {m : Str → Option Value} {env : Env}
theorem SrcAt.mono {ax : Addr} {its : Array Value} {l l' : List (Addr × Obj)} (h : SrcAt h₀ ax its l) (hs : ∀ p ∈ l, p ∈ l') : SrcAt h₀ ax its l' := by
  rcases h with h | ⟨o, hm, r⟩
  · exact .inl h
  · exact .inr ⟨o, hs _ hm, r⟩
end
end Mine
end
section
open PySem PySem.W PyProof.Rows
namespace Mine

section
open Builtin
theorem enc_entry (x : PySem.Str) (t t2 : Tok) : «str.encode» ⟨[.str x t, .str (PySem.Str.ofString "ascii") t2], []⟩ = (_codecs.encodeRoad "str.encode" (.str x t) x (PySem.Str.ofString "ascii") none >>= fun v => ret v) := by kernel_rfl
theorem enc_road (x : PySem.Str) (v : Value) : _codecs.encodeRoad "str.encode" v x (PySem.Str.ofString "ascii") none = (_codecs.encodeNarrow "str.encode" _codecs.asciiCodec none v x >>= fun b => mkBytes b) := by kernel_rfl
noncomputable def encA (x : PySem.Str) : Array UInt8 := x.cps.map Nat.toUInt8
theorem foldl_push (l : List Nat) : ∀ acc : Array UInt8, l.foldl (fun acc y => acc ++ #[y.toUInt8]) acc = acc ++ (l.map Nat.toUInt8).toArray := by
  induction l with
  | nil => intro acc; simp
  | cons y l ih => intro acc; rw [List.foldl_cons, ih]; simp
theorem good_of {x : PySem.Str} (hx : ∀ c ∈ x.cps.toList, c < 128) : Array.findIdx? _codecs.asciiCodec.bad x.cps = none := by
  rw [Array.findIdx?_eq_none_iff]
  intro c hc
  have := hx c (Array.mem_toList_iff.mpr hc)
  show decide (c ≥ 128) = false
  exact decide_eq_false (by (first | lia | omega))
theorem enc_loop {σ : Type} (x : Array Nat) (R : Array UInt8) (f : Nat → Nat × Array UInt8 × σ → Sem (ForInStep (Nat × Array UInt8 × σ))) (st : σ) (h0 : 0 < x.size → f 0 (0, #[], st) = pure (.yield (x.size, R, st)))
    (h1 : ∀ j, f j (x.size, R, st) = pure (.done (x.size, R, st))) (hR : x.size = 0 → R = #[]) : forIn (List.range' 0 x.size) (0, #[], st) f = pure (x.size, R, st) := by
  cases hn : x.size with
  | zero => rw [hR hn]; rfl
  | succ k =>
    rw [hn] at h0 h1
    rw [List.range'_succ, List.forIn_cons, h0 (Nat.succ_pos k), pure_bind]
    cases k with
    | zero => rfl
    | succ j =>
      show (forIn (List.range' (0 + 1) (j + 1)) _ f : Sem _) = _
      rw [List.range'_succ, List.forIn_cons, h1, pure_bind]
theorem enc_narrow (id : String) (v : Value) (x : PySem.Str) (hx : ∀ c ∈ x.cps.toList, c < 128) (hz : x.cps.size ≤ sizeLine) : _codecs.encodeNarrow id _codecs.asciiCodec none v x = pure (encA x) := by
  have hg := good_of hx
  have hfold : Array.foldl (fun acc y => acc ++ (_codecs.asciiCodec.bytesOf y).toArray) #[] x.cps = encA x := by
    have := foldl_push x.cps.toList #[]
    rw [← Array.foldl_toList]
    exact this.trans (by simp [encA, ← Array.toList_map])
  have hes : (encA x).size = x.cps.size := by simp [encA]
  unfold _codecs.encodeNarrow
  dsimp only
  rw [KPc.range_list, show x.length = x.cps.size from rfl, enc_loop (σ := _codecs.Faults) x.cps (encA x) _ {} ?_ ?_ ?_]
  · rfl
  · intro hp
    have hc : x.cps[0]? = some (x.cps[0]'hp) := Array.getElem?_eq_getElem _
    have hc8 : (!_codecs.asciiCodec.bad (x.cps[0]'hp)) = true := by
      have := hx _ (Array.mem_toList_iff.mpr (Array.getElem_mem hp))
      show (!decide (_ ≥ 128)) = true
      rw [decide_eq_false (by (first | lia | omega))]; rfl
    dsimp only
    rw [if_neg (by show ¬ (0 > sizeLine); (first | lia | omega))]
    simp only [hc, hc8, if_true, pure_bind, Array.extract_size, hg, Option.getD_none, Nat.zero_add, hfold]
  · intro j
    have hno : x.cps[x.cps.size]? = none := Array.getElem?_eq_none (Nat.le_refl _)
    dsimp only
    rw [if_neg (by rw [hes]; (first | lia | omega))]
    simp only [hno, pure_bind]
  · intro h
    have : x.cps = #[] := Array.eq_empty_of_size_eq_zero h
    simp [encA, this]
theorem enc_call {prog : Program} {w : World} {A : Around} {E Q : _} {s : Shared} {x : PySem.Str} {t t2 : Tok} (hx : ∀ c ∈ x.cps.toList, c < 128) (hz : x.cps.size ≤ sizeLine)
    (h : Q (.bytes (encA x) s.toks) { s with toks := s.toks + 1 }) : wpAny (model prog w) A (call (.builtin "str.encode") [.str x t, .str (PySem.Str.ofString "ascii") t2]) Q E s := by
  refine call_meets F.slot_str_encode (typeIs_str _ _ _) F.entry_str_encode (F.args_str_encode_2 _ _) (S := fun _ R s => R (.ok (.ret (.bytes (encA x) s.toks))) { s with toks := s.toks + 1 }) (.of_wp fun prog w A R s hS => ?_) h
  rw [enc_entry, enc_road, enc_narrow _ _ _ hx hz]
  refine wpAny_bind (wpAny_bind (wpAny_pure (wpAny_mkBytes ?_ (by simp [encA]; exact hz))))
  exact wpAny_pure ⟨_, rfl, hS⟩
theorem enc_method {M : Model} {A : Around} {E : Value → Shared → Prop} {s : Shared} {x : PySem.Str} {t : Tok} {pl : Sem Bool} {Q : Value × List Value → Shared → Prop} (h : Q (.builtin "str.encode", [.str x t]) s) : wpAny M A (getMethod (.str x t) "encode" pl) Q E s := by
  with_reducible exact GM.of (.str x t) (typeIs_str _ _ _) F.slot_str_encode F.type_str_encode GM.noRef h
theorem dec_entry (c : UInt8) (cs : List UInt8) (t t2 : Tok) : «bytes.decode» ⟨[.bytes (c :: cs).toArray t, .str (PySem.Str.ofString "ascii") t2], []⟩ =
    (mkStr (PySem.Str.ofString "utf-8") >>= fun _ => mkStr (PySem.Str.ofString "ascii") >>= fun e => mkStr (PySem.Str.ofString "bytes.decode") >>= fun d => call (.builtin "_codecs.decode.text") [.bytes (c :: cs).toArray t, e, .none, d] >>= fun v => ret v) := by kernel_rfl
theorem dec_road (id : String) (b : Array UInt8) : _codecs.decodeRoad id b (PySem.Str.ofString "ascii") none [] = (_codecs.runDecoder id _codecs.asciiDecoder none true b 0 [] >>= fun r => mkStr ⟨r.1⟩) := by kernel_rfl
theorem dec_args (a b : Value) : argsOk "bytes.decode" ⟨[a, b], []⟩ := by
  unfold argsOk; rw [signature?_of (id := "bytes.decode") (n := ['e', 'd', 'o', 'c', 'e', 'd']) (o := ['s', 'e', 't', 'y', 'b']) (by kernel_rfl) FB.owner_bytes]; kernel_rfl
noncomputable def decA (b : Array UInt8) : PySem.Str := ⟨b.map UInt8.toNat⟩
theorem dec_loop {σ : Type} (b : Array UInt8) (hz : b.size ≤ sizeLine) (f : Nat → Nat × Array Nat × σ → Sem (ForInStep (Nat × Array Nat × σ)))
    (hf : ∀ i p (hp : p < b.size) out st, out.size ≤ sizeLine → f i (p, out, st) = pure (.yield (p + 1, out.push (b[p]).toNat, st))) :
    ∀ (k j p : Nat) (st : σ), p + k = b.size → forIn (List.range' j k) (p, (b.extract 0 p).map UInt8.toNat, st) f = pure (b.size, b.map UInt8.toNat, st)
  | 0, j, p, st, h => by
    have : p = b.size := by (first | lia | omega)
    subst this
    simp
  | k + 1, j, p, st, h => by
    have hp : p < b.size := by (first | lia | omega)
    rw [List.range'_succ, List.forIn_cons, hf j p hp _ _ (by simp; (first | lia | omega)), pure_bind]
    have e : ((b.extract 0 p).map UInt8.toNat).push (b[p]).toNat = (b.extract 0 (p + 1)).map UInt8.toNat := by
      rw [← Array.map_push]
      congr 1
      exact Array.push_extract_getElem hp
    rw [e]
    exact dec_loop b hz f hf k (j + 1) (p + 1) st (by (first | lia | omega))
theorem dec_run (id : String) (b : Array UInt8) (hx : ∀ c ∈ b.toList, c.toNat < 128) (hz : b.size ≤ sizeLine) : _codecs.runDecoder id _codecs.asciiDecoder none true b 0 [] = pure ((decA b).cps, b.size) := by
  unfold _codecs.runDecoder
  dsimp only
  rw [KPc.range_list]
  have e0 : ((0 : Nat), (#[] : Array Nat), ({} : _codecs.Faults)) = (0, (b.extract 0 0).map UInt8.toNat, {}) := by simp
  rw [e0, dec_loop (σ := _codecs.Faults) b hz _ ?_ b.size 0 0 {} (by (first | lia | omega))]
  · rfl
  · intro i p hp out st ho
    have hc : (b[p]).toNat < 128 := hx _ (Array.mem_toList_iff.mpr (Array.getElem_mem hp))
    have hfind : _codecs.asciiDecoder.find true b p = .text [(b[p]).toNat] (p + 1) := by
      show (if (b.getD p 0).toNat < 128 then _codecs.Found.char (b.getD p 0).toNat (p + 1) else _) = _
      have e : b.getD p 0 = b[p] := by simp [Array.getD, hp]
      rw [e, if_pos hc]
      rfl
    dsimp only
    rw [if_neg (by (first | lia | omega)), if_neg (by (first | lia | omega)), hfind]
    simp
theorem dec_call {prog : Program} {w : World} {A : Around} {E Q : _} {s : Shared} {b : Array UInt8} {t t2 : Tok} (hx : ∀ c ∈ b.toList, c.toNat < 128) (hz : b.size ≤ sizeLine) (h0 : 0 < b.size)
    (h : ∀ t' k, Q (.str (decA b) t') { s with toks := k }) : wpAny (model prog w) A (call (.builtin "bytes.decode") [.bytes b t, .str (PySem.Str.ofString "ascii") t2]) Q E s := by
  obtain ⟨l⟩ := b
  cases l with
  | nil => simp at h0
  | cons c cs =>
    refine call_meets FB.slot_bytes_decode (typeIs_bytes _ _ _) FB.entry_bytes_decode (dec_args _ _) (S := fun _ R s => ∀ t' k, R (.ok (.ret (.str (decA (c :: cs).toArray) t'))) { s with toks := k }) (.of_wp fun prog w A R s hS => ?_) h
    rw [dec_entry]
    refine wpAny_bind (wpAny_mkStr ?_ (by decide))
    refine wpAny_bind (wpAny_mkStr ?_ (by decide))
    refine wpAny_bind (wpAny_mkStr ?_ (by decide))
    refine wpAny_bind (call_function_meets KBd.kind_text KBd.plain_text KBd.entry_text (KBd.args_text _ _ _ _) (S := fun _ R s => R (.ok (.ret (.str (decA (c :: cs).toArray) s.toks))) { s with toks := s.toks + 1 }) (.of_wp fun prog w A R s hS => ?_) ?_)
    · show wpAny _ _ (Bytes.bytesLike _ (.bytes (c :: cs).toArray t) >>= fun r => _) _ _ s
      refine wpAny_bind (wpAny_of_eq KBd.like_eq ?_)
      refine wpAny_bind (wpAny_of_eq KBd.held_eq ?_)
      show wpAny _ _ (_codecs.decodeRoad _ (c :: cs).toArray (PySem.Str.ofString "ascii") none [] >>= fun v => _) _ _ s
      rw [dec_road, dec_run _ _ hx hz]
      refine wpAny_bind (wpAny_bind (wpAny_pure ?_))
      exact wpAny_mkStr (wpAny_pure ⟨_, rfl, hS⟩) (by show (decA _).cps.size ≤ _; simpa [decA] using hz)
    · exact wpAny_pure ⟨_, rfl, hS _ _⟩
end
end Mine
end
section
open PySem PySem.W PyProof.Rows
namespace Mine

section
open Builtin
theorem slot_translate : Slot "bytes" "translate" "bytes.translate" :=
  .of (owner := "bytes") (n := "translate") (by rw [typeLookup_type, builtinLookup_eq_fast]; kernel_rfl) (by decide +kernel) (by decide +kernel) (by decide +kernel)
    (by first | exact .inl (by decide +kernel) | exact .inr (by decide +kernel)) (by rw [isSubtype_type]; kernel_rfl)
theorem type_translate : typeOf (.builtin "bytes.translate") = pure (.type "method_descriptor") := by show builtinType _ = _; rw [builtinType_eq_fast]; kernel_rfl
theorem entry_translate : entryFor table "bytes.translate" = some Builtin.«bytes.translate» := entryFor_of_tree (by kernel_rfl)
theorem args_translate (a b : Value) : argsOk "bytes.translate" ⟨[a, b], []⟩ := by
  unfold argsOk; rw [signature?_of (id := "bytes.translate") (n := ['e', 't', 'a', 'l', 's', 'n', 'a', 'r', 't']) (o := ['s', 'e', 't', 'y', 'b']) (by kernel_rfl) FB.owner_bytes]; kernel_rfl
theorem check_maketrans (a b : Value) : checkBuiltinCall "bytes.maketrans" ⟨[a, b], []⟩ = pure () := by kernel_rfl
theorem plain_maketrans : plainId "bytes.maketrans" = true := by decide +kernel
theorem entry_maketrans : entryFor table "bytes.maketrans" = some Builtin.«bytes.maketrans» := entryFor_of_tree (by kernel_rfl)
/-- the table of a translation -/
noncomputable def trTab (frm to : Array UInt8) : Array UInt8 := (frm.toList.zip to.toList).foldl (fun t (f, x) => t.setIfInBounds f.toNat x) ((Array.range 256).map (·.toUInt8))
noncomputable def trBy (tbl b : Array UInt8) : Array UInt8 := b.map fun c => tbl.getD c.toNat c
theorem trTab_size (frm to : Array UInt8) : (trTab frm to).size = 256 := by
  have key : ∀ (l : List (UInt8 × UInt8)) (t : Array UInt8), (l.foldl (fun t (f, x) => t.setIfInBounds f.toNat x) t).size = t.size := by
    intro l
    induction l with
    | nil => intro t; rfl
    | cons p l ih => intro t; rw [List.foldl_cons, ih]; simp
  unfold trTab
  rw [key]
  simp
section
variable {prog : Program} {w : World} {A : Around} {E : Value → Shared → Prop} {s : Shared} {Q : Value → Shared → Prop}
theorem maketrans_call {a b : Array UInt8} {t u : Tok} (hs : a.size = b.size) (h : ∀ t' k, Q (.bytes (trTab a b) t') { s with toks := k }) : wpAny (model prog w) A (call (.builtin "bytes.maketrans") [.bytes a t, .bytes b u]) Q E s := by
  have g : Meets (Builtin.«bytes.maketrans» ⟨[.bytes a t, .bytes b u], []⟩) (fun _ R s => ∀ t' k, R (.ok (.ret (.bytes (trTab a b) t'))) { s with toks := k }) := .of_wp fun prog w A R s hS => by
    show wpAny _ _ (Bytes.maketransM .bytes ⟨[.bytes a t, .bytes b u], []⟩) _ _ _
    unfold Bytes.maketransM
    refine wpAny_bind (wpAny_of_eq (a := ()) rfl ?_)
    refine wpAny_bind (wpAny_of_eq (a := ()) rfl ?_)
    refine wpAny_bind (wpAny_of_eq (KBd.like_eq (b := a) (t := t)) ?_)
    refine wpAny_bind (wpAny_of_eq (KBd.like_eq (b := b) (t := u)) ?_)
    rw [if_neg (by rw [bne_iff_ne]; exact fun q => q hs)]
    refine wpAny_bind (wpAny_mkBytes ?_ (by show (trTab a b).size ≤ _; rw [trTab_size, sizeLine_eq]; decide))
    exact wpAny_pure ⟨_, rfl, hS _ _⟩
  exact wpAny_call (codeAny_call_builtin plain_maketrans entry_maketrans (wpAny_of_eq (check_maketrans _ _) (g prog w A (wants Q E) s h)))
theorem translate_call {b tbl : Array UInt8} {t u : Tok} (hz : b.size ≤ sizeLine) (ht : tbl.size = 256) (h : ∀ t' k, Q (.bytes (trBy tbl b) t') { s with toks := k }) : wpAny (model prog w) A (call (.builtin "bytes.translate") [.bytes b t, .bytes tbl u]) Q E s := by
  refine call_meets slot_translate (typeIs_bytes _ _ _) entry_translate (args_translate _ _) (S := fun _ R s => ∀ t' k, R (.ok (.ret (.bytes (trBy tbl b) t'))) { s with toks := k }) (.of_wp fun prog w A R s hS => ?_) h
  show wpAny _ _ (Bytes.translateM .bytes ⟨[.bytes b t, .bytes tbl u], []⟩) _ _ _
  have hb : (Value.bytes tbl u == Value.none) = false := rfl
  have hf : Array.filter (fun x => !(#[] : Array UInt8).contains x) b = b := by simp
  have hp : Bytes.payload (.bytes b t) = pure b := rfl
  have hk : Bytes.Kind.bytes.same (.bytes b t) = pure (.bytes b t) := rfl
  have hl : ∀ id, Bytes.bytesLike id (.bytes tbl u) = pure tbl := fun id => KBd.like_eq
  have h2 : ¬ ([Value.bytes tbl u].length + ([] : List (PySem.Str × Value)).length > 2) := by simp
  unfold Bytes.translateM
  simp only [if_neg h2, List.any_nil, Bool.false_eq_true, if_false, hb, hl, pure_bind, List.head?_nil, Option.map_none, hp]
  rw [if_neg (by rw [bne_iff_ne]; exact fun q => q ht)]
  show wpAny _ _ (if (Array.map (fun c => tbl.getD c.toNat c) (Array.filter (fun x => !(#[] : Array UInt8).contains x) b) == b) = true then _ else _) _ _ _
  rw [hf]
  by_cases hq : (Array.map (fun c => tbl.getD c.toNat c) b == b) = true
  · rw [if_pos hq]
    have e : trBy tbl b = b := eq_of_beq hq
    rw [e] at hS
    refine wpAny_bind (wpAny_rule ?_)
    refine wpAny_bind (wpAny_of_eq hk ?_)
    exact wpAny_pure ⟨_, rfl, hS t s.toks⟩
  · rw [if_neg hq]
    refine wpAny_bind (wpAny_mkBytes ?_ (by simp; exact hz))
    exact wpAny_pure ⟨_, rfl, hS _ _⟩
theorem tr_method {M : Model} {x : Array UInt8} {t : Tok} {pl : Sem Bool} {Q : Value × List Value → Shared → Prop} (h : Q (.builtin "bytes.translate", [.bytes x t]) s) : wpAny M A (getMethod (.bytes x t) "translate" pl) Q E s := by
  with_reducible exact KBd.method_of (.bytes x t) (typeIs_bytes _ _ _) slot_translate type_translate KBd.noRef h
end
end
end Mine
end
section
open PySem PySem.W PyProof.Rows
namespace Mine

theorem truth_ctr (w : World) (mean : ExcName → Option Value) (mg mb : Str → Option Value) (news : List (Addr × Obj)) : Ctr 460 w mean mg mb 107 news [.bool false] [] (fun _ => .bool false) := by
  k_with_none
  dsimp only [Ctr, KK, prog, loose, view]
  intro dp un gd cn cs a ccd cl outer A₀ base h₀ L m s Q E B F X N T hk hd hu hret
  refine lower 460 (4 * 460) (by dsimp only; omega) (by dsimp only; omega) ?_
  dsimp only
  refine wpAny_call ?_
  k_dflt (refine' enterV (binds := [(Str.ofString "x", .bool false)]) ?k1 ?k2 ?k3 ?k4 ?k5 ?kA ?kF ?kK ?k6 ?k7 ?k8 ?k9 ?kB ?_ ?c2 ?c3 ?c4 ?c5; (case kA => exact rfl); (case kF => exact rfl); (case kK => first | exact rfl | assumption); (case k1 => k_asm); (case k2 => k_asm); (case k3 => k_asm); (case k4 => k_asm); (case k5 => k_asm); (case k6 => k_is); (case k7 => k_is); (case k8 => exact Nat.le_of_ble_eq_true rfl); (case k9 => (refine' kp_binds ?kx ?ke; (case kx => k_in); (case ke => (intro S; kernel_rfl)))); (case c5 => decide); (case kB => exact locs rfl); (case c2 => exact rfl); (case c3 => exact rfl); (case c4 => exact rfl); k_whole; intro L' h' F' N' B' X' T'; (try dsimp only); (try k_lift B'); (try k_fold))
  k_steps
  (refine leaveV_val (by k_asm) ?_; intro F9 N9; dsimp only)
  exact hret 0 _ _ F9 N9
end Mine
end
section
open PySem PySem.W PyProof.Rows
namespace Mine

/-- the frame and the list before a turn -/
inductive JA (D : Addr) (pre : List Int) (m : Str → Option Value) (o : Obj) : Prop
  | mk (vs : List Value) (out : List Int) (nn : Nat) (q left ii : Int) (tq tl tp ti : Tok) (ho : o = listOf vs.toArray nn) (hf : IntsAre vs out) (hP : InvA pre out q left 0) (f1 : m (Str.ofString "out") = some (.ref D))
      (f2 : m (Str.ofString "quad_pos") = some (.int q tq)) (f3 : m (Str.ofString "leftchar") = some (.int left tl)) (f4 : m (Str.ofString "pads") = some (.int 0 tp)) (f5 : m (Str.ofString "i") = some (.int ii ti)) : JA D pre m o
theorem a2b_ctr (w : World) (mean : ExcName → Option Value) (mg mb : Str → Option Value) (news : List (Addr × Obj)) (b : Array UInt8) (t : Tok) (hb : b.size ≤ 1000) (hok : ∀ c ∈ KBw.bInts b, c ≠ 61 ∧ 0 ≤ b64v c ∧ b64v c < 64) (h4 : b.size % 4 = 0) :
    Ctr 440 w mean mg mb 122 news [.bytes b t] [(Str.ofString "strict_mode", .bool false)] (fun t => .bytes (byteArr (dig 256 (3 * b.size / 4) (Wb (KBw.bInts b)))) t) := by
  k_with_none
  (k_with "eval Name" => (k_here; k_dflt (refine nameX_L (by k_asm) (by first | assumption | rfl) ?_ (by rfl) (by rfl))))
  (k_with "eval Constant int" => (with_reducible refine nI ?_))
  (k_with "eval Constant str" => (with_reducible refine nS ?_))
  (k_with "binaryOp Add int int" => (with_reducible refine nAdd ?_))
  (k_with "binaryOp Sub int int" => (with_reducible refine nSub ?_))
  (k_with "binaryOp BitAnd int int" => (with_reducible refine nAnd ?_))
  (k_with "binaryOp BitOr int int" => (with_reducible refine nOr ?_))
  (k_with "call type:type" => ((with_reducible show wpAny _ _ (call _ [Value.bytes _ _]) _ _ _); refine call_type_of (Tx := "bytes") rfl (by decide +kernel) ?_))
  (k_with "call ref" => (k_here; (with_reducible show wpAny _ _ (call (Value.ref 107) _ _) _ _ _); k_dflt (refine use_ctr (truth_ctr _ _ _ _ _) (by k_asm) (by k_asm) (by k_asm) (by k_asm) (by k_asm) (by first | exact rfl | assumption) (by exact Nat.le_of_ble_eq_true rfl) (by exact Nat.le_of_ble_eq_true rfl) ?_); intro t9 h9 tk9 F9 N9; (try dsimp only); (try k_fold)))
  (k_with "call ref" => (k_here; (with_reducible show wpAny _ _ (call (Value.ref 114) _ _) _ _ _); k_dflt (refine use_ctr (b64v_ctr _ _ _ _ _ _ _) (by k_asm) (by k_asm) (by k_asm) (by k_asm) (by k_asm) (by first | exact rfl | assumption) (by exact Nat.le_of_ble_eq_true rfl) (by exact Nat.le_of_ble_eq_true rfl) ?_); intro t9 h9 tk9 F9 N9; (try dsimp only); (try k_fold)))
  dsimp only [Ctr, KK, prog, loose, view]
  intro dp un gd cn cs a ccd cl outer A₀ base h₀ L m s Q E B F X N T hk hd hu hret
  refine lower 440 (4 * 440) (by dsimp only; omega) (by dsimp only; omega) ?_
  dsimp only
  refine wpAny_call ?_
  k_dflt (refine' enterV (binds := [(Str.ofString "data", .bytes b t), (Str.ofString "strict_mode", .bool false)]) ?k1 ?k2 ?k3 ?k4 ?k5 ?kA ?kF ?kK ?k6 ?k7 ?k8 ?k9 ?kB ?_ ?c2 ?c3 ?c4 ?c5; (case kA => exact rfl); (case kF => exact rfl); (case kK => first | exact rfl | assumption); (case k1 => k_asm); (case k2 => k_asm); (case k3 => k_asm); (case k4 => k_asm); (case k5 => k_asm); (case k6 => k_is); (case k7 => k_is); (case k8 => exact Nat.le_of_ble_eq_true rfl); (case k9 => (refine' kp_binds ?kx ?ke; (case kx => k_in); (case ke => (intro S; kernel_rfl)))); (case c5 => decide); (case kB => exact locs rfl); (case c2 => exact rfl); (case c3 => exact rfl); (case c4 => exact rfl); k_whole; intro L' h' F' N' B' X' T'; (try dsimp only); (try k_lift B'); (try k_fold))
  obtain ⟨m9, hm9, F9⟩ := fr_gen F'
  have f1 : m9 (Str.ofString "data") = some (.bytes b t) := eqv hm9 rfl
  have f2 : m9 (Str.ofString "strict_mode") = some (.bool false) := eqv hm9 rfl
  have hA : AtH _ s _ m9 [] ⟨h', s.gens, s.drawn, s.toks + 2, s.os⟩ := ⟨_, _, rfl, F9, N'⟩
  clear hm9 F'
  refine run_cut (fun s' => AtH s.heap s L' (upd m9 (Str.ofString "ascii_data") (.bytes b t)) [] s') ?c1 ?_
  case c1 =>
    clear hA
    k_steps
    exact ⟨rfl, _, _, rfl, by assumption, by assumption⟩
  clear hA F9 N'
  intro s1 hA
  refine run_cut (fun s' => AtH s.heap s L' (upd (upd m9 (Str.ofString "ascii_data") (.bytes b t)) (Str.ofString "strict_mode") (.bool false)) [] s') ?c2 ?_
  case c2 =>
    obtain ⟨h1, tk1, rfl, F1, N1⟩ := hA
    k_steps
    exact ⟨rfl, _, _, rfl, by assumption, by assumption⟩
  clear hA
  intro s2 hA
  refine run_cut (fun s' => ∃ D, AtH s.heap s L' (upd (upd (upd m9 (Str.ofString "ascii_data") (.bytes b t)) (Str.ofString "strict_mode") (.bool false)) (Str.ofString "out") (.ref D)) [(D, listOf ([] : List Value).toArray 0)] s') ?c3 ?_
  case c3 =>
    obtain ⟨h1, tk1, rfl, F1, N1⟩ := hA
    k_steps
    exact ⟨rfl, _, _, _, rfl, by assumption, by assumption⟩
  clear hA
  rintro s3 ⟨D, hA⟩
  refine run_set loc_of hA IE.const ?_
  clear hA
  intro t4 s4 hA
  refine run_set loc_of hA IE.const ?_
  clear hA
  intro t5 s5 hA
  refine run_set loc_of hA IE.const ?_
  clear hA
  intro t6 s6 hA
  refine run_set loc_of hA IE.const ?_
  clear hA
  intro t7 s7 hA
  refine run_bytes loc_of rfl (JA D) hA rfl PassesOwn.leaving ⟨[], [], _, _, _, _, _, _, _, _, rfl, .nil, invA_start, rfl, rfl, rfl, rfl, rfl⟩ ?turn ?done
  case turn =>
    clear hA f1 f2
    rintro pre n tn m o own s0 hlen hmem - - o9 ⟨vs, out, nn, q, left, ii, tq, tl, tp, ti, rfl, hfa, hP, f6, f2, f3, f4, f5⟩ hA
    have hvl := hP.room hfa.length (Nat.lt_of_lt_of_le hlen hb)
    have hP' := hP
    obtain ⟨-, hl0, hl1, -, -, hq⟩ := hP'
    obtain ⟨hn1, hn2, hn3⟩ := hok n hmem
    refine run_if_f loc_of hA (CE.eq (IE.name (by rfl)) IE.const) (beq_false_of_ne hn1) ?_
    clear hA
    intro s1 hA
    refine run_nil ?_
    refine run_call hA (Str.ofString "this_ch") (b64v n) ?first ?_
    case first =>
      obtain ⟨h1, tk1, rfl, F1, N1⟩ := hA
      try k_fold
      k_steps
      exact ⟨rfl, _, _, _, rfl, by assumption, by assumption⟩
    clear hA
    intro t2 s2 hA
    refine run_if_f loc_of hA (CE.ge (IE.name rfl) IE.const) (decide_eq_false (Int.not_le.mpr hn3)) ?_
    clear hA
    intro s3 hA
    refine run_nil ?_
    refine run_if_f loc_of hA (CE.no (by exact f4)) rfl ?_
    clear hA
    intro s4 hA
    refine run_nil ?_
    refine gen_env (P := fun A' env' => Loc _ _ env') loc_of ?_
    intro A' env' V
    refine run_set V hA IE.const ?_
    clear hA
    intro t5 s5 hA
    rcases hq with ⟨rfl, hW, hL⟩ | ⟨rfl, hW, hL⟩ | ⟨rfl, hW, hl, hL⟩ | ⟨rfl, hW, hl, hL⟩
    · refine run_if_t V hA (CE.eq (IE.name (by exact f2)) IE.const) rfl ?_
      clear hA
      intro s6 hA
      refine run_set V hA IE.const ?_
      clear hA
      intro t7 s7 hA
      refine run_set V hA (IE.name (by rfl)) ?_
      clear hA
      intro t8 s8 hA
      refine run_nil ?_
      refine run_set V hA (IE.add (IE.name (by exact f5)) IE.const) ?_
      clear hA
      intro t9 s9 hA
      exact wpAny_execs_nil ⟨rfl, _, _, ⟨_, _, _, _, _, _, _, _, _, _, rfl, hfa, inv0 hP hn2 hn3 hW hL, by exact f6, rfl, rfl, rfl, rfl⟩, hA⟩
    · refine run_if_f V hA (CE.eq (IE.name (by exact f2)) IE.const) rfl ?_
      clear hA
      intro s6 hA
      refine run_if_t V hA (CE.eq (IE.name (by exact f2)) IE.const) rfl ?_
      clear hA
      intro s6 hA
      refine run_set V hA IE.const ?_
      clear hA
      intro t7 s7 hA
      refine run_app V hA (IE.or (IE.shl (k := 2) (IE.name (by exact f3)) IE.const (by decide) (nat64 hl0 (Int.lt_trans hl1 (by decide)))) (IE.shr (k := 4) (IE.name (by rfl)) IE.const)) (by exact f6) o9 hvl ?_
      clear hA
      intro t8 s8 hA
      refine run_set V hA (IE.and (IE.name (by rfl)) IE.const) ?_
      clear hA
      intro t8 s8 hA
      refine run_nil (run_nil ?_)
      refine run_set V hA (IE.add (IE.name (by exact f5)) IE.const) ?_
      clear hA
      intro t9 s9 hA
      exact wpAny_execs_nil ⟨rfl, _, _, ⟨_, _, _, _, _, _, _, _, _, _, rfl, ints_snoc hfa, inv1 hP hn2 hn3 hW hL, by exact f6, rfl, rfl, rfl, rfl⟩, hA⟩
    · refine run_if_f V hA (CE.eq (IE.name (by exact f2)) IE.const) rfl ?_
      clear hA
      intro s6 hA
      refine run_if_f V hA (CE.eq (IE.name (by exact f2)) IE.const) rfl ?_
      clear hA
      intro s6 hA
      refine run_if_t V hA (CE.eq (IE.name (by exact f2)) IE.const) rfl ?_
      clear hA
      intro s6 hA
      refine run_set V hA IE.const ?_
      clear hA
      intro t7 s7 hA
      refine run_app V hA (IE.or (IE.shl (k := 4) (IE.name (by exact f3)) IE.const (by decide) (nat64 hl0 (Int.lt_trans hl1 (by decide)))) (IE.shr (k := 2) (IE.name (by rfl)) IE.const)) (by exact f6) o9 hvl ?_
      clear hA
      intro t8 s8 hA
      refine run_set V hA (IE.and (IE.name (by rfl)) IE.const) ?_
      clear hA
      intro t8 s8 hA
      refine run_nil (run_nil (run_nil ?_))
      refine run_set V hA (IE.add (IE.name (by exact f5)) IE.const) ?_
      clear hA
      intro t9 s9 hA
      exact wpAny_execs_nil ⟨rfl, _, _, ⟨_, _, _, _, _, _, _, _, _, _, rfl, ints_snoc hfa, inv2 hP hn2 hn3 hW hl hL, by exact f6, rfl, rfl, rfl, rfl⟩, hA⟩
    · refine run_if_f V hA (CE.eq (IE.name (by exact f2)) IE.const) rfl ?_
      clear hA
      intro s6 hA
      refine run_if_f V hA (CE.eq (IE.name (by exact f2)) IE.const) rfl ?_
      clear hA
      intro s6 hA
      refine run_if_f V hA (CE.eq (IE.name (by exact f2)) IE.const) rfl ?_
      clear hA
      intro s6 hA
      refine run_set V hA IE.const ?_
      clear hA
      intro t7 s7 hA
      refine run_app V hA (IE.or (IE.shl (k := 6) (IE.name (by exact f3)) IE.const (by decide) (nat64 hl0 (Int.lt_trans hl1 (by decide)))) (IE.name (by rfl))) (by exact f6) o9 hvl ?_
      clear hA
      intro t8 s8 hA
      refine run_set V hA IE.const ?_
      clear hA
      intro t8 s8 hA
      refine run_nil (run_nil (run_nil ?_))
      refine run_set V hA (IE.add (IE.name (by exact f5)) IE.const) ?_
      clear hA
      intro t9 s9 hA
      exact wpAny_execs_nil ⟨rfl, _, _, ⟨_, _, _, _, _, _, _, _, _, _, rfl, ints_snoc hfa, inv3 hP hn2 hn3 hW hl hL, by exact f6, rfl, rfl, rfl, rfl⟩, hA⟩
  case done =>
    clear hA f1 f2
    rintro m o s8 ⟨vs, out, nn, q, left, ii, tq, tl, tp, ti, rfl, hfa, hP, f6, f2, f3, f4, f5⟩ hA
    obtain ⟨rfl, -, hout, hW, hL, hl2⟩ := hP.done (KBw.ints_length b) h4 hb
    refine run_if_f loc_of hA (CE.eq (IE.name f2) IE.const) rfl ?_
    clear hA
    intro s9 hA
    refine run_nil ?_
    refine run_if_f loc_of hA (CE.and_no (CE.ne (IE.name f2) IE.const) rfl) rfl ?_
    clear hA
    intro s10 hA
    refine run_nil ?_
    have hvl := hfa.length
    have hr' := out_is hout hW hL
    obtain ⟨h1, tk1, rfl, F1, N1⟩ := hA
    try k_fold
    k_steps
    show LeaveV _ _ _ _ _ _ _ _
    (refine leaveV_val (by k_asm) ?_; intro F9 N9; dsimp only)
    rw [hr']
    exact hret _ _ _ F9 N9
end Mine
end
section
open PySem PySem.W PyProof.Rows
namespace Mine

end Mine
end
section
open PySem PySem.W PyProof.Rows
namespace Mine

noncomputable def tab64 : List UInt8 := [65, 66, 67, 68, 69, 70, 71, 72, 73, 74, 75, 76, 77, 78, 79, 80, 81, 82, 83, 84, 85, 86, 87, 88, 89, 90, 97, 98, 99, 100, 101, 102, 103, 104, 105, 106, 107, 108, 109, 110, 111, 112, 113, 114, 115, 116, 117, 118, 119, 120, 121, 122, 48, 49, 50, 51, 52, 53, 54, 55, 56, 57, 43, 47]
noncomputable def b64c (d : Int) : Int := ((tab64.getD d.toNat 0).toNat : Int)
theorem b64_item {prog : Program} {w : World} {A : Around} {E : Value → Shared → Prop} {s : Shared} {Q : Value → Shared → Prop} {value slice : Expr} {y : Int} {t u : Tok} (h : Q (.int (b64c (y % 64)) s.toks) { s with toks := s.toks + 1 })
    (hs : subscripted slice false (.bytes tab64.toArray t) (.int (Builtin.bitAnd y 63) u) = operate [.bytes tab64.toArray t, .int (Builtin.bitAnd y 63) u] (getItem (.bytes tab64.toArray t) (.int (Builtin.bitAnd y 63) u)) := by with_unfolding_all rfl)
    (ht : ∀ r, letTemporaryGo value (.bytes tab64.toArray t) r = pure () := by intro _; with_unfolding_all rfl) :
    wpAny (model prog w) A (subscriptTail value slice (.bytes tab64.toArray t) (.int (Builtin.bitAnd y 63) u)) Q E s := by
  rw [bitAnd_m6] at *
  exact KBy.item_N (by decide) (by (first | lia | omega)) (by show _ < (64 : Int); (first | lia | omega)) h hs ht
noncomputable def InvB (pre ds : List Int) (lb c : Int) : Prop :=
  0 ≤ c ∧ c < 65536 ∧ (∀ x ∈ ds, 0 ≤ x ∧ x < 64) ∧ ds.length ≤ 2 * pre.length ∧
  ((lb = 0 ∧ Vb pre = val 64 ds ∧ 6 * ds.length = 8 * pre.length) ∨ (lb = 2 ∧ Vb pre = val 64 ds * 4 + c % 4 ∧ 6 * ds.length + 2 = 8 * pre.length) ∨
   (lb = 4 ∧ Vb pre = val 64 ds * 16 + c % 16 ∧ 6 * ds.length + 4 = 8 * pre.length))
theorem leftC {c n : Int} (hn0 : 0 ≤ n) (hn1 : n < 256) : Builtin.bitAnd (Builtin.bitOr (c * 2 ^ 8) n) 65535 = (c * 256 + n) % 65536 := by
  rw [show Builtin.bitOr (c * 2 ^ 8) n = c * 256 + n from or_shift c 8 n hn0 hn1, bitAnd_m16]
theorem ds_snoc {ds : List Int} {x : Int} (hds : ∀ x ∈ ds, 0 ≤ x ∧ x < 64) (h0 : 0 ≤ x ∧ x < 64) : ∀ y ∈ ds ++ [x], 0 ≤ y ∧ y < 64 := fun y hy => by
  rcases List.mem_append.mp hy with h | h
  · exact hds y h
  · rw [List.mem_singleton.mp h]; exact h0
noncomputable def runB (c : Int) : Nat → Int → List Int → List Int
  | 0, _, out => out
  | k + 1, lb, out => runB c k (lb - 6) (out ++ [b64c (c.fdiv (2 ^ (lb - 6).toNat) % 64)])
section
variable {pre ds : List Int} {c n lb : Int}
theorem invB_start : InvB [] [] 0 0 := ⟨Int.le_refl _, by decide, (fun _ h => nomatch h), Nat.le_refl _, .inl ⟨rfl, rfl, rfl⟩⟩
theorem em64 (x : Int) : 0 ≤ x % 64 ∧ x % 64 < 64 := ⟨Int.emod_nonneg _ (by decide), Int.emod_lt_of_pos _ (by decide)⟩
theorem invB_n0 {c n q e : Int} (hn0 : 0 ≤ n) (hn1 : n < 256) (hq : q = (c * 256 + n) % 65536) : e * 256 + n = (e * 64 + q / 4 % 64) * 4 + q % 4 := by (first | lia | omega)
theorem invB_n2 {c n q e : Int} (hn0 : 0 ≤ n) (hn1 : n < 256) (hq : q = (c * 256 + n) % 65536) : (e * 4 + c % 4) * 256 + n = (e * 64 + q / 16 % 64) * 16 + q % 16 := by (first | lia | omega)
theorem invB_n4 {c n q e : Int} (hn0 : 0 ≤ n) (hn1 : n < 256) (hq : q = (c * 256 + n) % 65536) : (e * 16 + c % 16) * 256 + n = (e * 64 + q / 64 % 64) * 64 + q / 1 % 64 := by (first | lia | omega)
theorem invB_l {a b : Nat} (h : a ≤ 2 * b) : a + 1 ≤ 2 * (b + 1) ∧ a + 1 + 1 ≤ 2 * (b + 1) := by (first | lia | omega)
theorem invB_m {a b : Nat} : (6 * a = 8 * b → 6 * (a + 1) + 2 = 8 * (b + 1)) ∧ (6 * a + 2 = 8 * b → 6 * (a + 1) + 4 = 8 * (b + 1)) ∧ (6 * a + 4 = 8 * b → 6 * (a + 1 + 1) = 8 * (b + 1)) := by (first | lia | omega)
theorem InvB.turn (h : InvB pre ds lb c) (hn0 : 0 ≤ n) (hn1 : n < 256) : ∃ (K : Nat) (lf : Int) (ds' : List Int), K ≤ 2 ∧ lb + 8 = 6 * (K : Int) + lf ∧ 0 ≤ lf ∧ lf < 6 ∧ runB (Builtin.bitAnd (Builtin.bitOr (c * 2 ^ 8) n) 65535) K (lb + 8) (ds.map b64c) = ds'.map b64c ∧ InvB (pre ++ [n]) ds' lf (Builtin.bitAnd (Builtin.bitOr (c * 2 ^ 8) n) 65535) := by
  rw [leftC hn0 hn1]
  obtain ⟨q, hq⟩ : ∃ q, q = (c * 256 + n) % 65536 := ⟨_, rfl⟩
  have q0 : 0 ≤ q := hq ▸ Int.emod_nonneg _ (by decide)
  have q1 : q < 65536 := hq ▸ Int.emod_lt_of_pos _ (by decide)
  obtain ⟨_, _, hds, hdl, h⟩ := h
  rw [← hq]
  rcases h with ⟨rfl, hW, hL⟩ | ⟨rfl, hW, hL⟩ | ⟨rfl, hW, hL⟩
  · refine ⟨1, 2, ds ++ [q / 4 % 64], by decide, rfl, by decide, by decide, ?_, q0, q1, ds_snoc hds (em64 _), by rw [snoc_len, snoc_len]; exact (invB_l hdl).1, .inr (.inl ⟨rfl, by rw [Vb_snoc, val_snoc, hW]; exact invB_n0 hn0 hn1 hq, by rw [snoc_len, snoc_len]; exact invB_m.1 hL⟩)⟩
    rw [List.map_append, ← fdiv_pow q 2 4 rfl (by decide)]; rfl
  · refine ⟨1, 4, ds ++ [q / 16 % 64], by decide, rfl, by decide, by decide, ?_, q0, q1, ds_snoc hds (em64 _), by rw [snoc_len, snoc_len]; exact (invB_l hdl).1, .inr (.inr ⟨rfl, by rw [Vb_snoc, val_snoc, hW]; exact invB_n2 hn0 hn1 hq, by rw [snoc_len, snoc_len]; exact invB_m.2.1 hL⟩)⟩
    rw [List.map_append, ← fdiv_pow q 4 16 rfl (by decide)]; rfl
  · refine ⟨2, 0, ds ++ [q / 64 % 64] ++ [q / 1 % 64], by decide, rfl, by decide, by decide, ?_, q0, q1, ds_snoc (ds_snoc hds (em64 _)) (em64 _), by rw [snoc_len, snoc_len, snoc_len]; exact (invB_l hdl).2, .inl ⟨rfl, by rw [Vb_snoc, val_snoc, val_snoc, hW]; exact invB_n4 hn0 hn1 hq, by rw [snoc_len, snoc_len, snoc_len]; exact invB_m.2.2 hL⟩⟩
    rw [List.map_append, List.map_append, ← fdiv_pow q 6 64 rfl (by decide), ← fdiv_pow q 0 1 rfl (by decide)]; rfl
theorem InvB.room (h : InvB pre ds lb c) : c.natAbs < 2 ^ 64 := nat64 h.1 h.2.1
theorem InvB.len {vs : List Value} {K : Nat} (h : InvB pre ds lb c) (hv : IntsAre vs (ds.map b64c)) (hp : pre.length < 1000) (hK : K ≤ 2) : vs.length + K ≤ 2002 := by
  have h1 := hv.length
  have h2 := h.2.2.2.1
  rw [List.length_map] at h1
  clear h hv
  (first | lia | omega)
theorem InvB.done {k : Nat} (h : InvB pre ds lb c) (hp : pre.length = k) (h3 : k % 3 = 0) (hk : k ≤ 1000) : lb = 0 ∧ Vb pre = val 64 ds ∧ (∀ x ∈ ds, 0 ≤ x ∧ x < 64) ∧ 6 * ds.length = 8 * k ∧ ds.length ≤ 2000 := by
  subst hp
  obtain ⟨_, _, hds, hdl, h⟩ := h
  have key : ∀ c : Nat, 0 < c → c < 6 → 6 * ds.length + c = 8 * pre.length → c = 3 := fun c h1 h2 h => by (first | lia | omega)
  rcases h with ⟨h, hW, hL⟩ | ⟨_, _, hL⟩ | ⟨_, _, hL⟩
  · exact ⟨h, hW, hds, hL, Nat.le_trans hdl (Nat.mul_le_mul_left 2 hk)⟩
  · cases key 2 (by decide) (by decide) hL
  · cases key 4 (by decide) (by decide) hL
end
theorem six_le {k : Nat} {lf lb : Int} (h : lb = 6 * ((k + 1 : Nat) : Int) + lf) (h0 : 0 ≤ lf) : 6 ≤ lb ∧ lb - 6 = 6 * (k : Int) + lf ∧ 0 ≤ lb - 6 := by (first | lia | omega)
theorem not_six {lf lb : Int} (h : lb = 6 * ((0 : Nat) : Int) + lf) (h1 : lf < 6) : ¬ 6 ≤ lb ∧ lb = lf := by (first | lia | omega)
theorem digs_are {ds : List Int} {v : Int} {n : Nat} (hds : ∀ x ∈ ds, 0 ≤ x ∧ x < 64) (hW : v = val 64 ds) (hL : 6 * ds.length = 8 * n) : ds = dig 64 (4 * n / 3) v := by
  have : 4 * n / 3 = ds.length := by (first | lia | omega)
  rw [this, hW, dig_val 64 (by decide) ds hds]
theorem b64c_in (d : Int) : 0 ≤ b64c d ∧ b64c d < 128 := by
  unfold b64c
  generalize d.toNat = k
  have key : ∀ k, (tab64.getD k 0).toNat < 128 := by
    intro k
    by_cases h : k < 64
    · have : ∀ k : Fin 64, (tab64.getD k.val 0).toNat < 128 := by decide
      exact this ⟨k, h⟩
    · rw [List.getD_eq_getElem?_getD, List.getElem?_eq_none (by show 64 ≤ k; (first | lia | omega))]; decide
  have := key k
  (first | lia | omega)
theorem b64c_all (ds : List Int) : ∀ x ∈ ds.map b64c, 0 ≤ x ∧ x < 256 := fun x hx => by
  obtain ⟨d, _, rfl⟩ := List.mem_map.mp hx
  exact ⟨(b64c_in d).1, Int.lt_trans (b64c_in d).2 (by decide)⟩
/-- the frame and the list before a turn -/
inductive JB (D : Addr) (pre : List Int) (m : Str → Option Value) (o : Obj) : Prop
  | mk (vs : List Value) (ds : List Int) (nn : Nat) (lb c : Int) (tb tc : Tok) (ho : o = listOf vs.toArray nn) (hf : IntsAre vs (ds.map b64c)) (hP : InvB pre ds lb c) (f1 : m (Str.ofString "out") = some (.ref D))
      (f2 : m (Str.ofString "leftbits") = some (.int lb tb)) (f3 : m (Str.ofString "leftchar") = some (.int c tc)) (f4 : m (Str.ofString "newline") = some (.bool false)) : JB D pre m o
/-- the same while signs are given out: `k` are yet to come -/
inductive JW (D : Addr) (c lf : Int) (fin : List Int) (k : Nat) (m : Str → Option Value) (o : Obj) : Prop
  | mk (vs : List Value) (out : List Int) (nn : Nat) (lb : Int) (tb tc : Tok) (ho : o = listOf vs.toArray nn) (hf : IntsAre vs out) (hk : vs.length + k ≤ 2002) (hl : lb = 6 * (k : Int) + lf) (hr : runB c k lb out = fin) (f1 : m (Str.ofString "out") = some (.ref D))
      (f2 : m (Str.ofString "leftbits") = some (.int lb tb)) (f3 : m (Str.ofString "leftchar") = some (.int c tc)) (f4 : m (Str.ofString "newline") = some (.bool false)) : JW D c lf fin k m o
theorem b2a_ctr (w : World) (mean : ExcName → Option Value) (mg mb : Str → Option Value) (news : List (Addr × Obj)) (b : Array UInt8) (t : Tok) (hb : b.size ≤ 1000) (h3 : b.size % 3 = 0) :
    Ctr 440 w mean mg mb 130 news [.bytes b t] [(Str.ofString "newline", .bool false)] (fun t => .bytes (byteArr ((dig 64 (4 * b.size / 3) (Vb (KBw.bInts b))).map b64c)) t) := by
  k_with_none
  (k_with "eval Name" => (k_here; k_dflt (refine nameX_L (by k_asm) (by first | assumption | rfl) ?_ (by rfl) (by rfl))))
  (k_with "eval Constant int" => (with_reducible refine nI ?_))
  (k_with "eval Constant str" => (with_reducible refine nS ?_))
  (k_with "binaryOp Add int int" => (with_reducible refine nAdd ?_))
  (k_with "binaryOp Sub int int" => (with_reducible refine nSub ?_))
  (k_with "binaryOp BitAnd int int" => (with_reducible refine nAnd ?_))
  (k_with "binaryOp BitOr int int" => (with_reducible refine nOr ?_))
  (k_with "call type:type" => ((with_reducible show wpAny _ _ (call _ [Value.bytes _ _]) _ _ _); refine call_type_of (Tx := "bytes") rfl (by decide +kernel) ?_))
  (k_with "call ref" => (k_here; (with_reducible show wpAny _ _ (call (Value.ref 107) _ _) _ _ _); k_dflt (refine use_ctr (truth_ctr _ _ _ _ _) (by k_asm) (by k_asm) (by k_asm) (by k_asm) (by k_asm) (by first | exact rfl | assumption) (by exact Nat.le_of_ble_eq_true rfl) (by exact Nat.le_of_ble_eq_true rfl) ?_); intro t9 h9 tk9 F9 N9; (try dsimp only); (try k_fold)))
  (k_with "subscriptTail" => ((with_reducible show wpAny _ _ (subscriptTail _ _ (Value.bytes _ _) (Value.int (Builtin.bitAnd _ 63) _)) _ _ _); k_dflt (refine b64_item ?_)))
  dsimp only [Ctr, KK, prog, loose, view]
  intro dp un gd cn cs a ccd cl outer A₀ base h₀ L m s Q E B F X N T hk hd hu hret
  refine lower 440 (4 * 440) (by dsimp only; omega) (by dsimp only; omega) ?_
  dsimp only
  refine wpAny_call ?_
  k_dflt (refine' enterV (binds := [(Str.ofString "data", .bytes b t), (Str.ofString "newline", .bool false)]) ?k1 ?k2 ?k3 ?k4 ?k5 ?kA ?kF ?kK ?k6 ?k7 ?k8 ?k9 ?kB ?_ ?c2 ?c3 ?c4 ?c5; (case kA => exact rfl); (case kF => exact rfl); (case kK => first | exact rfl | assumption); (case k1 => k_asm); (case k2 => k_asm); (case k3 => k_asm); (case k4 => k_asm); (case k5 => k_asm); (case k6 => k_is); (case k7 => k_is); (case k8 => exact Nat.le_of_ble_eq_true rfl); (case k9 => (refine' kp_binds ?kx ?ke; (case kx => k_in); (case ke => (intro S; kernel_rfl)))); (case c5 => decide); (case kB => exact locs rfl); (case c2 => exact rfl); (case c3 => exact rfl); (case c4 => exact rfl); k_whole; intro L' h' F' N' B' X' T'; (try dsimp only); (try k_lift B'); (try k_fold))
  obtain ⟨m9, hm9, F9⟩ := fr_gen F'
  have f1 : m9 (Str.ofString "data") = some (.bytes b t) := eqv hm9 rfl
  have f2 : m9 (Str.ofString "newline") = some (.bool false) := eqv hm9 rfl
  have hA : AtH _ s _ m9 [] ⟨h', s.gens, s.drawn, s.toks + 2, s.os⟩ := ⟨_, _, rfl, F9, N'⟩
  clear hm9 F'
  refine run_cut (fun s' => AtH s.heap s L' (upd m9 (Str.ofString "bin_data") (.bytes b t)) [] s') ?c1 ?_
  case c1 =>
    clear hA
    k_steps
    exact ⟨rfl, _, _, rfl, by assumption, by assumption⟩
  clear hA F9 N'
  intro s1 hA
  refine run_cut (fun s' => AtH s.heap s L' (upd (upd m9 (Str.ofString "bin_data") (.bytes b t)) (Str.ofString "newline") (.bool false)) [] s') ?c2 ?_
  case c2 =>
    obtain ⟨h1, tk1, rfl, F1, N1⟩ := hA
    k_steps
    exact ⟨rfl, _, _, rfl, by assumption, by assumption⟩
  clear hA
  intro s2 hA
  refine run_cut (fun s' => ∃ D, AtH s.heap s L' (upd (upd (upd m9 (Str.ofString "bin_data") (.bytes b t)) (Str.ofString "newline") (.bool false)) (Str.ofString "out") (.ref D)) [(D, listOf ([] : List Value).toArray 0)] s') ?c3 ?_
  case c3 =>
    obtain ⟨h1, tk1, rfl, F1, N1⟩ := hA
    k_steps
    exact ⟨rfl, _, _, _, rfl, by assumption, by assumption⟩
  clear hA
  rintro s3 ⟨D, hA⟩
  refine run_set loc_of hA IE.const ?_
  clear hA
  intro t4 s4 hA
  refine run_set loc_of hA IE.const ?_
  clear hA
  intro t5 s5 hA
  refine run_bytes loc_of rfl (JB D) hA rfl PassesOwn.leaving ⟨[], [], _, _, _, _, _, rfl, .nil, invB_start, rfl, rfl, rfl, rfl⟩ ?turn ?done
  case turn =>
    clear hA f1 f2
    rintro pre n tn m o own s0 hlen hmem hn0 hn1 o9 ⟨vs, ds, nn, lb, c, tb, tc, rfl, hfa, hP, f1, f2, f3, f4⟩ hA
    have hc1 := hP.room
    obtain ⟨K, lf, ds', hK, hlb, hl0, hl1, hrun, hP'⟩ := hP.turn hn0 hn1
    have hvl := hP.len hfa (Nat.lt_of_lt_of_le hlen hb) hK
    clear hP hmem
    refine run_set loc_of hA (IE.and (IE.or (IE.shl (k := 8) (IE.name (by exact f3)) IE.const (by decide) hc1) (IE.name (by rfl))) IE.const) ?_
    clear hA
    intro t6 s6 hA
    refine run_set loc_of hA (IE.add (IE.name (by exact f2)) IE.const) ?_
    clear hA
    intro t7 s7 hA
    refine run_while loc_of PassesOwn.leaving (JW D (Builtin.bitAnd (Builtin.bitOr (c * 2 ^ 8) n) 65535) lf (ds'.map b64c)) K ⟨vs, _, nn, _, _, _, rfl, hfa, hvl, hlb, hrun, by exact f1, rfl, rfl, by exact f4⟩ hA ?go ?stop ?wturn ?wdone
    case go => exact fun k m o ⟨_, _, _, _, _, _, _, _, _, hl, _, _, g2, _, _⟩ => ⟨_, CE.ge (IE.name g2) IE.const, decide_eq_true (six_le hl hl0).1⟩
    case stop => exact fun m o ⟨_, _, _, _, _, _, _, _, _, hl, _, _, g2, _, _⟩ => ⟨_, CE.ge (IE.name g2) IE.const, decide_eq_false (not_six hl hl1).1⟩
    case wturn =>
      clear hA f1 f2 f3 f4 hfa hvl hrun hP' hlb
      rintro k m o s0 ⟨vs, out, nn, lb, tb, tc, rfl, hfa, hvl, hl, hr, f1, f2, f3, f4⟩ hA
      obtain ⟨h6, hl', h0⟩ := six_le hl hl0
      generalize Builtin.bitAnd (Builtin.bitOr (c * 2 ^ 8) n) 65535 = c9 at *
      refine run_cut (fun s' => ∃ t, AtH s.heap s L' m ((D, listOf (vs ++ [Value.int (b64c (c9.fdiv (2 ^ (lb - 6).toNat) % 64)) t]).toArray (nn + 1)) :: own) s') ?c4 ?_
      case c4 =>
        obtain ⟨h1, tk1, rfl, F1, N1⟩ := hA
        try k_fold
        k_steps
        refine append_K F1 N1 (.head o9) (fun h' F' N' => ?_) (by rw [sizeLine_eq, List.size_toArray]; exact Nat.le_trans (Nat.le_add_right _ _) (Nat.le_trans hvl (by decide)))
        rw [List.push_toArray] at N'
        exact ⟨rfl, _, _, _, rfl, F', N'⟩
      clear hA
      rintro s1 ⟨t1, hA⟩
      refine run_set loc_of hA (IE.sub (IE.name f2) IE.const) ?_
      clear hA
      intro t2 s2 hA
      exact wpAny_execs_nil ⟨rfl, _, _, ⟨_, _, _, _, _, _, rfl, ints_snoc hfa, by rw [snoc_len, Nat.add_assoc, Nat.add_comm 1]; exact hvl, hl', hr, by exact f1, rfl, by exact f3, by exact f4⟩, hA⟩
    case wdone =>
      clear hA
      rintro m o s0 ⟨vs, out, nn, lb, tb, tc, rfl, hfa, hvl, hl, hr, f1, f2, f3, f4⟩ hA
      obtain ⟨_, rfl⟩ := not_six hl hl1
      exact wpAny_execs_nil ⟨rfl, _, _, ⟨_, _, _, _, _, _, _, rfl, (show out = _ from hr) ▸ hfa, hP', f1, f2, f3, f4⟩, hA⟩
  case done =>
    clear hA f1 f2
    rintro m o s8 ⟨vs, ds, nn, lb, c, tb, tc, rfl, hfa, hP, f1, f2, f3, f4⟩ hA
    obtain ⟨rfl, hW, hds, hL, hl2⟩ := hP.done (KBw.ints_length b) h3 hb
    refine run_if_f loc_of hA (CE.eq (IE.name f2) IE.const) rfl ?_
    clear hA
    intro s9 hA
    refine run_if_f loc_of hA (CE.eq (IE.name f2) IE.const) rfl ?_
    clear hA
    intro s10 hA
    refine run_nil ?_
    refine run_nil ?_
    refine run_if_f loc_of hA (CE.bool f4) rfl ?_
    clear hA
    intro s11 hA
    refine run_nil ?_
    have hvl := hfa.length
    have hbr := b64c_all ds
    have hr' := digs_are hds hW hL
    rw [List.length_map] at hvl
    obtain ⟨h1, tk1, rfl, F1, N1⟩ := hA
    try k_fold
    k_steps
    show LeaveV _ _ _ _ _ _ _ _
    (refine leaveV_val (by k_asm) ?_; intro F9 N9; dsimp only)
    rw [hr']
    exact hret _ _ _ F9 N9
end Mine
end
section
open PySem PySem.W PyProof.Rows
namespace Mine

section
open PySem.NumText
/-- low figures first -/
noncomputable def ev (B : Int) (l : List Int) : Int := l.foldr (fun c e => c + B * e) 0
theorem ev_nil (B : Int) : ev B [] = 0 := rfl
theorem ev_cons (B c : Int) (l : List Int) : ev B (c :: l) = c + B * ev B l := rfl
noncomputable def dl (B : Int) : Nat → Int → List Int
  | 0, _ => []
  | n + 1, v => v % B :: dl B n (v / B)
theorem dig_dl (B : Int) : ∀ n v, dig B n v = (dl B n v).reverse
  | 0, _ => rfl
  | n + 1, v => by rw [dig, dl, List.reverse_cons, dig_dl B n]
theorem val_reverse (B : Int) : ∀ l : List Int, val B l.reverse = ev B l
  | [] => rfl
  | c :: l => by rw [List.reverse_cons, val_snoc, val_reverse B l, ev_cons, Int.mul_comm]; (first | lia | omega)
theorem dl_zero (B : Int) : ∀ n, dl B n 0 = List.replicate n 0
  | 0 => rfl
  | n + 1 => by rw [dl, Int.zero_emod, Int.zero_ediv, dl_zero B n]; rfl
theorem ev_append (B : Int) : ∀ a b : List Int, ev B (a ++ b) = ev B a + B ^ a.length * ev B b
  | [], b => by simp [ev_nil]
  | c :: a, b => by
    rw [List.cons_append, ev_cons, ev_append B a b, ev_cons, List.length_cons, Int.pow_succ, Int.mul_add, Int.mul_comm (B ^ a.length) B, Int.mul_assoc]; (first | lia | omega)
theorem decN_small {n : Int} (h0 : 0 ≤ n) (h1 : n < 10) : decN n = [(48 + n).toNat] := by
  obtain ⟨k, rfl⟩ := Int.eq_ofNat_of_zero_le h0
  have hk : k < 10 := by (first | lia | omega)
  show (Nat.toDigits 10 k).map Char.toNat = _
  rw [Nat.toDigits_of_lt_base hk]
  have key : ∀ k : Nat, k < 10 → [(Nat.digitChar k)].map Char.toNat = [((48 : Int) + (k : Nat)).toNat] := by decide
  exact key k hk
theorem decN_step {n : Int} (h1 : 10 ≤ n) : decN n = decN (n / 10) ++ [(48 + n % 10).toNat] := by
  obtain ⟨k, rfl⟩ := Int.eq_ofNat_of_zero_le (show 0 ≤ n by (first | lia | omega))
  have hm : k % 10 < 10 := Nat.mod_lt k (by decide)
  have t : Nat.toDigits 10 (k / 10) ++ Nat.toDigits 10 (k % 10) = Nat.toDigits 10 (10 * (k / 10) + k % 10) := Nat.toDigits_append_toDigits (by decide) (by (first | lia | omega)) hm
  rw [Nat.div_add_mod] at t
  have e2 := decN_small (n := ((k % 10 : Nat) : Int)) (by (first | lia | omega)) (by (first | lia | omega))
  have e2' : (Nat.toDigits 10 (k % 10)).map Char.toNat = [(48 + ((k % 10 : Nat) : Int)).toNat] := e2
  show (Nat.toDigits 10 k).map Char.toNat = (Nat.toDigits 10 ((k : Int) / 10).toNat).map Char.toNat ++ [(48 + (k : Int) % 10).toNat]
  rw [← t, List.map_append, e2']
  rfl
theorem num48 {n : Int} (h : 0 ≤ n) : n = ((48 + n).toNat : Int) - 48 := by lia
theorem decN_pad : ∀ (k : Nat) (n : Int), 0 ≤ n → n < 10 ^ (k + 1) → (decN n).length ≤ k + 1 ∧ dig 10 (k + 1) n = List.replicate (k + 1 - (decN n).length) 0 ++ (decN n).map fun (c : Nat) => (c : Int) - 48
  | k, n, h0, h1 => by
    by_cases h : n < 10
    · rw [decN_small h0 h, dig, Int.ediv_eq_zero_of_lt h0 h, Int.emod_eq_of_lt h0 h, dig_dl, dl_zero, List.reverse_replicate]
      exact ⟨Nat.succ_le_succ (Nat.zero_le k), congrArg (fun x => List.replicate k 0 ++ [x]) (num48 h0)⟩
    · cases k with
      | zero => exact absurd h1 h
      | succ k =>
        obtain ⟨i1, i2⟩ := decN_pad k (n / 10) (Int.ediv_nonneg h0 (by decide)) (by rw [Int.pow_succ] at h1; exact Int.ediv_lt_of_lt_mul (by decide) h1)
        rw [decN_step (Int.not_lt.mp h), dig, i2, List.length_append, List.length_singleton, List.map_append, ← List.append_assoc, Nat.add_sub_add_right]
        exact ⟨Nat.succ_le_succ i1, congrArg (fun x => _ ++ [x]) (num48 (Int.emod_nonneg n (by decide)))⟩
end
end Mine
end
section
open PySem PySem.W PyProof.Rows
namespace Mine

section
open PySem.NumText
/-! texts of base 64's signs -/
noncomputable def sgn (d : Int) : Nat := (b64c d).toNat
noncomputable def T64 (ds : List Int) : Str := decA (byteArr (ds.map b64c))
theorem sgn_all : ∀ k : Nat, k < 64 → (b64c (k : Int)).toNat.toUInt8.toNat = sgn k ∧ 43 ≤ sgn k ∧ sgn k ≤ 122 ∧ sgn k ≠ 95 ∧ sgn k ≠ 45 ∧ sgn k ≠ 59 ∧ (sgn k = 43 ↔ k = 62) ∧ ((48 ≤ sgn k ∧ sgn k ≤ 57) ↔ (52 ≤ k ∧ k ≤ 61)) ∧ (52 ≤ k → k ≤ 61 → sgn k + 4 = k) := by decide +kernel
theorem sgn_at {d : Int} (h0 : 0 ≤ d) (h1 : d < 64) : (b64c d).toNat.toUInt8.toNat = sgn d ∧ 43 ≤ sgn d ∧ sgn d ≤ 122 ∧ sgn d ≠ 95 ∧ sgn d ≠ 45 ∧ sgn d ≠ 59 ∧ (sgn d = 43 ↔ d = 62) ∧ ((48 ≤ sgn d ∧ sgn d ≤ 57) ↔ (52 ≤ d ∧ d ≤ 61)) ∧ (52 ≤ d → d ≤ 61 → (sgn d : Int) + 4 = d) := by
  obtain ⟨k, rfl⟩ := Int.eq_ofNat_of_zero_le h0
  obtain ⟨a1, a2, a3, a4, a5, a6, a7, a8, a9⟩ := sgn_all k (by (first | lia | omega))
  refine ⟨a1, a2, a3, a4, a5, a6, by rw [a7]; (first | lia | omega), by rw [a8]; (first | lia | omega), fun h2 h3 => ?_⟩
  have := a9 (by (first | lia | omega)) (by (first | lia | omega))
  (first | lia | omega)
theorem T64_cps {ds : List Int} (h : ∀ d ∈ ds, 0 ≤ d ∧ d < 64) : (T64 ds).cps.toList = ds.map sgn := by
  unfold T64 decA byteArr
  rw [Array.toList_map, List.map_map, List.map_map]
  refine List.map_congr_left fun d hd => ?_
  exact (sgn_at (h d hd).1 (h d hd).2).1
theorem T64_length (ds : List Int) : (T64 ds).length = ds.length := by
  show (T64 ds).cps.size = _
  unfold T64 decA byteArr
  simp
theorem step_odd {p : Array Nat × Bool} {c : Nat} (h1 : ¬ (48 ≤ c ∧ c ≤ 57)) (h2 : c ≠ 95) : step 10 p c = none := by
  unfold NumText.step
  rw [if_neg (by rw [beq_iff_eq]; exact h2)]
  unfold digit?
  rw [if_neg (by simp only [Bool.and_eq_true, decide_eq_true_eq]; exact h1)]
  by_cases h3 : (decide (97 ≤ c) && decide (c ≤ 122)) = true
  · rw [if_pos h3]
    simp only [Bool.and_eq_true, decide_eq_true_eq] at h3
    exact if_neg (by (first | lia | omega))
  · rw [if_neg h3]
    by_cases h4 : (decide (65 ≤ c) && decide (c ≤ 90)) = true
    · rw [if_pos h4]
      simp only [Bool.and_eq_true, decide_eq_true_eq] at h4
      exact if_neg (by (first | lia | omega))
    · rw [if_neg h4]
theorem foldl_odd : ∀ (cs : List Nat) (p : Array Nat × Bool), (∀ c ∈ cs, c ≠ 95) → (∃ c ∈ cs, ¬ (48 ≤ c ∧ c ≤ 57)) → cs.foldlM (step 10) p = none
  | [], _, _, ⟨c, hc, _⟩ => nomatch hc
  | c :: cs, (ds, b), h, ⟨x, hx, hx'⟩ => by
    rw [List.foldlM_cons]
    by_cases hc : 48 ≤ c ∧ c ≤ 57
    · rw [step_digit hc]
      refine foldl_odd cs _ (fun y hy => h y (List.mem_cons_of_mem _ hy)) ⟨x, ?_, hx'⟩
      rcases List.mem_cons.mp hx with rfl | hx
      · exact absurd hc hx'
      · exact hx
    · rw [step_odd hc (h c (List.mem_cons_self ..))]; rfl
/-- a text with a sign that is no figure is no number, if no sign of plus or minus opens it -/
theorem intText_odd {x : Str} {c₀ : Nat} {r : List Nat} (e : x.cps.toList = c₀ :: r) (h : ∀ c ∈ c₀ :: r, 33 ≤ c ∧ c < 128 ∧ c ≠ 95) (h0 : c₀ ≠ 45 ∧ c₀ ≠ 43) (hx : ∃ c ∈ c₀ :: r, ¬ (48 ≤ c ∧ c ≤ 57)) : PySem.intText? x = none := by
  have e1 : numTextOf x = x.cps.toList := by
    refine if_pos ?_
    rw [← Array.all_toList, e, List.all_eq_true]
    intro c hc
    exact decide_eq_true (h c hc).2.1
  have e2 : numSeenOf x = x.cps.toList := by
    show (numTextOf x).takeWhile _ = _
    rw [e1, e]
    refine takeWhile_all fun c hc => ?_
    have := h c hc
    exact bne_iff_ne.mpr (by (first | lia | omega))
  have hd : ∀ cs : List Nat, (∀ c ∈ cs, 33 ≤ c ∧ c < 128 ∧ c ≠ 95) → cs.dropWhile blank = cs := fun cs hcs => by
    cases cs with
    | nil => rfl
    | cons a cs => exact dropWhile_of (hcs a (List.mem_cons_self ..)).1
  have es : sign ((c₀ :: r).dropWhile blank) = (false, c₀ :: r) := by rw [hd _ h]; exact sign_of h0.1 h0.2
  have ec : core (c₀ :: r) = c₀ :: r := by
    unfold core
    rw [es]
    show ((c₀ :: r).reverse.dropWhile blank).reverse = _
    rw [hd _ fun c hc => h c (List.mem_reverse.mp hc), List.reverse_reverse]
  have en : digits? 10 (core (c₀ :: r)) = none := by
    rw [ec]
    unfold digits?
    rw [foldl_odd _ _ (fun c hc => (h c hc).2.2) hx]
    rfl
  unfold PySem.intText?
  rw [e2, e, en]
  exact ite_self _
theorem digitsVal_val (l : List Int) : (∀ d ∈ l, 52 ≤ d ∧ d ≤ 61) → ((digitsVal (l.map sgn) : Nat) : Int) = val 10 (l.map (· - 52)) := by
  refine snoc_ind (P := fun l => (∀ d ∈ l, 52 ≤ d ∧ d ≤ 61) → ((digitsVal (l.map sgn) : Nat) : Int) = val 10 (l.map (· - 52))) (fun _ => rfl) ?_ l
  intro l x ih h
  have hx := h x (by simp)
  have := (sgn_at (d := x) (by (first | lia | omega)) (by (first | lia | omega))).2.2.2.2.2.2.2.2 hx.1 hx.2
  have ih' := ih fun d hd => h d (by simp [hd])
  rw [List.map_append, List.map_append, List.map_singleton, List.map_singleton, val_snoc, ← ih']
  unfold digitsVal
  rw [List.foldl_append, List.foldl_cons, List.foldl_nil]
  (first | lia | omega)
theorem T64_read {ds : List Int} (h : ∀ d ∈ ds, 52 ≤ d ∧ d ≤ 61) (hne : ds ≠ []) (hl : ds.length ≤ 640) : PySem.intText? (T64 ds) = some (val 10 (ds.map (· - 52))) := by
  have h64 : ∀ d ∈ ds, 0 ≤ d ∧ d < 64 := fun d hd => by have := h d hd; (first | lia | omega)
  have e := T64_cps h64
  rw [← digitsVal_val ds h, ← e]
  refine PySem.intText_digits ?_ ?_ (by rw [T64_length]; (first | lia | omega))
  · rw [e]
    intro c hc
    obtain ⟨d, hd, rfl⟩ := List.mem_map.mp hc
    have hd' := h d hd
    exact (sgn_at (by (first | lia | omega)) (by (first | lia | omega))).2.2.2.2.2.2.2.1.mpr hd'
  · rw [e]; intro q; exact hne (List.map_eq_nil_iff.mp q)
end
theorem Wb_val (l : List Int) : Wb l = val 64 (l.map b64v) := by
  unfold Wb val
  rw [List.foldl_map]
theorem val_dig {B : Int} (hB : 0 < B) : ∀ (n : Nat) (v : Int), 0 ≤ v → v < B ^ n → val B (dig B n v) = v
  | 0, v, h0, h1 => by rw [Int.pow_zero] at h1; show (0 : Int) = v; (first | lia | omega)
  | n + 1, v, h0, h1 => by
    rw [dig, val_snoc, val_dig hB n (v / B) (Int.ediv_nonneg h0 (by (first | lia | omega))) (by rw [Int.pow_succ] at h1; exact Int.ediv_lt_of_lt_mul hB h1)]
    exact Int.ediv_mul_add_emod v B
end Mine
end
section
open PySem PySem.W PyProof.Rows
namespace Mine

/-! base 64 with an opening bracket for 62 and a closing one for 63 -/
noncomputable def sg (d : Int) : Nat := if d = 62 then 40 else if d = 63 then 41 else (b64c d).toNat
noncomputable def S3 (ds : List Int) : Str := ⟨(ds.map sg).toArray⟩
theorem tab_at (a b c d : UInt8) (i : Nat) (hi : i < 256) (x : UInt8) : (trTab #[a, b] #[c, d]).getD i x = if i = b.toNat then d else if i = a.toNat then c else i.toUInt8 := by
  have e : trTab #[a, b] #[c, d] = (((Array.range 256).map (·.toUInt8)).setIfInBounds a.toNat c).setIfInBounds b.toNat d := rfl
  have hb : b.toNat < 256 := b.toNat_lt
  have ha : a.toNat < 256 := a.toNat_lt
  rw [e, Array.getD_eq_getD_getElem?, Array.getElem?_setIfInBounds, Array.getElem?_setIfInBounds]
  by_cases h1 : i = b.toNat
  · subst h1; simp [hb]
  · by_cases h2 : i = a.toNat
    · subst h2; simp [ha, h1, Ne.symm h1]
    · simp [h1, h2, Ne.symm h1, Ne.symm h2, hi]
theorem sg_all : ∀ k : Nat, k < 64 → 40 ≤ sg k ∧ sg k ≤ 122 ∧ (b64c (k : Int)).toNat < 128 ∧ b64c (k : Int) = (((b64c (k : Int)).toNat : Nat) : Int) ∧ b64v (b64c (k : Int)) = k ∧ b64c (k : Int) ≠ 61 ∧
    (if sg k = 41 then 47 else if sg k = 40 then 43 else (sg k).toUInt8 : UInt8).toNat = (b64c (k : Int)).toNat ∧
    (if (b64c (k : Int)).toNat = 47 then 41 else if (b64c (k : Int)).toNat = 43 then 40 else ((b64c (k : Int)).toNat).toUInt8 : UInt8).toNat = sg k := by decide +kernel
theorem sg_at {d : Int} (h0 : 0 ≤ d) (h1 : d < 64) : 40 ≤ sg d ∧ sg d ≤ 122 ∧ (b64c d).toNat < 128 ∧ b64c d = (((b64c d).toNat : Nat) : Int) ∧ b64v (b64c d) = d ∧ b64c d ≠ 61 ∧
    (if sg d = 41 then 47 else if sg d = 40 then 43 else (sg d).toUInt8 : UInt8).toNat = (b64c d).toNat ∧
    (if (b64c d).toNat = 47 then 41 else if (b64c d).toNat = 43 then 40 else ((b64c d).toNat).toUInt8 : UInt8).toNat = sg d := by
  obtain ⟨k, rfl⟩ := Int.eq_ofNat_of_zero_le h0
  exact sg_all k (by (first | lia | omega))
noncomputable def tabD : Array UInt8 := trTab #[40, 41] #[43, 47]
noncomputable def tabE : Array UInt8 := trTab #[43, 47] #[40, 41]
/-- the octets of the signs -/
noncomputable def O3 (ds : List Int) : Array UInt8 := ((ds.map sg).map Nat.toUInt8).toArray
theorem encA_S3 (ds : List Int) : encA (S3 ds) = O3 ds := by
  unfold encA S3 O3
  rw [List.map_toArray]
theorem O3_size (ds : List Int) : (O3 ds).size = ds.length := by simp [O3]
theorem S3_length (ds : List Int) : (S3 ds).length = ds.length := by
  show (S3 ds).cps.size = _
  simp [S3]
theorem S3_cps (ds : List Int) : (S3 ds).cps.toList = ds.map sg := rfl
section
variable {ds : List Int} (h : ∀ d ∈ ds, 0 ≤ d ∧ d < 64)
include h
theorem S3_ascii : ∀ c ∈ (S3 ds).cps.toList, c < 128 := by
  intro c hc
  rw [S3_cps] at hc
  obtain ⟨d, hd, rfl⟩ := List.mem_map.mp hc
  have := sg_at (h d hd).1 (h d hd).2
  (first | lia | omega)
theorem decA_O3 : decA (O3 ds) = S3 ds := by
  unfold decA O3 S3
  rw [List.map_toArray, List.map_map]
  congr 1
  congr 1
  refine (List.map_congr_left (g := id) fun c hc => ?_).trans (List.map_id _)
  obtain ⟨d, hd, rfl⟩ := List.mem_map.mp hc
  have := sg_at (h d hd).1 (h d hd).2
  show (sg d).toUInt8.toNat = sg d
  rw [Nat.toUInt8, UInt8.toNat_ofNat', Nat.mod_eq_of_lt (by (first | lia | omega))]
theorem O3_small : ∀ c ∈ (O3 ds).toList, c.toNat < 128 := by
  intro c hc
  unfold O3 at hc
  rw [List.map_map] at hc
  obtain ⟨d, hd, rfl⟩ := List.mem_map.mp hc
  have := sg_at (h d hd).1 (h d hd).2
  show (sg d).toUInt8.toNat < 128
  rw [Nat.toUInt8, UInt8.toNat_ofNat', Nat.mod_eq_of_lt (by (first | lia | omega))]; (first | lia | omega)
/-- ahead of reading, the brackets become base 64's own signs -/
theorem trD_bytes : KBw.bInts (trBy tabD (O3 ds)) = ds.map b64c := by
  unfold KBw.bInts trBy O3
  rw [Array.toList_map, List.map_map, List.map_map, List.map_map]
  refine List.map_congr_left fun d hd => ?_
  have g := sg_at (h d hd).1 (h d hd).2
  have e : ((sg d).toUInt8).toNat = sg d := by rw [Nat.toUInt8, UInt8.toNat_ofNat', Nat.mod_eq_of_lt (by (first | lia | omega))]
  show (((tabD.getD ((sg d).toUInt8).toNat _).toNat : Nat) : Int) = b64c d
  rw [e]
  unfold tabD
  rw [tab_at _ _ _ _ _ (by (first | lia | omega))]
  refine Eq.trans ?_ g.2.2.2.1.symm
  exact congrArg Int.ofNat g.2.2.2.2.2.2.1
theorem trD_val : Wb (KBw.bInts (trBy tabD (O3 ds))) = val 64 ds := by
  rw [trD_bytes h, Wb_val, List.map_map]
  congr 1
  have : ds.map (b64v ∘ b64c) = ds.map id := List.map_congr_left fun d hd => (sg_at (h d hd).1 (h d hd).2).2.2.2.2.1
  rw [this, List.map_id]
theorem trD_ok : ∀ c ∈ KBw.bInts (trBy tabD (O3 ds)), c ≠ 61 ∧ 0 ≤ b64v c ∧ b64v c < 64 := by
  rw [trD_bytes h]
  intro c hc
  obtain ⟨d, hd, rfl⟩ := List.mem_map.mp hc
  have g := sg_at (h d hd).1 (h d hd).2
  rw [g.2.2.2.2.1]
  exact ⟨g.2.2.2.2.2.1, h d hd⟩
/-- behind the writing, base 64's own two signs become the brackets -/
theorem trE_bytes : trBy tabE (byteArr (ds.map b64c)) = O3 ds := by
  unfold trBy byteArr O3
  rw [List.map_toArray, List.map_map, List.map_map, List.map_map]
  congr 1
  refine List.map_congr_left fun d hd => ?_
  have g := sg_at (h d hd).1 (h d hd).2
  have e : (((b64c d).toNat).toUInt8).toNat = (b64c d).toNat := by rw [Nat.toUInt8, UInt8.toNat_ofNat', Nat.mod_eq_of_lt (by (first | lia | omega))]
  show tabE.getD (((b64c d).toNat).toUInt8).toNat _ = (sg d).toUInt8
  rw [e]
  unfold tabE
  rw [tab_at _ _ _ _ _ (by (first | lia | omega))]
  refine UInt8.toNat_inj.mp (g.2.2.2.2.2.2.2.trans ?_)
  rw [Nat.toUInt8, UInt8.toNat_ofNat', Nat.mod_eq_of_lt (by (first | lia | omega))]
end
theorem trBy_size (t b : Array UInt8) : (trBy t b).size = b.size := by simp [trBy]
end Mine
end
section
open PySem PySem.W PyProof.Rows
namespace Mine

theorem dec3_ctr (w : World) (mean : ExcName → Option Value) (mg mb : Str → Option Value) (news : List (Addr × Obj)) (x : Str) (ds : List Int) (t u : Tok) (hx : x = S3 ds) (hds : ∀ d ∈ ds, 0 ≤ d ∧ d < 64) (h4 : ds.length % 4 = 0) (hl : ds.length ≤ 1000) :
    Ctr 420 w mean mg mb 146 news [.str x t, .bytes #[40, 41] u] [] (fun t => .bytes (byteArr (dig 256 (3 * ds.length / 4) (val 64 ds))) t) := by
  k_with_none
  (k_with "eval Name" => (k_here; k_dflt (refine nameX_L (by k_asm) (by first | assumption | rfl) ?_ (by rfl) (by rfl))))
  (k_with "eval Constant int" => (with_reducible refine nI ?_))
  (k_with "eval Constant str" => (with_reducible refine nS ?_))
  (k_with "binaryOp Add int int" => (with_reducible refine nAdd ?_))
  (k_with "binaryOp Sub int int" => (with_reducible refine nSub ?_))
  (k_with "binaryOp BitAnd int int" => (with_reducible refine nAnd ?_))
  (k_with "binaryOp BitOr int int" => (with_reducible refine nOr ?_))
  (k_with "getMethod str" => (with_reducible refine enc_method ?_))
  (k_with "call builtin:str.encode" => ((with_reducible show wpAny _ _ (call (Value.builtin "str.encode") [Value.str _ _, Value.str _ _]) _ _ _); refine enc_call (by assumption) (by first | assumption | (rw [PySem.sizeLine_eq]; omega)) ?_))
  (k_with "call builtin:bytes.decode" => ((with_reducible show wpAny _ _ (call (Value.builtin "bytes.decode") [Value.bytes _ _, Value.str _ _]) _ _ _); refine dec_call (by assumption) (by first | assumption | (rw [PySem.sizeLine_eq]; omega)) (by first | assumption | omega) ?_; intro _ _))
  (k_with "call ref" => (k_here; (with_reducible show wpAny _ _ (call (Value.ref 122) _ _) _ _ _); k_dflt (refine use_ctr (a2b_ctr _ _ _ _ _ _ _ (by assumption) (by assumption) (by assumption)) (by k_asm) (by k_asm) (by k_asm) (by k_asm) (by k_asm) (by first | exact rfl | assumption) (by exact Nat.le_of_ble_eq_true rfl) (by exact Nat.le_of_ble_eq_true rfl) ?_); intro t9 h9 tk9 F9 N9; (try dsimp only); (try k_fold)))
  (k_with "getMethod type:bytes" => (k_here; refine' method_type (T := "bytes") ?F ?X (by kernel_rfl) (by decide +kernel) ?e ?h ?_; (case F => k_asm); (case X => k_asm); (case e => k_dflt k_is); (case h => k_handed)))
  (k_with "getMethod bytes" => (with_reducible refine tr_method ?_))
  (k_with "call builtin:bytes.maketrans" => ((with_reducible show wpAny _ _ (call (Value.builtin "bytes.maketrans") [Value.bytes _ _, Value.bytes _ _]) _ _ _); refine maketrans_call (by rfl) ?_; intro _ _))
  (k_with "call builtin:bytes.translate" => ((with_reducible show wpAny _ _ (call (Value.builtin "bytes.translate") [Value.bytes _ _, Value.bytes _ _]) _ _ _); refine translate_call (by first | assumption | (rw [PySem.sizeLine_eq]; (first | lia | omega))) (by exact trTab_size _ _) ?_; intro _ _))
  dsimp only [Ctr, KK, prog, loose, view]
  intro dp un gd cn cs a ccd cl outer A₀ base h₀ L m s Q E B F X N T hk hd hu hret
  refine lower 420 (4 * 420) (by dsimp only; omega) (by dsimp only; omega) ?_
  dsimp only
  have ex : encA x = O3 ds := by rw [hx, encA_S3]
  have hx1 : ∀ c ∈ x.cps.toList, c < 128 := hx ▸ S3_ascii hds
  have hxl : x.cps.size ≤ 1000 := by rw [hx]; exact Nat.le_trans (Nat.le_of_eq (S3_length ds)) hl
  have hez : (encA x).size ≤ sizeLine := by rw [ex, O3_size, sizeLine_eq]; (first | lia | omega)
  obtain ⟨e1, he1⟩ : ∃ e1, e1 = encA x := ⟨_, rfl⟩
  obtain ⟨e2, he2⟩ : ∃ e2, e2 = trBy (trTab #[40, 41] #[43, 47]) e1 := ⟨_, rfl⟩
  rw [← he1] at ex hez
  have hb0 : e2.size = ds.length := by rw [he2, trBy_size, ex, O3_size]
  have hbe : e2.size ≤ 1000 := hb0 ▸ hl
  have h4e : e2.size % 4 = 0 := hb0 ▸ h4
  have hoke : ∀ c ∈ KBw.bInts e2, c ≠ 61 ∧ 0 ≤ b64v c ∧ b64v c < 64 := by rw [he2, ex]; exact trD_ok hds
  have hve : Wb (KBw.bInts e2) = val 64 ds := by rw [he2, ex]; exact trD_val hds
  clear ex hl h4 hds
  refine wpAny_call ?_
  k_dflt (refine' enterV (binds := [(Str.ofString "s", .str x t), (Str.ofString "altchars", .bytes #[40, 41] u), (Str.ofString "validate", .bool false)]) ?k1 ?k2 ?k3 ?k4 ?k5 ?kA ?kF ?kK ?k6 ?k7 ?k8 ?k9 ?kB ?_ ?c2 ?c3 ?c4 ?c5; (case kA => exact rfl); (case kF => exact rfl); (case kK => first | exact rfl | assumption); (case k1 => k_asm); (case k2 => k_asm); (case k3 => k_asm); (case k4 => k_asm); (case k5 => k_asm); (case k6 => k_is); (case k7 => k_is); (case k8 => exact Nat.le_of_ble_eq_true rfl); (case k9 => (refine' kp_binds ?kx ?ke; (case kx => k_in); (case ke => (intro S; kernel_rfl)))); (case c5 => decide); (case kB => exact locs rfl); (case c2 => exact rfl); (case c3 => exact rfl); (case c4 => exact rfl); k_whole; intro L' h' F' N' B' X' T'; (try dsimp only); (try k_lift B'); (try k_fold))
  obtain ⟨m9, hm9, F9⟩ := fr_gen F'
  have f1 : m9 (Str.ofString "s") = some (.str x t) := eqv hm9 rfl
  have f2 : m9 (Str.ofString "altchars") = some (.bytes #[40, 41] u) := eqv hm9 rfl
  have f3 : m9 (Str.ofString "validate") = some (.bool false) := eqv hm9 rfl
  clear hm9 F'
  refine run_cut (fun s' => ∃ t, AtH s.heap s L' (upd m9 (Str.ofString "s") (.bytes e1 t)) [] s') ?c1 ?_
  case c1 =>
    clear hoke hve h4e hb0 he2
    rw [he1] at *
    k_steps
    exact ⟨rfl, _, _, _, rfl, by assumption, by assumption⟩
  clear F9 N'
  rintro s1 ⟨t1, hA⟩
  refine run_cut (fun s' => ∃ v t, AtH s.heap s L' (upd (upd (upd m9 (Str.ofString "s") (.bytes e1 t1)) (Str.ofString "altchars") v) (Str.ofString "s") (.bytes e2 t)) [] s') ?c2 ?_
  case c2 =>
    clear hoke hve h4e hb0
    obtain ⟨h1, tk1, rfl, F1, N1⟩ := hA
    rw [he2]
    k_steps
    exact ⟨rfl, _, _, _, _, rfl, by assumption, by assumption⟩
  clear hA
  rintro s2 ⟨v2, t2, h2, tk2, rfl, F2, N2⟩
  k_steps
  (refine leaveV_val (by k_asm) ?_; intro F9 N9; dsimp only)
  rw [hb0, hve]
  exact hret _ _ _ F9 N9
end Mine
end
section
open PySem PySem.W PyProof.Rows
namespace Mine

theorem enc3_ctr (w : World) (mean : ExcName → Option Value) (mg mb : Str → Option Value) (news : List (Addr × Obj)) (b : Array UInt8) (t u : Tok) (hb : b.size ≤ 1000) (h3 : b.size % 3 = 0) :
    Ctr 420 w mean mg mb 138 news [.bytes b t, .bytes #[40, 41] u] [] (fun t => .bytes (O3 (dig 64 (4 * b.size / 3) (Vb (KBw.bInts b)))) t) := by
  k_with_none
  (k_with "eval Name" => (k_here; k_dflt (refine nameX_L (by k_asm) (by first | assumption | rfl) ?_ (by rfl) (by rfl))))
  (k_with "eval Constant int" => (with_reducible refine nI ?_))
  (k_with "eval Constant str" => (with_reducible refine nS ?_))
  (k_with "binaryOp Add int int" => (with_reducible refine nAdd ?_))
  (k_with "binaryOp Sub int int" => (with_reducible refine nSub ?_))
  (k_with "binaryOp BitAnd int int" => (with_reducible refine nAnd ?_))
  (k_with "binaryOp BitOr int int" => (with_reducible refine nOr ?_))
  (k_with "getMethod str" => (with_reducible refine enc_method ?_))
  (k_with "call builtin:str.encode" => ((with_reducible show wpAny _ _ (call (Value.builtin "str.encode") [Value.str _ _, Value.str _ _]) _ _ _); refine enc_call (by assumption) (by first | assumption | (rw [PySem.sizeLine_eq]; omega)) ?_))
  (k_with "call builtin:bytes.decode" => ((with_reducible show wpAny _ _ (call (Value.builtin "bytes.decode") [Value.bytes _ _, Value.str _ _]) _ _ _); refine dec_call (by assumption) (by first | assumption | (rw [PySem.sizeLine_eq]; omega)) (by first | assumption | omega) ?_; intro _ _))
  (k_with "call ref" => (k_here; (with_reducible show wpAny _ _ (call (Value.ref 130) _ _) _ _ _); k_dflt (refine use_ctr (b2a_ctr _ _ _ _ _ _ _ (by assumption) (by assumption)) (by k_asm) (by k_asm) (by k_asm) (by k_asm) (by k_asm) (by first | exact rfl | assumption) (by exact Nat.le_of_ble_eq_true rfl) (by exact Nat.le_of_ble_eq_true rfl) ?_); intro t9 h9 tk9 F9 N9; (try dsimp only); (try k_fold)))
  (k_with "getMethod type:bytes" => (k_here; refine' method_type (T := "bytes") ?F ?X (by kernel_rfl) (by decide +kernel) ?e ?h ?_; (case F => k_asm); (case X => k_asm); (case e => k_dflt k_is); (case h => k_handed)))
  (k_with "getMethod bytes" => (with_reducible refine tr_method ?_))
  (k_with "call builtin:bytes.maketrans" => ((with_reducible show wpAny _ _ (call (Value.builtin "bytes.maketrans") [Value.bytes _ _, Value.bytes _ _]) _ _ _); refine maketrans_call (by rfl) ?_; intro _ _))
  (k_with "call builtin:bytes.translate" => ((with_reducible show wpAny _ _ (call (Value.builtin "bytes.translate") [Value.bytes _ _, Value.bytes _ _]) _ _ _); refine translate_call (by first | assumption | (rw [PySem.sizeLine_eq]; (first | lia | omega))) (by exact trTab_size _ _) ?_; intro _ _))
  dsimp only [Ctr, KK, prog, loose, view]
  intro dp un gd cn cs a ccd cl outer A₀ base h₀ L m s Q E B F X N T hk hd hu hret
  refine lower 420 (4 * 420) (by dsimp only; omega) (by dsimp only; omega) ?_
  dsimp only
  have hin : ∀ d ∈ dig 64 (4 * b.size / 3) (Vb (KBw.bInts b)), 0 ≤ d ∧ d < 64 := dig_in 64 (by decide) _ _
  have hsz : (byteArr ((dig 64 (4 * b.size / 3) (Vb (KBw.bInts b))).map b64c)).size ≤ sizeLine := by
    rw [byteArr_size, List.length_map, dig_length, sizeLine_eq]; (first | lia | omega)
  refine wpAny_call ?_
  k_dflt (refine' enterV (binds := [(Str.ofString "s", .bytes b t), (Str.ofString "altchars", .bytes #[40, 41] u)]) ?k1 ?k2 ?k3 ?k4 ?k5 ?kA ?kF ?kK ?k6 ?k7 ?k8 ?k9 ?kB ?_ ?c2 ?c3 ?c4 ?c5; (case kA => exact rfl); (case kF => exact rfl); (case kK => first | exact rfl | assumption); (case k1 => k_asm); (case k2 => k_asm); (case k3 => k_asm); (case k4 => k_asm); (case k5 => k_asm); (case k6 => k_is); (case k7 => k_is); (case k8 => exact Nat.le_of_ble_eq_true rfl); (case k9 => (refine' kp_binds ?kx ?ke; (case kx => k_in); (case ke => (intro S; kernel_rfl)))); (case c5 => decide); (case kB => exact locs rfl); (case c2 => exact rfl); (case c3 => exact rfl); (case c4 => exact rfl); k_whole; intro L' h' F' N' B' X' T'; (try dsimp only); (try k_lift B'); (try k_fold))
  k_steps
  (refine leaveV_val (by k_asm) ?_; intro F9 N9; dsimp only)
  rw [show trBy (trTab #[43, 47] #[40, 41]) _ = _ from trE_bytes hin]
  exact hret _ _ _ F9 N9
theorem enc3_ctrX (w : World) (mean : ExcName → Option Value) (mg mb : Str → Option Value) (news : List (Addr × Obj)) (b : Array UInt8) (t u : Tok) (FT : List Int) (hb : b.size ≤ 1000) (h3 : b.size % 3 = 0) (hFT : dig 64 (4 * b.size / 3) (Vb (KBw.bInts b)) = FT) :
    Ctr 420 w mean mg mb 138 news [.bytes b t, .bytes #[40, 41] u] [] (fun t => .bytes (O3 FT) t) := by
  subst hFT
  exact enc3_ctr w mean mg mb news b t u hb h3
theorem dec_O3 {prog : Program} {w : World} {A : Around} {E Q : Value → Shared → Prop} {s : Shared} {ds : List Int} {t t2 : Tok} (h : ∀ d ∈ ds, 0 ≤ d ∧ d < 64) (h0 : 0 < ds.length) (hl : ds.length ≤ 1000)
    (hQ : ∀ y, y = S3 ds → y.length ≤ 1000 → ∀ t' k, Q (.str y t') { s with toks := k }) :
    wpAny (model prog w) A (call (.builtin "bytes.decode") [.bytes (O3 ds) t, .str (PySem.Str.ofString "ascii") t2]) Q E s := by
  refine dec_call (O3_small h) (by rw [O3_size, PySem.sizeLine_eq]; (first | lia | omega)) (by rw [O3_size]; exact h0) fun t' k => ?_
  rw [decA_O3 h]
  exact hQ _ rfl (by rw [S3_length]; exact hl) t' k
end Mine
end
section
open PySem PySem.W PyProof.Rows
namespace Mine

/-! one bit turned: the octets' number and the figures' number change alike -/
theorem xor_pow (x : Int) (b : Nat) : Builtin.bitXor x (2 ^ b) = x + 2 ^ b * (1 - 2 * (x / 2 ^ b % 2)) := by
  rw [bitXor_and, kbt_bit]
  generalize (2 : Int) ^ b = u
  generalize x / u % 2 = q
  rw [Int.mul_sub, Int.mul_one, Int.mul_comm u, Int.mul_assoc]
  (first | lia | omega)
theorem val_split (B : Int) (pre post : List Int) (x : Int) : val B (pre ++ x :: post) = (val B pre * B + x) * B ^ post.length + val B post := by
  have h1 := val_reverse B (pre ++ x :: post).reverse
  have h2 := val_reverse B pre.reverse
  have h3 := val_reverse B post.reverse
  rw [List.reverse_reverse] at h1 h2 h3
  rw [h1, h2, h3, List.reverse_append, List.reverse_cons, List.append_assoc, ev_append, List.length_reverse]
  show _ + _ * ev B (x :: pre.reverse) = _
  rw [ev_cons, Int.mul_comm (ev B pre.reverse) B, Int.add_comm x, Int.mul_comm (B ^ post.length)]
  (first | lia | omega)
theorem val_bounds {B : Int} (hB : 1 < B) (l : List Int) : (∀ x ∈ l, 0 ≤ x ∧ x < B) → 0 ≤ val B l ∧ val B l < B ^ l.length := by
  refine snoc_ind (P := fun l => (∀ x ∈ l, 0 ≤ x ∧ x < B) → 0 ≤ val B l ∧ val B l < B ^ l.length) (fun _ => ⟨Int.le_refl _, (by rw [List.length_nil, Int.pow_zero]; exact Int.zero_lt_one)⟩) (fun l x ih h => ?_) l
  obtain ⟨h0, h1⟩ := ih fun y hy => h y (List.mem_append_left _ hy)
  obtain ⟨x0, x1⟩ := h x (List.mem_append_right _ (.head _))
  have hB0 : 0 ≤ B := Int.le_of_lt (Int.lt_trans (by decide) hB)
  rw [val_snoc, List.length_append, List.length_singleton, Int.pow_succ]
  have h2 := Int.mul_le_mul_of_nonneg_right (Int.add_one_le_of_lt h1) hB0
  rw [Int.add_mul, Int.one_mul] at h2
  exact ⟨Int.add_nonneg (Int.mul_nonneg h0 hB0) x0, Int.lt_of_lt_of_le (Int.add_lt_add_left x1 _) h2⟩
theorem pow_split (b d : Nat) : (2 : Int) ^ (b + d + 1) = 2 ^ b * (2 * 2 ^ d) := by rw [Int.pow_succ, Int.pow_add, Int.mul_assoc, Int.mul_comm (2 ^ d) 2]
/-- a bit of a figure is a bit of the number -/
theorem bit_of {c b : Nat} (hb : b < c) (u : Int) : u % 2 ^ c / 2 ^ b % 2 = u / 2 ^ b % 2 := by
  obtain ⟨d, rfl⟩ := Nat.exists_eq_add_of_lt hb
  rw [pow_split, Int.emod_def u]
  generalize u / (2 ^ b * (2 * 2 ^ d)) = w
  rw [Int.mul_assoc, Int.sub_eq_add_neg, ← Int.mul_neg, Int.add_mul_ediv_left _ _ (Int.ne_of_gt (Int.pow_pos (by decide))), Int.mul_assoc, ← Int.mul_neg, Int.add_mul_emod_self_left]
theorem turn_val {B : Int} {c b : Nat} (hB : B = 2 ^ c) (hc : 0 < c) (hb : b < c) {pre post : List Int} {x : Int} (hx : 0 ≤ x ∧ x < B) (hpost : ∀ y ∈ post, 0 ≤ y ∧ y < B) :
    val B (pre ++ Builtin.bitXor x (2 ^ b) :: post) = val B (pre ++ x :: post) + 2 ^ (b + c * post.length) * (1 - 2 * (val B (pre ++ x :: post) / 2 ^ (b + c * post.length) % 2)) := by
  have hB1 : 1 < B := by
    rw [hB]
    obtain ⟨d, rfl⟩ := Nat.exists_eq_succ_of_ne_zero (Nat.ne_of_gt hc)
    have : (0 : Int) < 2 ^ d := Int.pow_pos (by decide)
    rw [Int.pow_succ]; clear hx hpost; lia
  obtain ⟨p0, p1⟩ := val_bounds hB1 post hpost
  have hg : (2 : Int) ^ (b + c * post.length) = B ^ post.length * 2 ^ b := by
    rw [Int.pow_add, Int.pow_mul, ← hB, Int.mul_comm]
  have hB0 : 0 < B := Int.lt_trans (by decide) hB1
  have hpos : (0 : Int) < B ^ post.length := Int.pow_pos hB0
  have hq : val B (pre ++ x :: post) / 2 ^ (b + c * post.length) % 2 = x / 2 ^ b % 2 := by
    rw [hg, ← Int.ediv_ediv_of_nonneg (Int.le_of_lt hpos), val_split]
    have e1 : ((val B pre * B + x) * B ^ post.length + val B post) / B ^ post.length = val B pre * B + x := by
      rw [Int.add_comm, Int.add_mul_ediv_right _ _ (Int.ne_of_gt hpos), Int.ediv_eq_zero_of_lt p0 p1, Int.zero_add]
    rw [e1, ← bit_of hb, ← hB]
    have e2 : (val B pre * B + x) % B = x := by rw [Int.add_comm, Int.add_mul_emod_self_right, Int.emod_eq_of_lt hx.1 hx.2]
    rw [e2]
  rw [hq, xor_pow, val_split, val_split, hg]
  generalize x / 2 ^ b % 2 = q
  generalize B ^ post.length = P
  generalize val B pre * B = M
  have e : (M + (x + 2 ^ b * (1 - 2 * q))) * P = (M + x) * P + P * 2 ^ b * (1 - 2 * q) := by
    rw [← Int.add_assoc, Int.add_mul, Int.mul_comm (2 ^ b * (1 - 2 * q)) P, ← Int.mul_assoc P]
  rw [e, Int.add_assoc, Int.add_assoc, Int.add_comm (P * 2 ^ b * (1 - 2 * q))]
theorem xor_up {x r p pz B : Int} (h1 : r + pz = x) (h3 : r < p) (hx : 0 ≤ x) (hp : 0 < p) (h4 : pz + p + p ≤ B) : 0 ≤ x + p ∧ x + p < B := by lia
theorem xor_dn {x r p pz B : Int} (h1 : r + pz = x) (h2 : 0 ≤ r) (hx : x < B) (hp : 0 < p) (h4 : p ≤ pz) : 0 ≤ x - p ∧ x - p < B := by lia
theorem even_lt {z d : Int} (h : z % 2 = 0) (hz : z < 2 * d) : z + 1 + 1 ≤ 2 * d := by lia
theorem odd_pos {z : Int} (h : z % 2 = 1) (hz : 0 ≤ z) : 1 ≤ z := by lia
theorem xor_in {B : Int} {c b : Nat} (hB : B = 2 ^ c) (hb : b < c) {x : Int} (hx : 0 ≤ x ∧ x < B) : 0 ≤ Builtin.bitXor x (2 ^ b) ∧ Builtin.bitXor x (2 ^ b) < B := by
  have hpb : (0 : Int) < 2 ^ b := Int.pow_pos (by decide)
  obtain ⟨d, rfl⟩ := Nat.exists_eq_add_of_lt hb
  rw [pow_split] at hB
  rw [xor_pow]
  have h1 := Int.emod_add_mul_ediv x (2 ^ b)
  have h2 := Int.emod_nonneg x (Int.ne_of_gt hpb)
  have h3 := Int.emod_lt_of_pos x hpb
  have hz0 : 0 ≤ x / 2 ^ b := Int.ediv_nonneg hx.1 (Int.le_of_lt hpb)
  have hz1 : x / 2 ^ b < 2 * 2 ^ d := Int.ediv_lt_of_lt_mul hpb (by rw [Int.mul_comm, ← hB]; exact hx.2)
  generalize x / 2 ^ b = z at *
  generalize (2 : Int) ^ b = p at *
  rcases Int.emod_two_eq z with h | h
  · rw [h]
    have h4 := Int.mul_le_mul_of_nonneg_left (even_lt h hz1) (Int.le_of_lt hpb)
    rw [Int.mul_add, Int.mul_add, Int.mul_one, ← hB] at h4
    rw [show p * (1 - 2 * 0) = p from Int.mul_one p]
    exact xor_up h1 h3 hx.1 hpb h4
  · rw [h]
    have h4 := Int.mul_le_mul_of_nonneg_left (odd_pos h hz0) (Int.le_of_lt hpb)
    rw [Int.mul_one] at h4
    rw [show p * (1 - 2 * 1) = -p from by rw [show (1 - 2 * 1 : Int) = -1 from rfl, Int.mul_neg, Int.mul_one], ← Int.sub_eq_add_neg]
    exact xor_dn h1 h2 hx.2 hpb h4
/-- the octets with a bit turned, written anew, are the figures with that bit turned -/
theorem turned {pre post pre' post' : List Int} {x y : Int} {b b' : Nat} (hx : 0 ≤ x ∧ x < 64) (hy : 0 ≤ y ∧ y < 256) (hpre : ∀ z ∈ pre, 0 ≤ z ∧ z < 64) (hpost : ∀ z ∈ post, 0 ≤ z ∧ z < 64) (hpost' : ∀ z ∈ post', 0 ≤ z ∧ z < 256)
    (hb : b < 6) (hb' : b' < 8) (hv : val 64 (pre ++ x :: post) = val 256 (pre' ++ y :: post')) (hg : b + 6 * post.length = b' + 8 * post'.length) :
    dig 64 (pre.length + 1 + post.length) (val 256 (pre' ++ Builtin.bitXor y (2 ^ b') :: post')) = pre ++ Builtin.bitXor x (2 ^ b) :: post := by
  have h1 := turn_val (B := 64) (c := 6) (pre := pre) (post := post) (by decide) (by decide) hb hx hpost
  have h2 := turn_val (B := 256) (c := 8) (pre := pre') (post := post') (by decide) (by decide) hb' hy hpost'
  rw [← hg, ← hv, ← h1] at h2
  rw [h2]
  have hl : (pre ++ Builtin.bitXor x (2 ^ b) :: post).length = pre.length + 1 + post.length := by rw [List.length_append, List.length_cons, ← Nat.succ_add_eq_add_succ]
  rw [← hl]
  refine dig_val 64 (by decide) _ fun z hz => ?_
  rcases List.mem_append.mp hz with h | h
  · exact hpre z h
  · rcases List.mem_cons.mp h with rfl | h
    · exact xor_in (c := 6) (by decide) hb hx
    · exact hpost z h
end Mine
end
section
open PySem PySem.W PyProof.Rows
namespace Mine

/-- what a callee with a try owes at its end: the heap that it was entered with stands, but for the slots of the caller's frame -/
noncomputable def LeaveT (fs : List Addr) (g h₀ : Heap) (L : Addr) (m : Str → Option Value) (news : List (Addr × Obj)) (R : Result → Shared → Prop) (v : Value) (s' : Shared) : Prop :=
  ∃ g' L' m' own, KtsTurn fs g g' ∧ Fr g' L' s'.heap m' ∧ News g' L' s'.heap own ∧ (Fr h₀ L s'.heap m → News h₀ L s'.heap (own ++ news) → (∀ q ∈ news, ∀ p ∈ own, q.1 ≠ p.1) → R (.ok (.ret v)) s')
theorem leaveT_ {fs : List Addr} {g g' h₀ : Heap} {L L' : Addr} {m m' : Str → Option Value} {news own : List (Addr × Obj)} {R : Result → Shared → Prop} {v : Value} {s' : Shared} (T : KtsTurn fs g g') (F' : Fr g' L' s'.heap m') (N' : News g' L' s'.heap own)
    (k : Fr h₀ L s'.heap m → News h₀ L s'.heap (own ++ news) → (∀ q ∈ news, ∀ p ∈ own, q.1 ≠ p.1) → R (.ok (.ret v)) s') : LeaveT fs g h₀ L m news R v s' := ⟨g', L', m', own, T, F', N', k⟩
/-- an item of a list that an outer frame laid -/
theorem item_up {prog : Program} {w : World} {A : Around} {E : Value → Shared → Prop} {s : Shared} {Q : Value → Shared → Prop} {value slice : Expr} {H G : Heap} {pa L1 L2 : Addr} {vs : List Value} {m1 m2 : Str → Option Value} {k : Int} {u : Tok} {v : Value}
    (hl : H.IsList pa vs.toArray) (F1 : Fr H L1 G m1) (F2 : Fr G L2 s.heap m2) (h0 : 0 ≤ k) (hhi : k < 2 ^ 63) (hx : vs[k.toNat]? = some v) (h : Q v s)
    (hs : subscripted slice false (.ref pa) (.int k u) = operate [.ref pa, .int k u] (getItem (.ref pa) (.int k u)) := by with_unfolding_all rfl) :
    wpAny (model prog w) A (subscriptTail value slice (.ref pa) (.int k u)) Q E s := by
  have hl' : s.heap.IsList pa vs.toArray := let ⟨o, e, r⟩ := hl; ⟨o, F2.keep _ _ (F1.keep _ _ e), r⟩
  exact tail_any hl'.typeIs slot_list_getitem.lookup (wpAny_getItem_list hl' h0 hhi (by simpa using hx) h) hs
end Mine
end
section
open PySem PySem.W PyProof.Rows
namespace Mine

section
variable {M : Model} {A : Around} {E : Value → Shared → Prop} {s : Shared} {env : Env} {K : Frag} {f : Value} {pos : Pos} {Q : Value → Shared → Prop}
/-- the ends named: they are not written out at each step below -/
theorem wpC_fold {α : Type} {t : Sem α} {R : α → Shared → Prop} (h : let qc := R; let ec := E; wpC M A t qc ec s) : wpC M A t R E s := h
theorem wpC_callK {h₀ : Heap} {e : Expr} {rest : List Expr} (_X : K.In h₀) (hk : keepIn K f = true) (h : wpAny M A (spliced (backTo pos (starEach (e :: rest) env))) (fun vs s₁ => K.In s₁.heap ∧ wpC M A (call f ([] ++ vs)) Q E s₁) E s)
    (he : starEach (e :: rest) env = (false, eval e env) :: starEach rest env := by rfl) (hplain : (backTo pos (starEach rest env)).any (·.1) = false := by rfl) :
    wpC M A (callWith pos f [] (backTo pos (starEach (e :: rest) env)) []) Q E s := by
  rw [he] at h ⊢
  exact wpC_callWith (by show (false || (backTo pos (starEach rest env)).any (·.1)) = false; rw [hplain]; rfl) (keeps_K hk) (Calls.evalArgs_plain h)
theorem wpC_callT {T : String} {e : Expr} {rest : List Expr} (h : wpAny M A (spliced (backTo pos (starEach (e :: rest) env))) (fun vs s₁ => wpC M A (call (.type T) ([] ++ vs)) Q E s₁) E s)
    (he : starEach (e :: rest) env = (false, eval e env) :: starEach rest env := by rfl) (hplain : (backTo pos (starEach rest env)).any (·.1) = false := by rfl) :
    wpC M A (callWith pos (.type T) [] (backTo pos (starEach (e :: rest) env)) []) Q E s := by
  rw [he] at h ⊢
  exact wpC_callWith (P := fun _ => True) (by show (false || (backTo pos (starEach rest env)).any (·.1)) = false; rw [hplain]; rfl) (fun _ _ => ⟨.machine, .inr (.inl rfl), Looks.now⟩) (Calls.evalArgs_plain (wpAny_mono h (fun _ _ x => ⟨True.intro, x⟩) fun _ _ x => x))
end
theorem enterTC {K : Frag} {prog : Program} {w : World} {A₀ A : Around} {s : Shared} {base h₀ : Heap} {L : Addr} {m mg mb : Str → Option Value} {env : Env} {news : List (Addr × Obj)} {p : Program} {loose : List Str} {mean : ExcName → Option Value}
    {R : Result → Shared → Prop} {name qual : Str} {params : Arguments} {body : List Stmt} {scope : Scope} {dV kV doc pm cdv ct oc : Value} {an od : Option Addr} {osl : Array (Option Value)} {f : Addr} {args : Args} {binds : List (Str × Value)}
    (B : Below A₀ base [] h₀) (F : Fr h₀ L s.heap m) (X₀ : K.In h₀) (N : News h₀ L s.heap news) (T : Top p loose mean mg mb h₀) (hA : A.frames = some [env]) (hf : env.frame = some L) (hke : env.scope.kind = .function)
    (ho : K.lookup f = some ⟨oc, od, .func (fnOf name qual params body scope dV kV doc pm an cdv ct), osl⟩) (hcd : codeIn K cdv qual = true) (hroom : A.depth < recursionLimit)
    (hbind : BindsTo s (fnOf name qual params body scope dV kV doc pm an cdv ct) args binds) (hloc : ∀ y ∈ binds, scope.names.lookup y.1 = some .local)
    (h : ∀ L' h₁, Fr s.heap L' h₁ (fun y => binds.reverse.lookup y) → News s.heap L' h₁ [] → Below A base [env] s.heap → K.In s.heap → Top p loose mean mg mb s.heap → KtsDicts ([env].filterMap (·.frame)) s.heap →
      wpC (model prog w) (A.deeper (envOf qual scope L' f cdv)) (execs body (envOf qual scope L' f cdv))
        (fun fl s' => LeaveT ([env].filterMap (·.frame)) s.heap h₀ L m news R (match fl with | .ret v => v | _ => .none) s')
        (fun e s' => wpAny (model prog w) (A.deeper (envOf qual scope L' f cdv)) (leaving (envOf qual scope L' f cdv) e) (fun _ s'' => R (.error e) s'') (fun e' s'' => R (.error e') s'') s')
        { s with heap := h₁, toks := s.toks + binds.length })
    (hco : scope.isCoroutine = false) (hgen : scope.isGenerator = false) (hk : scope.kind = .function)
    (hcell : ∀ x ∈ scope.names, x.2 ≠ .cell) : codeC (model prog w) A (.call (.ref f) args) R s := by
  have BG : Below A base [env] s.heap := ⟨hA, fun b o e => F.keep b o (B.stays b o e), (pushX B F hf hke).frames⟩
  have hfs : [env].filterMap (·.frame) = [L] := by simp [hf]
  obtain ⟨oL, es, ep, hL, hLd, hLk, hLf⟩ := F.ns
  have hD : KtsDicts ([env].filterMap (·.frame)) s.heap := by
    rw [hfs]
    intro b hb
    rw [List.mem_singleton.mp hb]
    exact ⟨oL, es, ep, hL, hLd⟩
  refine codeC_call_def (fd := fnOf name qual params body scope dV kV doc pm an cdv ct) (body := body) (binds := binds) hroom ((X₀.keeps F.keep) _ _ ho) rfl (T.nolimit.keeps F.keep) (codeRec_of (X₀.keeps F.keep) hcd) rfl hbind hcell hloc (fun h₁ hns hk₁ => ?_) hco hgen hk
  refine wpC_mono (h _ h₁ ⟨hns, hk₁, Nat.le_refl _⟩ News.nil BG (X₀.keeps F.keep) (T.keeps F.keep) hD) (fun fl s' hl => ?_) fun _ _ y => y
  obtain ⟨g', L', m', own, T', F', N', k⟩ := hl
  rw [hfs] at T'
  have nL₀ : h₀.get? L = none := kts_self F
  obtain ⟨sl, hs⟩ := T'.up hL
  have keep : ∀ b o, s.heap.get? b = some o → b ≠ L → s'.heap.get? b = some o := fun b o e hb => F'.keep b o (T'.other b o e (by simpa using hb))
  refine k ⟨⟨_, es, ep, F'.keep _ _ hs, hLd, hLk, hLf⟩, fun b o e => keep b o (F.keep b o e) (fun q => by rw [q, nL₀] at e; cases e), F.above⟩ ?_ ?_
  · intro q hq
    rcases List.mem_append.mp hq with hq | hq
    · refine ⟨(N' q hq).1, fun e => ?_, ?_⟩
      · have := (N' q hq).2.2
        rw [e, hs] at this
        cases this
      · cases e : h₀.get? q.1 with
        | none => rfl
        | some o =>
          obtain ⟨sl', hs'⟩ := T'.up (F.keep _ _ e)
          have := (N' q hq).2.2
          rw [hs'] at this
          cases this
    · exact ⟨keep _ _ (N q hq).1 (N q hq).2.1, (N q hq).2.1, (N q hq).2.2⟩
  · intro q hq q' hq' e
    have h2 := (N' q' hq').2.2
    obtain ⟨sl', hs'⟩ := T'.up (N q hq).1
    rw [← e, hs'] at h2
    cases h2
theorem enterVc {K : Frag} {prog : Program} {w : World} {A₀ A : Around} {s : Shared} {base h₀ : Heap} {outer : List Env} {L : Addr} {m mg mb : Str → Option Value} {env : Env} {news : List (Addr × Obj)} {p : Program} {loose : List Str} {mean : ExcName → Option Value}
    {R : Result → Shared → Prop} {name qual : Str} {params : Arguments} {body : List Stmt} {scope : Scope} {dV kV doc pm cdv ct oc : Value} {an od : Option Addr} {osl : Array (Option Value)} {f : Addr} {args : Args} {binds : List (Str × Value)}
    (B : Below A₀ base outer h₀) (F : Fr h₀ L s.heap m) (X₀ : K.In h₀) (N : News h₀ L s.heap news) (T : Top p loose mean mg mb h₀) (hA : A.frames = some (env :: outer)) (hf : env.frame = some L) (hke : env.scope.kind = .function)
    (ho : K.lookup f = some ⟨oc, od, .func (fnOf name qual params body scope dV kV doc pm an cdv ct), osl⟩) (hcd : codeIn K cdv qual = true) (hroom : A.depth < recursionLimit)
    (hbind : BindsTo s (fnOf name qual params body scope dV kV doc pm an cdv ct) args binds) (hloc : ∀ y ∈ binds, scope.names.lookup y.1 = some .local)
    (h : ∀ L' h₁, Fr s.heap L' h₁ (fun y => binds.reverse.lookup y) → News s.heap L' h₁ [] → Below A base (env :: outer) s.heap → K.In s.heap → Top p loose mean mg mb s.heap →
      wpC (model prog w) (A.deeper (envOf qual scope L' f cdv)) (execs body (envOf qual scope L' f cdv))
        (fun fl s' => LeaveV s.heap h₀ L m news R (match fl with | .ret v => v | _ => .none) s')
        (fun e s' => wpAny (model prog w) (A.deeper (envOf qual scope L' f cdv)) (leaving (envOf qual scope L' f cdv) e) (fun _ s'' => R (.error e) s'') (fun e' s'' => R (.error e') s'') s')
        { s with heap := h₁, toks := s.toks + binds.length })
    (hco : scope.isCoroutine = false) (hgen : scope.isGenerator = false) (hk : scope.kind = .function)
    (hcell : ∀ x ∈ scope.names, x.2 ≠ .cell) : codeC (model prog w) A (.call (.ref f) args) R s := by
  have BG : Below A base (env :: outer) s.heap := ⟨hA, fun b o e => F.keep b o (B.stays b o e), (pushX B F hf hke).frames⟩
  refine codeC_call_def (fd := fnOf name qual params body scope dV kV doc pm an cdv ct) (body := body) (binds := binds) hroom ((X₀.keeps F.keep) _ _ ho) rfl (T.nolimit.keeps F.keep) (codeRec_of (X₀.keeps F.keep) hcd) rfl hbind hcell hloc (fun h₁ hns hk₁ => ?_) hco hgen hk
  exact wpC_mono (h _ h₁ ⟨hns, hk₁, Nat.le_refl _⟩ News.nil BG (X₀.keeps F.keep) (T.keeps F.keep)) (fun fl s' hl => leave_back F N hl) fun _ _ y => y
theorem wpC_execs_at (k : Nat) {M : Model} {A : Around} {E : Value → Shared → Prop} {s : Shared} {env : Env} {body : List Stmt} {Q : Flow → Shared → Prop} (h : wpAny M A (execs (body.take k) env) (fun f s' => match f with | .next => wpC M A (execs (body.drop k) env) Q E s' | f => Q f s') E s) : wpC M A (execs body env) Q E s := by
  have := wpC_execs_skip (body.take k) (rest := body.drop k) h
  rwa [List.take_append_drop] at this
theorem wpC_AssignN {M : Model} {A : Around} {E : Value → Shared → Prop} {s : Shared} {env : Env} {x : Str} {xp : Pos} {value : Expr} {pos : Pos} {Q : Flow → Shared → Prop} (h : wpC M A (eval value env) (fun v s₁ => wpAny M A (assign (.Name x xp) env v) (fun _ => Q .next) E s₁) E s)
    (hs : swapsWithSole [.Name x xp] value pos.line env = pure false := by rfl) (hw : swappedStores [.Name x xp] value env = pure none := by rfl) : wpC M A (exec (.Assign [.Name x xp] value pos) env) Q E s := by
  refine wpC_Assign (wpC_mono h (fun v s₁ h₁ => ?_) fun _ _ x => x) hs hw
  show wpAny M A (do assignAll v [assign (.Name x xp) env]; pure .next) Q E s₁
  exact wpAny_bind (wpAny_mono h₁ (fun _ _ x => wpAny_pure x) fun _ _ x => x)
theorem wpC_AssignT {M : Model} {A : Around} {E : Value → Shared → Prop} {s : Shared} {env : Env} {elts : List Expr} {k : Nat} {tpos : Pos} {value : Expr} {pos : Pos} {Q : Flow → Shared → Prop} (h : wpC M A (eval value env) (fun v s₁ => wpAny M A (assign (.Tuple elts k tpos) env v) (fun _ => Q .next) E s₁) E s)
    (hs : swapsWithSole [.Tuple elts k tpos] value pos.line env = pure false := by rfl) (hw : swappedStores [.Tuple elts k tpos] value env = pure none := by rfl) : wpC M A (exec (.Assign [.Tuple elts k tpos] value pos) env) Q E s := by
  refine wpC_Assign (wpC_mono h (fun v s₁ h₁ => ?_) fun _ _ x => x) hs hw
  show wpAny M A (do assignAll v [assign (.Tuple elts k tpos) env]; pure .next) Q E s₁
  exact wpAny_bind (wpAny_mono h₁ (fun _ _ x => wpAny_pure x) fun _ _ x => x)
end Mine
end
section
open PySem PySem.W PyProof.Rows
namespace Mine

/-- a loop over range(N), under a claim -/
theorem forRangeC {prog : Program} {w : World} {A : Around} {E : Value → Shared → Prop} {s : Shared} {env : Env} {h₀ : Heap} {x : Str} {px : Pos} {body : List Stmt} {r : Addr} {n : Nat} {b : Int} {t u v : Tok} {m₀ : Str → Option Value} {news : List (Addr × Obj)} {R : Result → Shared → Prop}
    (stored : List Str) (hh : A.handled = none) (hr : IsRange s.heap r 0 b 1 t u v) (hb : b = (n : Int)) (hn : n ≤ 1000) (hx : env.kindOf x = some .local) (hp : (env.scope.kind == .class || (env.scope.kind == .module && env.locals != env.globals)) = false)
    (F : Fr h₀ env.locals s.heap m₀) (N : News h₀ env.locals s.heap news)
    (turn : ∀ (i : Nat) (ti : Tok) (u : Str → Option Value) h tk I oI, i < n → (∀ p ∈ news, p.1 ≠ I) → Fr h₀ env.locals h (fun y => if y = x then some (.int (i : Int) ti) else if stored.contains y then u y else m₀ y) → News h₀ env.locals h ((I, oI) :: news) →
      wpC (model prog w) A (execs body env) (TurnC h₀ env.locals x stored m₀ ((I, oI) :: news) { s with heap := h, toks := tk }) (fun _ _ => False) { s with heap := h, toks := tk })
    (done : ∀ (u : Str → Option Value) h tk, Fr h₀ env.locals h (fun y => if y = x then u y else if stored.contains y then u y else m₀ y) → News h₀ env.locals h news → R (.ok .next) { s with heap := h, toks := tk }) :
    wpAny (model prog w) A (pyIter (.ref r)) (fun it s₂ => codeC (model prog w) A (.forLoop (.Name x px) it body [] env) R s₂) E s := by
  subst hb
  have hsz : Builtin.Range.rangeSize 0 (n : Int) 1 = (n : Int) := by
    have := rangeSize_nat 0 (n : Int)
    simpa using this
  refine wpAny_pyIter_range hr (small_one (by (first | lia | omega)) (by (first | lia | omega)) (by (first | lia | omega)) (by (first | lia | omega))) ?_
  rw [hsz]
  have hold : ∀ b o, s.heap.get? b = some o → b ≠ s.heap.objs.size := fun b o e q => absurd (Heap.lt_size e) (q ▸ Nat.lt_irrefl _)
  have hI0 : h₀.get? s.heap.objs.size = none := by
    cases e : h₀.get? s.heap.objs.size with
    | none => rfl
    | some o => exact absurd rfl (hold _ _ (F.keep _ _ e))
  refine loopC (n := n) (P := fun i v => ∃ t, v = .int (0 + (i : Int) * 1) t) (St := fun i h => IsRangeIter h s.heap.objs.size (0 + (i : Nat) * 1) ((n : Int) - (i : Nat)) 1) stored (Walks.range hh s.heap.objs.size 0 1 n) hx hp hI0 ?_ ?_ ?_ ?_ ?_ (F.push _) (fun p hp => ⟨Heap.get?_push_of_some _ (N p hp).1, (N p hp).2⟩) ?_ ?_
  · obtain ⟨oL, _, _, hL, _⟩ := F.ns
    exact hold _ _ hL
  · exact fun p hp => hold _ _ (N p hp).1
  · show IsRangeIter _ _ _ _ _
    simp only [Int.ofNat_zero, Int.zero_mul, Int.add_zero, Int.sub_zero]
    exact Heap.get?_push_size _ rfl
  · intro i h h' nw st e _ _ _
    show h'.get? _ = _
    rw [e]
    exact st
  · exact fun i h st => ⟨_, st⟩
  · intro i v u h tk oI hi hP F' N'
    obtain ⟨ti, rfl⟩ := hP
    have e : (0 + (i : Int) * 1) = (i : Int) := by (first | lia | omega)
    rw [e] at F'
    exact turn i ti u h tk _ oI hi (fun p hp => hold _ _ (N p hp).1) F' N'
  · intro u h tk F' N'
    exact done u h tk F' N'
/-- a loop over range(a, b, c), under a claim -/
theorem forRangeS {prog : Program} {w : World} {A : Around} {E : Value → Shared → Prop} {s : Shared} {env : Env} {h₀ : Heap} {x : Str} {px : Pos} {body : List Stmt} {r : Addr} {n : Nat} {a b c : Int} {t u v : Tok} {m₀ : Str → Option Value} {news : List (Addr × Obj)} {R : Result → Shared → Prop}
    (stored : List Str) (hh : A.handled = none) (hr : IsRange s.heap r a b c t u v) (hsm : Builtin.Range.small a b c = true) (hsz : Builtin.Range.rangeSize a b c = (n : Int)) (hx : env.kindOf x = some .local) (hp : (env.scope.kind == .class || (env.scope.kind == .module && env.locals != env.globals)) = false)
    (F : Fr h₀ env.locals s.heap m₀) (N : News h₀ env.locals s.heap news)
    (turn : ∀ (i : Nat) (ti : Tok) (u : Str → Option Value) h tk I oI, i < n → (∀ p ∈ news, p.1 ≠ I) → Fr h₀ env.locals h (fun y => if y = x then some (.int (a + (i : Int) * c) ti) else if stored.contains y then u y else m₀ y) → News h₀ env.locals h ((I, oI) :: news) →
      wpC (model prog w) A (execs body env) (TurnC h₀ env.locals x stored m₀ ((I, oI) :: news) { s with heap := h, toks := tk }) (fun _ _ => False) { s with heap := h, toks := tk })
    (done : ∀ (u : Str → Option Value) h tk, Fr h₀ env.locals h (fun y => if y = x then u y else if stored.contains y then u y else m₀ y) → News h₀ env.locals h news → R (.ok .next) { s with heap := h, toks := tk }) :
    wpAny (model prog w) A (pyIter (.ref r)) (fun it s₂ => codeC (model prog w) A (.forLoop (.Name x px) it body [] env) R s₂) E s := by
  refine wpAny_pyIter_range hr hsm ?_
  rw [hsz]
  have hold : ∀ b o, s.heap.get? b = some o → b ≠ s.heap.objs.size := fun b o e q => absurd (Heap.lt_size e) (q ▸ Nat.lt_irrefl _)
  have hI0 : h₀.get? s.heap.objs.size = none := by
    cases e : h₀.get? s.heap.objs.size with
    | none => rfl
    | some o => exact absurd rfl (hold _ _ (F.keep _ _ e))
  refine loopC (n := n) (P := fun i v => ∃ t, v = .int (a + (i : Int) * c) t) (St := fun i h => IsRangeIter h s.heap.objs.size (a + (i : Nat) * c) ((n : Int) - (i : Nat)) c) stored (Walks.range hh s.heap.objs.size a c n) hx hp hI0 ?_ ?_ ?_ ?_ ?_ (F.push _) (fun p hp => ⟨Heap.get?_push_of_some _ (N p hp).1, (N p hp).2⟩) ?_ ?_
  · obtain ⟨oL, _, _, hL, _⟩ := F.ns
    exact hold _ _ hL
  · exact fun p hp => hold _ _ (N p hp).1
  · show IsRangeIter _ _ _ _ _
    simp only [Int.ofNat_zero, Int.zero_mul, Int.add_zero, Int.sub_zero]
    exact Heap.get?_push_size _ rfl
  · intro i h h' nw st e _ _ _
    show h'.get? _ = _
    rw [e]
    exact st
  · exact fun i h st => ⟨_, st⟩
  · intro i v u h tk oI hi hP F' N'
    obtain ⟨ti, rfl⟩ := hP
    exact turn i ti u h tk _ oI hi (fun p hp => hold _ _ (N p hp).1) F' N'
  · intro u h tk F' N'
    exact done u h tk F' N'
end Mine
end
section
open PySem PySem.W PyProof.Rows
namespace Mine

section
theorem from_nat {n k : Nat} : fromIndex n (k : Int) = k := by unfold fromIndex; (first | lia | omega)
theorem at_mid {α : Type} {pre post : List α} {c : α} : (pre ++ c :: post)[pre.length]? = some c := by rw [List.getElem?_append_right (Nat.le_refl _), Nat.sub_self]; rfl
theorem find_at {X : Str} {pre post : List Nat} {c : Nat} (e : X.cps.toList = pre ++ c :: post) (h : c ∉ pre) : Txt.find X ⟨#[c]⟩ = pre.length := by
  unfold Txt.find
  have hat : X.cps.toList[pre.length]? = some c := by rw [e]; exact at_mid
  rcases StrLaws.occ_head X ⟨#[c]⟩ 1 (Nat.le_refl 1) with ⟨_, hn⟩ | ⟨k, r, h0, hk, hn⟩
  · exact absurd ((StrLaws.subAt_one X c pre.length).mpr hat) (hn _)
  · rw [h0]
    have hm := (StrLaws.subAt_one X c k).mp hk
    have h1 : ¬ k < pre.length := fun hlt => h (by rw [e, List.getElem?_append_left hlt] at hm; exact List.mem_of_getElem? hm)
    have h2 : ¬ pre.length < k := fun hlt => hn _ hlt ((StrLaws.subAt_one X c pre.length).mpr hat)
    exact congrArg (fun n : Nat => (n : Int)) (Nat.le_antisymm (Nat.le_of_not_lt h2) (Nat.le_of_not_lt h1))
theorem find3_at {X : Str} {pre mid post : List Nat} {c : Nat} {i : Int} (e : X.cps.toList = pre ++ (mid ++ c :: post)) (h : c ∉ mid) (hi : i = pre.length) : Txt.find3 X ⟨#[c]⟩ i = pre.length + mid.length := by
  unfold Txt.find3
  rw [hi, from_nat]
  have hat : X.cps.toList[pre.length + mid.length]? = some c := by rw [e, List.getElem?_append_right (Nat.le_add_right _ _), Nat.add_sub_cancel_left]; exact at_mid
  rcases StrLaws.occ_head_from X ⟨#[c]⟩ pre.length 1 (Nat.le_refl 1) with ⟨_, hn⟩ | ⟨k, r, h0, hlo, hk, hn⟩
  · exact absurd ((StrLaws.subAt_one X c _).mpr hat) (hn _ (Nat.le_add_right _ _))
  · rw [h0]
    have hm := (StrLaws.subAt_one X c k).mp hk
    have h1 : ¬ k < pre.length + mid.length := fun hlt => h (by rw [e, List.getElem?_append_right hlo, List.getElem?_append_left (Nat.sub_lt_left_of_lt_add hlo hlt)] at hm; exact List.mem_of_getElem? hm)
    have h2 : ¬ pre.length + mid.length < k := fun hlt => hn _ (Nat.le_add_right _ _) hlt ((StrLaws.subAt_one X c _).mpr hat)
    exact congrArg (fun n : Nat => (n : Int)) (Nat.le_antisymm (Nat.le_of_not_lt h2) (Nat.le_of_not_lt h1))
theorem item_at {X : Str} {i : Nat} {c : Nat} (h : X.cps.toList[i]? = some c) : Txt.item X (i : Int) = ⟨#[c]⟩ := by
  have hlt : i < X.length := by
    have := (List.getElem?_eq_some_iff.mp h).1
    rw [Array.length_toList] at this
    exact this
  unfold Txt.item Txt.charAt seqIndex?
  have e0 : (if ((i : Int)) < 0 then (i : Int) + (X.length : Nat) else (i : Int)) = i := if_neg (Int.not_lt.mpr (Int.natCast_nonneg _))
  rw [e0, if_pos (Bool.and_eq_true_iff.mpr ⟨decide_eq_true (Int.natCast_nonneg _), decide_eq_true (Int.ofNat_lt.mpr hlt)⟩)]
  have h' : X.cps[i]? = some c := by rw [← Array.getElem?_toList]; exact h
  simp [h']
noncomputable def cat (c : Nat) : List (List Nat) → List Nat
  | [] => []
  | [x] => x
  | x :: r => x ++ c :: cat c r
theorem join_cps (c : Nat) : ∀ l : List Str, (Str.join ⟨#[c]⟩ l).cps.toList = cat c (l.map fun x => x.cps.toList)
  | [] => rfl
  | [x] => rfl
  | x :: y :: r => by
    have ih := join_cps c (y :: r)
    show ((x ++ ⟨#[c]⟩ : Str) ++ Str.join ⟨#[c]⟩ (y :: r)).cps.toList = x.cps.toList ++ c :: cat c ((y :: r).map fun x => x.cps.toList)
    rw [← ih, Str.cps_append, Str.cps_append]
    simp
theorem cut_inj {c : Nat} {A B : List Nat} : ∀ {x y : List Nat}, c ∉ x → c ∉ y → x ++ c :: A = y ++ c :: B → x = y ∧ A = B
  | [], [], _, _, h => ⟨rfl, by simpa using h⟩
  | [], b :: y, _, hy, h => by
    injection h with h1 _
    exact absurd (h1 ▸ List.mem_cons_self ..) hy
  | a :: x, [], hx, _, h => by
    injection h with h1 _
    exact absurd (h1.symm ▸ List.mem_cons_self ..) hx
  | a :: x, b :: y, hx, hy, h => by
    injection h with h1 h2
    obtain ⟨e1, e2⟩ := cut_inj (fun q => hx (List.mem_cons_of_mem _ q)) (fun q => hy (List.mem_cons_of_mem _ q)) h2
    exact ⟨by rw [h1, e1], e2⟩
theorem cat_inj {c : Nat} : ∀ {l l' : List (List Nat)}, l ≠ [] → l' ≠ [] → (∀ x ∈ l, c ∉ x) → (∀ x ∈ l', c ∉ x) → cat c l = cat c l' → l = l'
  | [], _, h, _, _, _, _ => absurd rfl h
  | _, [], _, h, _, _, _ => absurd rfl h
  | [x], [y], _, _, _, _, h => by rw [show x = y from h]
  | [x], y :: z :: r, _, _, hx, _, h => by
    have h' : x = y ++ c :: cat c (z :: r) := h
    exact absurd (by rw [h']; simp) (hx x (List.mem_cons_self ..))
  | x :: z :: r, [y], _, _, _, hy, h => by
    have h' : x ++ c :: cat c (z :: r) = y := h
    exact absurd (by rw [← h']; simp) (hy y (List.mem_cons_self ..))
  | x :: z :: r, y :: z' :: r', _, _, hx, hy, h => by
    obtain ⟨e1, e2⟩ := cut_inj (hx x (List.mem_cons_self ..)) (hy y (List.mem_cons_self ..)) (show x ++ c :: cat c (z :: r) = y ++ c :: cat c (z' :: r') from h)
    have := cat_inj (l := z :: r) (l' := z' :: r') (by simp) (by simp) (fun q hq => hx q (List.mem_cons_of_mem _ hq)) (fun q hq => hy q (List.mem_cons_of_mem _ hq)) e2
    rw [e1, this]
theorem map_cps_inj : ∀ {l l' : List Str}, l.map (fun x => x.cps.toList) = l'.map (fun x => x.cps.toList) → l = l'
  | [], [], _ => rfl
  | [], _ :: _, h => by cases h
  | _ :: _, [], h => by cases h
  | x :: l, y :: l', h => by
    injection h with h1 h2
    rw [map_cps_inj h2, Str.ext' (Array.toList_inj.mp h1)]
theorem split_ne (x y : Str) : Txt.split x y ≠ [] := by
  unfold Txt.split
  split
  · simp
  · split
    · simp
    · rw [StrLaws.partsBetween_eq]
      obtain ⟨p, r, e⟩ := StrLaws.partsFrom_ne x y.length 0 (Builtin.Str.occurrences x y 0 x.length (x.length + 1))
      rw [e]; simp
theorem split_join {c : Nat} {l : List Str} (hne : l ≠ []) (h : ∀ x ∈ l, c ∉ x.cps.toList) : Txt.split (Str.join ⟨#[c]⟩ l) ⟨#[c]⟩ = l := by
  refine map_cps_inj (cat_inj (c := c) ?_ ?_ ?_ ?_ ?_)
  · intro q; exact split_ne _ _ (List.map_eq_nil_iff.mp q)
  · intro q; exact hne (List.map_eq_nil_iff.mp q)
  · intro x hx
    obtain ⟨p, hp, rfl⟩ := List.mem_map.mp hx
    exact StrLaws.split_free _ _ p hp
  · intro x hx
    obtain ⟨p, hp, rfl⟩ := List.mem_map.mp hx
    exact h p hp
  · rw [← join_cps, StrLaws.join_split, join_cps]
end
end Mine
end
section
open PySem PySem.W PyProof.Rows
namespace Mine

set_option linter.unusedSectionVars false
/-- a reply's fate that is told ahead of any figures: the word that comes -/
noncomputable def Fate (x : Str) (v : Str) : Prop :=
  ((Txt.slice x none (some 3) != Str.ofString "229") = true ∧ v = Str.ofString "error_reply") ∨
  ((Txt.slice x none (some 3) != Str.ofString "229") = false ∧ v = Str.ofString "error_proto" ∧
    (Txt.find x (Str.ofString "(") < 0 ∨
     (0 ≤ Txt.find x (Str.ofString "(") ∧ Txt.find3 x (Str.ofString ")") (Txt.find x (Str.ofString "(") + 1) < 0) ∨
     (0 ≤ Txt.find x (Str.ofString "(") ∧ Txt.find x (Str.ofString "(") + 1 ≤ Txt.find3 x (Str.ofString ")") (Txt.find x (Str.ofString "(") + 1) ∧ Txt.find3 x (Str.ofString ")") (Txt.find x (Str.ofString "(") + 1) < (x.length : Int) ∧
       ((Txt.item x (Txt.find x (Str.ofString "(") + 1) != Txt.item x (Txt.find3 x (Str.ofString ")") (Txt.find x (Str.ofString "(") + 1) - 1)) = true ∨
        ((Txt.item x (Txt.find x (Str.ofString "(") + 1) != Txt.item x (Txt.find3 x (Str.ofString ")") (Txt.find x (Str.ofString "(") + 1) - 1)) = false ∧
         (Txt.split (Txt.slice x (some (Txt.find x (Str.ofString "(") + 1)) (some (Txt.find3 x (Str.ofString ")") (Txt.find x (Str.ofString "(") + 1)))) (Txt.item x (Txt.find x (Str.ofString "(") + 1))).length ≠ 5 ∧
         (Txt.split (Txt.slice x (some (Txt.find x (Str.ofString "(") + 1)) (some (Txt.find3 x (Str.ofString ")") (Txt.find x (Str.ofString "(") + 1)))) (Txt.item x (Txt.find x (Str.ofString "(") + 1))).length ≤ 900)))))
section
theorem find_none {X : Str} {c : Nat} (h : c ∉ X.cps.toList) : Txt.find X ⟨#[c]⟩ < 0 := by
  unfold Txt.find
  rcases StrLaws.occ_head X ⟨#[c]⟩ 1 (Nat.le_refl 1) with ⟨h0, _⟩ | ⟨k, r, _, hk, _⟩
  · rw [h0]; decide
  · exact absurd (List.mem_of_getElem? ((StrLaws.subAt_one X c k).mp hk)) h
theorem find3_none {X : Str} {pre mid : List Nat} {c : Nat} {i : Int} (e : X.cps.toList = pre ++ mid) (h : c ∉ mid) (hi : i = pre.length) : Txt.find3 X ⟨#[c]⟩ i < 0 := by
  unfold Txt.find3
  rw [hi, from_nat]
  rcases StrLaws.occ_head_from X ⟨#[c]⟩ pre.length 1 (Nat.le_refl 1) with ⟨h0, _⟩ | ⟨k, r, _, hlo, hk, _⟩
  · rw [h0]; decide
  · have hm := (StrLaws.subAt_one X c k).mp hk
    rw [e, List.getElem?_append_right hlo] at hm
    exact absurd (List.mem_of_getElem? hm) h
theorem sg_inj {a b : Int} (ha : 0 ≤ a ∧ a < 64) (hb : 0 ≤ b ∧ b < 64) (h : sg a = sg b) : a = b := by
  have ga := sg_at ha.1 ha.2
  have gb := sg_at hb.1 hb.2
  have e1 : (b64c a).toNat = (b64c b).toNat := by rw [← ga.2.2.2.2.2.2.1, ← gb.2.2.2.2.2.2.1, h]
  calc a = b64v (b64c a) := ga.2.2.2.2.1.symm
    _ = b64v (b64c b) := by rw [ga.2.2.2.1, gb.2.2.2.1, e1]
    _ = b := gb.2.2.2.2.1
theorem sg_not {c : Int} {l : List Int} (hc : 0 ≤ c ∧ c < 64) (hl : ∀ x ∈ l, 0 ≤ x ∧ x < 64) (h : c ∉ l) : sg c ∉ l.map sg := by
  intro q
  obtain ⟨d, hd, e⟩ := List.mem_map.mp q
  exact h (sg_inj (hl d hd) hc e ▸ hd)
theorem sg62 : sg 62 = 40 := rfl
theorem sg63 : sg 63 = 41 := rfl
noncomputable def catI (c : Int) : List (List Int) → List Int
  | [] => []
  | [x] => x
  | x :: r => x ++ c :: catI c r
theorem catI_map (c : Int) : ∀ l : List (List Int), (catI c l).map sg = cat (sg c) (l.map (List.map sg))
  | [] => rfl
  | [x] => rfl
  | x :: y :: r => by
    show (x ++ c :: catI c (y :: r)).map sg = x.map sg ++ sg c :: cat (sg c) ((y :: r).map (List.map sg))
    rw [List.map_append, List.map_cons, catI_map c (y :: r)]
theorem catI_len (c : Int) : ∀ l : List (List Int), l.length ≤ (catI c l).length + 1
  | [] => by simp [catI]
  | [x] => by simp [catI]
  | x :: y :: r => by
    have := catI_len c (y :: r)
    show (y :: r).length + 1 ≤ (x ++ c :: catI c (y :: r)).length + 1
    simp only [List.length_append, List.length_cons] at *
    (first | lia | omega)
theorem num_c1 {a b c : Nat} : ((a + (b + (c + 1) + 1) : Nat) : Int) = a + b + c + 2 := by lia
theorem num_c2 {a b : Nat} : ((a : Int) + 1 + b - 1) = ((a + b : Nat) : Int) := by lia
theorem num_c3 {a b : Nat} : ((a : Int) + 1).toNat = a + 1 ∧ ((a : Int) + 1 + b - ((a : Int) + 1)).toNat = b ∧ (0 : Int) ≤ (a : Int) + 1 ∧ (a : Int) + 1 ≤ (a : Int) + 1 + b := by lia
theorem num_c4 {a b c : Nat} {n : Int} (h : n = a + b + c + 2) : (a : Int) + 1 + b ≤ n ∧ (a : Int) + 1 + b < n := by lia
theorem num_c5 {a b c : Nat} {n : Int} (h : n = a + b + c + 2) (h3 : 3 ≤ a) : (3 : Int) ≤ n := by lia
theorem catI_mem {c : Int} : ∀ {l : List (List Int)} {q : List Int} {x : Int}, q ∈ l → x ∈ q → x ∈ catI c l
  | [a], q, x, hq, hx => by rw [List.mem_singleton.mp hq] at hx; exact hx
  | a :: b :: r, q, x, hq, hx => by
    show x ∈ a ++ c :: catI c (b :: r)
    rcases List.mem_cons.mp hq with rfl | hq
    · exact List.mem_append_left _ hx
    · exact List.mem_append_right _ (List.mem_cons_of_mem _ (catI_mem hq hx))
section
variable {X : Str} {pre inner post : List Int} (hX : X = S3 (pre ++ 62 :: (inner ++ 63 :: post)))
include hX
theorem X_cps : X.cps.toList = pre.map sg ++ 40 :: (inner.map sg ++ 41 :: post.map sg) := by
  rw [hX, S3_cps, List.map_append, List.map_cons, List.map_append, List.map_cons, sg62, sg63]
variable (hall : ∀ x ∈ pre ++ 62 :: (inner ++ 63 :: post), 0 ≤ x ∧ x < 64)
include hall
theorem in_pre : ∀ x ∈ pre, 0 ≤ x ∧ x < 64 := fun x hx => hall x (List.mem_append_left _ hx)
theorem in_inner : ∀ x ∈ inner, 0 ≤ x ∧ x < 64 := fun x hx => hall x (List.mem_append_right _ (List.mem_cons_of_mem _ (List.mem_append_left _ hx)))
theorem closed {p : List Int} (hp : pre = 54 :: 54 :: 61 :: p) (h1 : (62 : Int) ∉ pre) (h2 : (63 : Int) ∉ inner) {hd la : Int} (hh : (inner ++ [63])[0]? = some hd) (hl : (62 :: inner)[inner.length]? = some la) :
    (Txt.slice X none (some 3) != Str.ofString "229") = false ∧ Txt.find X (Str.ofString "(") = pre.length ∧ Txt.find3 X (Str.ofString ")") ((pre.length : Int) + 1) = pre.length + 1 + inner.length ∧
    (X.length : Int) = pre.length + inner.length + post.length + 2 ∧ Txt.item X ((pre.length : Int) + 1) = ⟨#[sg hd]⟩ ∧ Txt.item X ((pre.length : Int) + 1 + inner.length - 1) = ⟨#[sg la]⟩ ∧
    Txt.slice X (some ((pre.length : Int) + 1)) (some ((pre.length : Int) + 1 + inner.length)) = S3 inner := by
  have e2 : Str.ofString ")" = ⟨#[41]⟩ := by decide +kernel
  have e3 : Str.ofString "(" = ⟨#[40]⟩ := by decide +kernel
  have e5 : Str.ofString "229" = ⟨#[50, 50, 57]⟩ := by decide +kernel
  have hcps := X_cps hX
  have n1 : 40 ∉ pre.map sg := sg62 ▸ sg_not (by decide) (in_pre hX hall) h1
  have n2 : 41 ∉ inner.map sg := sg63 ▸ sg_not (by decide) (in_inner hX hall) h2
  have hlen : (X.length : Int) = pre.length + inner.length + post.length + 2 := by
    show ((X.cps.size : Nat) : Int) = _
    rw [← Array.length_toList, hcps]
    rw [List.length_append, List.length_cons, List.length_append, List.length_cons, List.length_map, List.length_map, List.length_map]
    exact num_c1
  have f1 : Txt.find X (Str.ofString "(") = pre.length := by
    rw [e3, find_at hcps n1, List.length_map]
  have hc' : X.cps.toList = (pre.map sg ++ [40]) ++ (inner.map sg ++ 41 :: post.map sg) := by rw [hcps, List.append_assoc]; rfl
  have f2 : Txt.find3 X (Str.ofString ")") ((pre.length : Int) + 1) = pre.length + 1 + inner.length := by
    rw [e2, find3_at hc' n2 (by rw [List.length_append, List.length_map, List.length_singleton]; rfl), List.length_append, List.length_map, List.length_map, List.length_singleton]
    rfl
  have hs : X.cps.toList.drop (pre.length + 1) = inner.map sg ++ 41 :: post.map sg := by
    rw [hc', List.drop_left' (by rw [List.length_append, List.length_map]; rfl)]
  refine ⟨?_, f1, f2, hlen, ?_, ?_, ?_⟩
  · have s0 : Txt.slice X none (some 3) = Str.ofString "229" := by
      have h3 : 3 ≤ pre.length := by rw [hp]; exact Nat.le_add_left 3 _
      refine (eq_of_beq (slice_closes_toL (by decide) (by first | exact num_c5 hlen h3 | (clear hh hl h1 h2; lia)))).trans ?_
      rw [e5]
      refine Str.ext' (Array.toList_inj.mp ?_)
      show (X.cps.toList.drop 0).take 3 = _
      rw [hcps, hp]
      rfl
    rw [s0]; exact bne_self_eq_false _
  · refine item_at (i := pre.length + 1) ?_
    have : X.cps.toList[pre.length + 1]? = (X.cps.toList.drop (pre.length + 1))[0]? := by rw [List.getElem?_drop]
    rw [this, hs]
    have e : inner.map sg ++ 41 :: post.map sg = ((inner ++ [63]).map sg) ++ post.map sg := by rw [List.map_append, List.map_singleton, sg63, List.append_assoc]; rfl
    rw [e, List.getElem?_append_left (by rw [List.length_map, List.length_append]; exact Nat.succ_pos _), List.getElem?_map, hh]
    rfl
  · rw [num_c2]
    refine item_at ?_
    have e : X.cps.toList = pre.map sg ++ ((62 :: inner).map sg ++ 41 :: post.map sg) := by rw [hcps, List.map_cons, sg62]; rfl
    rw [e, List.getElem?_append_right (by rw [List.length_map]; exact Nat.le_add_right _ _), List.length_map, Nat.add_sub_cancel_left, List.getElem?_append_left (by rw [List.length_map]; exact Nat.lt_succ_self _), List.getElem?_map, hl]
    rfl
  · obtain ⟨q1, q2, q3, q4⟩ := @num_c3 pre.length inner.length
    refine (eq_of_beq (slice_closesL q3 q4 (num_c4 hlen).1)).trans ?_
    refine Str.ext' (Array.toList_inj.mp ?_)
    show (X.cps.toList.drop _).take _ = _
    rw [q1, q2, hs, S3_cps, List.take_append_of_le_length (Nat.le_of_eq (List.length_map _).symm), List.take_of_length_le (Nat.le_of_eq (List.length_map _))]
theorem fate_unequal {p : List Int} (hp : pre = 54 :: 54 :: 61 :: p) (h1 : (62 : Int) ∉ pre) (h2 : (63 : Int) ∉ inner) {hd la : Int} (hh : (inner ++ [63])[0]? = some hd) (hl : (62 :: inner)[inner.length]? = some la) (hne : hd ≠ la) : Fate X (Str.ofString "error_proto") := by
  obtain ⟨c1, c2, c3, c4, c5, c6, c7⟩ := closed hX hall hp h1 h2 hh hl
  refine .inr ⟨c1, rfl, .inr (.inr ?_)⟩
  rw [c2, c3, c5, c6]
  refine ⟨Int.natCast_nonneg _, (@num_c3 _ _).2.2.2, (num_c4 c4).2, .inl ?_⟩
  have b1 : 0 ≤ hd ∧ hd < 64 := by
    rcases List.mem_append.mp (List.mem_of_getElem? hh) with q | q
    · exact in_inner hX hall _ q
    · rw [List.mem_singleton.mp q]; decide
  have b2 : 0 ≤ la ∧ la < 64 := by
    rcases List.mem_cons.mp (List.mem_of_getElem? hl) with q | q
    · rw [q]; decide
    · exact in_inner hX hall _ q
  rw [bne_iff_ne]
  intro q
  have : sg hd = sg la := by
    have := congrArg (fun s : Str => s.cps.toList) q
    simpa using this
  exact hne (sg_inj b1 b2 this)
theorem split_parts {c : Int} {parts : List (List Int)} (hc : 0 ≤ c ∧ c < 64) (hi : inner = catI c parts) (hne : parts ≠ []) (hpb : ∀ q ∈ parts, ∀ x ∈ q, 0 ≤ x ∧ x < 64) (hpc : ∀ q ∈ parts, c ∉ q) : Txt.split (S3 inner) ⟨#[sg c]⟩ = parts.map S3 := by
  have e : S3 inner = Str.join ⟨#[sg c]⟩ (parts.map S3) := by
    refine Str.ext' (Array.toList_inj.mp ?_)
    rw [join_cps, S3_cps, hi, catI_map, List.map_map]
    rfl
  rw [e]
  refine split_join (by simpa using hne) fun x hx => ?_
  obtain ⟨q, hq, rfl⟩ := List.mem_map.mp hx
  rw [S3_cps]
  exact sg_not hc (hpb q hq) (hpc q hq)
theorem fate_parts {p : List Int} (hp : pre = 54 :: 54 :: 61 :: p) (h1 : (62 : Int) ∉ pre) (h2 : (63 : Int) ∉ inner) {c : Int} (hh : (inner ++ [63])[0]? = some c) (hl : (62 :: inner)[inner.length]? = some c) {parts : List (List Int)}
    (hc : 0 ≤ c ∧ c < 64) (hi : inner = catI c parts) (hne : parts ≠ []) (hpb : ∀ q ∈ parts, ∀ x ∈ q, 0 ≤ x ∧ x < 64) (hpc : ∀ q ∈ parts, c ∉ q) (h5 : parts.length ≠ 5) (h9 : inner.length ≤ 899) : Fate X (Str.ofString "error_proto") := by
  obtain ⟨c1, c2, c3, c4, c5, c6, c7⟩ := closed hX hall hp h1 h2 hh hl
  refine .inr ⟨c1, rfl, .inr (.inr ?_)⟩
  rw [c2, c3, c5, c6, c7]
  have e := split_parts hX hall hc hi hne hpb hpc
  refine ⟨Int.natCast_nonneg _, (@num_c3 _ _).2.2.2, (num_c4 c4).2, .inr ⟨bne_self_eq_false _, ?_, ?_⟩⟩
  · rw [e, List.length_map]; exact h5
  · rw [e, List.length_map]
    have := catI_len c parts
    rw [← hi] at this
    exact Nat.le_trans this (Nat.succ_le_succ h9)
/-- a reply that is read: five parts -/
theorem read_facts {p : List Int} (hp : pre = 54 :: 54 :: 61 :: p) (h1 : (62 : Int) ∉ pre) (h2 : (63 : Int) ∉ inner) {c : Int} {p1 p2 p3 : List Int} (hc : 0 ≤ c ∧ c < 64) (hi : inner = catI c [[], p1, p2, p3, []])
    (hpc : ∀ q ∈ [([] : List Int), p1, p2, p3, []], c ∉ q) (hx9 : X.length ≤ 1000) :
    X.length ≤ 1000 ∧ (Txt.slice X none (some 3) != Str.ofString "229") = false ∧ 0 ≤ Txt.find X (Str.ofString "(") ∧ Txt.find X (Str.ofString "(") + 1 < Txt.find3 X (Str.ofString ")") (Txt.find X (Str.ofString "(") + 1) ∧
    Txt.find3 X (Str.ofString ")") (Txt.find X (Str.ofString "(") + 1) < (X.length : Int) ∧
    (Txt.item X (Txt.find X (Str.ofString "(") + 1) != Txt.item X (Txt.find3 X (Str.ofString ")") (Txt.find X (Str.ofString "(") + 1) - 1)) = false ∧
    Txt.split (Txt.slice X (some (Txt.find X (Str.ofString "(") + 1)) (some (Txt.find3 X (Str.ofString ")") (Txt.find X (Str.ofString "(") + 1)))) (Txt.item X (Txt.find X (Str.ofString "(") + 1)) = [S3 [], S3 p1, S3 p2, S3 p3, S3 []] := by
  have hi' : inner = (c :: (p1 ++ c :: (p2 ++ c :: p3))) ++ [c] := by
    rw [hi]
    show c :: (p1 ++ c :: (p2 ++ c :: (p3 ++ [c]))) = c :: ((p1 ++ c :: (p2 ++ c :: p3)) ++ [c])
    rw [List.append_assoc]
    show _ = c :: (p1 ++ c :: ((p2 ++ c :: p3) ++ [c]))
    rw [List.append_assoc]
    rfl
  have hh : (inner ++ [63])[0]? = some c := by rw [hi']; rfl
  have hl : (62 :: inner)[inner.length]? = some c := by
    have e : inner.length = (62 :: (c :: (p1 ++ c :: (p2 ++ c :: p3)))).length := by rw [hi', List.length_append]; rfl
    rw [e, hi']
    show ((62 :: (c :: (p1 ++ c :: (p2 ++ c :: p3)))) ++ [c])[_]? = _
    rw [List.getElem?_append_right (Nat.le_refl _), Nat.sub_self]; rfl
  have hil : 0 < inner.length := by rw [hi', List.length_append]; exact Nat.succ_pos _
  obtain ⟨c1, c2, c3, c4, c5, c6, c7⟩ := closed hX hall hp h1 h2 hh hl
  have hpb : ∀ q ∈ [([] : List Int), p1, p2, p3, []], ∀ x ∈ q, 0 ≤ x ∧ x < 64 := by
    exact fun q hq x hx => in_inner hX hall x (hi ▸ catI_mem hq hx)
  rw [c2, c3, c5, c6, c7]
  exact ⟨hx9, c1, Int.natCast_nonneg _, Int.lt_add_of_pos_right _ (Int.natCast_pos.mpr hil), (num_c4 c4).2, bne_self_eq_false _, split_parts hX hall hc hi (fun h => nomatch h) hpb hpc⟩
end
end
end Mine
end
section
open PySem PySem.W PyProof.Rows
namespace Mine

/-- a test, in one place -/
noncomputable def TE (prog : Program) (w : World) (A : Around) (E : Value → Shared → Prop) (env : Env) (h₀ : Heap) (s₁ : Shared) (L : Addr) (m : Str → Option Value) (led : List (Addr × Obj)) (e : Expr) (b : Bool) : Prop :=
  ∀ (s : Shared) (Q : Bool → Shared → Prop), AtH h₀ s₁ L m led s → (∀ s', AtH h₀ s₁ L m led s' → Q b s') → wpAny (model prog w) A (isTrue e env (eval e env)) Q E s
section
variable {prog : Program} {w : World} {A : Around} {E : Value → Shared → Prop} {cs : Scope} {L : Addr} {env : Env} {m : Str → Option Value} {h₀ : Heap} {s₁ : Shared} {led : List (Addr × Obj)} {a b c : Expr} {p pos : Pos} {x y z : Bool}
theorem CE.te (V : Loc cs L env) (h : CE cs m a x) : TE prog w A E env h₀ s₁ L m led a x := fun _ _ hA hQ => by
  obtain ⟨h1, tk, rfl, F, N⟩ := hA
  exact h V F fun k => hQ _ ⟨h1, k, rfl, F, N⟩
theorem TE.and (ha : TE prog w A E env h₀ s₁ L m led a x) (hb : TE prog w A E env h₀ s₁ L m led b y) : TE prog w A E env h₀ s₁ L m led (.BoolOp .And [a, b] p) (x && y) := fun s Q hA hQ => isTrue_and (ha s _ hA fun s' hA => by
  cases x with
  | false => exact hQ s' hA
  | true => exact isTrue_and (hb _ _ hA fun s' hA => by
      cases y with
      | false => exact hQ s' hA
      | true => exact isTrue_and_nil (hQ s' hA)))
theorem TE.or (ha : TE prog w A E env h₀ s₁ L m led a x) (hb : TE prog w A E env h₀ s₁ L m led b y) : TE prog w A E env h₀ s₁ L m led (.BoolOp .Or [a, b] p) (x || y) := fun s Q hA hQ => isTrue_or (ha s _ hA fun s' hA => by
  cases x with
  | true => exact hQ s' hA
  | false => exact isTrue_or (hb _ _ hA fun s' hA => by
      cases y with
      | true => exact hQ s' hA
      | false => exact isTrue_or_nil (hQ s' hA)))
theorem TE.or3 (ha : TE prog w A E env h₀ s₁ L m led a x) (hb : TE prog w A E env h₀ s₁ L m led b y) (hc : TE prog w A E env h₀ s₁ L m led c z) : TE prog w A E env h₀ s₁ L m led (.BoolOp .Or [a, b, c] p) (x || (y || z)) := fun s Q hA hQ => isTrue_or (ha s _ hA fun s' hA => by
  cases x with
  | true => exact hQ s' hA
  | false => exact (TE.or (p := p) hb hc) _ _ hA hQ)
variable {s : Shared} {rest body orelse : List Stmt} {Q : Flow → Shared → Prop}
theorem run_ifT (hA : AtH h₀ s₁ L m led s) (hc : TE prog w A E env h₀ s₁ L m led a x) (kt : x = true → ∀ s', AtH h₀ s₁ L m led s' → wpAny (model prog w) A (execs body env) (Aft prog w A E env rest Q) E s')
    (kf : x = false → ∀ s', AtH h₀ s₁ L m led s' → wpAny (model prog w) A (execs orelse env) (Aft prog w A E env rest Q) E s') : wpAny (model prog w) A (execs (.If a body orelse pos :: rest) env) Q E s :=
  wpAny_execs_cons (wpAny_If (hc _ _ hA fun s' hA => by
    cases x with
    | true => exact kt rfl _ hA
    | false => exact kf rfl _ hA))
theorem run_retS {k : Nat} {y : Str} (hA : AtH h₀ s₁ L m led s) (h : ∀ t s', AtH h₀ s₁ L m led s' → Q (.ret (.str y t)) s') : wpAny (model prog w) A (execs (.Return (some (.Constant (.str y) k p)) pos :: rest) env) Q E s := by
  obtain ⟨h1, tk, rfl, F, N⟩ := hA
  exact wpAny_execs_cons (wpAny_Return_some (Calls.Constant_str (h _ _ ⟨h1, _, rfl, F, N⟩)))
end
section
variable {cs : Scope} {m : Str → Option Value} {a b : Expr} {p q : Pos} {x y : Int} {k : Nat} {u v n : Str} {t : Tok}
theorem CE.lt (ha : IE cs m a x) (hb : IE cs m b y) : CE cs m (.Compare a [.Lt] [b] p) (decide (x < y)) := CE.cmp ha hb fun h => PyProof.Rows.lt_int h
theorem CE.gt (ha : IE cs m a x) (hb : IE cs m b y) : CE cs m (.Compare a [.Gt] [b] p) (decide (y < x)) := CE.cmp ha hb fun h => PyProof.Rows.gt_int h
/-- a name that holds a text, tested against a text -/
theorem CE.txt {op : CmpOp} {c : Bool} (h3 : m n = some (.str u t)) (ho : ∀ {prog : Program} {w : World} {A : Around} {E : Value → Shared → Prop} {s : Shared} {r : Tok} {Q : Value → Shared → Prop}, Q (.bool c) s → wpAny (model prog w) A (compareOp op (.str u t) (.str v r)) Q E s)
    (h1 : cs.names.lookup n = some .local := by rfl) (h2 : (n == ("__debug__" : Str)) = false := by rfl) (hm : behindInMarks op (.Constant (.str v) k q) = false := by rfl) : CE cs m (.Compare (.Name n p) [op] [.Constant (.str v) k q] pos) c :=
  fun V F hQ => wpAny_isTrue_Compare1 ((VE.name h1 h2 h3).2.2.2 V F fun _ _ e => by subst e; exact Calls.Constant_str (ho (wpAny_truthy_bool (hQ _)))) hm
theorem CE.teq (h3 : m n = some (.str u t)) (h1 : cs.names.lookup n = some .local := by rfl) (h2 : (n == ("__debug__" : Str)) = false := by rfl) : CE cs m (.Compare (.Name n p) [.Eq] [.Constant (.str v) k q] pos) (u == v) := CE.txt h3 (fun h => PyProof.Rows.eq_str h) h1 h2
noncomputable def inS (v u : Str) : Bool := !(Builtin.Str.occurrences v u 0 v.length 1).isEmpty
theorem CE.tin (h3 : m n = some (.str u t)) (h1 : cs.names.lookup n = some .local := by rfl) (h2 : (n == ("__debug__" : Str)) = false := by rfl) : CE cs m (.Compare (.Name n p) [.In] [.Constant (.str v) k q] pos) (inS v u) := CE.txt h3 (fun h => PyProof.Rows.in_str h) h1 h2
end
end Mine
end
section
open PySem PySem.W PyProof.Rows
namespace Mine

/-- an answer: a word or a number -/
noncomputable def Ans (a : Str ⊕ Int) (t : Tok) : Value := match a with | .inl w => .str w t | .inr n => .int n t
theorem ans_w {Q : Value → Shared → Prop} {a : Str ⊕ Int} {x : Str} {t : Tok} {s : Shared} (e : a = .inl x) (h : Q (Ans a t) s) : Q (.str x t) s := by subst e; exact h
theorem ans_n {Q : Value → Shared → Prop} {a : Str ⊕ Int} {x : Int} {t : Tok} {s : Shared} (e : a = .inr x) (h : Q (Ans a t) s) : Q (.int x t) s := by subst e; exact h
noncomputable def oth (v m : Int) : Int := if m ≤ v % 61 then v % 61 + 1 else v % 61
theorem other_ctr (w : World) (mean : ExcName → Option Value) (mg mb : Str → Option Value) (news : List (Addr × Obj)) (v k : Int) (t u : Tok) : Ctr 460 w mean mg mb 153 news [.int v t, .int k u] [] (fun t => .int (oth v k) t) := by
  k_with_none
  (k_with "eval Name" => (k_here; k_dflt (refine nameX_L (by k_asm) (by first | assumption | rfl) ?_ (by rfl) (by rfl))))
  (k_with "eval Constant int" => (with_reducible refine nI ?_))
  (k_with "eval Constant str" => (with_reducible refine nS ?_))
  (k_with "binaryOp Add int int" => (with_reducible refine nAdd ?_))
  (k_with "binaryOp Sub int int" => (with_reducible refine nSub ?_))
  (k_with "binaryOp BitAnd int int" => (with_reducible refine nAnd ?_))
  (k_with "binaryOp BitOr int int" => (with_reducible refine nOr ?_))
  (k_with "subscriptTail Name Name ref int" => ((with_reducible show wpAny _ _ (subscriptTail _ _ (Value.ref _) (Value.int _ _)) _ _ _); k_dflt (refine item_fig (by assumption) (by assumption) (by assumption) (by (first | lia | omega)) (by (first | lia | omega)) (by assumption) ?_); intro _))
  (k_with "subscriptTail Name Constant ref int" => ((with_reducible show wpAny _ _ (subscriptTail _ _ (Value.ref _) (Value.int _ _)) _ _ _); k_dflt (refine item_fig (by assumption) (by assumption) (by assumption) (by (first | lia | omega)) (by (first | lia | omega)) (by assumption) ?_); intro _))
  (k_with "call builtin:str.rindex" => ((with_reducible show wpAny _ _ (call (Value.builtin "str.rindex") [Value.str _ _, Value.str _ _]) _ _ _); k_dflt (refine rindex_call (by assumption) ?_); intro _ _))
  (k_with "subscriptTail Name Name str int" => ((with_reducible show wpAny _ _ (subscriptTail _ _ (Value.str _ _) (Value.int _ _)) _ _ _); k_dflt (refine item_role (by assumption) (by assumption) (by assumption) ?_); intro _ _))
  dsimp only [Ctr, KK, prog, loose, view]
  intro dp un gd cn cs a ccd cl outer A₀ base h₀ L m s Q E B F X N T hk hd hu hret
  refine lower 460 (4 * 460) (by dsimp only; omega) (by dsimp only; omega) ?_
  dsimp only
  refine wpAny_call ?_
  k_dflt (refine' enterV (binds := [(Str.ofString "value", .int v t), (Str.ofString "mark", .int k u)]) ?k1 ?k2 ?k3 ?k4 ?k5 ?kA ?kF ?kK ?k6 ?k7 ?k8 ?k9 ?kB ?_ ?c2 ?c3 ?c4 ?c5; (case kA => exact rfl); (case kF => exact rfl); (case kK => first | exact rfl | assumption); (case k1 => k_asm); (case k2 => k_asm); (case k3 => k_asm); (case k4 => k_asm); (case k5 => k_asm); (case k6 => k_is); (case k7 => k_is); (case k8 => exact Nat.le_of_ble_eq_true rfl); (case k9 => (refine' kp_binds ?kx ?ke; (case kx => k_in); (case ke => (intro S; kernel_rfl)))); (case c5 => decide); (case kB => exact locs rfl); (case c2 => exact rfl); (case c3 => exact rfl); (case c4 => exact rfl); k_whole; intro L' h' F' N' B' X' T'; (try dsimp only); (try k_lift B'); (try k_fold))
  k_steps
  all_goals (refine leaveV_val (by k_asm) ?_; intro F9 N9; dsimp only)
  all_goals (refine cb_retI (Q := Q) hret ?_ (by assumption) (by assumption); unfold oth; rw [Int.fmod_eq_emod_of_nonneg _ (by decide)] at *; (repeat' split) <;> first | rfl | (first | lia | omega))
section
variable {prog : Program} {w : World} {A : Around} {E : Value → Shared → Prop} {s : Shared} {Q : Value → Shared → Prop}
theorem item_role {value slice : Expr} {R : Str} {i : Nat} {t u : Tok} {y : Str} (hy : Txt.item R (i : Int) = y) (hlt : i < R.length) (hfit : R.length ≤ 1000) (h : ∀ t' tk, Q (.str y t') { s with toks := tk })
    (hs : subscripted slice false (.str R t) (.int (i : Int) u) = operate [.str R t, .int (i : Int) u] (getItem (.str R t) (.int (i : Int) u)) := by with_unfolding_all rfl)
    (ht : ∀ r, letTemporaryGo value (.str R t) r = pure () := by intro _; with_unfolding_all rfl) :
    wpAny (model prog w) A (subscriptTail value slice (.str R t) (.int (i : Int) u)) Q E s :=
  item_str (fitsSsize_of (N := 9223372036854775808) (by (first | lia | omega)) (by (first | lia | omega)) (Int.le_refl _)) (by (first | lia | omega)) (by (first | lia | omega)) (fun _ => hy ▸ h _ _) hs ht
end
theorem rindex_call {prog : Program} {w : World} {A : Around} {E : Value → Shared → Prop} {s : Shared} {Q : Value → Shared → Prop} {R y : Str} {t u : Tok} {j : Nat} (hj : Builtin.Str.lastOccurrence R y 0 R.length = some j) (h : ∀ t' k, Q (.int (j : Int) t') { s with toks := k }) :
    wpAny (model prog w) A (call (.builtin "str.rindex") [.str R t, .str y u]) Q E s :=
  call_gives F.slot_str_rindex (typeIs_str _ _ _) F.entry_str_rindex (F.args_str_rindex_2 _ _) (gives_str_rindex R y t u j hj) (h _ _)
theorem item_fig {prog : Program} {w : World} {A : Around} {E : Value → Shared → Prop} {s : Shared} {Q : Value → Shared → Prop} {value slice : Expr} {H : Heap} {fa L1 : Addr} {vs : List Value} {fs : List Int} {m1 : Str → Option Value} {k : Int} {u : Tok}
    (hl : H.IsList fa vs.toArray) (hI : IntsAre vs fs) (F1 : Fr H L1 s.heap m1) (h0 : 0 ≤ k) (hk : k < fs.length) (hfit : fs.length ≤ 1000) (h : ∀ t, Q (.int (fs.getD k.toNat 0) t) s)
    (hs : subscripted slice false (.ref fa) (.int k u) = operate [.ref fa, .int k u] (getItem (.ref fa) (.int k u)) := by with_unfolding_all rfl) :
    wpAny (model prog w) A (subscriptTail value slice (.ref fa) (.int k u)) Q E s := by
  have hl' : s.heap.IsList fa vs.toArray := let ⟨o, e, r⟩ := hl; ⟨o, F1.keep _ _ e, r⟩
  have hlt : k.toNat < fs.length := by (first | lia | omega)
  have e : fs[k.toNat]? = some (fs.getD k.toNat 0) := by rw [List.getD_eq_getElem?_getD, List.getElem?_eq_getElem hlt]; rfl
  obtain ⟨t, ht⟩ : ∃ t, vs[k.toNat]? = some (.int (fs.getD k.toNat 0) t) := by
    have hlv : k.toNat < vs.length := by rw [hI.length]; exact hlt
    obtain ⟨z, t, e1, e2⟩ := hI.at k.toNat _ (List.getElem?_eq_getElem hlv)
    rw [e] at e2
    cases e2
    exact ⟨t, by rw [List.getElem?_eq_getElem hlv, e1]⟩
  exact tail_any hl'.typeIs slot_list_getitem.lookup (wpAny_getItem_list hl' h0 (by (first | lia | omega)) (by simpa using ht) (h t)) hs
/-- what is due at a place of the figures, by its role -/
noncomputable def DueIs (R : Str) (i : Nat) (v q : Int) (fs : List Int) (a : Str ⊕ Int) : Prop :=
  (Txt.item R (i : Int) = Str.ofString "c" ∧ a = .inl (Str.ofString "error_reply")) ∨ (Txt.item R (i : Int) = Str.ofString "b" ∧ a = .inl (Str.ofString "error_proto")) ∨
  (Txt.item R (i : Int) = Str.ofString "m" ∧ a = .inl (Str.ofString "error_proto")) ∨ (Txt.item R (i : Int) = Str.ofString "t" ∧ a = .inr q) ∨
  (Txt.item R (i : Int) = Str.ofString "l" ∧ a = if v = 62 then .inl (Str.ofString "error_proto") else .inr q) ∨
  (Txt.item R (i : Int) = Str.ofString "f" ∧ a = if v = fs.getD (Int.toNat 5) 0 ∨ v = 63 then .inl (Str.ofString "error_proto") else .inr q) ∨
  (Txt.item R (i : Int) = Str.ofString "d" ∧ ∃ j : Nat, Builtin.Str.lastOccurrence R (Str.ofString "d") 0 R.length = some j ∧ i ≤ j ∧ j ≤ i + 4 ∧ (0 ≤ v ∧ v < 64) ∧ (0 ≤ q ∧ q < 10 ^ 5) ∧ (0 ≤ fs.getD (i : Int).toNat 0 ∧ fs.getD (i : Int).toNat 0 < 64) ∧
    a = if v = fs.getD (Int.toNat 5) 0 ∨ v = 63 then .inl (Str.ofString "error_proto") else if v < 52 ∨ v > 61 then .inl (Str.ofString "ValueError") else .inr (q + (v - fs.getD (i : Int).toNat 0) * 10 ^ ((j : Int) - (i : Int)).toNat))
inductive DueD (R : Str) (i : Nat) (v q : Int) (fs : List Int) (a : Str ⊕ Int) : Prop
  | mk (j : Nat) (_ : Builtin.Str.lastOccurrence R (Str.ofString "d") 0 R.length = some j) (_ : i ≤ j) (_ : j ≤ i + 4) (_ : 0 ≤ v ∧ v < 64) (_ : 0 ≤ q ∧ q < 10 ^ 5) (_ : 0 ≤ fs.getD (i : Int).toNat 0 ∧ fs.getD (i : Int).toNat 0 < 64) (_ : a = .inr (q + (v - fs.getD (i : Int).toNat 0) * 10 ^ ((j : Int) - (i : Int)).toNat)) : DueD R i v q fs a
/-- the same, by the tests that are made -/
inductive Sel (b1 bm l fd d : Bool) (R : Str) (i : Nat) (v q : Int) (fs : List Int) (a : Str ⊕ Int) : Prop
  | mk (h1 : b1 = true → a = .inl (Str.ofString "error_reply")) (h2 : b1 = false → (bm || ((l && v == 62) || (fd && decide (v = fs.getD (Int.toNat 5) 0 ∨ v = 63)))) = true → a = .inl (Str.ofString "error_proto"))
      (h3 : (bm || ((l && v == 62) || (fd && decide (v = fs.getD (Int.toNat 5) 0 ∨ v = 63)))) = false → (d && (decide (v < 52) || decide (61 < v))) = true → a = .inl (Str.ofString "ValueError"))
      (h4 : (bm || ((l && v == 62) || (fd && decide (v = fs.getD (Int.toNat 5) 0 ∨ v = 63)))) = false → (d && (decide (v < 52) || decide (61 < v))) = false → d = true → DueD R i v q fs a)
      (h5 : b1 = false → (bm || ((l && v == 62) || (fd && decide (v = fs.getD (Int.toNat 5) 0 ∨ v = 63)))) = false → d = false → a = .inr q) : Sel b1 bm l fd d R i v q fs a
noncomputable def Tab (y : Str) : Bool × Bool × Bool × Bool × Bool := (y == Str.ofString "c", inS (Str.ofString "bm") y, y == Str.ofString "l", inS (Str.ofString "fd") y, y == Str.ofString "d")
noncomputable def SelY (t : Bool × Bool × Bool × Bool × Bool) (R : Str) (i : Nat) (v q : Int) (fs : List Int) (a : Str ⊕ Int) : Prop := Sel t.1 t.2.1 t.2.2.1 t.2.2.2.1 t.2.2.2.2 R i v q fs a
theorem ft {P : Prop} (h : false = true) : P := nomatch h
theorem tf {P : Prop} (h : true = false) : P := nomatch h
theorem or_dec {p q : Prop} [Decidable p] [Decidable q] {b : Bool} (h : (decide p || decide q) = b) : b = true ∧ (p ∨ q) ∨ b = false ∧ ¬ (p ∨ q) := by
  cases b with
  | true => exact .inl ⟨rfl, (Bool.or_eq_true_iff.mp h).elim (fun h => .inl (of_decide_eq_true h)) fun h => .inr (of_decide_eq_true h)⟩
  | false => exact .inr ⟨rfl, fun q => q.elim (of_decide_eq_false (Bool.or_eq_false_iff.mp h).1) (of_decide_eq_false (Bool.or_eq_false_iff.mp h).2)⟩
theorem DueIs.sel {R : Str} {i : Nat} {v q : Int} {fs : List Int} {a : Str ⊕ Int} (h : DueIs R i v q fs a) : SelY (Tab (Txt.item R (i : Int))) R i v q fs a := by
  rcases h with ⟨hy, e⟩ | ⟨hy, e⟩ | ⟨hy, e⟩ | ⟨hy, e⟩ | ⟨hy, e⟩ | ⟨hy, e⟩ | ⟨hy, j, hj, hij, hj5, hv, hq, hfi, e⟩
  · rw [hy, show Tab (Str.ofString "c") = (true, false, false, false, false) by decide +kernel]
    exact ⟨fun _ => e, tf, fun _ => ft, fun _ _ => ft, tf⟩
  · rw [hy, show Tab (Str.ofString "b") = (false, true, false, false, false) by decide +kernel]
    exact ⟨ft, fun _ _ => e, tf, tf, fun _ => tf⟩
  · rw [hy, show Tab (Str.ofString "m") = (false, true, false, false, false) by decide +kernel]
    exact ⟨ft, fun _ _ => e, tf, tf, fun _ => tf⟩
  · rw [hy, show Tab (Str.ofString "t") = (false, false, false, false, false) by decide +kernel]
    exact ⟨ft, fun _ => ft, fun _ => ft, fun _ _ => ft, fun _ _ _ => e⟩
  · rw [hy, show Tab (Str.ofString "l") = (false, false, true, false, false) by decide +kernel]
    refine ⟨ft, fun _ h => e.trans (if_pos (eq_of_beq (((Bool.or_false _).symm.trans h : (v == 62) = true)))), fun _ => ft, fun _ _ => ft, fun _ h _ => e.trans (if_neg (ne_of_beq_false ((Bool.or_false _).symm.trans h : (v == 62) = false)))⟩
  · rw [hy, show Tab (Str.ofString "f") = (false, false, false, true, false) by decide +kernel]
    exact ⟨ft, fun _ h => e.trans (if_pos (of_decide_eq_true h)), fun _ => ft, fun _ _ => ft, fun _ h _ => e.trans (if_neg (of_decide_eq_false h))⟩
  · rw [hy, show Tab (Str.ofString "d") = (false, false, false, true, true) by decide +kernel]
    exact ⟨ft, fun _ h => e.trans (if_pos (of_decide_eq_true h)), fun h h' => (e.trans (if_neg (of_decide_eq_false h))).trans (if_pos (((or_dec h').resolve_right fun q => ft q.1.symm).2)),
      fun h h' _ => ⟨j, hj, hij, hj5, hv, hq, hfi, (e.trans (if_neg (of_decide_eq_false h))).trans (if_neg (((or_dec h').resolve_left fun q => ft q.1).2))⟩, fun _ _ => tf⟩
theorem any_two {x y v : Int} : ([x, y].any fun z => z == v) = decide (v = x ∨ v = y) := by
  rw [Bool.eq_iff_iff, decide_eq_true_iff, List.any_cons, List.any_cons, List.any_nil, Bool.or_false, Bool.or_eq_true_iff, beq_iff_eq, beq_iff_eq, eq_comm, @eq_comm _ y]
theorem due_room {i j : Nat} {v f : Int} (h1 : i ≤ j) (h2 : j ≤ i + 4) (hv : 0 ≤ v ∧ v < 64) (hf : 0 ≤ f ∧ f < 64) : 0 ≤ (j : Int) - (i : Int) ∧ (j : Int) - (i : Int) ≤ 4 ∧ (0 ≤ (10 : Int) ^ ((j : Int) - (i : Int)).toNat ∧ (10 : Int) ^ ((j : Int) - (i : Int)).toNat ≤ 10000) ∧ IntMulOk (v - f) (10 ^ ((j : Int) - (i : Int)).toNat) := by
  obtain ⟨k, rfl⟩ := Nat.exists_eq_add_of_le h1
  have hk : k < 5 := by lia
  have e : ((i + k : Nat) : Int) - (i : Int) = (k : Int) := by lia
  have p : (0 ≤ (10 : Int) ^ k ∧ (10 : Int) ^ k ≤ 10000) := by
    have key : ∀ k : Fin 5, 0 ≤ (10 : Int) ^ k.val ∧ (10 : Int) ^ k.val ≤ 10000 := by decide
    exact key ⟨k, hk⟩
  rw [e]
  exact ⟨Int.natCast_nonneg _, by lia, p, .of_right (intBits_le_64 (by rw [Int.toNat_natCast]; lia) (by rw [Int.toNat_natCast]; lia))⟩
theorem due_A (w : World) (mean : ExcName → Option Value) (mg mb : Str → Option Value) (news : List (Addr × Obj)) (R : Str) (fa : Addr) (i : Nat) (v q : Int) (t1 t2 t3 t4 : Tok) (a : Str ⊕ Int) (vs : List Value) (n : Nat) (fs : List Int) (hD : DueIs R i v q fs a) (hlt : i < R.length) (hfit : R.length ≤ 1000) (hm : (fa, listOf vs.toArray n) ∈ news) (hI : IntsAre vs fs)
    (hl5 : 5 < fs.length) (hil : i < fs.length) (hfl : fs.length ≤ 1000) :
    Ctr 460 w mean mg mb 160 news [.str R t1, .ref fa, .int (i : Int) t2, .int v t3, .int q t4] [] (fun t => Ans a t) := by
  k_with_none
  (k_with "eval Name" => (k_here; k_dflt (refine nameX_L (by k_asm) (by first | assumption | rfl) ?_ (by rfl) (by rfl))))
  (k_with "eval Constant int" => (with_reducible refine nI ?_))
  (k_with "eval Constant str" => (with_reducible refine nS ?_))
  (k_with "binaryOp Add int int" => (with_reducible refine nAdd ?_))
  (k_with "binaryOp Sub int int" => (with_reducible refine nSub ?_))
  (k_with "binaryOp BitAnd int int" => (with_reducible refine nAnd ?_))
  (k_with "binaryOp BitOr int int" => (with_reducible refine nOr ?_))
  (k_with "subscriptTail Name Name ref int" => ((with_reducible show wpAny _ _ (subscriptTail _ _ (Value.ref _) (Value.int _ _)) _ _ _); k_dflt (refine item_fig (by assumption) (by assumption) (by assumption) (by (first | lia | omega)) (by (first | lia | omega)) (by assumption) ?_); intro _))
  (k_with "subscriptTail Name Constant ref int" => ((with_reducible show wpAny _ _ (subscriptTail _ _ (Value.ref _) (Value.int _ _)) _ _ _); k_dflt (refine item_fig (by assumption) (by assumption) (by assumption) (by (first | lia | omega)) (by (first | lia | omega)) (by assumption) ?_); intro _))
  (k_with "call builtin:str.rindex" => ((with_reducible show wpAny _ _ (call (Value.builtin "str.rindex") [Value.str _ _, Value.str _ _]) _ _ _); k_dflt (refine rindex_call (by assumption) ?_); intro _ _))
  (k_with "subscriptTail Name Name str int" => ((with_reducible show wpAny _ _ (subscriptTail _ _ (Value.str _ _) (Value.int _ _)) _ _ _); k_dflt (refine item_role (by assumption) (by assumption) (by assumption) ?_); intro _ _))
  dsimp only [Ctr, KK, prog, loose, view]
  intro dp un gd cn cs a ccd cl outer A₀ base h₀ L m s Q E B F X N T hk hd hu hret
  refine lower 460 (4 * 460) (by dsimp only; omega) (by dsimp only; omega) ?_
  dsimp only
  have hfl0 := N.isList hm
  have hS := hD.sel
  clear hD hm
  refine wpAny_call ?_
  k_dflt (refine' enterV (binds := [(Str.ofString "roles", .str R t1), (Str.ofString "figures", .ref fa), (Str.ofString "place", .int (i : Int) t2), (Str.ofString "figure", .int v t3), (Str.ofString "port", .int q t4)]) ?k1 ?k2 ?k3 ?k4 ?k5 ?kA ?kF ?kK ?k6 ?k7 ?k8 ?k9 ?kB ?_ ?c2 ?c3 ?c4 ?c5; (case kA => exact rfl); (case kF => exact rfl); (case kK => first | exact rfl | assumption); (case k1 => k_asm); (case k2 => k_asm); (case k3 => k_asm); (case k4 => k_asm); (case k5 => k_asm); (case k6 => k_is); (case k7 => k_is); (case k8 => exact Nat.le_of_ble_eq_true rfl); (case k9 => (refine' kp_binds ?kx ?ke; (case kx => k_in); (case ke => (intro S; kernel_rfl)))); (case c5 => decide); (case kB => exact locs rfl); (case c2 => exact rfl); (case c3 => exact rfl); (case c4 => exact rfl); k_whole; intro L' h' F' N' B' X' T'; (try dsimp only); (try k_lift B'); (try k_fold))
  obtain ⟨y, hy⟩ : ∃ y, Txt.item R (i : Int) = y := ⟨_, rfl⟩
  rw [hy] at hS
  obtain ⟨g1, g2, g3, g4, g5⟩ := hS
  obtain ⟨m9, hm9, F9⟩ := fr_gen F'
  have f1 : m9 (Str.ofString "roles") = some (.str R t1) := eqv hm9 rfl
  have f2 : m9 (Str.ofString "figures") = some (.ref fa) := eqv hm9 rfl
  have f3 : m9 (Str.ofString "place") = some (.int (i : Int) t2) := eqv hm9 rfl
  have f4 : m9 (Str.ofString "figure") = some (.int v t3) := eqv hm9 rfl
  have f5 : m9 (Str.ofString "port") = some (.int q t4) := eqv hm9 rfl
  have hA : AtH _ s _ m9 [] ⟨h', s.gens, s.drawn, s.toks + 5, s.os⟩ := ⟨_, _, rfl, F9, N'⟩
  clear hm9 F'
  refine run_cut (fun s' => ∃ t, AtH s.heap s L' (upd m9 (Str.ofString "role") (.str y t)) [] s') ?c1 ?_
  case c1 =>
    clear hA g1 g2 g3 g4 g5
    k_steps
    exact ⟨rfl, _, _, _, rfl, by assumption, by assumption⟩
  clear hA F9 N'
  rintro s1 ⟨t, hA⟩
  refine run_ifT hA (CE.te loc_of (CE.teq (by rfl))) (fun hb s2 hA => run_retS hA fun t s3 hA => aft_ret (by show LeaveV _ _ _ _ _ _ _ _; exact leaveE hA fun h' tk' F N => ans_w (Q := Q) (g1 hb) (hret _ _ _ F N))) fun h1 s2 hA => run_nil ?_
  refine run_ifT hA (TE.or3 (CE.te loc_of (CE.tin (by rfl))) (TE.and (CE.te loc_of (CE.teq (by rfl))) (CE.te loc_of (CE.eq (IE.name (by exact f4)) IE.const))) (TE.and (CE.te loc_of (CE.tin (by rfl))) ?leaf))
    (fun hb s3 hA => run_retS hA fun t s4 hA => aft_ret (by show LeaveV _ _ _ _ _ _ _ _; exact leaveE hA fun h' tk' F N => ans_w (Q := Q) (g2 h1 hb) (hret _ _ _ F N))) fun h2 s3 hA => run_nil ?_
  case leaf =>
    intro s9 Q9 hA hQ9
    clear hret g1 g2 g3 g4 g5
    obtain ⟨h9, tk9, rfl, F1, N1⟩ := hA
    k_steps
    rw [any_two]
    exact hQ9 _ ⟨_, _, rfl, by assumption, News.nil⟩
  refine run_ifT hA (TE.and (CE.te loc_of (CE.teq (by rfl))) (TE.or (CE.te loc_of (CE.lt (IE.name (by exact f4)) IE.const)) (CE.te loc_of (CE.gt (IE.name (by exact f4)) IE.const))))
    (fun hb s4 hA => run_retS hA fun t s5 hA => aft_ret (by show LeaveV _ _ _ _ _ _ _ _; exact leaveE hA fun h' tk' F N => ans_w (Q := Q) (g3 h2 hb) (hret _ _ _ F N))) fun h3 s4 hA => run_nil ?_
  refine run_ifT hA (CE.te loc_of (CE.teq (by rfl))) (fun hb s5 hA => ?dd) fun h4 s5 hA => run_nil (run_ret loc_of hA (IE.name (by exact f5)) fun t s6 hA => (by show LeaveV _ _ _ _ _ _ _ _; exact leaveE hA fun h' tk' F N => ans_n (Q := Q) (g5 h1 h2 h4) (hret _ _ _ F N)))
  case dd =>
    obtain ⟨j, hj, hij, hj5, hv, hq, hfi, e⟩ := g4 h2 h3 hb
    obtain ⟨hji, hji4, hp10, hmul⟩ := due_room hij hj5 hv hfi
    clear g1 g2 g3 g4 g5 h1 h2 h3 hb hij hj5
    obtain ⟨h9, tk9, rfl, F1, N1⟩ := hA
    k_steps
    refine aft_ret ?_
    show LeaveV _ _ _ _ _ _ _ _
    (refine leaveV_val (by k_asm) ?_; intro F9 N9; dsimp only)
    exact ans_n (Q := Q) e (hret _ _ _ F9 N9)
theorem ne_ans {prog : Program} {w : World} {A : Around} {E : Value → Shared → Prop} {s : Shared} {Q : Value → Shared → Prop} {a : Str ⊕ Int} {t u : Tok} (h : Q (.bool false) s) : wpAny (model prog w) A (compareOp .NotEq (Ans a t) (Ans a u)) Q E s := by
  cases a with
  | inl x =>
    show wpAny _ _ (compareOp .NotEq (.str x t) (.str x u)) _ _ _
    refine PyProof.Rows.ne_str ?_
    simpa using h
  | inr n =>
    show wpAny _ _ (compareOp .NotEq (.int n t) (.int n u)) _ _ _
    refine ne_int ?_
    simpa using h
end Mine
end
section
open PySem PySem.W PyProof.Rows
namespace Mine

noncomputable def Stuck (P : Prop) : Prop := P
theorem stuck {P : Prop} (h : Stuck P) : P := h
/-- what _law_told gives of a reply that is read -/
noncomputable def ReadIs (y : Str) (a : Str ⊕ Int) : Prop := (PySem.intText? y = none ∧ a = .inl (Str.ofString "ValueError")) ∨ (∃ n, PySem.intText? y = some n ∧ a = .inr n)
noncomputable def ToldA (x : Str) (a : Str ⊕ Int) : Prop :=
  (∃ v, Fate x v ∧ a = .inl v) ∨
  (∃ p0 p1 p2 y p4 : Str, (Txt.slice x none (some 3) != Str.ofString "229") = false ∧ 0 ≤ Txt.find x (Str.ofString "(") ∧ Txt.find x (Str.ofString "(") + 1 < Txt.find3 x (Str.ofString ")") (Txt.find x (Str.ofString "(") + 1) ∧
    Txt.find3 x (Str.ofString ")") (Txt.find x (Str.ofString "(") + 1) < (x.length : Int) ∧ (Txt.item x (Txt.find x (Str.ofString "(") + 1) != Txt.item x (Txt.find3 x (Str.ofString ")") (Txt.find x (Str.ofString "(") + 1) - 1)) = false ∧
    Txt.split (Txt.slice x (some (Txt.find x (Str.ofString "(") + 1)) (some (Txt.find3 x (Str.ofString ")") (Txt.find x (Str.ofString "(") + 1)))) (Txt.item x (Txt.find x (Str.ofString "(") + 1)) = [p0, p1, p2, y, p4] ∧
    y.length ≤ 640 ∧ (reprText y).length ≤ 3000 ∧ ReadIs y a)
theorem ReadIs.num {y : Str} {a : Str ⊕ Int} {n : Int} (h : ReadIs y a) (hi : PySem.intText? y = some n) : a = .inr n := by
  rcases h with ⟨h1, rfl⟩ | ⟨n', h1, rfl⟩
  · rw [h1] at hi; cases hi
  · rw [h1] at hi; rw [Option.some.inj hi]
theorem ReadIs.bad {y : Str} {a : Str ⊕ Int} (h : ReadIs y a) (hi : PySem.intText? y = none) : a = .inl (Str.ofString "ValueError") := by
  rcases h with ⟨h1, rfl⟩ | ⟨n', h1, rfl⟩
  · rfl
  · rw [h1] at hi; cases hi
theorem ToldA.stages {x : Str} {a0 : Str ⊕ Int} (hT : ToldA x a0) :
    ((Txt.slice x none (some 3) != Str.ofString "229") = true ∧ a0 = .inl (Str.ofString "error_reply")) ∨ ((Txt.slice x none (some 3) != Str.ofString "229") = false ∧
    ((Txt.find x (Str.ofString "(") < 0 ∧ a0 = .inl (Str.ofString "error_proto")) ∨ (0 ≤ Txt.find x (Str.ofString "(") ∧
    ((Txt.find3 x (Str.ofString ")") (Txt.find x (Str.ofString "(") + 1) < 0 ∧ a0 = .inl (Str.ofString "error_proto")) ∨ ((Txt.find x (Str.ofString "(") + 1 ≤ Txt.find3 x (Str.ofString ")") (Txt.find x (Str.ofString "(") + 1) ∧ Txt.find3 x (Str.ofString ")") (Txt.find x (Str.ofString "(") + 1) < (x.length : Int)) ∧
    (((Txt.item x (Txt.find x (Str.ofString "(") + 1) != Txt.item x (Txt.find3 x (Str.ofString ")") (Txt.find x (Str.ofString "(") + 1) - 1)) = true ∧ a0 = .inl (Str.ofString "error_proto")) ∨ ((Txt.item x (Txt.find x (Str.ofString "(") + 1) != Txt.item x (Txt.find3 x (Str.ofString ")") (Txt.find x (Str.ofString "(") + 1) - 1)) = false ∧
    (((Txt.split (Txt.slice x (some (Txt.find x (Str.ofString "(") + 1)) (some (Txt.find3 x (Str.ofString ")") (Txt.find x (Str.ofString "(") + 1)))) (Txt.item x (Txt.find x (Str.ofString "(") + 1))).length ≠ 5 ∧ (Txt.split (Txt.slice x (some (Txt.find x (Str.ofString "(") + 1)) (some (Txt.find3 x (Str.ofString ")") (Txt.find x (Str.ofString "(") + 1)))) (Txt.item x (Txt.find x (Str.ofString "(") + 1))).length ≤ 900 ∧ a0 = .inl (Str.ofString "error_proto")) ∨
     (∃ p0 p1 p2 y p4 : Str, Txt.split (Txt.slice x (some (Txt.find x (Str.ofString "(") + 1)) (some (Txt.find3 x (Str.ofString ")") (Txt.find x (Str.ofString "(") + 1)))) (Txt.item x (Txt.find x (Str.ofString "(") + 1)) = [p0, p1, p2, y, p4] ∧ y.length ≤ 640 ∧ (reprText y).length ≤ 3000 ∧ ReadIs y a0))))))))) := by
  rcases hT with ⟨v, hF, rfl⟩ | ⟨p0, p1, p2, y, p4, g1, g2, g3, g4, g5, hsp, hyl, hrep, hR⟩
  · rcases hF with ⟨g1, rfl⟩ | ⟨g1, rfl, g2 | ⟨g2, g3⟩ | ⟨g2, g3, g4, g5 | ⟨g5, g6, g7⟩⟩⟩
    · exact .inl ⟨g1, rfl⟩
    · exact .inr ⟨g1, .inl ⟨g2, rfl⟩⟩
    · exact .inr ⟨g1, .inr ⟨g2, .inl ⟨g3, rfl⟩⟩⟩
    · exact .inr ⟨g1, .inr ⟨g2, .inr ⟨⟨g3, g4⟩, .inl ⟨g5, rfl⟩⟩⟩⟩
    · exact .inr ⟨g1, .inr ⟨g2, .inr ⟨⟨g3, g4⟩, .inr ⟨g5, .inl ⟨g6, g7, rfl⟩⟩⟩⟩⟩
  · exact .inr ⟨g1, .inr ⟨g2, .inr ⟨⟨Int.le_of_lt g3, g4⟩, .inr ⟨g5, .inr ⟨p0, p1, p2, y, p4, hsp, hyl, hrep, hR⟩⟩⟩⟩⟩
theorem news_nil {g h : Heap} {L : Addr} {m : Str → Option Value} (_ : Fr g L h m) : News g L h [] := News.nil
/-- an exception that is raised in more than one place, raised once -/
theorem with_raise {M : Model} {A : Around} {E : Value → Shared → Prop} {env : Env} {body : List Stmt} {Q : Flow → Shared → Prop} {s : Shared} {g : Heap} {L : Addr} {n r : Str} {v : Value} {Z : Prop} (m : Str → Option Value) (_ : Fr g L s.heap m)
    (claim : ∀ p1 p2 p3 p4 m' h' tk Q', Fr g L h' m' → m' r = some v → Z → wpAny M A (exec (.Raise (some (.Call (.Name n p1) [.Name r p2] [] p3)) none p4) env) Q' E { s with heap := h', toks := tk })
    (k : (∀ p1 p2 p3 p4 m' h' tk Q', Fr g L h' m' → m' r = some v → Z → wpAny M A (exec (.Raise (some (.Call (.Name n p1) [.Name r p2] [] p3)) none p4) env) Q' E { s with heap := h', toks := tk }) → wpC M A (execs body env) Q E s) : wpC M A (execs body env) Q E s := k claim
theorem told_A (w : World) (mean : ExcName → Option Value) (mg mb : Str → Option Value) (news : List (Addr × Obj)) (x host : Str) (a0 : Str ⊕ Int) (t t1 : Tok) (pa : Addr) (v2 : Value) (hxl : x.length ≤ 1000) (hhl : host.length ≤ 1000) (hT : ToldA x a0)
    (dp un : Nat) (gd : Option (List Code)) (cn : Str) (cs : Scope) (a : Addr) (ccd : Value) (cl : List (Str × Addr)) (A₀ : Around) (h₀ : Heap) (L : Addr) (m : Str → Option Value) (s : Shared) (Q E : Value → Shared → Prop)
    (B : Below A₀ h₀ [] h₀) (F : Fr h₀ L s.heap m) (X : (KK w).In h₀) (N : News h₀ L s.heap news) (hpa : s.heap.IsList pa [.str host t1, v2].toArray) (T : Top view loose mean mg mb h₀) (hk : cs.kind = .function) (hd : dp ≤ 420) (hu : un ≤ 4 * 420)
    (hret : ∀ t h' tk, Fr h₀ L h' m → News h₀ L h' news → Q (Ans a0 t) { s with heap := h', toks := tk }) :
    wpC (model prog w) (ktrTop dp un gd cn cs L a ccd cl []) (call (.ref 167) [.str x t, .ref pa] []) Q E s := by
  k_with_none
  (k_with "eval Name" => (k_here; k_dflt (refine nameX_L (by k_asm) (by first | assumption | rfl) ?_ (by rfl) (by rfl))))
  (k_with "eval Constant int" => (with_reducible refine nI ?_))
  (k_with "eval Constant str" => (with_reducible refine nS ?_))
  (k_with "binaryOp Add int int" => (with_reducible refine nAdd ?_))
  (k_with "binaryOp Sub int int" => (with_reducible refine nSub ?_))
  (k_with "binaryOp BitAnd int int" => (with_reducible refine nAnd ?_))
  (k_with "binaryOp BitOr int int" => (with_reducible refine nOr ?_))
  (k_with "subscriptTail" => ((with_reducible show wpAny _ _ (subscriptTail _ _ (Value.ref _) (Value.int 0 _)) _ _ _); k_dflt (refine item_up (vs := [_, _]) (by assumption) (by assumption) (by assumption) (by decide) (by decide) rfl ?_)))
  have hS := hT.stages
  clear hT
  dsimp only [KK, prog, loose, view] at *
  refine wpC_units 420 (4 * 420) (by dsimp only; omega) (by dsimp only; omega) ?_
  dsimp only
  refine wpC_call ?_
  k_dflt (refine' enterTC (binds := [(Str.ofString "reply", .str x t), (Str.ofString "peer", .ref pa)]) ?k1 ?k2 ?k3 ?k4 ?k5 ?kA ?kF ?kK ?k6 ?k7 ?k8 ?k9 ?kB ?_ ?c2 ?c3 ?c4 ?c5; (case kA => exact rfl); (case kF => exact rfl); (case kK => first | exact rfl | assumption); (case k1 => k_asm); (case k2 => k_asm); (case k3 => k_asm); (case k4 => k_asm); (case k5 => k_asm); (case k6 => k_is); (case k7 => k_is); (case k8 => exact Nat.le_of_ble_eq_true rfl); (case k9 => (refine' kp_binds ?kx ?ke; (case kx => k_in); (case ke => (intro S; kernel_rfl)))); (case c5 => decide); (case kB => exact locs rfl); (case c2 => exact rfl); (case c3 => exact rfl); (case c4 => exact rfl); k_whole; intro L' h' F' N' B' X' T' D'; (try dsimp only); (try k_fold))
  refine wpC_fold ?_
  intro qc ec
  refine wpC_execs_cons (wpC_Try (wpC_execs_cons (wpC_AssignT (wpC_Call ?_))))
  try k_fold
  k_steps
  k_dflt (refine' wpC_callK ?k1 ?k2 ?_; (case k1 => k_asm); (case k2 => k_is); k_whole)
  try k_fold
  k_steps
  refine wpC_fold ?_
  intro qv ev
  refine wpC_call ?_
  k_dflt (refine' enterVc (binds := [(Str.ofString "resp", .str x t), (Str.ofString "peer", .ref pa)]) ?k1 ?k2 ?k3 ?k4 ?k5 ?kA ?kF ?kK ?k6 ?k7 ?k8 ?k9 ?kB ?_ ?c2 ?c3 ?c4 ?c5; (case kA => exact rfl); (case kF => exact rfl); (case kK => first | exact rfl | assumption); (case k1 => k_asm); (case k2 => k_asm); (case k3 => k_asm); (case k4 => k_asm); (case k5 => k_asm); (case k6 => k_is); (case k7 => k_is); (case k8 => exact Nat.le_of_ble_eq_true rfl); (case k9 => (refine' kp_binds ?kx ?ke; (case kx => k_in); (case ke => (intro S; kernel_rfl)))); (case c5 => decide); (case kB => exact locs rfl); (case c2 => exact rfl); (case c3 => exact rfl); (case c4 => exact rfl); k_whole; intro L' h' F' N' B' X' T'; (try dsimp only); (try k_lift B'); (try k_fold))
  refine wpC_fold ?_
  intro qc2 ec2
  refine with_raise (n := Str.ofString "error_proto") (r := Str.ofString "resp") (v := .str x t) (Z := a0 = .inl (Str.ofString "error_proto")) _ (by k_asm) ?raise ?_
  case raise =>
    intro p1 p2 p3 p4 m' h' tk Q' F1 hm ha
    subst ha
    clear hS
    have N1 := news_nil F1
    try k_fold
    k_steps
    try dsimp only
    show LeaveT _ _ _ _ _ _ _ _ _
    refine leaveT_ (by assumption) (by k_asm) News.nil ?_
    intro F9 N9 O9
    exact hret _ _ _ F9 N9
  intro hRaise
  (k_with "exec Raise some none" => ((with_reducible show wpAny _ _ (exec (Stmt.Raise (some (Expr.Call (Expr.Name (Str.ofString "error_proto") _) _ _ _)) _ _) _) _ _ _); refine stuck ?_))
  refine wpC_execs_at 1 ?_
  dsimp only [List.take, List.drop]
  try k_fold
  rcases hS with ⟨g1, rfl⟩ | ⟨g1, hS⟩
  · k_steps
    dsimp only
    show LeaveT _ _ _ _ _ _ _ _ _
    refine leaveT_ (by assumption) (by k_asm) News.nil ?_
    intro F9 N9 O9
    exact hret _ _ _ F9 N9

  k_steps
  refine wpC_execs_at 1 ?_
  dsimp only [List.take, List.drop]
  try k_fold
  k_steps
  refine wpC_execs_at 1 ?_
  dsimp only [List.take, List.drop]
  try k_fold
  rcases hS with ⟨g2, ha⟩ | ⟨g2, hS⟩
  · k_steps
    refine' hRaise _ _ _ _ _ _ _ _ ?ka ?kb ?kc
    case ka => k_asm
    case kb => first | assumption | rfl
    case kc => assumption

  k_steps
  refine wpC_execs_at 1 ?_
  dsimp only [List.take, List.drop]
  try k_fold
  k_steps
  refine wpC_execs_at 1 ?_
  dsimp only [List.take, List.drop]
  try k_fold
  rcases hS with ⟨g3, ha⟩ | ⟨⟨g3, g4⟩, hS⟩
  · k_steps
    refine' hRaise _ _ _ _ _ _ _ _ ?ka ?kb ?kc
    case ka => k_asm
    case kb => first | assumption | rfl
    case kc => assumption

  k_steps
  refine wpC_execs_at 1 ?_
  dsimp only [List.take, List.drop]
  try k_fold
  rcases hS with ⟨g5, ha⟩ | ⟨g5, hS⟩
  · k_steps
    refine' hRaise _ _ _ _ _ _ _ _ ?ka ?kb ?kc
    case ka => k_asm
    case kb => first | assumption | rfl
    case kc => assumption

  k_steps
  refine wpC_execs_at 1 ?_
  dsimp only [List.take, List.drop]
  try k_fold
  k_steps
  refine wpC_execs_at 2 ?_
  dsimp only [List.take, List.drop]
  try k_fold
  rcases hS with ⟨g6, g7, ha⟩ | ⟨p0, p1, p2, y, p4, hsp, hyl, hrep, hR⟩
  · k_steps
    rotate_left
    · exfalso
      rename List.map _ _ = Txt.split _ _ => hl0
      rename ((List.length _ : Nat) : Int) = 5 => hl1
      have h5 := congrArg List.length hl0
      rw [List.length_map] at h5
      clear g2 g3 g4
      omega
    refine' hRaise _ _ _ _ _ _ _ _ ?ka ?kb ?kc
    case ka => k_asm
    case kb => first | assumption | rfl
    case kc => assumption
  k_steps
  · exfalso
    rename List.map _ _ = Txt.split _ _ => hl0
    rw [hsp] at hl0
    rename ((List.length _ : Nat) : Int) ≠ 5 => hl1
    have h5 := congrArg List.length hl0
    simp only [List.length_map, List.length_cons, List.length_nil] at h5
    clear g2 g3 g4
    omega
  rename List.map _ _ = Txt.split _ _ => hl0
  rw [hsp] at hl0
  try dsimp only
  refine wpC_execs_cons (wpC_AssignN (wpC_Call ?_))
  try k_fold
  k_steps
  refine wpC_callT ?_
  try k_fold
  k_steps
  rename (List.map _ _)[Int.toNat 3]? = some _ => hy3
  rename List.map _ _ = [p0, p1, p2, y, p4] => hl1
  rw [hl1] at hy3
  obtain rfl := Option.some.inj (show some y = some _ from hy3)
  try dsimp only [List.nil_append]
  cases hi : PySem.intText? y with
  | some n =>
    refine wpC_of (KIN.call_text hi hyl ?_)
    try k_fold
    k_steps
    try dsimp only
    refine wpC_of ?_
    try k_fold
    k_steps
    show LeaveV _ _ _ _ _ _ _ _
    refine ⟨_, _, _, by k_asm, by k_asm, ?_⟩
    intro F9 N9 O9
    try simp only [List.cons_append, List.nil_append] at N9
    try dsimp only
    try k_fold
    k_steps
    try dsimp only
    refine wpC_of ?_
    try k_fold
    k_steps
    try dsimp only
    refine wpC_of ?_
    try k_fold
    k_steps
    · show LeaveT _ _ _ _ _ _ _ _ _
      refine leaveT_ (KtsTurn.refl) (by k_asm) News.nil ?_
      intro F9 N9 O9
      rw [ReadIs.num hR hi] at hret
      exact hret _ _ _ F9 N9
    · exfalso
      rename (_ == _) = false => hq
      simp at hq
  | none =>
    refine wpC_int_refused hyl hi rfl hrep ?_
    intro h9 tk9 e9 hx9
    try k_fold
    k_steps
    try dsimp only
    show LeaveT _ _ _ _ _ _ _ _ _
    refine leaveT_ (by assumption) (by k_asm) News.nil ?_
    intro F9 N9 O9
    rw [ReadIs.bad hR hi] at hret
    exact hret _ _ _ F9 N9
end Mine
end
section
open PySem PySem.W PyProof.Rows
namespace Mine

section
variable {prog : Program} {w : World} {A : Around} {E : Value → Shared → Prop} {s : Shared} {Q : Value → Shared → Prop}
theorem mul_cps (c : Nat) (i : Int) : (Txt.mul ⟨#[c]⟩ i).cps.toList = List.replicate i.toNat c := by
  unfold Txt.mul
  by_cases h1 : i < 1
  · rw [if_pos h1, show i.toNat = 0 by (first | lia | omega)]; rfl
  · rw [if_neg h1]
    by_cases h2 : (i == 1 || (⟨#[c]⟩ : Str).length == 0) = true
    · rw [if_pos h2]
      have h3 : i = 1 := by
        rcases Bool.or_eq_true_iff.mp h2 with h | h
        · exact eq_of_beq h
        · exact absurd h (by show ¬ ((1 : Nat) == 0) = true; decide)
      rw [h3]; rfl
    · rw [if_neg h2]
      have key : ∀ (n : Nat) (acc : Array Nat), ((List.replicate n #[c]).foldl (· ++ ·) acc).toList = acc.toList ++ List.replicate n c := by
        intro n
        induction n with
        | zero => intro acc; simp
        | succ n ih =>
          intro acc
          rw [List.replicate_succ, List.foldl_cons, ih, List.replicate_succ]
          simp
      exact (key _ _).trans (by simp)
theorem mul_sign {c : Nat} {x : Str} {i : Int} {t u : Tok} (hx : x = ⟨#[c]⟩) (h0 : 0 ≤ i) (h1 : i ≤ 20) (h : ∀ y, y.cps.toList = List.replicate i.toNat c → (y.length : Int) = i → ∀ t' k, Q (.str y t') { s with toks := k }) :
    wpAny (model prog w) A (binaryOp .Mult (.str x t) (.int i u)) Q E s := by
  subst hx
  refine SB.mul (mulOk_of 16 1048576 (by show 1 ≤ 16; decide) (by (first | lia | omega)) (by (first | lia | omega)) (by decide) (by decide)) fun t' k => ?_
  refine h _ (mul_cps c i) ?_ t' k
  have := congrArg List.length (mul_cps c i)
  rw [List.length_replicate, Array.length_toList] at this
  show ((Txt.mul _ i).cps.size : Int) = i
  (first | lia | omega)
theorem len_isl {D : Addr} {vs : List Value} {ns : List Int} (hl : s.heap.IsList D vs.toArray) (hi : IntsAre vs ns) (hn : ns.length ≤ 1000) (h : ∀ t k, Q (.int (ns.length : Int) t) { s with toks := k }) : wpAny (model prog w) A (call (.builtin "len") [.ref D]) Q E s := by
  have hs : vs.toArray.size = ns.length := by rw [List.size_toArray, hi.length]
  refine Calls.call_len_list hl (by (first | lia | omega)) ?_
  rw [hs]
  exact h _ _
theorem add_cps {x y : Str} {a b : List Nat} {t u : Tok} (hx : x.cps.toList = a) (hy : y.cps.toList = b) (hs : x.length + y.length ≤ 1000) (h : ∀ z, z.cps.toList = a ++ b → z.length = x.length + y.length → ∀ t' k, Q (.str z t') { s with toks := k }) :
    wpAny (model prog w) A (binaryOp .Add (.str x t) (.str y u)) Q E s := by
  subst hx hy
  refine PyProof.Rows.add_str (fun t' k => h _ ?_ ?_ t' k) (by rw [sizeLine_eq]; (first | lia | omega))
  · rw [Str.cps_append]; simp
  · exact PySem.strLen_append _ _
end
end Mine
end
section
open PySem PySem.W PyProof.Rows
namespace Mine

noncomputable def sgT (d : Int) : Str := ⟨#[sg d]⟩
@[reducible] noncomputable def SIGNS : Str := Str.ofString "ABCDEFGHIJKLMNOPQRSTUVWXYZabcdefghijklmnopqrstuvwxyz0123456789()"
theorem signs_all : ∀ k : Nat, k < 64 → Txt.item SIGNS (k : Int) = ⟨#[sg k]⟩ := by decide +kernel
theorem signs_len : SIGNS.length = 64 := by decide +kernel
section
variable {prog : Program} {w : World} {A : Around} {E : Value → Shared → Prop} {s : Shared} {Q : Value → Shared → Prop}
theorem item_sign {value slice : Expr} {d : Int} {t u : Tok} (h0 : 0 ≤ d) (h1 : d < 64) (h : ∀ x, x = sgT d → x.length = 1 → ∀ t' tk, Q (.str x t') { s with toks := tk })
    (hs : subscripted slice false (.str SIGNS t) (.int d u) = operate [.str SIGNS t, .int d u] (getItem (.str SIGNS t) (.int d u)) := by with_unfolding_all rfl)
    (ht : ∀ r, letTemporaryGo value (.str SIGNS t) r = pure () := by intro _; with_unfolding_all rfl) :
    wpAny (model prog w) A (subscriptTail value slice (.str SIGNS t) (.int d u)) Q E s := by
  obtain ⟨k, rfl⟩ := Int.eq_ofNat_of_zero_le h0
  refine item_str (fitsSsize_of (N := 9223372036854775808) (by (first | lia | omega)) (by (first | lia | omega)) (Int.le_refl _)) (by (first | lia | omega)) (by rw [signs_len]; (first | lia | omega)) (fun _ => ?_) hs ht
  rw [signs_all k (by (first | lia | omega))]
  exact h _ rfl rfl _ _
theorem join_signs {D : Addr} {zs : List Value} {l : List Int} {t : Tok} (hl : s.heap.IsList D zs.toArray) (hi : StrsAre zs (l.map sgT)) (hn : l.length ≤ 100)
    (h : ∀ x, x = S3 l → x.length = l.length → ∀ t' k, Q (.str x t') { s with toks := k }) : wpAny (model prog w) A (call (.builtin "str.join") [.str (Str.ofString "") t, .ref D]) Q E s := by
  have hlen : ∀ l : List Int, ((l.map sgT).map (·.length)).sum = l.length := fun l => by
    induction l with
    | nil => rfl
    | cons x l ih => rw [List.map_cons, List.map_cons, List.sum_cons, ih, List.length_cons]; show 1 + _ = _; (first | lia | omega)
  refine join_listW hl hi (by decide +kernel) ?_ fun t' k => ?_
  · rw [hlen, List.length_map]; (first | lia | omega)
  · have e : Txt.join (Str.ofString "") (l.map sgT) = S3 l := by
      refine (StrLaws.glued_eq_join _ _).trans (Str.ext' (Array.toList_inj.mp ?_))
      rw [S3_cps]
      have e0 : Str.ofString "" = ⟨#[]⟩ := by decide +kernel
      rw [e0]
      clear hi hn h hl
      induction l with
      | nil => rfl
      | cons x l ih =>
        cases l with
        | nil => rfl
        | cons y r =>
          show ((sgT x ++ ⟨#[]⟩ : Str) ++ Str.join ⟨#[]⟩ ((y :: r).map sgT)).cps.toList = _
          rw [Str.cps_append, Str.cps_append, Array.toList_append, Array.toList_append, ih]
          rfl
    rw [e]
    exact h _ rfl (S3_length l) t' k
end
theorem strs_of {g : Nat → Str} : ∀ (zs : List Value) (i : Nat), (∀ j y, zs[j]? = some y → ∃ t, y = Value.str (g (i + j)) t) → StrsAre zs ((List.range zs.length).map fun j => g (i + j))
  | [], _, _ => .nil
  | z :: zs, i, h => by
    obtain ⟨t, rfl⟩ := h 0 z rfl
    have ih := strs_of (g := g) zs (i + 1) fun j y hj => by
      rw [show i + 1 + j = i + (j + 1) by (first | lia | omega)]
      exact h (j + 1) y (by simpa using hj)
    rw [List.length_cons, List.range_succ_eq_map, List.map_cons, List.map_map]
    refine .cons _ _ ?_
    have e : (List.range zs.length).map (fun j => g (i + 1 + j)) = (List.range zs.length).map ((fun j => g (i + j)) ∘ Nat.succ) := List.map_congr_left fun j _ => by show g (i + 1 + j) = g (i + (j + 1)); rw [show i + 1 + j = i + (j + 1) by (first | lia | omega)]
    rw [← e]
    exact ih
theorem strs_map {zs : List Value} {l : List Int} (hz : zs.length = l.length) (hj : ∀ j y, zs[j]? = some y → ∃ t, y = Value.str (sgT (l.getD (0 + j) 0)) t) : StrsAre zs (l.map sgT) := by
  have := strs_of (g := fun i => sgT (l.getD i 0)) zs 0 hj
  rw [hz] at this
  have e : ((List.range l.length).map fun j => sgT (l.getD (0 + j) 0)) = l.map sgT := by
    refine List.ext_getElem? fun j => ?_
    rw [List.getElem?_map, List.getElem?_map]
    by_cases hj : j < l.length
    · simp [hj, List.getD_eq_getElem?_getD]
    · simp [hj]
  rw [e] at this
  exact this
end Mine
end
section
open PySem PySem.W PyProof.Rows
namespace Mine

theorem getD_mem {l : List Int} {i : Nat} (h : i < l.length) : l.getD i 0 ∈ l := by
  rw [List.getD_eq_getElem?_getD, List.getElem?_eq_getElem h]
  exact List.getElem_mem _
theorem split_at {l : List Int} {i : Nat} (h : i < l.length) : l = l.take i ++ l.getD i 0 :: l.drop (i + 1) := by
  rw [List.getD_eq_getElem?_getD, List.getElem?_eq_getElem h]
  exact (List.take_append_drop i l).symm.trans (by rw [List.drop_eq_getElem_cons h]; rfl)
theorem turn_num {a c i q r t b k : Nat} (h1 : i + 1 + a = 4 * k) (h2 : q + 1 + c = 3 * k) (h3 : r + t = 7) (h : 8 * q + r + b = 6 * i + 5) : b + 6 * a = t + 8 * c := by lia
theorem cut_len {l : List Int} {i : Nat} (h : i < l.length) : (l.take i).length + 1 + (l.drop (i + 1)).length = l.length := by
  rw [List.length_take, List.length_drop, Nat.min_eq_left (Nat.le_of_lt h)]; exact Nat.add_sub_cancel' h
/-- the octets of the figures with a bit turned are the figures with that bit turned -/
theorem turn3 {FG OC : List Int} {i q r bn : Nat} (hF : ∀ d ∈ FG, 0 ≤ d ∧ d < 64) (hO : OC = dig 256 (3 * FG.length / 4) (val 64 FG)) (h4 : FG.length % 4 = 0) (hi : i < FG.length) (hq : q < OC.length) (hr : r < 8) (hb : bn < 6) (hqr : 8 * q + r + bn = 6 * i + 5) :
    dig 64 FG.length (val 256 (OC.take q ++ Builtin.bitXor (OC.getD q 0) (2 ^ (7 - r)) :: OC.drop (q + 1))) = FG.take i ++ Builtin.bitXor (FG.getD i 0) (2 ^ bn) :: FG.drop (i + 1) := by
  obtain ⟨k, hk⟩ : ∃ k, FG.length = 4 * k := ⟨_, (Nat.mul_div_cancel' (Nat.dvd_of_mod_eq_zero h4)).symm⟩
  have h3 : 3 * FG.length / 4 = 3 * k := by rw [hk, Nat.mul_left_comm]; exact Nat.mul_div_cancel_left _ (by decide)
  have hOl : OC.length = 3 * k := by rw [hO, dig_length, h3]
  obtain ⟨b0, b1⟩ := val_bounds (B := 64) (by decide) FG hF
  have hpow : (64 : Int) ^ FG.length = 256 ^ (3 * FG.length / 4) := by rw [h3, hk, Int.pow_mul, Int.pow_mul]; rfl
  have hV : val 64 FG = val 256 OC := by rw [hO, val_dig (by decide) _ _ b0 (by rw [← hpow]; exact b1)]
  have hOin : ∀ x ∈ OC, 0 ≤ x ∧ x < 256 := by rw [hO]; exact dig_in 256 (by decide) _ _
  have l1 := cut_len hi
  have l2 := cut_len hq
  have t1 : (FG.take i).length = i := List.length_take_of_le (Nat.le_of_lt hi)
  have t2 : (OC.take q).length = q := List.length_take_of_le (Nat.le_of_lt hq)
  have hn := turn_num (by rw [← hk, ← l1, t1]) (by rw [← hOl, ← l2, t2]) (Nat.add_sub_cancel' (Nat.le_of_lt_succ hr)) hqr
  rw [← l1]
  exact turned (hF _ (getD_mem hi)) (hOin _ (getD_mem hq)) (fun z hz => hF z (List.mem_of_mem_take hz)) (fun z hz => hF z (List.mem_of_mem_drop hz)) (fun z hz => hOin z (List.mem_of_mem_drop hz)) hb (Nat.lt_of_le_of_lt (Nat.sub_le _ _) (by decide)) (by rw [← split_at hi, ← split_at hq]; exact hV) hn
theorem turned_in {FG : List Int} {i bn : Nat} (hF : ∀ d ∈ FG, 0 ≤ d ∧ d < 64) (hi : i < FG.length) (hb : bn < 6) : ∀ d ∈ FG.take i ++ Builtin.bitXor (FG.getD i 0) (2 ^ bn) :: FG.drop (i + 1), 0 ≤ d ∧ d < 64 := by
  intro d hd
  rcases List.mem_append.mp hd with h | h
  · exact hF d (List.mem_of_mem_take h)
  · rcases List.mem_cons.mp h with rfl | h
    · exact xor_in (B := 64) (c := 6) (by decide) hb (hF _ (getD_mem hi))
    · exact hF d (List.mem_of_mem_drop h)
theorem turned_len {FG : List Int} {i bn : Nat} (hi : i < FG.length) : (FG.take i ++ Builtin.bitXor (FG.getD i 0) (2 ^ bn) :: FG.drop (i + 1)).length = FG.length := by
  rw [List.length_append, List.length_cons, ← Nat.succ_add_eq_add_succ]; exact cut_len hi
end Mine
end
section
open PySem PySem.W PyProof.Rows
namespace Mine

/-! what the figures between the marks read as -/
theorem sg_facts : ∀ k : Nat, k < 64 → sg k ≠ 95 ∧ sg k ≠ 45 ∧ sg k ≠ 43 ∧ (k ≤ 61 → sg k = sgn k) ∧ ((48 ≤ sg k ∧ sg k ≤ 57) ↔ (52 ≤ k ∧ k ≤ 61)) := by decide +kernel
theorem sg_fact {d : Int} (h0 : 0 ≤ d) (h1 : d < 64) : sg d ≠ 95 ∧ sg d ≠ 45 ∧ sg d ≠ 43 ∧ (d ≤ 61 → sg d = sgn d) ∧ ((48 ≤ sg d ∧ sg d ≤ 57) ↔ (52 ≤ d ∧ d ≤ 61)) := by
  obtain ⟨k, rfl⟩ := Int.eq_ofNat_of_zero_le h0
  obtain ⟨a1, a2, a3, a4, a5⟩ := sg_facts k (Int.ofNat_lt.mp h1)
  exact ⟨a1, a2, a3, fun h => a4 (Int.ofNat_le.mp h), a5.trans (and_congr Int.ofNat_le.symm Int.ofNat_le.symm)⟩
theorem S3_odd {ds : List Int} (hne : ds ≠ []) (h : ∀ d ∈ ds, 0 ≤ d ∧ d < 64) (hx : ∃ d ∈ ds, ¬ (52 ≤ d ∧ d ≤ 61)) : PySem.intText? (S3 ds) = none := by
  cases ds with
  | nil => exact absurd rfl hne
  | cons d₀ r =>
    have h9 := sg_fact (h d₀ (List.mem_cons_self ..)).1 (h d₀ (List.mem_cons_self ..)).2
    refine intText_odd (c₀ := sg d₀) (r := r.map sg) (by rw [S3_cps]; rfl) (fun c hc => ?_) ⟨h9.2.1, h9.2.2.1⟩ ?_
    · obtain ⟨d, hd, rfl⟩ := List.mem_map.mp (show c ∈ (d₀ :: r).map sg from hc)
      have s := sg_at (h d hd).1 (h d hd).2
      exact ⟨Nat.le_trans (by decide) s.1, Nat.lt_of_le_of_lt s.2.1 (by decide), (sg_fact (h d hd).1 (h d hd).2).1⟩
    · obtain ⟨d, hd, hd'⟩ := hx
      exact ⟨sg d, List.mem_map_of_mem (f := sg) hd, fun q => hd' ((sg_fact (h d hd).1 (h d hd).2).2.2.2.2.mp q)⟩
theorem S3_T64 {ds : List Int} (h : ∀ d ∈ ds, 0 ≤ d ∧ d ≤ 61) : S3 ds = T64 ds := by
  refine Str.ext' (Array.toList_inj.mp ?_)
  rw [S3_cps, T64_cps fun d hd => ⟨(h d hd).1, Int.lt_of_le_of_lt (h d hd).2 (by decide)⟩]
  refine List.map_congr_left fun d hd => ?_
  have := h d hd
  exact (sg_fact this.1 (Int.lt_of_le_of_lt this.2 (by decide))).2.2.2.1 this.2
theorem S3_read {ds : List Int} (h : ∀ d ∈ ds, 52 ≤ d ∧ d ≤ 61) (hne : ds ≠ []) (hl : ds.length ≤ 640) : PySem.intText? (S3 ds) = some (val 10 (ds.map (· - 52))) := by
  rw [S3_T64 fun d hd => ⟨Int.le_trans (by decide) (h d hd).1, (h d hd).2⟩]
  exact T64_read h hne hl
theorem S3_repr {ds : List Int} (h : ∀ d ∈ ds, 0 ≤ d ∧ d < 64) (hl : ds.length ≤ 100) : (reprText (S3 ds)).length ≤ 3000 := by
  refine Nat.le_trans (StrLaws.reprText_len _ fun c hc => ?_) ?_
  · rw [S3_cps] at hc
    obtain ⟨d, hd, rfl⟩ := List.mem_map.mp hc
    have s := sg_at (h d hd).1 (h d hd).2
    exact Nat.lt_of_le_of_lt s.2.1 (by decide +kernel)
  · rw [S3_length]; exact Nat.le_trans (Nat.add_le_add_right (Nat.mul_le_mul_left 10 hl) 2) (by decide)
/-- the number's own figures -/
theorem port_val {P : Int} (h0 : 0 ≤ P) (h1 : P < 10 ^ 20) : val 10 (((decN P).map fun (c : Nat) => 52 + ((c : Int) - 48)).map (· - 52)) = P := by
  obtain ⟨e1, e2⟩ := decN_pad 19 P h0 (by simpa using h1)
  have hm : ((decN P).map fun (c : Nat) => 52 + ((c : Int) - 48)).map (· - 52) = (decN P).map fun (c : Nat) => (c : Int) - 48 := by
    rw [List.map_map]
    refine List.map_congr_left fun c _ => ?_
    lia
  have hv := val_dig (B := 10) (by decide) 20 P h0 h1
  rw [show (20 : Nat) = 19 + 1 from rfl, e2] at hv
  rw [hm]
  have key : ∀ (k : Nat) (l : List Int), val 10 (List.replicate k 0 ++ l) = val 10 l := by
    intro k l
    have hz : ∀ k : Nat, val 10 (List.replicate k (0 : Int)) = 0 := by
      intro k
      induction k with
      | zero => rfl
      | succ k ih => rw [List.replicate_succ', val_snoc, ih]; rfl
    unfold val at hz ⊢
    rw [List.foldl_append, hz k]
  rw [key] at hv
  exact hv
/-- one figure of the port changed -/
theorem port_turn {pre post : List Int} {x v : Int} : val 10 ((pre ++ v :: post).map (· - 52)) = val 10 ((pre ++ x :: post).map (· - 52)) + (v - x) * 10 ^ post.length := by
  rw [List.map_append, List.map_append, List.map_cons, List.map_cons, val_split, val_split, List.length_map]
  generalize val 10 (pre.map (· - 52)) * 10 = M
  generalize (10 : Int) ^ post.length = B
  rw [Int.add_mul, Int.add_mul, Int.sub_mul, Int.sub_mul, Int.sub_mul]
  (first | lia | omega)
end Mine
end
section
open PySem PySem.W PyProof.Rows
namespace Mine

theorem slice3 {a b c : Int} {rest : List Int} : Txt.slice (S3 (a :: b :: c :: rest)) none (some 3) = ⟨#[sg a, sg b, sg c]⟩ := by
  have hl : ((S3 (a :: b :: c :: rest)).length : Int) = 3 + rest.length := by rw [S3_length]; simp only [List.length_cons]; (first | lia | omega)
  refine (eq_of_beq (slice_closes_toL (by decide) (by (first | lia | omega)))).trans ?_
  refine Str.ext' (Array.toList_inj.mp ?_)
  show ((S3 (a :: b :: c :: rest)).cps.toList.drop 0).take 3 = _
  rw [S3_cps]
  rfl
theorem s229 : Str.ofString "229" = ⟨#[sg 54, sg 54, sg 61]⟩ := by decide +kernel
theorem fate_reply {a b c : Int} {rest : List Int} (ha : 0 ≤ a ∧ a < 64) (hb : 0 ≤ b ∧ b < 64) (hc : 0 ≤ c ∧ c < 64) (h : ¬ (a = 54 ∧ b = 54 ∧ c = 61)) : Fate (S3 (a :: b :: c :: rest)) (Str.ofString "error_reply") := by
  refine .inl ⟨?_, rfl⟩
  rw [slice3, s229, bne_iff_ne]
  intro q
  have q2 : [sg a, sg b, sg c] = [sg 54, sg 54, sg 61] := congrArg (fun s : Str => s.cps.toList) q
  simp only [List.cons.injEq, and_true] at q2
  exact h ⟨sg_inj ha (by decide) q2.1, sg_inj hb (by decide) q2.2.1, sg_inj hc (by decide) q2.2.2⟩
theorem fate_noopen {rest : List Int} (hall : ∀ x ∈ 54 :: 54 :: 61 :: rest, 0 ≤ x ∧ x < 64) (h : (62 : Int) ∉ 54 :: 54 :: 61 :: rest) : Fate (S3 (54 :: 54 :: 61 :: rest)) (Str.ofString "error_proto") := by
  refine .inr ⟨by rw [slice3, s229]; simp, rfl, .inl ?_⟩
  have e3 : Str.ofString "(" = ⟨#[40]⟩ := by decide +kernel
  rw [e3]
  refine find_none ?_
  rw [S3_cps]
  exact sg62 ▸ sg_not (by decide) hall h
theorem fate_noclose {p post : List Int} (hall : ∀ x ∈ (54 :: 54 :: 61 :: p) ++ 62 :: post, 0 ≤ x ∧ x < 64) (h1 : (62 : Int) ∉ 54 :: 54 :: 61 :: p) (h2 : (63 : Int) ∉ post) : Fate (S3 ((54 :: 54 :: 61 :: p) ++ 62 :: post)) (Str.ofString "error_proto") := by
  have e2 : Str.ofString ")" = ⟨#[41]⟩ := by decide +kernel
  have e3 : Str.ofString "(" = ⟨#[40]⟩ := by decide +kernel
  have hcps : (S3 ((54 :: 54 :: 61 :: p) ++ 62 :: post)).cps.toList = (54 :: 54 :: 61 :: p).map sg ++ 40 :: post.map sg := by rw [S3_cps, List.map_append]; rfl
  have n1 : 40 ∉ (54 :: 54 :: 61 :: p).map sg := sg62 ▸ sg_not (by decide) (fun x hx => hall x (List.mem_append_left _ hx)) h1
  have n2 : 41 ∉ post.map sg := sg63 ▸ sg_not (by decide) (fun x hx => hall x (List.mem_append_right _ (List.mem_cons_of_mem _ hx))) h2
  have f1 : Txt.find (S3 ((54 :: 54 :: 61 :: p) ++ 62 :: post)) (Str.ofString "(") = ((54 :: 54 :: 61 :: p).map sg).length := by rw [e3]; exact find_at hcps n1
  refine .inr ⟨by rw [List.cons_append, List.cons_append, List.cons_append, slice3, s229]; simp, rfl, .inr (.inl ⟨by rw [f1]; (first | lia | omega), ?_⟩)⟩
  rw [f1, e2]
  have hcps' : (S3 ((54 :: 54 :: 61 :: p) ++ 62 :: post)).cps.toList = ((54 :: 54 :: 61 :: p).map sg ++ [40]) ++ post.map sg := by rw [hcps, List.append_assoc]; rfl
  exact find3_none hcps' n2 (by rw [List.length_append, List.length_singleton]; (first | lia | omega))
/-- the reply's figures: what they may be -/
structure Rep3 (l m o : Int) (fs D : List Int) : Prop where
  l0 : 0 ≤ l ∧ l ≤ 61
  m0 : 0 ≤ m ∧ m ≤ 51
  o0 : 0 ≤ o ∧ o ≤ 61 ∧ o ≠ m
  f0 : ∀ f ∈ fs, 0 ≤ f ∧ f ≤ 61 ∧ f ≠ m
  d0 : ∀ d ∈ D, 52 ≤ d ∧ d ≤ 61
  dl : 0 < D.length ∧ D.length ≤ 5
  fl : fs.length ≤ 3
theorem oth_ok (v : Int) {m : Int} (hm : 0 ≤ m ∧ m ≤ 51) : 0 ≤ oth v m ∧ oth v m ≤ 61 ∧ oth v m ≠ m := by
  have h0 := Int.emod_nonneg v (show (61 : Int) ≠ 0 by decide)
  have h1 := Int.emod_lt_of_pos v (show (0 : Int) < 61 by decide)
  unfold oth
  split <;> (first | lia | omega)
@[reducible] def BL (l m o : Int) (fs D : List Int) : List Int := [54, 54, 61, l, 62, m] ++ (fs ++ [m, o]) ++ [m] ++ D ++ [m, 63]
theorem tail_in {n : Nat} {x : Int} (hx : 0 ≤ x ∧ x ≤ 61) : ∀ t ∈ (List.replicate n [x]).flatten, 0 ≤ t ∧ t ≤ 61 := by
  intro t ht
  obtain ⟨l, hl, htl⟩ := List.mem_flatten.mp ht
  rw [List.eq_of_mem_replicate hl] at htl
  rw [List.mem_singleton.mp htl]
  exact hx
theorem allA {P : Int → Prop} {A B : List Int} (h1 : ∀ x ∈ A, P x) (h2 : ∀ x ∈ B, P x) : ∀ x ∈ A ++ B, P x := fun x hx => (List.mem_append.mp hx).elim (h1 x) (h2 x)
theorem allC {P : Int → Prop} {x : Int} {A : List Int} (h1 : P x) (h2 : ∀ x ∈ A, P x) : ∀ y ∈ x :: A, P y := List.forall_mem_cons.mpr ⟨h1, h2⟩
theorem allN {P : Int → Prop} : ∀ y ∈ ([] : List Int), P y := fun _ h => nomatch h
theorem u64 {x k : Int} (h0 : 0 ≤ x) (h1 : x ≤ k) (hk : k < 64) : 0 ≤ x ∧ x < 64 := ⟨h0, Int.lt_of_le_of_lt h1 hk⟩
theorem FG_in {l m o : Int} {fs D tl : List Int} (H : Rep3 l m o fs D) (ht : ∀ t ∈ tl, 0 ≤ t ∧ t ≤ 61) : ∀ d ∈ BL l m o fs D ++ tl, 0 ≤ d ∧ d < 64 := by
  have hm := u64 H.m0.1 H.m0.2 (by decide)
  exact allA (allA (allA (allA (allA (allC (by decide) (allC (by decide) (allC (by decide) (allC (u64 H.l0.1 H.l0.2 (by decide)) (allC (by decide) (allC hm allN)))))) (allA (fun f h => u64 (H.f0 f h).1 (H.f0 f h).2.1 (by decide)) (allC hm (allC (u64 H.o0.1 H.o0.2.1 (by decide)) allN)))) (allC hm allN))
    (fun d h => u64 (Int.le_trans (by decide) (H.d0 d h).1) (H.d0 d h).2 (by decide))) (allC hm (allC (by decide) allN))) (fun t h => u64 (ht t h).1 (ht t h).2 (by decide))
end Mine
end
section
open PySem PySem.W PyProof.Rows
namespace Mine

set_option linter.unusedVariables false
theorem xor_ne {x : Int} {b : Nat} : Builtin.bitXor x (2 ^ b) ≠ x := by
  rw [xor_pow]
  have hp : (0 : Int) < 2 ^ b := Int.pow_pos (by decide)
  generalize x / 2 ^ b % 2 = q
  intro h
  have h2 : (2 : Int) ^ b * (1 - 2 * q) = 0 := by (first | lia | omega)
  rcases Int.mul_eq_zero.mp h2 with h3 | h3 <;> (first | lia | omega)
theorem cut_at {A B : List Int} {x v : Int} : (A ++ x :: B).take A.length ++ v :: (A ++ x :: B).drop (A.length + 1) = A ++ v :: B := by
  rw [List.take_left' rfl]
  congr 2
  rw [List.drop_append]
  simp
theorem getD_at {A B : List Int} {x : Int} : (A ++ x :: B).getD A.length 0 = x := by
  rw [List.getD_eq_getElem?_getD, List.getElem?_append_right (Nat.le_refl _), Nat.sub_self]; rfl
theorem told_word {X w : Str} (h : Fate X w) : ToldA X (.inl w) := .inl ⟨w, h, rfl⟩
/-- a reply whose inner part is told word for word -/
theorem fate_inner {pre inner post p : List Int} {hd la : Int} (hall : ∀ x ∈ pre ++ 62 :: (inner ++ 63 :: post), 0 ≤ x ∧ x < 64) (hp : pre = 54 :: 54 :: 61 :: p) (h1 : (62 : Int) ∉ pre) (h2 : (63 : Int) ∉ inner) (hh : (inner ++ [63])[0]? = some hd) (hl : (62 :: inner)[inner.length]? = some la) (hne : hd ≠ la) :
    ToldA (S3 (pre ++ 62 :: (inner ++ 63 :: post))) (.inl (Str.ofString "error_proto")) := told_word (fate_unequal rfl hall hp h1 h2 hh hl hne)
theorem len_l {A B : List Int} : A.length ≤ (A ++ B).length := by rw [List.length_append]; exact Nat.le_add_right _ _
theorem len_r {A B : List Int} {x : Int} : B.length ≤ (A ++ x :: B).length := by rw [List.length_append]; exact Nat.le_trans (Nat.le_succ _) (Nat.le_add_left _ _)
/-- a reply of five parts -/
theorem told_five {pre post p p1 p2 p3 : List Int} {c : Int} {an : Str ⊕ Int} (hall : ∀ x ∈ pre ++ 62 :: (catI c [[], p1, p2, p3, []] ++ 63 :: post), 0 ≤ x ∧ x < 64) (hlen : (pre ++ 62 :: (catI c [[], p1, p2, p3, []] ++ 63 :: post)).length ≤ 100) (hp : pre = 54 :: 54 :: 61 :: p) (h1 : (62 : Int) ∉ pre)
    (h2 : (63 : Int) ∉ catI c [[], p1, p2, p3, []]) (hc : 0 ≤ c ∧ c < 64) (hpc : ∀ q ∈ [([] : List Int), p1, p2, p3, []], c ∉ q) (h3 : ReadIs (S3 p3) an) : ToldA (S3 (pre ++ 62 :: (catI c [[], p1, p2, p3, []] ++ 63 :: post))) an := by
  have hX : (S3 (pre ++ 62 :: (catI c [[], p1, p2, p3, []] ++ 63 :: post))).length ≤ 1000 := by rw [S3_length]; exact Nat.le_trans hlen (by decide)
  obtain ⟨_, g1, g2, g3, g4, g5, g6⟩ := read_facts (X := S3 (pre ++ 62 :: (catI c [[], p1, p2, p3, []] ++ 63 :: post))) rfl hall hp h1 h2 hc rfl hpc hX
  have hin : ∀ x ∈ p3, 0 ≤ x ∧ x < 64 := fun x hx => hall x (List.mem_append_right _ (List.mem_cons_of_mem _ (List.mem_append_left _ (catI_mem (.tail _ (.tail _ (.tail _ (.head _)))) hx))))
  have hl5 : p3.length ≤ (catI c [[], p1, p2, p3, []]).length := Nat.le_trans (Nat.le_trans (Nat.le_trans len_l (len_r (A := p2) (x := c))) (len_r (A := p1) (x := c))) (len_r (A := []) (x := c))
  have hl3 : p3.length ≤ 100 := Nat.le_trans (Nat.le_trans hl5 (Nat.le_trans len_l len_r)) hlen
  exact .inr ⟨_, _, _, _, _, g1, g2, g3, g4, g5, g6, by rw [S3_length]; exact Nat.le_trans hl3 (by decide), S3_repr hin hl3, h3⟩
end Mine
end
section
open PySem PySem.W PyProof.Rows
namespace Mine

theorem all0 {P : List Int → Prop} : ∀ q ∈ ([] : List (List Int)), P q := fun _ h => nomatch h
theorem all2 {P : List Int → Prop} {a : List Int} {r : List (List Int)} (h : P a) (hr : ∀ q ∈ r, P q) : ∀ q ∈ a :: r, P q := List.forall_mem_cons.mpr ⟨h, hr⟩
theorem nil1 {x : Int} : x ∉ ([] : List Int) := fun h => nomatch h
theorem nil2 {x y : Int} : x ∉ ([] : List Int) ∧ y ∉ ([] : List Int) := ⟨(fun h => nomatch h), (fun h => nomatch h)⟩
theorem not_app {y : Int} {a b : List Int} (h1 : y ∉ a) (h2 : y ∉ b) : y ∉ a ++ b := fun q => (List.mem_append.mp q).elim h1 h2
theorem not_cons {y x : Int} {b : List Int} (h1 : y ≠ x) (h2 : y ∉ b) : y ∉ x :: b := fun q => (List.mem_cons.mp q).elim h1 h2
theorem not_one {y x : Int} (h1 : y ≠ x) : y ∉ [x] := not_cons h1 (fun h => nomatch h)
theorem pre_62 {l : Int} (hl : l ≠ 62) : (62 : Int) ∉ [54, 54, 61, l] := not_cons (by decide) (not_cons (by decide) (not_cons (by decide) (not_one (fun h => hl h.symm))))
/-- the brackets in such sums, moved -/
theorem asc (A B C : List Int) : A ++ (B ++ C) = (A ++ B) ++ C := (List.append_assoc A B C).symm
theorem mv1 {A B C : List Int} {x : Int} : (A ++ x :: B) ++ C = A ++ x :: (B ++ C) := (asc A (x :: B) C).symm
theorem mv2 {A B D : List Int} {x y z w : Int} : A ++ x :: y :: z :: (B ++ w :: D) = (A ++ x :: y :: z :: (B ++ [w])) ++ D := (congrArg (fun t => A ++ x :: y :: z :: t) (asc B [w] D)).trans (asc A (x :: y :: z :: (B ++ [w])) D)
theorem mv3 {A B D : List Int} {x y z w : Int} : A ++ x :: y :: z :: (B ++ w :: D) = ((A ++ [x, y]) ++ z :: (B ++ [w])) ++ D := (congrArg (fun t => A ++ x :: y :: z :: t) (asc B [w] D)).trans ((asc A [x, y] (z :: ((B ++ [w]) ++ D))).trans (asc (A ++ [x, y]) (z :: (B ++ [w])) D))
theorem mv4 {A B : List Int} {x y z w : Int} : (A ++ [x, y]) ++ z :: (B ++ [w]) = (A ++ x :: y :: z :: B) ++ [w] := (asc A [x, y] (z :: (B ++ [w]))).symm.trans (asc A (x :: y :: z :: B) [w])
theorem mv5 {A B : List Int} {x y z w : Int} : A ++ x :: y :: z :: (B ++ [w]) = (A ++ x :: y :: z :: B) ++ [w] := asc A (x :: y :: z :: B) [w]
theorem mv6 {A C : List Int} {x : Int} : A ++ x :: C = (A ++ [x]) ++ C := asc A [x] C
theorem mv7 {A C : List Int} {x y : Int} : A ++ x :: y :: C = ((A ++ [x]) ++ [y]) ++ C := (asc A [x] (y :: C)).trans (asc (A ++ [x]) [y] C)
theorem mv8 {A B C D : List Int} {x y z w u : Int} : (A ++ x :: B) ++ y :: z :: w :: (D ++ u :: C) = (A ++ x :: (B ++ y :: z :: w :: (D ++ [u]))) ++ C := (asc A (x :: B) (y :: z :: w :: (D ++ u :: C))).symm.trans ((congrArg (fun t => A ++ x :: (B ++ y :: z :: w :: t)) (asc D [u] C)).trans ((congrArg (fun t => A ++ x :: t) (asc B (y :: z :: w :: (D ++ [u])) C)).trans (asc A (x :: (B ++ y :: z :: w :: (D ++ [u]))) C)))
theorem mv9 {A B D : List Int} {x y z w u : Int} : A ++ x :: (B ++ y :: z :: w :: (D ++ [u])) = (A ++ x :: (B ++ y :: z :: w :: D)) ++ [u] := (congrArg (fun t => A ++ x :: t) (asc B (y :: z :: w :: D) [u])).trans (asc A (x :: (B ++ y :: z :: w :: D)) [u])
theorem mv10 {A B C D : List Int} {x y z w u : Int} : A ++ x :: y :: z :: ((B ++ w :: D) ++ u :: C) = (A ++ x :: y :: z :: (B ++ w :: (D ++ [u]))) ++ C := (congrArg (fun t => A ++ x :: y :: z :: t) ((asc B (w :: D) (u :: C)).symm.trans ((congrArg (fun t => B ++ w :: t) (asc D [u] C)).trans (asc B (w :: (D ++ [u])) C)))).trans (asc A (x :: y :: z :: (B ++ w :: (D ++ [u]))) C)
theorem mv11 {A B D : List Int} {x y z w u : Int} : A ++ x :: y :: z :: (B ++ w :: (D ++ [u])) = (A ++ x :: y :: z :: (B ++ w :: D)) ++ [u] := (congrArg (fun t => A ++ x :: y :: z :: t) (asc B (w :: D) [u])).trans (asc A (x :: y :: z :: (B ++ w :: D)) [u])
theorem mv12 {A C : List Int} {x y z : Int} : A ++ x :: y :: z :: C = (A ++ [x, y, z]) ++ C := asc A [x, y, z] C
theorem mv13 {A : List Int} {x y z : Int} : A ++ [x, y, z] = (A ++ [x, y]) ++ [z] := asc A [x, y] [z]
theorem mv14 {A B C D : List Int} {x y z u v : Int} : A ++ x :: y :: z :: (((B ++ [u]) ++ v :: D) ++ C) = ((A ++ x :: y :: z :: B) ++ [u]) ++ v :: (D ++ C) := (congrArg (fun t => A ++ x :: y :: z :: t) ((asc (B ++ [u]) (v :: D) C).symm.trans (asc B [u] (v :: (D ++ C))).symm)).trans ((asc A (x :: y :: z :: B) (u :: v :: (D ++ C))).trans (asc (A ++ x :: y :: z :: B) [u] (v :: (D ++ C))))
theorem mv15 {A B C : List Int} {x y z u : Int} : A ++ x :: y :: z :: ((B ++ [u]) ++ C) = ((A ++ x :: y :: z :: B) ++ [u]) ++ C := (congrArg (fun t => A ++ x :: y :: z :: t) (asc B [u] C).symm).trans ((asc A (x :: y :: z :: B) (u :: C)).trans (asc (A ++ x :: y :: z :: B) [u] C))
theorem mv16 {A B C : List Int} {x y z u : Int} : A ++ x :: y :: z :: (B ++ u :: C) = ((A ++ x :: y :: z :: B) ++ [u]) ++ C := (asc A (x :: y :: z :: B) (u :: C)).trans (asc (A ++ x :: y :: z :: B) [u] C)
theorem last_snoc {w : List Int} {c : Int} : (62 :: (w ++ [c]))[(w ++ [c]).length]? = some c := by
  rw [List.length_append, List.length_singleton, List.getElem?_cons_succ, List.getElem?_append_right (Nat.le_refl _), Nat.sub_self]; rfl
/-- a reply that reads as it stands: five parts -/
theorem told_std {l m o : Int} {fs D tl : List Int} {an : Str ⊕ Int} (hall : ∀ x ∈ 54 :: 54 :: 61 :: l :: 62 :: m :: (fs ++ m :: o :: m :: (D ++ m :: 63 :: tl)), 0 ≤ x ∧ x < 64) (hlen : (54 :: 54 :: 61 :: l :: 62 :: m :: (fs ++ m :: o :: m :: (D ++ m :: 63 :: tl))).length ≤ 100)
    (hl : l ≠ 62) (hm : m ≠ 63) (hf : m ∉ fs ∧ (63 : Int) ∉ fs) (ho : o ≠ m ∧ o ≠ 63) (hD : m ∉ D ∧ (63 : Int) ∉ D) (h3 : ReadIs (S3 D) an) : ToldA (S3 (54 :: 54 :: 61 :: l :: 62 :: m :: (fs ++ m :: o :: m :: (D ++ m :: 63 :: tl)))) an := by
  have e : 54 :: 54 :: 61 :: l :: 62 :: m :: (fs ++ m :: o :: m :: (D ++ m :: 63 :: tl)) = [54, 54, 61, l] ++ 62 :: (catI m [[], fs, [o], D, []] ++ 63 :: tl) := congrArg (fun z => 54 :: 54 :: 61 :: l :: 62 :: m :: z) mv2
  have hm64 : 0 ≤ m ∧ m < 64 := hall m (.tail _ (.tail _ (.tail _ (.tail _ (.tail _ (.head _))))))
  rw [e] at hall hlen ⊢
  have n63 : (63 : Int) ≠ m := fun h => hm h.symm
  exact told_five hall hlen rfl (pre_62 hl) (not_cons n63 (not_app hf.2 (not_cons n63 (not_cons (fun h => ho.2 h.symm) (not_cons n63 (not_app hD.2 (not_one n63))))))) hm64
    (all2 nil1 (all2 hf.1 (all2 (not_one fun h => ho.1 h.symm) (all2 hD.1 (all2 nil1 all0))))) h3
/-- a reply of another number of parts -/
theorem told_np {l m : Int} {w tl : List Int} {parts : List (List Int)} (hall : ∀ x ∈ [54, 54, 61, l] ++ 62 :: (catI m parts ++ 63 :: tl), 0 ≤ x ∧ x < 64) (hlen : ([54, 54, 61, l] ++ 62 :: (catI m parts ++ 63 :: tl)).length ≤ 100) (hl : l ≠ 62) (h63 : (63 : Int) ∉ catI m parts)
    (hh : (catI m parts ++ [63])[0]? = some m) (hw : catI m parts = w ++ [m]) (hne : parts ≠ []) (h5 : parts.length ≠ 5) (hpc : ∀ q ∈ parts, m ∉ q) (hpb : ∀ q ∈ parts, ∀ x ∈ q, 0 ≤ x ∧ x < 64) : ToldA (S3 ([54, 54, 61, l] ++ 62 :: (catI m parts ++ 63 :: tl))) (.inl (Str.ofString "error_proto")) := by
  have hm64 : 0 ≤ m ∧ m < 64 := hall m (by rw [hw]; exact List.mem_append_right _ (.tail _ (List.mem_append_left _ (List.mem_append_right _ (.head _)))))
  have hle : (catI m parts).length ≤ 899 := Nat.le_trans (Nat.le_trans len_l len_r) (Nat.le_trans hlen (by decide))
  exact told_word (fate_parts (p := [l]) rfl hall rfl (pre_62 hl) h63 hh (by rw [hw]; exact last_snoc) hm64 rfl hne hpb hpc h5 hle)
/-- a reply whose two marks differ -/
theorem told_uneq {l hd la : Int} {inner tl : List Int} (hall : ∀ x ∈ [54, 54, 61, l] ++ 62 :: (inner ++ 63 :: tl), 0 ≤ x ∧ x < 64) (hl : l ≠ 62) (h63 : (63 : Int) ∉ inner) (hh : (inner ++ [63])[0]? = some hd) (hla : (62 :: inner)[inner.length]? = some la) (hne : hd ≠ la) :
    ToldA (S3 ([54, 54, 61, l] ++ 62 :: (inner ++ 63 :: tl))) (.inl (Str.ofString "error_proto")) := by
  exact fate_inner (p := [l]) hall rfl (pre_62 hl) h63 hh hla hne
end Mine
end
section
open PySem PySem.W PyProof.Rows
namespace Mine

section
variable {l m o : Int} {fs D : List Int} (H : Rep3 l m o fs D)
include H
theorem Rep3.n1 : (63 : Int) ≠ m := fun e => absurd (e ▸ H.m0.2) (by decide)
theorem Rep3.n2 : m ≠ 63 := fun e => absurd (e ▸ H.m0.2) (by decide)
theorem Rep3.n3 : l ≠ 62 := fun e => absurd (e ▸ H.l0.2) (by decide)
theorem Rep3.n4 : (63 : Int) ≠ o := fun e => absurd (e ▸ H.o0.2.1) (by decide)
theorem Rep3.n5 : o ≠ 63 := fun e => absurd (e ▸ H.o0.2.1) (by decide)
theorem Rep3.n6 : (62 : Int) ≠ m := fun e => absurd (e ▸ H.m0.2) (by decide)
theorem Rep3.n7 : (62 : Int) ≠ o := fun e => absurd (e ▸ H.o0.2.1) (by decide)
theorem Rep3.n8 : (62 : Int) ≠ l := fun e => absurd (e ▸ H.l0.2) (by decide)
theorem Rep3.n9 : (63 : Int) ≠ l := fun e => absurd (e ▸ H.l0.2) (by decide)
end
theorem le_eq {a b c : Nat} (h : a = b) (h' : b ≤ c) : a ≤ c := h ▸ h'
theorem len6 {a b c d e f : Int} {X Y : List Int} (hl : (a :: b :: c :: d :: e :: f :: Y).length ≤ 100) (h : X.length = Y.length) : (a :: b :: c :: d :: e :: f :: X).length ≤ 100 := le_eq (congrArg (· + 6) h) hl
theorem len_mid {A B : List Int} (x : Int) : (A ++ x :: B).length = A.length + B.length + 1 := by rw [List.length_append, List.length_cons]; rfl
theorem len_swap {A B : List Int} (x y : Int) : (A ++ x :: B).length = (A ++ y :: B).length := (len_mid x).trans (len_mid y).symm
theorem app_len {X Y Z : List Int} (h : X.length = Y.length) : (X ++ Z).length = (Y ++ Z).length := by rw [List.length_append, List.length_append, h]
theorem len_app {X Y Z : List Int} (h : Y.length = Z.length) : (X ++ Y).length = (X ++ Z).length := by rw [List.length_append, List.length_append, h]
section
variable {l m o v : Int} {fs D tl : List Int} {P : Int} (H : Rep3 l m o fs D) (hlt : (54 :: 54 :: 61 :: l :: 62 :: m :: (fs ++ m :: o :: m :: (D ++ m :: 63 :: tl))).length ≤ 100)
include H hlt
theorem not_fs : m ∉ fs ∧ (63 : Int) ∉ fs ∧ (62 : Int) ∉ fs := by
  refine ⟨fun q => (H.f0 _ q).2.2 rfl, fun q => ?_, fun q => ?_⟩ <;> have := H.f0 _ q <;> (first | exact H.n1 | exact H.n2 | exact H.n3 | exact H.n4 | exact H.n5 | exact H.n6 | exact H.n7 | exact H.n8 | exact H.n9 | lia | omega)
theorem not_D : m ∉ D ∧ (63 : Int) ∉ D ∧ (62 : Int) ∉ D := by
  have := H.m0
  refine ⟨fun q => ?_, fun q => ?_, fun q => ?_⟩ <;> have := H.d0 _ q <;> (first | exact H.n1 | exact H.n2 | exact H.n3 | exact H.n4 | exact H.n5 | exact H.n6 | exact H.n7 | exact H.n8 | exact H.n9 | lia | omega)
theorem t_l (hall : ∀ x ∈ 54 :: 54 :: 61 :: v :: 62 :: m :: (fs ++ m :: o :: m :: (D ++ m :: 63 :: tl)), 0 ≤ x ∧ x < 64) (h3 : ReadIs (S3 D) (.inr P)) :
    ToldA (S3 (54 :: 54 :: 61 :: v :: 62 :: m :: (fs ++ m :: o :: m :: (D ++ m :: 63 :: tl)))) (if v = 62 then .inl (Str.ofString "error_proto") else .inr P) := by
  obtain ⟨f1, f2, _⟩ := not_fs H hlt
  obtain ⟨d1, d2, _⟩ := not_D H hlt
  have hm := H.m0
  have ho := H.o0
  by_cases h : v = 62
  · rw [if_pos h]
    subst h
    have e : (54 : Int) :: 54 :: 61 :: 62 :: 62 :: m :: (fs ++ m :: o :: m :: (D ++ m :: 63 :: tl)) = [54, 54, 61] ++ 62 :: (((62 :: m :: (fs ++ m :: o :: m :: D)) ++ [m]) ++ 63 :: tl) := congrArg (fun t => 54 :: 54 :: 61 :: 62 :: 62 :: m :: t) mv16
    rw [e] at hall ⊢
    refine fate_inner (p := []) (hd := 62) (la := m) hall rfl (by decide) ?_ rfl last_snoc (by (first | exact H.n1 | exact H.n2 | exact H.n3 | exact H.n4 | exact H.n5 | exact H.n6 | exact H.n7 | exact H.n8 | exact H.n9 | lia | omega))
    exact not_app (not_cons (by decide) (not_cons H.n1 (not_app f2 (not_cons H.n1 (not_cons H.n4 (not_cons H.n1 d2)))))) (not_one H.n1)
  · rw [if_neg h]
    exact told_std hall hlt h (by (first | exact H.n1 | exact H.n2 | exact H.n3 | exact H.n4 | exact H.n5 | exact H.n6 | exact H.n7 | exact H.n8 | exact H.n9 | lia | omega)) ⟨f1, f2⟩ ⟨ho.2.2, by (first | exact H.n1 | exact H.n2 | exact H.n3 | exact H.n4 | exact H.n5 | exact H.n6 | exact H.n7 | exact H.n8 | exact H.n9 | lia | omega)⟩ ⟨d1, d2⟩ h3
theorem t_b1 (hv : v ≠ 62) (hall : ∀ x ∈ 54 :: 54 :: 61 :: l :: v :: m :: (fs ++ m :: o :: m :: (D ++ m :: 63 :: tl)), 0 ≤ x ∧ x < 64) (ht : ∀ t ∈ tl, 0 ≤ t ∧ t ≤ 61) :
    ToldA (S3 (54 :: 54 :: 61 :: l :: v :: m :: (fs ++ m :: o :: m :: (D ++ m :: 63 :: tl)))) (.inl (Str.ofString "error_proto")) := by
  obtain ⟨_, _, f3⟩ := not_fs H hlt
  obtain ⟨_, _, d3⟩ := not_D H hlt
  have hm := H.m0
  have ho := H.o0
  have hl := H.l0
  exact told_word (fate_noopen hall (not_cons (by decide) (not_cons (by decide) (not_cons (by decide) (not_cons H.n8 (not_cons (fun q => hv q.symm) (not_cons H.n6 (not_app f3 (not_cons H.n6 (not_cons H.n7 (not_cons H.n6 (not_app d3 (not_cons H.n6 (not_cons (by decide) (fun q => absurd (ht _ q).2 (by decide))))))))))))))))
theorem t_m1 (hv : v ≠ m) (hall : ∀ x ∈ 54 :: 54 :: 61 :: l :: 62 :: v :: (fs ++ m :: o :: m :: (D ++ m :: 63 :: tl)), 0 ≤ x ∧ x < 64) :
    ToldA (S3 (54 :: 54 :: 61 :: l :: 62 :: v :: (fs ++ m :: o :: m :: (D ++ m :: 63 :: tl)))) (.inl (Str.ofString "error_proto")) := by
  obtain ⟨f1, f2, _⟩ := not_fs H hlt
  obtain ⟨d1, d2, _⟩ := not_D H hlt
  have hm := H.m0
  have ho := H.o0
  have hl := H.l0
  by_cases h : v = 63
  · subst h
    have e : (54 : Int) :: 54 :: 61 :: l :: 62 :: 63 :: (fs ++ m :: o :: m :: (D ++ m :: 63 :: tl)) = [54, 54, 61, l] ++ 62 :: ([] ++ 63 :: (fs ++ m :: o :: m :: (D ++ m :: 63 :: tl))) := rfl
    rw [e] at hall ⊢
    exact told_uneq (hd := 63) (la := 62) hall H.n3 nil1 rfl rfl (by decide)
  · have e : (54 : Int) :: 54 :: 61 :: l :: 62 :: v :: (fs ++ m :: o :: m :: (D ++ m :: 63 :: tl)) = [54, 54, 61, l] ++ 62 :: (((v :: (fs ++ m :: o :: m :: D)) ++ [m]) ++ 63 :: tl) := congrArg (fun t => 54 :: 54 :: 61 :: l :: 62 :: v :: t) mv16
    rw [e] at hall ⊢
    refine told_uneq (hd := v) (la := m) hall (by (first | exact H.n1 | exact H.n2 | exact H.n3 | exact H.n4 | exact H.n5 | exact H.n6 | exact H.n7 | exact H.n8 | exact H.n9 | lia | omega)) ?_ rfl last_snoc hv
    exact not_app (not_cons (fun q => h q.symm) (not_app f2 (not_cons H.n1 (not_cons H.n4 (not_cons H.n1 d2))))) (not_one H.n1)
theorem t_t {tl' : List Int} (hall : ∀ x ∈ 54 :: 54 :: 61 :: l :: 62 :: m :: (fs ++ m :: o :: m :: (D ++ m :: 63 :: tl')), 0 ≤ x ∧ x < 64) (hl' : tl'.length = tl.length) (h3 : ReadIs (S3 D) (.inr P)) :
    ToldA (S3 (54 :: 54 :: 61 :: l :: 62 :: m :: (fs ++ m :: o :: m :: (D ++ m :: 63 :: tl')))) (.inr P) := by
  obtain ⟨f1, f2, _⟩ := not_fs H hlt
  obtain ⟨d1, d2, _⟩ := not_D H hlt
  have hm := H.m0
  have ho := H.o0
  have hl := H.l0
  refine told_std hall ?_ (by (first | exact H.n1 | exact H.n2 | exact H.n3 | exact H.n4 | exact H.n5 | exact H.n6 | exact H.n7 | exact H.n8 | exact H.n9 | lia | omega)) (by (first | exact H.n1 | exact H.n2 | exact H.n3 | exact H.n4 | exact H.n5 | exact H.n6 | exact H.n7 | exact H.n8 | exact H.n9 | lia | omega)) ⟨f1, f2⟩ ⟨ho.2.2, by (first | exact H.n1 | exact H.n2 | exact H.n3 | exact H.n4 | exact H.n5 | exact H.n6 | exact H.n7 | exact H.n8 | exact H.n9 | lia | omega)⟩ ⟨d1, d2⟩ h3
  exact len6 hlt (len_app (congrArg (· + 3) (len_app (congrArg (· + 2) hl'))))
end
end Mine
end
section
open PySem PySem.W PyProof.Rows
namespace Mine

theorem catI_not {c y : Int} (hc : c ≠ y) : ∀ {l : List (List Int)}, (∀ q ∈ l, y ∉ q) → y ∉ catI c l
  | [], _ => by simp [catI]
  | [a], h => h a (List.mem_cons_self ..)
  | a :: b :: r, h => by
    show y ∉ a ++ c :: catI c (b :: r)
    intro q
    rcases List.mem_append.mp q with q | q
    · exact h a (List.mem_cons_self ..) q
    · rcases List.mem_cons.mp q with q | q
      · exact hc q.symm
      · exact catI_not hc (fun q hq => h q (List.mem_cons_of_mem _ hq)) q
theorem told_np2 {l m : Int} {w tl a : List Int} {r : List (List Int)} (hall : ∀ x ∈ [54, 54, 61, l] ++ 62 :: (catI m ([] :: a :: r) ++ 63 :: tl), 0 ≤ x ∧ x < 64) (hlen : ([54, 54, 61, l] ++ 62 :: (catI m ([] :: a :: r) ++ 63 :: tl)).length ≤ 100) (hl : l ≠ 62) (hm : m ≠ 63)
    (hw : catI m ([] :: a :: r) = w ++ [m]) (h5 : ([] :: a :: r : List (List Int)).length ≠ 5) (hpc : ∀ q ∈ ([] :: a :: r : List (List Int)), m ∉ q ∧ (63 : Int) ∉ q) : ToldA (S3 ([54, 54, 61, l] ++ 62 :: (catI m ([] :: a :: r) ++ 63 :: tl))) (.inl (Str.ofString "error_proto")) :=
  told_np hall hlen hl (catI_not hm fun q hq => (hpc q hq).2) rfl hw (by simp) h5 (fun q hq => (hpc q hq).1) fun q hq x hx => hall x (List.mem_append_right _ (List.mem_cons_of_mem _ (List.mem_append_left _ (catI_mem hq hx))))
section
variable {l m o v : Int} {fs D tl : List Int} {P : Int} (H : Rep3 l m o fs D) (hlt : (54 :: 54 :: 61 :: l :: 62 :: m :: (fs ++ m :: o :: m :: (D ++ m :: 63 :: tl))).length ≤ 100)
include H hlt
theorem t_m2 (hv : v ≠ m) (hall : ∀ x ∈ 54 :: 54 :: 61 :: l :: 62 :: m :: (fs ++ v :: o :: m :: (D ++ m :: 63 :: tl)), 0 ≤ x ∧ x < 64) :
    ToldA (S3 (54 :: 54 :: 61 :: l :: 62 :: m :: (fs ++ v :: o :: m :: (D ++ m :: 63 :: tl)))) (.inl (Str.ofString "error_proto")) := by
  obtain ⟨f1, f2, _⟩ := not_fs H hlt
  obtain ⟨d1, d2, _⟩ := not_D H hlt
  have ho := H.o0
  by_cases h : v = 63
  · subst h
    rcases List.eq_nil_or_concat fs with h0 | ⟨w, y, h0⟩
    · subst h0
      have e : (54 : Int) :: 54 :: 61 :: l :: 62 :: m :: ([] ++ 63 :: o :: m :: (D ++ m :: 63 :: tl)) = [54, 54, 61, l] ++ 62 :: (catI m [[], []] ++ 63 :: (o :: m :: (D ++ m :: 63 :: tl))) := rfl
      rw [e] at hall ⊢
      exact told_np2 (w := []) hall hlt H.n3 H.n2 rfl (of_decide_eq_false rfl) (all2 nil2 (all2 nil2 all0))
    · rw [List.concat_eq_append] at h0
      have hy := H.f0 y (by rw [h0]; exact List.mem_append_right _ (.head _))
      have e : (54 : Int) :: 54 :: 61 :: l :: 62 :: m :: (fs ++ 63 :: o :: m :: (D ++ m :: 63 :: tl)) = [54, 54, 61, l] ++ 62 :: (((m :: w) ++ [y]) ++ 63 :: (o :: m :: (D ++ m :: 63 :: tl))) := by rw [h0]; rfl
      rw [e] at hall ⊢
      refine told_uneq (hd := m) (la := y) hall (by (first | exact H.n1 | exact H.n2 | exact H.n3 | exact H.n4 | exact H.n5 | exact H.n6 | exact H.n7 | exact H.n8 | exact H.n9 | lia | omega)) ?_ rfl last_snoc (fun q => hy.2.2 q.symm)
      rw [List.cons_append, ← h0]
      exact not_cons (by (first | exact H.n1 | exact H.n2 | exact H.n3 | exact H.n4 | exact H.n5 | exact H.n6 | exact H.n7 | exact H.n8 | exact H.n9 | lia | omega)) f2
  · have e : (54 : Int) :: 54 :: 61 :: l :: 62 :: m :: (fs ++ v :: o :: m :: (D ++ m :: 63 :: tl)) = [54, 54, 61, l] ++ 62 :: (catI m [[], fs ++ v :: [o], D, []] ++ 63 :: tl) := congrArg (fun t => 54 :: 54 :: 61 :: l :: 62 :: m :: t) mv3
    rw [e] at hall ⊢
    refine told_np2 (w := m :: (fs ++ v :: o :: m :: D)) hall ?_ H.n3 H.n2 (congrArg (m :: ·) mv4) (of_decide_eq_false rfl) ?_
    · rw [← e]; exact len6 hlt (len_app rfl)
    · exact all2 nil2 (all2 ⟨not_app f1 (not_cons (fun q => hv q.symm) (not_cons (fun q => ho.2.2 q.symm) (fun h => nomatch h))), not_app f2 (not_cons (fun q => h q.symm) (not_cons (by (first | exact H.n1 | exact H.n2 | exact H.n3 | exact H.n4 | exact H.n5 | exact H.n6 | exact H.n7 | exact H.n8 | exact H.n9 | lia | omega)) (fun h => nomatch h)))⟩ (all2 ⟨d1, d2⟩ (all2 nil2 all0)))
theorem t_o (hall : ∀ x ∈ 54 :: 54 :: 61 :: l :: 62 :: m :: (fs ++ m :: v :: m :: (D ++ m :: 63 :: tl)), 0 ≤ x ∧ x < 64) (h3 : ReadIs (S3 D) (.inr P)) :
    ToldA (S3 (54 :: 54 :: 61 :: l :: 62 :: m :: (fs ++ m :: v :: m :: (D ++ m :: 63 :: tl)))) (if v = m ∨ v = 63 then .inl (Str.ofString "error_proto") else .inr P) := by
  obtain ⟨f1, f2, _⟩ := not_fs H hlt
  obtain ⟨d1, d2, _⟩ := not_D H hlt
  by_cases h : v = m
  · rw [if_pos (.inl h)]
    subst h
    have e : (54 : Int) :: 54 :: 61 :: l :: 62 :: v :: (fs ++ v :: v :: v :: (D ++ v :: 63 :: tl)) = [54, 54, 61, l] ++ 62 :: (catI v [[], fs, [], [], D, []] ++ 63 :: tl) := congrArg (fun t => 54 :: 54 :: 61 :: l :: 62 :: v :: t) mv2
    rw [e] at hall ⊢
    refine told_np2 (w := v :: (fs ++ v :: v :: v :: D)) hall ?_ H.n3 H.n2 (congrArg (v :: ·) mv5) (of_decide_eq_false rfl) ?_
    · rw [← e]; exact len6 hlt (len_app rfl)
    · exact all2 nil2 (all2 ⟨f1, f2⟩ (all2 nil2 (all2 nil2 (all2 ⟨d1, d2⟩ (all2 nil2 all0)))))
  · by_cases h6 : v = 63
    · rw [if_pos (.inr h6)]
      subst h6
      have e : (54 : Int) :: 54 :: 61 :: l :: 62 :: m :: (fs ++ m :: 63 :: m :: (D ++ m :: 63 :: tl)) = [54, 54, 61, l] ++ 62 :: (catI m [[], fs, []] ++ 63 :: (m :: (D ++ m :: 63 :: tl))) := congrArg (fun t => 54 :: 54 :: 61 :: l :: 62 :: m :: t) mv6
      rw [e] at hall ⊢
      refine told_np2 (w := m :: fs) hall ?_ H.n3 H.n2 rfl (of_decide_eq_false rfl) ?_
      · rw [← e]; exact len6 hlt (len_app rfl)
      · exact all2 nil2 (all2 ⟨f1, f2⟩ (all2 nil2 all0))
    · rw [if_neg fun q => q.elim h h6]
      exact told_std hall (len6 hlt (len_app rfl)) (by (first | exact H.n1 | exact H.n2 | exact H.n3 | exact H.n4 | exact H.n5 | exact H.n6 | exact H.n7 | exact H.n8 | exact H.n9 | lia | omega)) (by (first | exact H.n1 | exact H.n2 | exact H.n3 | exact H.n4 | exact H.n5 | exact H.n6 | exact H.n7 | exact H.n8 | exact H.n9 | lia | omega)) ⟨f1, f2⟩ ⟨h, h6⟩ ⟨d1, d2⟩ h3
end
end Mine
end
section
open PySem PySem.W PyProof.Rows
namespace Mine

section
variable {l m o v : Int} {fs D tl : List Int} {P : Int} (H : Rep3 l m o fs D) (hlt : (54 :: 54 :: 61 :: l :: 62 :: m :: (fs ++ m :: o :: m :: (D ++ m :: 63 :: tl))).length ≤ 100)
include H hlt
theorem t_m3 (hv : v ≠ m) (hall : ∀ x ∈ 54 :: 54 :: 61 :: l :: 62 :: m :: (fs ++ m :: o :: v :: (D ++ m :: 63 :: tl)), 0 ≤ x ∧ x < 64) :
    ToldA (S3 (54 :: 54 :: 61 :: l :: 62 :: m :: (fs ++ m :: o :: v :: (D ++ m :: 63 :: tl)))) (.inl (Str.ofString "error_proto")) := by
  obtain ⟨f1, f2, _⟩ := not_fs H hlt
  obtain ⟨d1, d2, _⟩ := not_D H hlt
  have hm := H.m0
  have ho := H.o0
  have hl := H.l0
  by_cases h : v = 63
  · subst h
    have e : (54 : Int) :: 54 :: 61 :: l :: 62 :: m :: (fs ++ m :: o :: 63 :: (D ++ m :: 63 :: tl)) = [54, 54, 61, l] ++ 62 :: (((m :: (fs ++ [m])) ++ [o]) ++ 63 :: (D ++ m :: 63 :: tl)) := congrArg (fun t => 54 :: 54 :: 61 :: l :: 62 :: m :: t) mv7
    rw [e] at hall ⊢
    refine told_uneq (hd := m) (la := o) hall (by (first | exact H.n1 | exact H.n2 | exact H.n3 | exact H.n4 | exact H.n5 | exact H.n6 | exact H.n7 | exact H.n8 | exact H.n9 | lia | omega)) ?_ rfl last_snoc (fun q => ho.2.2 q.symm)
    exact not_app (not_cons (by (first | exact H.n1 | exact H.n2 | exact H.n3 | exact H.n4 | exact H.n5 | exact H.n6 | exact H.n7 | exact H.n8 | exact H.n9 | lia | omega)) (not_app f2 (not_cons (by (first | exact H.n1 | exact H.n2 | exact H.n3 | exact H.n4 | exact H.n5 | exact H.n6 | exact H.n7 | exact H.n8 | exact H.n9 | lia | omega)) (fun h => nomatch h)))) (not_cons (by (first | exact H.n1 | exact H.n2 | exact H.n3 | exact H.n4 | exact H.n5 | exact H.n6 | exact H.n7 | exact H.n8 | exact H.n9 | lia | omega)) (fun h => nomatch h))
  · have e : (54 : Int) :: 54 :: 61 :: l :: 62 :: m :: (fs ++ m :: o :: v :: (D ++ m :: 63 :: tl)) = [54, 54, 61, l] ++ 62 :: (catI m [[], fs, o :: v :: D, []] ++ 63 :: tl) := congrArg (fun t => 54 :: 54 :: 61 :: l :: 62 :: m :: t) mv2
    rw [e] at hall ⊢
    refine told_np2 (w := m :: (fs ++ m :: o :: v :: D)) hall ?_ H.n3 H.n2 (congrArg (m :: ·) mv5) (of_decide_eq_false rfl) ?_
    · rw [← e]; exact len6 hlt (len_app rfl)
    · exact all2 nil2 (all2 ⟨f1, f2⟩ (all2 ⟨not_cons (fun q => ho.2.2 q.symm) (not_cons (fun q => hv q.symm) d1), not_cons (by (first | exact H.n1 | exact H.n2 | exact H.n3 | exact H.n4 | exact H.n5 | exact H.n6 | exact H.n7 | exact H.n8 | exact H.n9 | lia | omega)) (not_cons (fun q => h q.symm) d2)⟩ (all2 nil2 all0)))
theorem t_f {f1 f2 : List Int} {x : Int} (hf : fs = f1 ++ x :: f2) (hall : ∀ x ∈ 54 :: 54 :: 61 :: l :: 62 :: m :: ((f1 ++ v :: f2) ++ m :: o :: m :: (D ++ m :: 63 :: tl)), 0 ≤ x ∧ x < 64) (h3 : ReadIs (S3 D) (.inr P)) :
    ToldA (S3 (54 :: 54 :: 61 :: l :: 62 :: m :: ((f1 ++ v :: f2) ++ m :: o :: m :: (D ++ m :: 63 :: tl)))) (if v = m ∨ v = 63 then .inl (Str.ofString "error_proto") else .inr P) := by
  obtain ⟨g1, g2, _⟩ := not_fs H hlt
  obtain ⟨d1, d2, _⟩ := not_D H hlt
  have hm := H.m0
  have hl := H.l0
  have ho := H.o0
  have a1 : m ∉ f1 ∧ (63 : Int) ∉ f1 := ⟨fun q => g1 (by rw [hf]; exact List.mem_append_left _ q), fun q => g2 (by rw [hf]; exact List.mem_append_left _ q)⟩
  have a2 : m ∉ f2 ∧ (63 : Int) ∉ f2 := ⟨fun q => g1 (by rw [hf]; exact List.mem_append_right _ (.tail _ q)), fun q => g2 (by rw [hf]; exact List.mem_append_right _ (.tail _ q))⟩
  have hlen : (54 :: 54 :: 61 :: l :: 62 :: m :: ((f1 ++ v :: f2) ++ m :: o :: m :: (D ++ m :: 63 :: tl))).length ≤ 100 := by rw [hf] at hlt; exact len6 hlt (app_len (len_swap v x))
  by_cases h : v = m
  · rw [if_pos (.inl h)]
    subst h
    have e : (54 : Int) :: 54 :: 61 :: l :: 62 :: v :: ((f1 ++ v :: f2) ++ v :: o :: v :: (D ++ v :: 63 :: tl)) = [54, 54, 61, l] ++ 62 :: (catI v [[], f1, f2, [o], D, []] ++ 63 :: tl) := congrArg (fun t => 54 :: 54 :: 61 :: l :: 62 :: v :: t) mv8
    rw [e] at hall hlen ⊢
    refine told_np2 (w := v :: (f1 ++ v :: (f2 ++ v :: o :: v :: D))) hall hlen H.n3 H.n2 (congrArg (v :: ·) mv9) (of_decide_eq_false rfl) ?_
    exact all2 nil2 (all2 (a1) (all2 (a2) (all2 ⟨not_cons (fun q => ho.2.2 q.symm) (fun h => nomatch h), not_cons (by (first | exact H.n1 | exact H.n2 | exact H.n3 | exact H.n4 | exact H.n5 | exact H.n6 | exact H.n7 | exact H.n8 | exact H.n9 | lia | omega)) (fun h => nomatch h)⟩ (all2 ⟨d1, d2⟩ (all2 nil2 all0)))))
  · by_cases h6 : v = 63
    · rw [if_pos (.inr h6)]
      subst h6
      rcases List.eq_nil_or_concat f1 with h0 | ⟨w, y, h0⟩
      · subst h0
        have e : (54 : Int) :: 54 :: 61 :: l :: 62 :: m :: (([] ++ 63 :: f2) ++ m :: o :: m :: (D ++ m :: 63 :: tl)) = [54, 54, 61, l] ++ 62 :: (catI m [[], []] ++ 63 :: (f2 ++ m :: o :: m :: (D ++ m :: 63 :: tl))) := rfl
        rw [e] at hall hlen ⊢
        exact told_np2 (w := []) hall hlen (by (first | exact H.n1 | exact H.n2 | exact H.n3 | exact H.n4 | exact H.n5 | exact H.n6 | exact H.n7 | exact H.n8 | exact H.n9 | lia | omega)) (by (first | exact H.n1 | exact H.n2 | exact H.n3 | exact H.n4 | exact H.n5 | exact H.n6 | exact H.n7 | exact H.n8 | exact H.n9 | lia | omega)) rfl (by decide) (all2 nil2 (all2 nil2 all0))
      · rw [List.concat_eq_append] at h0
        have hy := H.f0 y (by rw [hf, h0]; exact List.mem_append_left _ (List.mem_append_right _ (.head _)))
        have e : (54 : Int) :: 54 :: 61 :: l :: 62 :: m :: ((f1 ++ 63 :: f2) ++ m :: o :: m :: (D ++ m :: 63 :: tl)) = [54, 54, 61, l] ++ 62 :: (((m :: w) ++ [y]) ++ 63 :: (f2 ++ m :: o :: m :: (D ++ m :: 63 :: tl))) := by rw [h0]; exact congrArg (fun t => 54 :: 54 :: 61 :: l :: 62 :: m :: t) mv1
        rw [e] at hall ⊢
        refine told_uneq (hd := m) (la := y) hall (by (first | exact H.n1 | exact H.n2 | exact H.n3 | exact H.n4 | exact H.n5 | exact H.n6 | exact H.n7 | exact H.n8 | exact H.n9 | lia | omega)) ?_ rfl last_snoc (fun q => hy.2.2 q.symm)
        rw [List.cons_append, ← h0]
        exact not_cons (by (first | exact H.n1 | exact H.n2 | exact H.n3 | exact H.n4 | exact H.n5 | exact H.n6 | exact H.n7 | exact H.n8 | exact H.n9 | lia | omega)) a1.2
    · rw [if_neg fun q => q.elim h h6]
      exact told_std hall hlen (by (first | exact H.n1 | exact H.n2 | exact H.n3 | exact H.n4 | exact H.n5 | exact H.n6 | exact H.n7 | exact H.n8 | exact H.n9 | lia | omega)) (by (first | exact H.n1 | exact H.n2 | exact H.n3 | exact H.n4 | exact H.n5 | exact H.n6 | exact H.n7 | exact H.n8 | exact H.n9 | lia | omega)) ⟨not_app a1.1 (not_cons (fun q => h q.symm) a2.1), not_app a1.2 (not_cons (fun q => h6 q.symm) a2.2)⟩ ⟨ho.2.2, by (first | exact H.n1 | exact H.n2 | exact H.n3 | exact H.n4 | exact H.n5 | exact H.n6 | exact H.n7 | exact H.n8 | exact H.n9 | lia | omega)⟩ ⟨d1, d2⟩ h3
theorem t_d {e1 e2 : List Int} {x : Int} {an : Str ⊕ Int} (hd : D = e1 ++ x :: e2) (hall : ∀ x ∈ 54 :: 54 :: 61 :: l :: 62 :: m :: (fs ++ m :: o :: m :: ((e1 ++ v :: e2) ++ m :: 63 :: tl)), 0 ≤ x ∧ x < 64) (h3 : ¬ (v = m ∨ v = 63) → ReadIs (S3 (e1 ++ v :: e2)) an) :
    ToldA (S3 (54 :: 54 :: 61 :: l :: 62 :: m :: (fs ++ m :: o :: m :: ((e1 ++ v :: e2) ++ m :: 63 :: tl)))) (if v = m ∨ v = 63 then .inl (Str.ofString "error_proto") else an) := by
  obtain ⟨g1, g2, _⟩ := not_fs H hlt
  obtain ⟨d1, d2, _⟩ := not_D H hlt
  have hm := H.m0
  have hl := H.l0
  have ho := H.o0
  have a1 : m ∉ e1 ∧ (63 : Int) ∉ e1 := ⟨fun q => d1 (by rw [hd]; exact List.mem_append_left _ q), fun q => d2 (by rw [hd]; exact List.mem_append_left _ q)⟩
  have a2 : m ∉ e2 ∧ (63 : Int) ∉ e2 := ⟨fun q => d1 (by rw [hd]; exact List.mem_append_right _ (.tail _ q)), fun q => d2 (by rw [hd]; exact List.mem_append_right _ (.tail _ q))⟩
  have hlen : (54 :: 54 :: 61 :: l :: 62 :: m :: (fs ++ m :: o :: m :: ((e1 ++ v :: e2) ++ m :: 63 :: tl))).length ≤ 100 := by rw [hd] at hlt; exact len6 hlt (len_app (congrArg (· + 3) (app_len (len_swap v x))))
  by_cases h : v = m
  · rw [if_pos (.inl h)]
    subst h
    have e : (54 : Int) :: 54 :: 61 :: l :: 62 :: v :: (fs ++ v :: o :: v :: ((e1 ++ v :: e2) ++ v :: 63 :: tl)) = [54, 54, 61, l] ++ 62 :: (catI v [[], fs, [o], e1, e2, []] ++ 63 :: tl) := congrArg (fun t => 54 :: 54 :: 61 :: l :: 62 :: v :: t) mv10
    rw [e] at hall hlen ⊢
    refine told_np2 (w := v :: (fs ++ v :: o :: v :: (e1 ++ v :: e2))) hall hlen H.n3 H.n2 (congrArg (v :: ·) mv11) (of_decide_eq_false rfl) ?_
    exact all2 nil2 (all2 ⟨g1, g2⟩ (all2 ⟨not_cons (fun q => ho.2.2 q.symm) (fun h => nomatch h), not_cons (by (first | exact H.n1 | exact H.n2 | exact H.n3 | exact H.n4 | exact H.n5 | exact H.n6 | exact H.n7 | exact H.n8 | exact H.n9 | lia | omega)) (fun h => nomatch h)⟩ (all2 (a1) (all2 (a2) (all2 nil2 all0)))))
  · by_cases h6 : v = 63
    · rw [if_pos (.inr h6)]
      subst h6
      rcases List.eq_nil_or_concat e1 with h0 | ⟨w, y, h0⟩
      · subst h0
        have e : (54 : Int) :: 54 :: 61 :: l :: 62 :: m :: (fs ++ m :: o :: m :: (([] ++ 63 :: e2) ++ m :: 63 :: tl)) = [54, 54, 61, l] ++ 62 :: (catI m [[], fs, [o], []] ++ 63 :: (e2 ++ m :: 63 :: tl)) := congrArg (fun t => 54 :: 54 :: 61 :: l :: 62 :: m :: t) mv12
        rw [e] at hall hlen ⊢
        refine told_np2 (w := m :: (fs ++ m :: [o])) hall hlen H.n3 H.n2 (congrArg (m :: ·) mv13) (of_decide_eq_false rfl) ?_
        exact all2 nil2 (all2 ⟨g1, g2⟩ (all2 ⟨not_cons (fun q => ho.2.2 q.symm) (fun h => nomatch h), not_cons (by (first | exact H.n1 | exact H.n2 | exact H.n3 | exact H.n4 | exact H.n5 | exact H.n6 | exact H.n7 | exact H.n8 | exact H.n9 | lia | omega)) (fun h => nomatch h)⟩ (all2 nil2 all0)))
      · rw [List.concat_eq_append] at h0
        have hy := H.d0 y (by rw [hd, h0]; exact List.mem_append_left _ (List.mem_append_right _ (.head _)))
        have e : (54 : Int) :: 54 :: 61 :: l :: 62 :: m :: (fs ++ m :: o :: m :: ((e1 ++ 63 :: e2) ++ m :: 63 :: tl)) = [54, 54, 61, l] ++ 62 :: (((m :: (fs ++ m :: o :: m :: w)) ++ [y]) ++ 63 :: (e2 ++ m :: 63 :: tl)) := by rw [h0]; exact congrArg (fun t => 54 :: 54 :: 61 :: l :: 62 :: m :: t) mv14
        rw [e] at hall ⊢
        refine told_uneq (hd := m) (la := y) hall (by (first | exact H.n1 | exact H.n2 | exact H.n3 | exact H.n4 | exact H.n5 | exact H.n6 | exact H.n7 | exact H.n8 | exact H.n9 | lia | omega)) ?_ rfl last_snoc (by (first | exact H.n1 | exact H.n2 | exact H.n3 | exact H.n4 | exact H.n5 | exact H.n6 | exact H.n7 | exact H.n8 | exact H.n9 | lia | omega))
        have hw : (63 : Int) ∉ w := fun q => a1.2 (by rw [h0]; exact List.mem_append_left _ q)
        exact not_app (not_cons (by (first | exact H.n1 | exact H.n2 | exact H.n3 | exact H.n4 | exact H.n5 | exact H.n6 | exact H.n7 | exact H.n8 | exact H.n9 | lia | omega)) (not_app g2 (not_cons (by (first | exact H.n1 | exact H.n2 | exact H.n3 | exact H.n4 | exact H.n5 | exact H.n6 | exact H.n7 | exact H.n8 | exact H.n9 | lia | omega)) (not_cons (by (first | exact H.n1 | exact H.n2 | exact H.n3 | exact H.n4 | exact H.n5 | exact H.n6 | exact H.n7 | exact H.n8 | exact H.n9 | lia | omega)) (not_cons (by (first | exact H.n1 | exact H.n2 | exact H.n3 | exact H.n4 | exact H.n5 | exact H.n6 | exact H.n7 | exact H.n8 | exact H.n9 | lia | omega)) hw))))) (not_cons (by (first | exact H.n1 | exact H.n2 | exact H.n3 | exact H.n4 | exact H.n5 | exact H.n6 | exact H.n7 | exact H.n8 | exact H.n9 | lia | omega)) (fun h => nomatch h))
    · rw [if_neg fun q => q.elim h h6]
      exact told_std hall hlen (by (first | exact H.n1 | exact H.n2 | exact H.n3 | exact H.n4 | exact H.n5 | exact H.n6 | exact H.n7 | exact H.n8 | exact H.n9 | lia | omega)) (by (first | exact H.n1 | exact H.n2 | exact H.n3 | exact H.n4 | exact H.n5 | exact H.n6 | exact H.n7 | exact H.n8 | exact H.n9 | lia | omega)) ⟨g1, g2⟩ ⟨ho.2.2, by (first | exact H.n1 | exact H.n2 | exact H.n3 | exact H.n4 | exact H.n5 | exact H.n6 | exact H.n7 | exact H.n8 | exact H.n9 | lia | omega)⟩ ⟨not_app a1.1 (not_cons (fun q => h q.symm) a2.1), not_app a1.2 (not_cons (fun q => h6 q.symm) a2.2)⟩ (h3 (by (first | exact H.n1 | exact H.n2 | exact H.n3 | exact H.n4 | exact H.n5 | exact H.n6 | exact H.n7 | exact H.n8 | exact H.n9 | lia | omega)))
theorem t_m4 (hv : v ≠ m) (hall : ∀ x ∈ 54 :: 54 :: 61 :: l :: 62 :: m :: (fs ++ m :: o :: m :: (D ++ v :: 63 :: tl)), 0 ≤ x ∧ x < 64) :
    ToldA (S3 (54 :: 54 :: 61 :: l :: 62 :: m :: (fs ++ m :: o :: m :: (D ++ v :: 63 :: tl)))) (.inl (Str.ofString "error_proto")) := by
  obtain ⟨g1, g2, _⟩ := not_fs H hlt
  obtain ⟨d1, d2, _⟩ := not_D H hlt
  have hm := H.m0
  have hl := H.l0
  have ho := H.o0
  by_cases h : v = 63
  · subst h
    rcases List.eq_nil_or_concat D with h0 | ⟨w, y, h0⟩
    · have := H.dl
      rw [h0] at this
      exact absurd this.1 (by decide)
    · rw [List.concat_eq_append] at h0
      have hy := H.d0 y (by rw [h0]; exact List.mem_append_right _ (.head _))
      have e : (54 : Int) :: 54 :: 61 :: l :: 62 :: m :: (fs ++ m :: o :: m :: (D ++ 63 :: 63 :: tl)) = [54, 54, 61, l] ++ 62 :: (((m :: (fs ++ m :: o :: m :: w)) ++ [y]) ++ 63 :: (63 :: tl)) := by rw [h0]; exact congrArg (fun t => 54 :: 54 :: 61 :: l :: 62 :: m :: t) mv15
      rw [e] at hall ⊢
      refine told_uneq (hd := m) (la := y) hall (by (first | exact H.n1 | exact H.n2 | exact H.n3 | exact H.n4 | exact H.n5 | exact H.n6 | exact H.n7 | exact H.n8 | exact H.n9 | lia | omega)) ?_ rfl last_snoc (by (first | exact H.n1 | exact H.n2 | exact H.n3 | exact H.n4 | exact H.n5 | exact H.n6 | exact H.n7 | exact H.n8 | exact H.n9 | lia | omega))
      have hw : (63 : Int) ∉ w := fun q => d2 (by rw [h0]; exact List.mem_append_left _ q)
      exact not_app (not_cons (by (first | exact H.n1 | exact H.n2 | exact H.n3 | exact H.n4 | exact H.n5 | exact H.n6 | exact H.n7 | exact H.n8 | exact H.n9 | lia | omega)) (not_app g2 (not_cons (by (first | exact H.n1 | exact H.n2 | exact H.n3 | exact H.n4 | exact H.n5 | exact H.n6 | exact H.n7 | exact H.n8 | exact H.n9 | lia | omega)) (not_cons (by (first | exact H.n1 | exact H.n2 | exact H.n3 | exact H.n4 | exact H.n5 | exact H.n6 | exact H.n7 | exact H.n8 | exact H.n9 | lia | omega)) (not_cons (by (first | exact H.n1 | exact H.n2 | exact H.n3 | exact H.n4 | exact H.n5 | exact H.n6 | exact H.n7 | exact H.n8 | exact H.n9 | lia | omega)) hw))))) (not_cons (by (first | exact H.n1 | exact H.n2 | exact H.n3 | exact H.n4 | exact H.n5 | exact H.n6 | exact H.n7 | exact H.n8 | exact H.n9 | lia | omega)) (fun h => nomatch h))
  · have e : (54 : Int) :: 54 :: 61 :: l :: 62 :: m :: (fs ++ m :: o :: m :: (D ++ v :: 63 :: tl)) = [54, 54, 61, l] ++ 62 :: (((m :: (fs ++ m :: o :: m :: D)) ++ [v]) ++ 63 :: tl) := congrArg (fun t => 54 :: 54 :: 61 :: l :: 62 :: m :: t) mv16
    rw [e] at hall ⊢
    refine told_uneq (hd := m) (la := v) hall (by (first | exact H.n1 | exact H.n2 | exact H.n3 | exact H.n4 | exact H.n5 | exact H.n6 | exact H.n7 | exact H.n8 | exact H.n9 | lia | omega)) ?_ rfl last_snoc (fun q => hv q.symm)
    exact not_app (not_cons (by (first | exact H.n1 | exact H.n2 | exact H.n3 | exact H.n4 | exact H.n5 | exact H.n6 | exact H.n7 | exact H.n8 | exact H.n9 | lia | omega)) (not_app g2 (not_cons (by (first | exact H.n1 | exact H.n2 | exact H.n3 | exact H.n4 | exact H.n5 | exact H.n6 | exact H.n7 | exact H.n8 | exact H.n9 | lia | omega)) (not_cons (by (first | exact H.n1 | exact H.n2 | exact H.n3 | exact H.n4 | exact H.n5 | exact H.n6 | exact H.n7 | exact H.n8 | exact H.n9 | lia | omega)) (not_cons (by (first | exact H.n1 | exact H.n2 | exact H.n3 | exact H.n4 | exact H.n5 | exact H.n6 | exact H.n7 | exact H.n8 | exact H.n9 | lia | omega)) d2))))) (not_cons (fun q => h q.symm) (fun h => nomatch h))
theorem t_b2 (hv : v ≠ 63) (hall : ∀ x ∈ 54 :: 54 :: 61 :: l :: 62 :: m :: (fs ++ m :: o :: m :: (D ++ m :: v :: tl)), 0 ≤ x ∧ x < 64) (ht : ∀ t ∈ tl, 0 ≤ t ∧ t ≤ 61) :
    ToldA (S3 (54 :: 54 :: 61 :: l :: 62 :: m :: (fs ++ m :: o :: m :: (D ++ m :: v :: tl)))) (.inl (Str.ofString "error_proto")) := by
  obtain ⟨g1, g2, _⟩ := not_fs H hlt
  obtain ⟨d1, d2, _⟩ := not_D H hlt
  have hm := H.m0
  have hl := H.l0
  have ho := H.o0
  refine told_word (fate_noclose (p := [l]) (post := m :: (fs ++ m :: o :: m :: (D ++ m :: v :: tl))) hall ?_ ?_)
  · intro q
    simp only [List.mem_cons, List.not_mem_nil, or_false] at q
    (first | exact H.n1 | exact H.n2 | exact H.n3 | exact H.n4 | exact H.n5 | exact H.n6 | exact H.n7 | exact H.n8 | exact H.n9 | lia | omega)
  · exact not_cons (by (first | exact H.n1 | exact H.n2 | exact H.n3 | exact H.n4 | exact H.n5 | exact H.n6 | exact H.n7 | exact H.n8 | exact H.n9 | lia | omega)) (not_app g2 (not_cons (by (first | exact H.n1 | exact H.n2 | exact H.n3 | exact H.n4 | exact H.n5 | exact H.n6 | exact H.n7 | exact H.n8 | exact H.n9 | lia | omega)) (not_cons (by (first | exact H.n1 | exact H.n2 | exact H.n3 | exact H.n4 | exact H.n5 | exact H.n6 | exact H.n7 | exact H.n8 | exact H.n9 | lia | omega)) (not_cons (by (first | exact H.n1 | exact H.n2 | exact H.n3 | exact H.n4 | exact H.n5 | exact H.n6 | exact H.n7 | exact H.n8 | exact H.n9 | lia | omega)) (not_app d2 (not_cons (by (first | exact H.n1 | exact H.n2 | exact H.n3 | exact H.n4 | exact H.n5 | exact H.n6 | exact H.n7 | exact H.n8 | exact H.n9 | lia | omega)) (not_cons (fun q => hv q.symm) (fun q => by have := ht _ q; (first | exact H.n1 | exact H.n2 | exact H.n3 | exact H.n4 | exact H.n5 | exact H.n6 | exact H.n7 | exact H.n8 | exact H.n9 | lia | omega)))))))))
end
end Mine
end
section
open PySem PySem.W PyProof.Rows
namespace Mine

theorem pick {l : List Int} {i : Nat} (h : i < l.length) : ∃ A x B, l = A ++ x :: B ∧ A.length = i := ⟨_, _, _, split_at h, by rw [List.length_take]; exact Nat.min_eq_left (Nat.le_of_lt h)⟩
/-- at every place of `FG`, whose sign in `R` is `c`: `f` puts another figure there -/
noncomputable def Ev (FG : List Int) (R : List Nat) (P : Nat → (Int → List Int) → Int → Nat → Prop) : Prop :=
  ∀ i, i < FG.length → ∃ f x c, (∀ v, FG.take i ++ v :: FG.drop (i + 1) = f v) ∧ FG.getD i 0 = x ∧ R[i]? = some c ∧ P i f x c
theorem Ev_cons {h : Int} {T : List Int} {r : Nat} {RT : List Nat} {P : Nat → (Int → List Int) → Int → Nat → Prop} (h0 : P 0 (fun v => v :: T) h r) (hT : Ev T RT fun i f x c => P (i + 1) (fun v => h :: f v) x c) : Ev (h :: T) (r :: RT) P
  | 0, _ => ⟨fun v => v :: T, h, r, fun _ => rfl, rfl, rfl, h0⟩
  | i + 1, hi => by
    obtain ⟨f, x, c, e1, e2, e3, e4⟩ := hT i (Nat.lt_of_succ_lt_succ hi)
    exact ⟨fun v => h :: f v, x, c, fun v => congrArg (h :: ·) (e1 v), e2, e3, e4⟩
theorem Ev_app {X Y : List Int} {r : Nat} {RY : List Nat} {P : Nat → (Int → List Int) → Int → Nat → Prop} (h0 : ∀ A x B, X = A ++ x :: B → P A.length (fun v => (A ++ v :: B) ++ Y) x r) (hY : Ev Y RY fun i f x c => P (X.length + i) (fun v => X ++ f v) x c) :
    Ev (X ++ Y) (List.replicate X.length r ++ RY) P := fun i hi => by
  by_cases h : i < X.length
  · obtain ⟨A, x, B, rfl, rfl⟩ := pick h
    refine ⟨_, x, r, fun v => ?_, ?_, ?_, h0 A x B rfl⟩
    · rw [List.append_assoc, List.append_assoc]; exact cut_at
    · rw [List.append_assoc]; exact getD_at
    · rw [List.getElem?_append_left (by rw [List.length_replicate]; exact h), List.getElem?_replicate, if_pos h]
  · obtain ⟨j, rfl⟩ := Nat.exists_eq_add_of_le (Nat.le_of_not_lt h)
    rw [List.length_append] at hi
    obtain ⟨f, x, c, e1, e2, e3, e4⟩ := hY j (Nat.lt_of_add_lt_add_left hi)
    refine ⟨_, x, c, fun v => ?_, ?_, ?_, e4⟩
    · rw [List.take_length_add_append, Nat.add_assoc, List.drop_length_add_append, List.append_assoc, e1 v]
    · rw [List.getD_eq_getElem?_getD, List.getElem?_append_right (Nat.le_add_right _ _), Nat.add_sub_cancel_left, ← List.getD_eq_getElem?_getD, e2]
    · rw [List.getElem?_append_right (by rw [List.length_replicate]; exact Nat.le_add_right _ _), List.length_replicate, Nat.add_sub_cancel_left, e3]
theorem Ev_all {X : List Int} {r : Nat} {P : Nat → (Int → List Int) → Int → Nat → Prop} (h0 : ∀ A x B, X = A ++ x :: B → P A.length (fun v => A ++ v :: B) x r) : Ev X (List.replicate X.length r) P := fun i hi => by
  obtain ⟨A, x, B, rfl, rfl⟩ := pick hi
  exact ⟨_, x, r, fun v => cut_at, getD_at, by rw [List.getElem?_replicate, if_pos hi], h0 A x B rfl⟩
theorem lastOcc_at {R : Str} {A B : List Nat} {c : Nat} (e : R.cps.toList = A ++ c :: B) (hB : c ∉ B) : Builtin.Str.lastOccurrence R ⟨#[c]⟩ 0 R.length = some A.length := by
  have hat : R.cps.toList[A.length]? = some c := by rw [e, List.getElem?_append_right (Nat.le_refl _), Nat.sub_self]; rfl
  have hlen : R.length = A.length + 1 + B.length := by
    show R.cps.size = _
    rw [← Array.length_toList, e, List.length_append, List.length_cons]; (first | lia | omega)
  have hA : StrLaws.At R ⟨#[c]⟩ R.length A.length := (StrLaws.subAt_one R c _).mpr hat
  rcases StrLaws.last_spec R ⟨#[c]⟩ with ⟨_, hn⟩ | ⟨i, h0, hi, hn⟩
  · exact absurd hA (hn _)
  · rw [h0]
    have hm := (StrLaws.subAt_one R c i).mp hi
    have h1 : ¬ A.length < i := fun hlt => hB (by
      rw [e, List.getElem?_append_right (by (first | lia | omega))] at hm
      rw [show i - A.length = (i - A.length - 1) + 1 by (first | lia | omega), List.getElem?_cons_succ] at hm
      exact List.mem_of_getElem? hm)
    have h2 : ¬ i < A.length := fun hlt => hn _ hlt hA
    rw [show i = A.length by (first | lia | omega)]
end Mine
end
section
open PySem PySem.W PyProof.Rows
namespace Mine

/-- what is due, by the role's sign -/
inductive DueC (J : Nat) (m v P : Int) (i : Nat) (x : Int) : Nat → Str ⊕ Int → Prop
  | c : DueC J m v P i x 99 (.inl (Str.ofString "error_reply"))
  | b : DueC J m v P i x 98 (.inl (Str.ofString "error_proto"))
  | m : DueC J m v P i x 109 (.inl (Str.ofString "error_proto"))
  | t : DueC J m v P i x 116 (.inr P)
  | l : DueC J m v P i x 108 (if v = 62 then .inl (Str.ofString "error_proto") else .inr P)
  | f : DueC J m v P i x 102 (if v = m ∨ v = 63 then .inl (Str.ofString "error_proto") else .inr P)
  | d (k : Nat) (hJ : J = i + k) (hk : k ≤ 4) (hx : 52 ≤ x ∧ x ≤ 61) : DueC J m v P i x 100 (if v = m ∨ v = 63 then .inl (Str.ofString "error_proto") else if v < 52 ∨ v > 61 then .inl (Str.ofString "ValueError") else .inr (P + (v - x) * 10 ^ k))
theorem in_64 {x : Int} (h : 52 ≤ x ∧ x ≤ 61) : 0 ≤ x ∧ x < 64 := ⟨Int.le_trans (by decide) h.1, Int.lt_of_le_of_lt h.2 (by decide)⟩
theorem DueC.is {J : Nat} {m v P x : Int} {i c : Nat} {an : Str ⊕ Int} {R : Str} {FG : List Int} (h : DueC J m v P i x c an) (hc : R.cps.toList[i]? = some c) (h5 : FG.getD (Int.toNat 5) 0 = m) (hx : FG.getD i 0 = x)
    (hJ : Builtin.Str.lastOccurrence R ⟨#[100]⟩ 0 R.length = some J) (hv : 0 ≤ v ∧ v < 64) (hP : 0 ≤ P ∧ P < 10 ^ 5) : DueIs R i v P FG an := by
  have it : ∀ {y : Str}, y = ⟨#[c]⟩ → Txt.item R (i : Int) = y := fun e => e ▸ item_at hc
  subst h5 hx
  cases h with
  | c => exact .inl ⟨it (by decide +kernel), rfl⟩
  | b => exact .inr (.inl ⟨it (by decide +kernel), rfl⟩)
  | m => exact .inr (.inr (.inl ⟨it (by decide +kernel), rfl⟩))
  | t => exact .inr (.inr (.inr (.inl ⟨it (by decide +kernel), rfl⟩)))
  | l => exact .inr (.inr (.inr (.inr (.inl ⟨it (by decide +kernel), rfl⟩))))
  | f => exact .inr (.inr (.inr (.inr (.inr (.inl ⟨it (by decide +kernel), rfl⟩)))))
  | d k hJ' hk hx =>
    have e : Str.ofString "d" = ⟨#[100]⟩ := by decide +kernel
    subst hJ'
    exact .inr (.inr (.inr (.inr (.inr (.inr ⟨it e, i + k, e ▸ hJ, Nat.le_add_right _ _, Nat.add_le_add_left hk _, hv, hP, in_64 hx, by rw [Int.toNat_sub, Nat.add_sub_cancel_left]; rfl⟩)))))
noncomputable def Pl (J : Nat) (m v P : Int) (i : Nat) (f : Int → List Int) (x : Int) (c : Nat) : Prop := v ≠ x → (∀ y ∈ f v, 0 ≤ y ∧ y < 64) → ∃ an, ToldA (S3 (f v)) an ∧ DueC J m v P i x c an
theorem snoc_in {P : Int → Prop} {A B : List Int} {x v : Int} (h : ∀ y ∈ A ++ x :: B, P y) (hv : P v) : ∀ y ∈ A ++ v :: B, P y := fun y hy => by
  rcases List.mem_append.mp hy with hy | hy
  · exact h y (List.mem_append_left _ hy)
  · rcases List.mem_cons.mp hy with rfl | hy
    · exact hv
    · exact h y (List.mem_append_right _ (List.mem_cons_of_mem _ hy))
theorem last_d {a b k d : Nat} (h : d = a + b + 1) (h5 : d ≤ 5) : 8 + k + d = (k + (a + 1 + 1 + 1)) + 1 + 1 + 1 + 1 + 1 + 1 + b ∧ b ≤ 4 ∧ d ≤ 640 := by (first | lia | omega)
theorem lastD {R : Str} {k d t : Nat} (h : 0 < d) (hR : R.cps.toList = 99 :: 99 :: 99 :: 108 :: 98 :: 109 :: (List.replicate k 102 ++ 109 :: 102 :: 109 :: (List.replicate d 100 ++ 109 :: 98 :: List.replicate t 116))) : Builtin.Str.lastOccurrence R ⟨#[100]⟩ 0 R.length = some (8 + k + d) := by
  obtain ⟨d, rfl⟩ := Nat.exists_eq_succ_of_ne_zero (Nat.ne_of_gt h)
  refine (lastOcc_at (A := 99 :: 99 :: 99 :: 108 :: 98 :: 109 :: (List.replicate k 102 ++ 109 :: 102 :: 109 :: List.replicate d 100)) (B := 109 :: 98 :: List.replicate t 116) ?_ ?_).trans ?_
  · rw [hR, List.replicate_succ', List.append_assoc (List.replicate d 100)]
    show _ = 99 :: 99 :: 99 :: 108 :: 98 :: 109 :: ((List.replicate k 102 ++ 109 :: 102 :: 109 :: List.replicate d 100) ++ _)
    rw [List.append_assoc]
    rfl
  · intro q
    rcases List.mem_cons.mp q with q | q
    · cases q
    · rcases List.mem_cons.mp q with q | q
      · cases q
      · cases List.eq_of_mem_replicate q
  · rw [List.length_cons, List.length_cons, List.length_cons, List.length_cons, List.length_cons, List.length_cons, List.length_append, List.length_cons, List.length_cons, List.length_cons, List.length_replicate, List.length_replicate]
    congr 1
    (first | lia | omega)
/-- the plain law: whatever figure is changed, what comes is what is due -/
theorem plain3 {l m o v P : Int} {fs D tl FG : List Int} {R : Str} {i : Nat} (H : Rep3 l m o fs D) (ht : ∀ t ∈ tl, 0 ≤ t ∧ t ≤ 61) (hFG : FG = 54 :: 54 :: 61 :: l :: 62 :: m :: (fs ++ m :: o :: m :: (D ++ m :: 63 :: tl))) (hFGl : FG.length ≤ 100)
    (hR : R.cps.toList = 99 :: 99 :: 99 :: 108 :: 98 :: 109 :: (List.replicate fs.length 102 ++ 109 :: 102 :: 109 :: (List.replicate D.length 100 ++ 109 :: 98 :: List.replicate tl.length 116))) (hP : val 10 (D.map (· - 52)) = P) (hP5 : 0 ≤ P ∧ P < 10 ^ 5)
    (hi : i < FG.length) (hv : 0 ≤ v ∧ v < 64) (hne : v ≠ FG.getD i 0) (hall : ∀ x ∈ FG.take i ++ v :: FG.drop (i + 1), 0 ≤ x ∧ x < 64) : ∃ an, ToldA (S3 (FG.take i ++ v :: FG.drop (i + 1))) an ∧ DueIs R i v P FG an := by
  have hJ : Builtin.Str.lastOccurrence R ⟨#[100]⟩ 0 R.length = some (8 + fs.length + D.length) := lastD H.dl.1 hR
  have h5 : FG.getD (Int.toNat 5) 0 = m := by rw [hFG]; rfl
  have key : Ev FG R.cps.toList (Pl (8 + fs.length + D.length) m v P) := by
    clear hJ h5 hall hne hi
    rw [hR]
    subst hFG
    have hread : ReadIs (S3 D) (.inr P) := .inr ⟨P, hP ▸ S3_read H.d0 (fun q => absurd (q ▸ H.dl.1) (by decide)) (Nat.le_trans H.dl.2 (by decide)), rfl⟩
    refine Ev_cons (fun n k => ⟨_, told_word (fate_reply (k _ (.head _)) (k _ (.tail _ (.head _))) (k _ (.tail _ (.tail _ (.head _)))) fun q => n q.1), .c⟩) (Ev_cons (fun n k => ⟨_, told_word (fate_reply (k _ (.head _)) (k _ (.tail _ (.head _))) (k _ (.tail _ (.tail _ (.head _)))) fun q => n q.2.1), .c⟩)
      (Ev_cons (fun n k => ⟨_, told_word (fate_reply (k _ (.head _)) (k _ (.tail _ (.head _))) (k _ (.tail _ (.tail _ (.head _)))) fun q => n q.2.2), .c⟩) (Ev_cons (fun _ k => ⟨_, t_l H hFGl k hread, .l⟩) (Ev_cons (fun n k => ⟨_, t_b1 H hFGl n k ht, .b⟩) (Ev_cons (fun n k => ⟨_, t_m1 H hFGl n k, .m⟩)
      (Ev_app (fun f1 x f2 e _ k => ⟨_, t_f H hFGl e k hread, .f⟩) (Ev_cons (fun n k => ⟨_, t_m2 H hFGl n k, .m⟩) (Ev_cons (fun _ k => ⟨_, t_o H hFGl k hread, .f⟩) (Ev_cons (fun n k => ⟨_, t_m3 H hFGl n k, .m⟩)
      (Ev_app (fun e1 x e2 e n k => ?_) (Ev_cons (fun n k => ⟨_, t_m4 H hFGl n k, .m⟩) (Ev_cons (fun n k => ⟨_, t_b2 H hFGl n k ht, .b⟩) (Ev_all fun t1 x t2 e _ k => ⟨_, t_t H hFGl k (by rw [e, len_mid, len_mid]) hread, .t⟩)))))))))))))
    have hD := H.d0
    rw [e] at hD
    have hx := hD x (List.mem_append_right _ (.head _))
    obtain ⟨j1, j2, j3⟩ := last_d (k := fs.length) (e ▸ len_mid x) H.dl.2
    refine ⟨_, t_d H hFGl e k fun _ => ?_, .d e2.length j1 j2 hx⟩
    have hle : (e1 ++ v :: e2).length ≤ 640 := by rw [len_mid v, ← len_mid x, ← e]; exact j3
    have hne0 : e1 ++ v :: e2 ≠ [] := fun q => by have := congrArg List.length q; rw [len_mid] at this; cases this
    by_cases hq : v < 52 ∨ v > 61
    · rw [if_pos hq]
      exact .inl ⟨S3_odd hne0 (snoc_in (fun y hy => in_64 (hD y hy)) hv) ⟨v, List.mem_append_right _ (.head _), fun q => hq.elim (Int.not_lt.mpr q.1) (Int.not_lt.mpr q.2)⟩, rfl⟩
    · rw [if_neg hq]
      refine .inr ⟨_, ?_, rfl⟩
      rw [S3_read (snoc_in hD ⟨Int.not_lt.mp fun q => hq (.inl q), Int.not_lt.mp fun q => hq (.inr q)⟩) hne0 hle, port_turn (x := x), ← e, hP]
  obtain ⟨f, x, c, e1, e2, e3, e4⟩ := key i hi
  rw [e2] at hne
  rw [e1 v] at hall ⊢
  obtain ⟨an, h1, h2⟩ := e4 hne hall
  exact ⟨an, h1, h2.is e3 h5 e2 hJ hv hP5⟩
end Mine
end
section
open PySem PySem.W PyProof.Rows
namespace Mine

/-- the law's values before its loops -/
structure Law3 (R : Str) (FG : List Int) (P : Int) : Prop where
  len : R.length = FG.length
  fin : ∀ d ∈ FG, 0 ≤ d ∧ d < 64
  f4 : FG.length % 4 = 0
  fl : FG.length ≤ 100
  f5 : 5 < FG.length
  p : 0 ≤ P ∧ P < 10 ^ 5
  key : ∀ (i : Nat) (v : Int), i < FG.length → 0 ≤ v ∧ v < 64 → v ≠ FG.getD i 0 → (∀ x ∈ FG.take i ++ v :: FG.drop (i + 1), 0 ≤ x ∧ x < 64) → ∃ an, ToldA (S3 (FG.take i ++ v :: FG.drop (i + 1))) an ∧ DueIs R i v P FG an
theorem port_in {S P : Int} (hP : P = (S.fdiv 13).fmod 1000 * 100 + 89) : 0 ≤ P ∧ P < 10 ^ 20 ∧ P < 10 ^ 5 := by
  rw [Int.fdiv_eq_ediv_of_nonneg _ (by decide), Int.fmod_eq_emod_of_nonneg _ (by decide)] at hP
  (first | lia | omega)
theorem numS_len {k : Int} (h0 : 0 ≤ k) (h1 : k < 10 ^ 20) : (numS k).length ≤ 20 := by
  have hl := decN_len h1
  have hc := numS_cps h0
  have hsz : (numS k).cps.size = (decN k).length := by rw [← hc]; simp
  show (numS k).cps.size ≤ 20
  (first | lia | omega)
theorem digits5 {k : Int} (h0 : 0 ≤ k) (h1 : k < 10 ^ 5) : (decN k).length ≤ 5 := by
  unfold decN
  rw [List.length_map]
  refine digits10_le (by decide) ?_
  have : (10 : Int) ^ 5 = ((10 ^ 5 : Nat) : Int) := rfl
  (first | lia | omega)
theorem Dg_len {P : Int} {Dg : List Int} (h0 : 0 ≤ P) (h1 : P < 10 ^ 5) (hDg : Dg = (decN P).map fun (c : Nat) => 52 + ((c : Int) - 48)) : Dg.length ≤ 5 := by
  rw [hDg, List.length_map]
  exact digits5 h0 h1
theorem fmod_in {S k : Int} (h : 0 ≤ k) : 0 ≤ S.fmod (k + 1) ∧ S.fmod (k + 1) ≤ k := by
  have h1 : 0 < k + 1 := Int.lt_add_one_of_le h
  rw [Int.fmod_eq_emod_of_nonneg _ (Int.le_of_lt h1)]
  exact ⟨Int.emod_nonneg _ (Int.ne_of_gt h1), Int.le_of_lt_add_one (Int.emod_lt_of_pos _ h1)⟩
theorem mk_in {S mk : Int} (hmk : mk = S.fmod 52) : 0 ≤ mk ∧ mk ≤ 51 := hmk ▸ fmod_in (k := 51) (by decide)
theorem f62_in {S : Int} : 0 ≤ S.fmod 62 ∧ S.fmod 62 ≤ 61 := fmod_in (k := 61) (by decide)
theorem num_b1 {a b : Nat} : 6 + (a + 2) + 1 + b + 2 = 11 + a + b := by lia
theorem num_b2 {a b : Nat} (ha : a ≤ 3) (hb : b ≤ 5) : 11 + a + b ≤ 20 := by lia
theorem bl_len {bl fs Dg : List Int} {a b c d e f : Int} (hbl : bl = [54, 54, 61, a, 62, b] ++ (fs ++ [c, d]) ++ [e] ++ Dg ++ [f, 63]) (hfl : fs.length ≤ 3) (hDl : Dg.length ≤ 5) : bl.length = 11 + fs.length + Dg.length ∧ bl.length ≤ 20 := by
  have h : bl.length = 11 + fs.length + Dg.length := by rw [hbl, List.length_append, List.length_append, List.length_append, List.length_append, List.length_append]; exact num_b1
  exact ⟨h, h ▸ num_b2 hfl hDl⟩
theorem sp_in {sp : Int} {n : Nat} (hsp : sp = (-(n : Int)).fmod 4) : 0 ≤ sp ∧ sp ≤ 20 ∧ sp < 4 ∧ ((n : Int) + sp) % 4 = 0 := by
  obtain ⟨s0, s3⟩ := fmod_in (S := -(n : Int)) (k := 3) (by decide)
  refine ⟨hsp ▸ s0, hsp ▸ Int.le_trans s3 (by decide), hsp ▸ Int.lt_of_le_of_lt s3 (by decide), ?_⟩
  rw [hsp, Int.fmod_eq_emod_of_nonneg _ (by decide), Int.add_emod_emod, Int.add_right_neg]
  rfl
theorem tail_len {sp x : Int} (h : 0 ≤ sp) : ((List.replicate sp.toNat [x]).flatten.length : Int) = sp := by
  rw [List.length_flatten, List.map_replicate]
  rw [List.sum_replicate_nat]
  show ((sp.toNat * 1 : Nat) : Int) = sp
  rw [Nat.mul_one, Int.toNat_of_nonneg h]
theorem num_fl {n t f : Nat} {sp : Int} (h4 : sp < 4) (hm : ((n : Int) + sp) % 4 = 0) (hs : (t : Int) = sp) (hb : n ≤ 20) (e : f = n + t) : f ≤ 100 ∧ f % 4 = 0 := by lia
theorem FG_len {bl FG : List Int} {sp x : Int} (hsp : 0 ≤ sp ∧ sp < 4 ∧ ((bl.length : Int) + sp) % 4 = 0) (hb : bl.length ≤ 20) (hFG : FG = bl ++ (List.replicate sp.toNat [x]).flatten) : FG.length ≤ 100 ∧ FG.length % 4 = 0 := by
  have h := tail_len (x := x) hsp.1
  have e : FG.length = bl.length + (List.replicate sp.toNat [x]).flatten.length := by rw [hFG, List.length_append]
  exact num_fl hsp.2.1 hsp.2.2 h hb e
theorem num_d {c : Nat} (h : 48 ≤ c ∧ c ≤ 57) : 52 ≤ 52 + ((c : Int) - 48) ∧ 52 + ((c : Int) - 48) ≤ 61 := by lia
theorem num_fg {fs Dg T : List Int} {a b c d e f g h i j k : Int} : [a, b, c, d, e, f] ++ (fs ++ [g, h]) ++ [i] ++ Dg ++ [j, k] ++ T = a :: b :: c :: d :: e :: f :: (fs ++ g :: h :: i :: (Dg ++ j :: k :: T)) := by simp only [List.append_assoc, List.cons_append, List.nil_append]
theorem num_rn {A B C : List Nat} {a b c d e f g h i j k : Nat} : [a, b, c, d, e, f] ++ A ++ [g, h, i] ++ B ++ [j, k] ++ C = a :: b :: c :: d :: e :: f :: (A ++ g :: h :: i :: (B ++ j :: k :: C)) := by simp only [List.append_assoc, List.cons_append, List.nil_append]
theorem num_ln {fs Dg T : List Int} {a b c d e f g h i j k : Nat} {a' b' c' d' e' f' g' h' i' j' k' : Int} : (a :: b :: c :: d :: e :: f :: (List.replicate fs.length 102 ++ g :: h :: i :: (List.replicate Dg.length 100 ++ j :: k :: List.replicate T.length 116))).length = (a' :: b' :: c' :: d' :: e' :: f' :: (fs ++ g' :: h' :: i' :: (Dg ++ j' :: k' :: T))).length := by simp only [List.length_append, List.length_replicate, List.length_cons]
theorem law3_of {nums : List Int} {S mk P sp : Int} {fs Dg bl FG : List Int} {R : Str} (hnl : nums.length ≤ 3) (hmk : mk = S.fmod 52) (hP : P = (S.fdiv 13).fmod 1000 * 100 + 89) (hDg : Dg = (decN P).map fun (c : Nat) => 52 + ((c : Int) - 48))
    (hfs : fs = nums.map fun k => oth k mk) (hbl : bl = [54, 54, 61, (S.fdiv 52).fmod 62, 62, mk] ++ (fs ++ [mk, oth (S.fdiv 700) mk]) ++ [mk] ++ Dg ++ [mk, 63]) (hsp : sp = (-(bl.length : Int)).fmod 4) (hFG : FG = bl ++ (List.replicate sp.toNat [S.fmod 62]).flatten)
    (hR : R.cps.toList = [99, 99, 99, 108, 98, 109] ++ List.replicate (nums.length : Int).toNat 102 ++ [109, 102, 109] ++ List.replicate (Dg.length : Int).toNat 100 ++ [109, 98] ++ List.replicate sp.toNat 116) : Law3 R FG P := by
  obtain ⟨p0, p20, p5⟩ := port_in hP
  have hmk5 := mk_in hmk
  have hDl := Dg_len p0 p5 hDg
  have hfn : fs.length = nums.length := by rw [hfs, List.length_map]
  have hfl : fs.length ≤ 3 := by rw [hfn]; exact hnl
  obtain ⟨hb1, hb20⟩ := bl_len hbl hfl hDl
  obtain ⟨s0, s20, s4, sm⟩ := sp_in hsp
  obtain ⟨hF1, hF4⟩ := FG_len ⟨s0, s4, sm⟩ hb20 hFG
  have hRep : Rep3 ((S.fdiv 52).fmod 62) mk (oth (S.fdiv 700) mk) fs Dg := by
    refine ⟨f62_in, hmk5, oth_ok _ hmk5, ?_, ?_, ?_, hfl⟩
    · rw [hfs]
      intro f hf
      obtain ⟨k, _, rfl⟩ := List.mem_map.mp hf
      exact oth_ok _ hmk5
    · rw [hDg]
      intro d hd
      obtain ⟨c, hc, rfl⟩ := List.mem_map.mp hd
      exact num_d (decN_digits P c hc)
    · refine ⟨?_, hDl⟩
      rw [hDg, List.length_map]
      exact List.length_pos_iff.mpr (decN_ne P)
  have hTl : ∀ t ∈ (List.replicate sp.toNat [S.fmod 62]).flatten, 0 ≤ t ∧ t ≤ 61 := tail_in f62_in
  have hFGin : ∀ d ∈ FG, 0 ≤ d ∧ d < 64 := by rw [hFG, hbl]; exact FG_in hRep hTl
  have htl : ((List.replicate sp.toNat [S.fmod 62]).flatten).length = sp.toNat := by have := tail_len (x := S.fmod 62) s0; rw [← Int.toNat_of_nonneg s0] at this; exact Int.ofNat.inj this
  have hFGN : FG = 54 :: 54 :: 61 :: ((S.fdiv 52).fmod 62) :: 62 :: mk :: (fs ++ mk :: (oth (S.fdiv 700) mk) :: mk :: (Dg ++ mk :: 63 :: (List.replicate sp.toNat [S.fmod 62]).flatten)) := by rw [hFG, hbl]; exact num_fg
  have hRN : R.cps.toList = 99 :: 99 :: 99 :: 108 :: 98 :: 109 :: (List.replicate fs.length 102 ++ 109 :: 102 :: 109 :: (List.replicate Dg.length 100 ++ 109 :: 98 :: List.replicate ((List.replicate sp.toNat [S.fmod 62]).flatten).length 116)) := by
    rw [hR, htl, Int.toNat_natCast, Int.toNat_natCast, hfn]
    exact num_rn
  have hlen : R.length = FG.length := by
    show R.cps.size = _
    rw [← Array.length_toList, hRN, hFGN]
    exact num_ln
  refine ⟨hlen, hFGin, hF4, hF1, ?_, ⟨p0, p5⟩, fun i v hi hv hne hall => plain3 hRep hTl hFGN hF1 hRN (by rw [hDg]; exact port_val p0 p20) ⟨p0, p5⟩ hi hv hne hall⟩
  rw [hFGN]
  simp only [List.length_cons]
  exact Nat.lt_of_lt_of_le (by decide) (Nat.le_add_left 6 _)
theorem shr_128 {r : Nat} (h : r < 8) : Int.fdiv 128 (2 ^ (r : Int).toNat) = 2 ^ (7 - r) := by
  have key : ∀ r : Fin 8, Int.fdiv 128 (2 ^ (r.val : Int).toNat) = 2 ^ (7 - r.val) := by decide +kernel
  exact key ⟨r, h⟩
theorem cut_is {OC : List Int} {q r : Nat} (hq : q < OC.length) (hr : r < 8) :
    List.take (min q OC.length) OC ++ [Builtin.bitXor (OC.getD (q : Int).toNat 0) (Int.fdiv 128 (2 ^ (r : Int).toNat))] ++ List.take (OC.length - clipAt OC.length ((q : Int) + 1)) (List.drop (clipAt OC.length ((q : Int) + 1)) OC) =
    OC.take q ++ Builtin.bitXor (OC.getD q 0) (2 ^ (7 - r)) :: OC.drop (q + 1) := by
  have hclip : clipAt OC.length ((q : Int) + 1) = q + 1 := by
    exact (PySem.clipAt_nat OC.length (q + 1)).trans (Nat.min_eq_left hq)
  have ht : List.take (OC.length - (q + 1)) (List.drop (q + 1) OC) = List.drop (q + 1) OC := List.take_of_length_le (by rw [List.length_drop]; exact Nat.le_refl _)
  rw [hclip, ht, shr_128 hr, Nat.min_eq_left (Nat.le_of_lt hq), Int.toNat_natCast, List.append_assoc]
  rfl
theorem one_in {OC : List Int} {q r : Nat} (h : ∀ x ∈ OC, 0 ≤ x ∧ x < 256) (hq : (q : Int) < (OC.length : Int)) (hr : r < 8) : KBa.In [Builtin.bitXor (OC.getD (q : Int).toNat 0) (Int.fdiv 128 (2 ^ (r : Int).toNat))] := by
  have hx := h (OC.getD (q : Int).toNat 0) (by
    exact getD_mem (Int.ofNat_lt.mp hq))
  rw [shr_128 hr]
  intro x hx'
  rw [List.mem_singleton.mp hx']
  exact xor_in (B := 256) (c := 8) (b := 7 - r) (by decide) (Nat.lt_of_le_of_lt (Nat.sub_le _ _) (by decide)) hx
/-- the bit's place among the octets -/
inductive Divq (i : Nat) (b : Int) : Prop | mk (q r : Nat) (_ : (6 * (i : Int) + 5 - b).fdiv 8 = (q : Int)) (_ : (6 * (i : Int) + 5 - b).fmod 8 = (r : Int)) (_ : 8 * q + r + b.toNat = 6 * i + 5) (_ : r < 8) : Divq i b
theorem divq (i : Nat) {b : Int} (hb : 0 ≤ b ∧ b ≤ 5) : Divq i b := by
  obtain ⟨x, hx⟩ : ∃ x : Nat, 6 * (i : Int) + 5 - b = (x : Int) := ⟨(6 * (i : Int) + 5 - b).toNat, (Int.toNat_of_nonneg (by lia)).symm⟩
  refine ⟨x / 8, x % 8, ?_, ?_, ?_, Nat.mod_lt _ (by decide)⟩
  · rw [hx, Int.fdiv_eq_ediv_of_nonneg _ (by decide)]; rfl
  · rw [hx, Int.fmod_eq_emod_of_nonneg _ (by decide)]; rfl
  · rw [Nat.div_add_mod]; lia
theorem num_oc {o f : Nat} (h : o = 3 * f / 4) (h4 : f % 4 = 0) (hl : f ≤ 100) : 4 * o = 3 * f ∧ o ≤ 75 := by lia
theorem oc_len {FG OC : List Int} (hO : OC = dig 256 (3 * FG.length / 4) (val 64 FG)) (h4 : FG.length % 4 = 0) (hl : FG.length ≤ 100) : 4 * OC.length = 3 * FG.length ∧ OC.length ≤ 75 := by
  have hOl : OC.length = 3 * FG.length / 4 := by rw [hO, dig_length]
  exact num_oc hOl h4 hl
theorem oc_in {FG OC : List Int} (hO : OC = dig 256 (3 * FG.length / 4) (val 64 FG)) : ∀ x ∈ OC, 0 ≤ x ∧ x < 256 := by rw [hO]; exact dig_in 256 (by decide) _ _
theorem q_lt {FG OC : List Int} {i q r b : Nat} (hO : 4 * OC.length = 3 * FG.length) (hi : i < FG.length) (hqr : 8 * q + r + b = 6 * i + 5) : q < OC.length := by (first | lia | omega)
theorem num_34 {o f : Nat} (h : 4 * o = 3 * f) : 4 * o / 3 = f ∧ o % 3 = 0 := by lia
inductive TurnS (R : Str) (P : Int) (FG : List Int) (i b : Nat) (tb : Array UInt8) : Prop
  | mk (FT : List Int) (an : Str ⊕ Int) (_ : tb.size ≤ 1000) (_ : tb.size % 3 = 0) (_ : dig 64 (4 * tb.size / 3) (Vb (KBw.bInts tb)) = FT) (_ : ∀ d ∈ FT, 0 ≤ d ∧ d < 64) (_ : 0 < FT.length) (_ : FT.length ≤ 1000) (_ : ToldA (S3 FT) an) (_ : DueIs R i (Builtin.bitXor (FG.getD (i : Int).toNat 0) (2 ^ b)) P FG an) : TurnS R P FG i b tb
/-- what the octets with a bit turned are written as -/
theorem turn_step {R : Str} {P : Int} {FG OC : List Int} {tb : Array UInt8} {i q r b : Nat} (H : Law3 R FG P) (hO : OC = dig 256 (3 * FG.length / 4) (val 64 FG)) (hi : i < FG.length) (hb : b < 6) (hqr : 8 * q + r + b = 6 * i + 5) (hr : r < 8)
    (hkt : KBw.bInts tb = List.take (min q OC.length) OC ++ [Builtin.bitXor (OC.getD (q : Int).toNat 0) (Int.fdiv 128 (2 ^ (r : Int).toNat))] ++ List.take (OC.length - clipAt OC.length ((q : Int) + 1)) (List.drop (clipAt OC.length ((q : Int) + 1)) OC)) :
    TurnS R P FG i b tb := by
  obtain ⟨hOn, hO75⟩ := oc_len hO H.f4 H.fl
  have hq := q_lt hOn hi hqr
  rw [cut_is hq hr] at hkt
  have hts : tb.size = OC.length := by
    rw [← KBw.ints_length tb, hkt, List.length_append, List.length_cons, ← Nat.succ_add_eq_add_succ]
    exact cut_len hq
  have hF4 := H.f4
  have hFl := H.fl
  have hin := turned_in H.fin hi hb
  have e : 4 * tb.size / 3 = FG.length := by rw [hts]; exact (num_34 hOn).1
  have hFT : dig 64 (4 * tb.size / 3) (Vb (KBw.bInts tb)) = FG.take i ++ Builtin.bitXor (FG.getD i 0) (2 ^ b) :: FG.drop (i + 1) := by
    rw [hkt, Vb_val, e]
    exact turn3 H.fin hO H.f4 hi hq hr hb hqr
  obtain ⟨an, h1, h2⟩ := H.key i (Builtin.bitXor (FG.getD i 0) (2 ^ b)) hi (xor_in (B := 64) (c := 6) (by decide) hb (H.fin _ (getD_mem hi))) xor_ne hin
  have hlen := turned_len (bn := b) hi
  refine ⟨_, an, by rw [hts]; exact Nat.le_trans hO75 (by decide), by rw [hts]; exact (num_34 hOn).2, hFT, hin, ?_, ?_, h1, by rw [Int.toNat_natCast]; exact h2⟩
  · rw [hlen]; exact Nat.zero_lt_of_lt hi
  · rw [hlen]; exact Nat.le_trans hFl (by decide)
theorem nums_in {ks nums : List Int} (h : nums = (ks.take 3).map fun k => k % 10 ^ 6) : nums.length ≤ 3 ∧ 0 ≤ nums.sum ∧ nums.sum ≤ 3 * 10 ^ 6 := by
  have key : ∀ l : List Int, 0 ≤ (l.map fun k : Int => k % 10 ^ 6).sum ∧ (l.map fun k : Int => k % 10 ^ 6).sum ≤ (l.length : Int) * 10 ^ 6 := by
    intro l
    induction l with
    | nil => simp
    | cons x l ih =>
      rw [List.map_cons, List.sum_cons, List.length_cons]
      (first | lia | omega)
  have h3 : (ks.take 3).length ≤ 3 := by rw [List.length_take]; (first | lia | omega)
  have k3 := key (ks.take 3)
  subst h
  rw [List.length_map]
  exact ⟨h3, k3.1, Int.le_trans k3.2 (by (first | lia | omega))⟩
theorem numS_room {k : Int} (h0 : 0 ≤ k) (h1 : k < 10 ^ 20) : (numS k).cps.size ≤ sizeLine := by
  have := numS_len h0 h1
  rw [sizeLine_eq]
  exact Nat.le_trans this (by decide)
theorem numS_asc {k : Int} (h0 : 0 ≤ k) : (numS k).cps.all (· < 128) = true := by
  rw [← Array.all_toList, numS_cps h0, List.all_eq_true]
  intro c hc'
  have := decN_digits k c hc'
  exact decide_eq_true (Nat.lt_of_le_of_lt this.2 (by decide))
theorem digs_of {P : Int} {dzs : List Value} (h0 : 0 ≤ P) (hz2 : dzs.length = (numS P).cps.size) (hj2 : ∀ j y, dzs[j]? = some y → ∃ t, y = Value.int (52 + (((decN P).getD (0 + j) 0 : Nat) - 48 : Int)) t) : IntsAre dzs ((decN P).map fun (c : Nat) => 52 + ((c : Int) - 48)) := by
  have hszN : (numS P).cps.size = (decN P).length := by rw [← numS_cps h0]; simp
  have := ints_of (f := fun i => 52 + (((decN P).getD i 0 : Int) - 48)) dzs 0 hj2
  rw [hz2, hszN] at this
  have e : ((List.range (decN P).length).map fun j => 52 + ((((decN P).getD (0 + j) 0 : Nat) : Int) - 48)) = (decN P).map fun (c : Nat) => 52 + ((c : Int) - 48) := by
    refine List.ext_getElem? fun j => ?_
    rw [List.getElem?_map, List.getElem?_map]
    by_cases hj : j < (decN P).length
    · simp [hj]
    · simp [hj]
  rw [← e]
  exact this
theorem digs_at {P : Int} {i c : Nat} (h0 : 0 ≤ P) (h : (numS P).cps[i]? = some c) : (decN P)[i]? = some c ∧ (48 ≤ c ∧ c ≤ 57) := by
  have hcl : (decN P)[i]? = some c := by rw [← numS_cps h0]; simpa using h
  exact ⟨hcl, decN_digits P c (List.mem_of_getElem? hcl)⟩
theorem getD_of {l : List Nat} {i c : Nat} (h : l[i]? = some c) : l.getD i 0 = c := by rw [List.getD_eq_getElem?_getD, h]; rfl
theorem getDI_of {l : List Int} {i : Nat} {c : Int} (h : l[i]? = some c) : l.getD i 0 = c := by rw [List.getD_eq_getElem?_getD, h]; rfl
theorem vs_room {vs : List Value} {ns : List Int} {k : Nat} (hI : IntsAre vs ns) (h : ns.length ≤ k) (hk : k ≤ 1000) : vs.toArray.size ≤ sizeLine := by
  rw [sizeLine_eq, List.size_toArray, hI.length]; (first | lia | omega)
theorem cast_20 {n k : Nat} (h : n ≤ k) (hk : k ≤ 20) : n ≤ 1000 ∧ 0 ≤ (n : Int) ∧ (n : Int) ≤ 20 := by (first | lia | omega)
theorem sizeI {vs : List Value} {ns : List Int} (h : IntsAre vs ns) : vs.toArray.size = ns.length := by rw [List.size_toArray]; exact h.length
theorem sizeI0 {vs : List Value} {ns : List Int} (h : IntsAre vs ns) : 0 + vs.toArray.size = ns.length := by rw [Nat.zero_add]; exact sizeI h
theorem b6 {b : Int} (h : 0 ≤ b ∧ b ≤ 5) : b.toNat < 6 := by (first | lia | omega)
theorem bit_j {j : Nat} {a : Int} (h : a = 0 ∨ a = 1) (hj : j < 3) : 0 ≤ a + (j : Int) * 2 ∧ a + (j : Int) * 2 ≤ 5 := by lia
theorem bits_in (i : Nat) (S : Int) : ∃ a, a = ((i : Int) + S).fmod 2 ∧ (∀ j : Nat, j < 3 → 0 ≤ a + (j : Int) * 2 ∧ a + (j : Int) * 2 ≤ 5) ∧ Builtin.Range.small a 6 2 = true ∧ Builtin.Range.rangeSize a 6 2 = ((3 : Nat) : Int) := by
  refine ⟨_, rfl, ?_⟩
  rcases Int.emod_two_eq ((i : Int) + S) with h | h <;> rw [Int.fmod_eq_emod_of_nonneg _ (by decide), h]
  · exact ⟨fun j hj => bit_j (.inl rfl) hj, by decide, by decide⟩
  · exact ⟨fun j hj => bit_j (.inr rfl) hj, by decide, by decide⟩
theorem not_in {z a : Str} {l : List Str} (h : (a :: l).contains z = false) : z ≠ a ∧ l.contains z = false := by
  rw [List.contains_cons, Bool.or_eq_false_iff] at h
  exact ⟨ne_of_beq_false h.1, h.2⟩
end Mine
end
section
open PySem PySem.W PyProof.Rows
namespace Mine

section
open PyProof.Rows.LCg
/-- a name set to a comprehension over any source -/
theorem Assign_LV {prog : Program} {w : World} {A : Around} {E : Value → Shared → Prop} {s : Shared} {h₀ : Heap} {L : Addr} {m : Str → Option Value} {env : Env} {elt iter : Expr} {x y : Str} {px py : Pos} {scope : Scope} {cl : List (Str × Addr)} {pos spos : Pos} {Q : Flow → Shared → Prop} (_F : Fr h₀ L s.heap m) (hLe : env.locals = L)
    (hsw : swapsWith (.ListComp elt [⟨.Name x px, iter, [], 0⟩] scope pos) (some (.Name y py)) spos.line env = pure true)
    (hclos : closureFor scope env = pure cl) (hcell : ∀ z ∈ scope.names, z.2 ≠ .cell) (hkind : scope.kind = .function)
    (hnames : ∀ z ∈ scope.names, z.2 = .local → scope.names.lookup z.1 = some .local) (hx : scope.names.lookup x = some .local)
    (hy : env.kindOf y = some .local) (hp : (env.scope.kind == .class || (env.scope.kind == .module && env.locals != env.globals)) = false)
    (h : wpAny (model prog w) A (eval iter env) (Hid (SrcV prog w A h₀ L m env elt x scope cl (fun s₂ => FinA h₀ L m s₂ y Q))) E s)
    (hs : ∀ x, foldedSetIterable iter env x = pure x := by intro _; rfl) :
    wpAny (model prog w) A (exec (.Assign [.Name y py] (.ListComp elt [⟨.Name x px, iter, [], 0⟩] scope pos) spos) env) Q E s := by
  subst hLe
  rw [exec_Assign_Name_used _ _ _ _ hsw]
  refine wpAny_bind (wpAny_standAt (wpAny_bind ?_))
  show wpAny _ A (do let _ ← comprehension (.ListComp elt [⟨.Name x px, iter, [], 0⟩] scope pos) scope env _ (newList []) false (eval iter env) (some (assign (.Name y py) env))) _ _ s
  refine wpAny_bind (wpAny_mono (wpAny_comprehension_free (use := some (assign (.Name y py) env)) (Q := fun _ s' => Q .next s') rfl hs hclos hkind hnames
    (wpAny_mono h (fun xv s₁ h₁ => ?_) fun _ _ e => e)) (fun _ s' hq => wpAny_pure (wpAny_pure hq)) fun _ _ e => e)
  obtain ⟨news, n, P, St, S, o, fp, F, N, hsz, hit, W, hfp, hIo, hSt, hst, hS, R⟩ := h₁
  refine hit _ _ ?_
  refine block_U W hsz hIo hSt hcell hkind hx hst (fun b hb => ?_)
      (F.keeps fun _ _ e => Heap.get?_push_of_some _ e) (N.grown fun _ _ e => Heap.get?_push_of_some _ e) (Nat.ne_of_lt F.ns.lt) (next_is_new F) (fun p hp => Nat.ne_of_lt (Heap.lt_size (N p hp).1)) hS (R _ ⟨_, rfl⟩) ?_
  · show b < (s₁.heap.push _).objs.size
    rw [Heap.size_push]; exact Nat.lt_succ_of_le (hfp b hb)
  · intro D C h' tk m' ys news' F' N' o1 hn hC₀ hD₀ hCL hDL hCD offC fin
    show wpAny _ A (assign (.Name y py) env (.ref D)) _ _ _
    refine wpAny_assign_Name (wpAny_storeName_local hy F'.ns (fun h₂ hn₂ hs₂ => ?_) hp)
    have hL₀ : h₀.get? env.locals = none := Heap.get?_none_of_le F'.above
    have F₂ : Fr h₀ env.locals h₂ (fun z => if z = y then some (.ref D) else m z) := ⟨hn₂, fun b o e => hs₂.extBut b o (fun q => by rw [q, hL₀] at e; cases e) (F'.keep b o e), F'.above⟩
    refine ⟨m', hn.sameBut hs₂ hCL, fun h'' hs'' => fin D h'' _ (F₂.change hs'' hCL hC₀) (fun p hp => ?_) o1⟩
    have z : h₂.get? p.1 = some p.2 := hs₂.extBut _ _ (N' p hp).2.1 (N' p hp).1
    refine ⟨hs''.extBut _ _ ?_ z, (N' p hp).2⟩
    rcases List.mem_cons.mp hp with rfl | hp
    · exact Ne.symm hCD
    · exact offC p hp
end
theorem str_num {prog : Program} {w : World} {A : Around} {E : Value → Shared → Prop} {s : Shared} {Q : Value → Shared → Prop} {k : Int} {u : Tok} (h0 : 0 ≤ k) (h1 : k < 10 ^ 20)
    (h : ∀ x, x = numS k → ∀ t tk, Q (.str x t) { s with toks := tk }) : wpAny (model prog w) A (call (.type "str") [.int k u]) Q E s :=
  P.str_of_int (shown (N := 2 ^ 1920) (by omega) (by have : (10 : Int) ^ 20 < 2 ^ 1920 := by decide +kernel
                                                     omega) (by decide +kernel)) (h _ rfl _ _)
theorem mul_signB {prog : Program} {w : World} {A : Around} {E : Value → Shared → Prop} {s : Shared} {Q : Value → Shared → Prop} {c : Nat} {x : Str} {i : Int} {t u : Tok} (hx : x = ⟨#[c]⟩) (h0 : 0 ≤ i) (h1 : i ≤ 20) (h : ∀ y, y.cps.toList = List.replicate i.toNat c → y.length ≤ 20 → ∀ t' k, Q (.str y t') { s with toks := k }) :
    wpAny (model prog w) A (binaryOp .Mult (.str x t) (.int i u)) Q E s := mul_sign hx h0 h1 fun y hy hl => h y hy (by omega)
theorem add_cpsB {prog : Program} {w : World} {A : Around} {E : Value → Shared → Prop} {s : Shared} {Q : Value → Shared → Prop} {x y : Str} {a b : List Nat} {t u : Tok} {k l : Nat} (hx : x.cps.toList = a) (hy : y.cps.toList = b) (kx : x.length ≤ k) (ky : y.length ≤ l) (hs : k + l ≤ 1000) (h : ∀ z, z.cps.toList = a ++ b → z.length ≤ k + l → ∀ t' k, Q (.str z t') { s with toks := k }) :
    wpAny (model prog w) A (binaryOp .Add (.str x t) (.str y u)) Q E s := add_cps hx hy (by omega) fun z hz hl => h z hz (by omega)
/-- what is known after the first statements is cut down to a claim of its own -/
noncomputable def CutQ (I : Shared → Prop) (f : Flow) (s : Shared) : Prop := f = .next ∧ I s
theorem wpC_cut (n : Nat) (I : Shared → Prop) {M : Model} {A : Around} {E : Value → Shared → Prop} {s : Shared} {env : Env} {body : List Stmt} {Q : Flow → Shared → Prop} (first : wpAny M A (execs (body.take n) env) (CutQ I) E s) (rest : ∀ s', I s' → wpC M A (execs (body.drop n) env) Q E s') :
    wpC M A (execs body env) Q E s :=
  wpC_execs_at n (wpAny_mono first (fun f s' h => by obtain ⟨rfl, h⟩ := h; exact rest s' h) fun _ _ e => e)
inductive At (s₁ : Shared) (L : Addr) (m : Str → Option Value) (led : List (Addr × Obj)) (s' : Shared) : Prop
  | mk (h : Heap) (tk : Nat) (_ : s' = { s₁ with heap := h, toks := tk }) (_ : Fr s₁.heap L h m) (_ : News s₁.heap L h led) : At s₁ L m led s'
theorem At.of {s₁ : Shared} {L : Addr} {m : Str → Option Value} {led led' : List (Addr × Obj)} {h : Heap} {tk : Nat} (F : Fr s₁.heap L h m) (N : News s₁.heap L h led) (hs : ∀ p ∈ led', p ∈ led) : At s₁ L m led' { s₁ with heap := h, toks := tk } := ⟨h, tk, rfl, F, fun p hp => N p (hs p hp)⟩
inductive I1 (s₁ : Shared) (L : Addr) (s' : Shared) : Prop
  | mk (m : Str → Option Value) (zs : List Value) (D : Addr) (nums : List Int) (S mk P : Int) (t1 t2 t3 : Tok) (oM oS : Obj) (v : Option Value) (_ : At s₁ L m [(D, LCg.lst zs), (L + 1 + 1, oS), (L + 1, oM)] s') (_ : IntsAre zs nums) (_ : nums.length ≤ 3) (_ : m (Str.ofString "numbers") = some (.ref D)) (_ : m (Str.ofString "total") = some (.int S t1)) (_ : m (Str.ofString "port") = some (.int P t2)) (_ : oM.data = .cell (some (.int mk t3))) (_ : oS.data = .cell v) (_ : mk = S.fmod 52) (_ : P = (S.fdiv 13).fmod 1000 * 100 + 89) (_ : @Ne Nat (L + 1) D) (_ : @Ne Nat (L + 1 + 1) D) : I1 s₁ L s'
theorem take3_len {ks : List Int} : (ks.take 3).length ≤ 3 := by rw [List.length_take]; exact Nat.min_le_left _ _
inductive I2 (s₁ : Shared) (L : Addr) (s' : Shared) : Prop
  | mk (m : Str → Option Value) (zs : List Value) (D : Addr) (nums : List Int) (dzs : List Value) (D2 : Addr) (Dg : List Int) (fzs : List Value) (D3 : Addr) (fs : List Int) (S mk P : Int) (t1 t2 t3 : Tok) (oM oS : Obj) (v : Option Value) (_ : At s₁ L m [(D3, listOf fzs.toArray 0), (D2, LCg.lst dzs), (D, LCg.lst zs), (L + 1 + 1, oS), (L + 1, oM)] s') (_ : IntsAre zs nums) (_ : nums.length ≤ 3) (_ : IntsAre dzs Dg) (_ : (Dg = (decN P).map fun (c : Nat) => 52 + ((c : Int) - 48))) (_ : IntsAre fzs (fs ++ [mk, oth (S.fdiv 700) mk])) (_ : (fs = nums.map fun k => oth k mk)) (_ : mk = S.fmod 52) (_ : P = (S.fdiv 13).fmod 1000 * 100 + 89) (_ : m (Str.ofString "numbers") = some (.ref D)) (_ : m (Str.ofString "total") = some (.int S t1)) (_ : m (Str.ofString "port") = some (.int P t2)) (_ : m (Str.ofString "digits") = some (.ref D2)) (_ : m (Str.ofString "fields") = some (.ref D3)) (_ : oM.data = .cell (some (.int mk t3))) (_ : oS.data = .cell v) (_ : @Ne Nat (L + 1 + 1) D) (_ : @Ne Nat (L + 1 + 1) D2) : I2 s₁ L s'
/-- the figures' equations -/
noncomputable def Raw (nums : List Int) (S P : Int) (Dg bl : List Int) : Prop := ∃ (mk : Int) (fs : List Int), nums.length ≤ 3 ∧ mk = S.fmod 52 ∧ P = (S.fdiv 13).fmod 1000 * 100 + 89 ∧ (Dg = (decN P).map fun (c : Nat) => 52 + ((c : Int) - 48)) ∧ (fs = nums.map fun k => oth k mk) ∧
  bl = [54, 54, 61, (S.fdiv 52).fmod 62, 62, mk] ++ (fs ++ [mk, oth (S.fdiv 700) mk]) ++ [mk] ++ Dg ++ [mk, 63]
theorem Raw.lens {nums : List Int} {S P : Int} {Dg bl : List Int} (H : Raw nums S P Dg bl) : nums.length ≤ 3 ∧ Dg.length ≤ 5 ∧ bl.length ≤ 20 := by
  obtain ⟨mk, fs, hnl, _, hP, hDg, hfs, hbl⟩ := H
  obtain ⟨p0, _, p5⟩ := port_in hP
  have hDl := Dg_len p0 p5 hDg
  exact ⟨hnl, hDl, (bl_len hbl (by rw [hfs, List.length_map]; exact hnl) hDl).2⟩
theorem Raw.law {nums : List Int} {S P sp : Int} {Dg bl FG : List Int} {R : Str} (H : Raw nums S P Dg bl) (hsp : sp = (-(bl.length : Int)).fmod 4) (hFG : FG = bl ++ (List.replicate sp.toNat [S.fmod 62]).flatten)
    (hR : R.cps.toList = [99, 99, 99, 108, 98, 109] ++ List.replicate (nums.length : Int).toNat 102 ++ [109, 102, 109] ++ List.replicate (Dg.length : Int).toNat 100 ++ [109, 98] ++ List.replicate sp.toNat 116) : Law3 R FG P := by
  obtain ⟨mk, fs, hnl, hmk, hP, hDg, hfs, hbl⟩ := H
  exact law3_of hnl hmk hP hDg hfs hbl hsp hFG hR
inductive I2b (s₁ : Shared) (L : Addr) (s' : Shared) : Prop
  | mk (m : Str → Option Value) (zs : List Value) (D : Addr) (nums : List Int) (dzs : List Value) (D2 : Addr) (Dg : List Int) (bvs : List Value) (Db : Addr) (bl : List Int) (S P : Int) (t1 t2 : Tok) (oS : Obj) (v : Option Value) (_ : At s₁ L m [(Db, listOf bvs.toArray 0), (D2, LCg.lst dzs), (D, LCg.lst zs), (L + 1 + 1, oS)] s') (_ : IntsAre zs nums) (_ : IntsAre dzs Dg) (_ : IntsAre bvs bl) (_ : Raw nums S P Dg bl) (_ : m (Str.ofString "numbers") = some (.ref D)) (_ : m (Str.ofString "total") = some (.int S t1)) (_ : m (Str.ofString "port") = some (.int P t2)) (_ : m (Str.ofString "digits") = some (.ref D2)) (_ : m (Str.ofString "bare") = some (.ref Db)) (_ : oS.data = .cell v) (_ : @Ne Nat (L + 1 + 1) D) (_ : @Ne Nat (L + 1 + 1) D2) : I2b s₁ L s'
inductive I2c (s₁ : Shared) (L' : Addr) (D D2 Db : Addr) (zs dzs bvs : List Value) (oS : Obj) (S P sp : Int) (t1 t2 : Tok) (s' : Shared) : Prop
  | mk (m : Str → Option Value) (t3 : Tok) (_ : At s₁ L' m [(Db, listOf bvs.toArray 0), (D2, LCg.lst dzs), (D, LCg.lst zs), (L' + 1 + 1, oS)] s') (_ : m (Str.ofString "numbers") = some (.ref D)) (_ : m (Str.ofString "total") = some (.int S t1)) (_ : m (Str.ofString "port") = some (.int P t2)) (_ : m (Str.ofString "digits") = some (.ref D2)) (_ : m (Str.ofString "bare") = some (.ref Db)) (_ : m (Str.ofString "spare") = some (.int sp t3)) : I2c s₁ L' D D2 Db zs dzs bvs oS S P sp t1 t2 s'
inductive I3 (s₁ : Shared) (L : Addr) (s' : Shared) : Prop
  | mk (m : Str → Option Value) (zs : List Value) (D : Addr) (nums : List Int) (dzs : List Value) (D2 : Addr) (Dg : List Int) (gvs : List Value) (DF : Addr) (bl FG : List Int) (S P sp : Int) (t1 t2 t3 : Tok) (oS : Obj) (v : Option Value) (_ : At s₁ L m [(DF, listOf gvs.toArray 0), (D2, LCg.lst dzs), (D, LCg.lst zs), (L + 1 + 1, oS)] s') (_ : IntsAre zs nums) (_ : IntsAre dzs Dg) (_ : IntsAre gvs FG) (_ : Raw nums S P Dg bl) (_ : sp = (-(bl.length : Int)).fmod 4) (_ : FG = bl ++ (List.replicate sp.toNat [S.fmod 62]).flatten) (_ : m (Str.ofString "numbers") = some (.ref D)) (_ : m (Str.ofString "total") = some (.int S t1)) (_ : m (Str.ofString "port") = some (.int P t2)) (_ : m (Str.ofString "digits") = some (.ref D2)) (_ : m (Str.ofString "figures") = some (.ref DF)) (_ : m (Str.ofString "spare") = some (.int sp t3)) (_ : oS.data = .cell v) (_ : @Ne Nat (L + 1 + 1) D) (_ : @Ne Nat (L + 1 + 1) D2) (_ : @Ne Nat (L + 1 + 1) DF) : I3 s₁ L s'
inductive I4 (s₁ : Shared) (L : Addr) (s' : Shared) : Prop
  | mk (m : Str → Option Value) (gvs : List Value) (DF : Addr) (FG : List Int) (R : Str) (S P : Int) (t1 t2 t3 : Tok) (oS : Obj) (v : Option Value) (_ : At s₁ L m [(DF, listOf gvs.toArray 0), (L + 1 + 1, oS)] s') (_ : IntsAre gvs FG) (_ : Law3 R FG P) (_ : m (Str.ofString "total") = some (.int S t1)) (_ : m (Str.ofString "port") = some (.int P t2)) (_ : m (Str.ofString "figures") = some (.ref DF)) (_ : m (Str.ofString "roles") = some (.str R t3)) (_ : oS.data = .cell v) (_ : @Ne Nat (L + 1 + 1) DF) : I4 s₁ L s'
inductive I5 (s₁ : Shared) (L : Addr) (s' : Shared) : Prop
  | mk (m : Str → Option Value) (gvs : List Value) (DF : Addr) (FG : List Int) (R : Str) (S P : Int) (rb : Array UInt8) (OC : List Int) (X : Str) (t1 t2 t3 t4 t5 : Tok) (_ : At s₁ L m [(DF, listOf gvs.toArray 0)] s') (_ : IntsAre gvs FG) (_ : Law3 R FG P) (_ : OC = dig 256 (3 * FG.length / 4) (val 64 FG)) (_ : KBw.bInts rb = OC) (_ : m (Str.ofString "total") = some (.int S t1)) (_ : m (Str.ofString "port") = some (.int P t2)) (_ : m (Str.ofString "figures") = some (.ref DF)) (_ : m (Str.ofString "roles") = some (.str R t3)) (_ : m (Str.ofString "row") = some (.bytes rb t4)) (_ : m (Str.ofString "text") = some (.str X t5)) (_ : X.length ≤ 1000) : I5 s₁ L s'
theorem law_walk : PySem.Challenge.rw_pa0029_03.Holds := by
  k_with_none
  (k_with "eval Constant int" => (with_reducible refine nI ?_))
  (k_with "eval Constant str" => (with_reducible refine nS ?_))
  (k_with "binaryOp Add int int" => (with_reducible refine nAdd ?_))
  (k_with "binaryOp Sub int int" => (with_reducible refine nSub ?_))
  (k_with "binaryOp BitAnd int int" => (with_reducible refine nAnd ?_))
  (k_with "binaryOp BitOr int int" => (with_reducible refine nOr ?_))
  (k_with "eval ListComp" => (k_here; k_dflt (refine ListComp_V (by k_asm) (by with_unfolding_all rfl) (by decide) (by rfl) (by decide) (by rfl) ?_)))
  (k_with "exec Assign cons ListComp" => walk_at "exec Assign")
  (k_with "call ref" => (k_here; (with_reducible show wpAny _ _ (call (Value.ref 153) _ _) _ _ _); k_dflt (refine use_ctr (other_ctr _ _ _ _ _ _ _ _ _) (by k_asm) (by k_asm) (by k_asm) (by k_asm) (by k_asm) (by first | exact rfl | assumption) (by exact Nat.le_of_ble_eq_true rfl) (by exact Nat.le_of_ble_eq_true rfl) ?_); intro t9 h9 tk9 F9 N9; (try dsimp only); (try k_fold)))
  (k_with "call builtin:len" => ((with_reducible show wpAny _ _ (call (Value.builtin "len") [Value.ref _]) _ _ _); k_dflt (refine len_isl (News.isList (by k_asm) (by k_mem)) (by assumption) (by assumption) ?_); intro _ _))
  (k_with "binaryOp Mult str int" => ((first | refine mul_signB (c := 102) (by decide +kernel) (by assumption) (by assumption) ?_ | refine mul_signB (c := 100) (by decide +kernel) (by assumption) (by assumption) ?_ | refine mul_signB (c := 116) (by decide +kernel) (by assumption) (by assumption) ?_); intro y9 hy9 hyl9 t9 tk9))
  (k_with "binaryOp Add str str" => (refine add_cpsB (by assumption) (by assumption) (by assumption) (by assumption) (Nat.le_of_ble_eq_true rfl) ?_; intro y9 hy9 hyl9 t9 tk9))
  (k_with "subscriptTail Name Name str int" => (refine item_sign (by assumption) (by assumption) ?_; intro y9 hy9 hyl9 t9 tk9))
  (k_with "call builtin:str.join" => ((with_reducible show wpAny _ _ (call (Value.builtin "str.join") [Value.str _ _, Value.ref _]) _ _ _); k_dflt (refine join_signs (News.isList (by k_asm) (by k_mem)) (by assumption) (by assumption) ?_); intro y9 hy9 hyl9 t9 tk9))
  (k_with "call ref" => (k_here; (with_reducible show wpAny _ _ (call (Value.ref 146) _ _) _ _ _); k_dflt (refine use_ctr (dec3_ctr _ _ _ _ _ _ _ _ _ (by assumption) (by assumption) (by assumption) (by assumption)) (by k_asm) (by k_asm) (by k_asm) (by k_asm) (by k_asm) (by first | exact rfl | assumption) (by exact Nat.le_of_ble_eq_true rfl) (by exact Nat.le_of_ble_eq_true rfl) ?_); intro t9 h9 tk9 F9 N9; (try dsimp only); (try k_fold)))
  (k_with "call type:bytes" => ((with_reducible show wpAny _ _ (call (Value.type "bytes") [Value.ref _]) _ _ _); k_dflt (refine' KBa.make_K ?kbaF ?kbaN ?kbah ?kbal ?kbai ?kbar ?kban ?_; (case kbaF => k_asm); (case kbaN => k_asm); (case kbah => rfl); (case kbal => kba_isList); (case kbai => kba_listInts); (case kbar => assumption); (case kban => kba_size)); intro _ _ _ F' N' kbaIn))
  (k_with "call ref" => (k_here; (with_reducible show wpAny _ _ (call (Value.ref 138) _ _) _ _ _); k_dflt (refine use_ctr (enc3_ctrX _ _ _ _ _ _ _ _ _ (by assumption) (by assumption) (by assumption)) (by k_asm) (by k_asm) (by k_asm) (by k_asm) (by k_asm) (by first | exact rfl | assumption) (by exact Nat.le_of_ble_eq_true rfl) (by exact Nat.le_of_ble_eq_true rfl) ?_); intro t9 h9 tk9 F9 N9; (try dsimp only); (try k_fold)))
  (k_with "call ref" => ((with_reducible show wpAny _ _ (call (Value.ref 160) _ _) _ _ _); refine stuck ?_))
  (k_with "call builtin:bytes.decode" => (refine dec_O3 (by assumption) (by assumption) (by assumption) ?_; intro y9 hy9 hyl9 t9 tk9))
  (k_with "compareOp" => ((with_reducible show wpAny _ _ (compareOp CmpOp.NotEq (Ans _ _) (Ans _ _)) _ _ _); refine ne_ans ?_))
  (k_with "call type:str" => (refine str_num (by assumption) (by assumption) ?_; intro x9 hx9 t9 tk9))
  (k_with "eval Name" => (k_here; k_dflt (refine nameX_L (by k_asm) (by first | assumption | rfl) ?_ (by rfl) (by rfl))))
  refine Mine.hd ?_
  k_fill
  intro w s₀ s₁ mg mb G Y fa o pm cd doc dV kV ho hd hcd hD hmg hg args vals as hpre hlay hrd hwl hlo
  have KX := kIn_of Y
  refine Ground.open G ?_
  intro T B D TE TW
  wrow_args hpre hlay hrd hwl hlo
  rename_i ks e1 e2 e3 e4 e5 x4 x3 sa vs x0 hLs hra hw1 hr0 hI hr1 hlen htr
  have hmg' : mg (Str.ofString "law") = some (.ref fa) := hmg
  clear hmg ho hd hcd hD B D TE TW G Y e1 e2 e3 e4 e5 hra hr1 htr
  have hpost : PySem.Challenge.rw_pa0029_03.row.claim.post [ofPy (PyData.list (List.map PyData.int ks))] (WData.bool true) [ofPy (PyData.list (List.map PyData.int ks))] = true := by first | rfl | wrow_post
  have h180 : fa = 172 := by
    have e := mg_of (n := Str.ofString "law") (v := .ref 172) KX T.g (by k_is)
    rw [hmg'] at e
    exact Value.ref.inj (Option.some.inj e)
  subst h180
  refine wpC_call ?_
  k_dflt (refine' enterLaw (binds := [(Str.ofString "script", .ref sa)]) ?k3 ?k5 ?k6 ?k7 ?k9 ?kB ?kD ?_ ?c2 ?c3 ?c4; (case k3 => k_asm); (case k5 => k_asm); (case k6 => k_is); (case k7 => k_is); (case k9 => (refine' kp_binds ?kx ?ke; (case kx => k_in); (case ke => (intro S; kernel_rfl)))); (case kB => exact rfl); (case kD => decide +kernel); (case c2 => exact rfl); (case c3 => exact rfl); (case c4 => exact rfl); k_whole; intro L' h' tk' cells' F' N' Y' B'; k_cells Y'; (try simp only [List.cons_append, List.nil_append] at N'); (try dsimp only); (try k_fold))
  refine wpC_fold ?_
  intro qc ec
  refine wpC_cut 4 (I1 s₁ L') ?first ?rest
  case first =>
    dsimp only [List.take]
    refine wpAny_execs_cons ?_
    refine Assign_LC (L := L') (F₀ := by k_asm) rfl (by with_unfolding_all rfl) (by with_unfolding_all rfl) (by decide) (by rfl) (by decide) (by rfl) (by rfl) (by rfl) ?_
    k_steps
    rename IntsAre _ (List.take 3 ks) => hI3
    unfold Hid
    refine .inl ⟨_, _, _, rfl, rfl, by k_asm, by k_asm, .inr ⟨_, List.mem_cons_self .., rfl, _, rfl⟩, vs_room hI3 take3_len (by decide), fun s₂ hg => ?_⟩
    obtain ⟨g, rfl⟩ := hg
    refine compRest_map (n := (List.take 3 ks).length) (fun i y => ∃ t, y = .int ((ks.take 3).getD i 0 % 10 ^ 6) t) (.inr ⟨_, List.mem_cons_self .., rfl, _, rfl⟩) ?body _ 0 [] (sizeI0 hI3) ?fin
    case body =>
      intro i x I oI C oC D ys m₂ h tk E' hi hP hC hx F2 N2 off ne
      obtain ⟨k, u, rfl, hk⟩ := hI3.at i _ (by simpa using hP)
      try k_fold
      k_steps
      refine ElEnd.intro (by k_asm) (by k_asm) ⟨_, congrArg (Value.int · _) ?_⟩
      rw [getDI_of hk]
      exact Int.fmod_eq_emod_of_nonneg _ (by decide)
    case fin =>
      intro zs hz hj
      dsimp only [List.nil_append]
      intro D h tk F2 N2 off
      obtain ⟨nums, hnums⟩ : ∃ nums, nums = (ks.take 3).map fun k => k % 10 ^ 6 := ⟨_, rfl⟩
      have hIz : IntsAre zs nums := hnums ▸ ints_map (f := fun k => k % 10 ^ 6) (hz.trans (sizeI hI3)) hj
      obtain ⟨hnl, hs0⟩ := nums_in hnums
      clear hj hz hnums
      try dsimp only
      try k_fold
      k_steps
      try dsimp only
      rename _ = Data.cell (some _) => dM
      rename Obj.data _ = Data.cell (bindC _ _ _ (Str.ofString "signs")) => dS
      rename Fr s₁.heap L' _ _ => fE
      rename News s₁.heap L' _ _ => nE
      simp only [List.cons_append, List.nil_append] at nE
      exact ⟨rfl, _, zs, D, nums, nums.sum, _, _, _, _, _, _, _, _, At.of fE nE (by repeat (first | exact List.forall_mem_nil _ | refine List.forall_mem_cons.mpr ⟨by k_mem, ?_⟩)), hIz, hnl, rfl, rfl, rfl, dM, dS, rfl, rfl, off.2.2.1, off.2.1⟩
  case rest =>
  intro s' hs1
  obtain ⟨m1, zs, D, nums, S, mk, P, t1, t2, t3, oM, oS, v, ⟨h1, tk1, rfl, F1, N1⟩, hIz, hnl, mN, mT, mP, dM, dS, hmk, hP, n1, n2⟩ := hs1
  clear hI hLs hw1 hr0 hlen
  dsimp only [List.drop]
  refine wpC_cut 2 (I2 s₁ L') ?first2 ?rest2
  case first2 =>
    dsimp only [List.take]
    obtain ⟨p0, p20, p5⟩ := port_in hP
    refine wpAny_execs_cons ?_
    refine Assign_LV (L := L') (_F := by k_asm) rfl (by with_unfolding_all rfl) (by with_unfolding_all rfl) (by decide) (by rfl) (by decide) (by rfl) (by rfl) (by rfl) ?_
    k_steps
    unfold Hid
    subst hx9
    refine srcV_str (t := numS P) rfl (by k_asm) (by k_asm) (numS_room p0 p20) (numS_asc p0) fun g => ?_
    refine compRest_map (n := (numS P).cps.size) (fun i y => ∃ t, y = .int (52 + (((decN P).getD i 0 : Int) - 48)) t) trivial ?body2 _ 0 [] (Nat.zero_add _) ?fin2
    case body2 =>
      intro i x I oI C oC D ys m₂ h tk E' hi hP hC hx F2 N2 off ne
      obtain ⟨c, u, hcu, rfl⟩ := hP
      obtain ⟨hcl, hcd⟩ := digs_at p0 hcu
      have hread := int_sign hcd
      have hlen1 : PySem.Str.length ⟨#[c]⟩ ≤ 640 := by show 1 ≤ 640; decide
      try k_fold
      k_steps
      refine ElEnd.intro (by k_asm) (by k_asm) ⟨_, congrArg (Value.int · _) ?_⟩
      rw [getD_of hcl]
    case fin2 =>
      intro dzs hz2 hj2
      dsimp only [List.nil_append]
      intro D2 h2 tk2 F3 N3 off2
      have hId := digs_of p0 hz2 hj2
      clear hj2 hz2
      obtain ⟨Dg, hDg⟩ : ∃ Dg, Dg = (decN P).map fun (c : Nat) => 52 + ((c : Int) - 48) := ⟨_, rfl⟩
      rw [← hDg] at hId
      try dsimp only
      try k_fold
      k_steps
      refine srcV_list rfl (by k_asm) (by k_asm) (.inr ⟨_, by k_mem, rfl, _, rfl⟩) (vs_room hIz hnl (by decide)) fun g3 => ?_
      refine compRest_map (n := nums.length) (fun i y => ∃ t, y = .int (oth (nums.getD i 0) mk) t) (.inr ⟨_, by k_mem, rfl, _, rfl⟩) ?body3 _ 0 [] (sizeI0 hIz) ?fin3
      case body3 =>
        intro i x I oI C oC D ys m₂ h tk E' hi hP hC hx F2 N2 off ne
        obtain ⟨k, u, rfl, hk⟩ := hIz.at i _ (by simpa using hP)
        try k_fold
        k_steps
        refine ElEnd.intro (by k_asm) (by k_asm) ⟨_, congrArg (Value.int · _) ?_⟩
        rw [getDI_of hk]
      case fin3 =>
        intro fzs hz3 hj3
        dsimp only [List.nil_append]
        intro D3 h3 tk3 F4 N4 off3
        have hIf : IntsAre fzs (nums.map fun k => oth k mk) := ints_map (f := fun k => oth k mk) (hz3.trans (sizeI hIz)) hj3
        clear hj3 hz3
        k_steps
        try dsimp only
        rename Fr s₁.heap L' _ _ => fE
        rename News s₁.heap L' _ _ => nE
        rename IntsAre _ (_ ++ [mk, _]) => hIf2
        exact ⟨rfl, _, zs, D, nums, dzs, D2, Dg, _, _, _, S, mk, P, _, _, _, _, _, _, At.of fE nE (by repeat (first | exact List.forall_mem_nil _ | refine List.forall_mem_cons.mpr ⟨by k_mem, ?_⟩)), hIz, hnl, hId, hDg, hIf2, rfl, hmk, hP, mN, mT, mP, rfl, rfl, dM, dS, n2, off2.2.1⟩
  case rest2 =>
  clear hmk hP mN mT mP dM dS n1 n2 hnl hIz F1 N1
  intro s' hs2
  obtain ⟨m2, zs, D, nums, dzs, D2, Dg, fzs, D3, fs, S, mk, P, t1, t2, t3, oM, oS, v, ⟨h1, tk1, rfl, F1, N1⟩, hIz, hnl, hId, hDg, hIf, hfs, hmk, hP, mN, mT, mP, mD, mF, dM, dS, n2, n3⟩ := hs2
  dsimp only [List.drop]
  refine wpC_cut 1 (I2b s₁ L') ?first2b ?rest2b
  case first2b =>
    dsimp only [List.take]
    have hfl : fs.length ≤ 3 := by rw [hfs, List.length_map]; exact hnl
    have hDl : Dg.length ≤ 5 := by obtain ⟨p0, _, p5⟩ := port_in hP; exact Dg_len p0 p5 hDg
    try k_fold
    k_steps
    try dsimp only
    rename IntsAre _ (_ ++ [mk, 63]) => hIb
    rename Fr s₁.heap L' _ _ => fE
    rename News s₁.heap L' _ _ => nE
    exact ⟨rfl, _, zs, D, nums, dzs, D2, Dg, _, _, _, S, P, _, _, _, _, At.of fE nE (by repeat (first | exact List.forall_mem_nil _ | refine List.forall_mem_cons.mpr ⟨by k_mem, ?_⟩)), hIz, hId, hIb, ⟨mk, fs, hnl, hmk, hP, hDg, hfs, rfl⟩, mN, mT, mP, mD, rfl, dS, n2, n3⟩
  case rest2b =>
  clear hmk hP mN mT mP mD mF dM dS n2 n3 hnl hIz hId hDg hIf hfs F1 N1
  intro s' hs3
  obtain ⟨m3, zs, D, nums, dzs, D2, Dg, bvs, Db, bl, S, P, t1, t2, oS, v, ⟨h1, tk1, rfl, F1, N1⟩, hIz, hId, hIb, hRaw, mN, mT, mP, mD, mB, dS, n2, n3⟩ := hs3
  dsimp only [List.drop]
  obtain ⟨hnl, hDl, hbl⟩ := hRaw.lens
  obtain ⟨sp, hsp⟩ : ∃ sp : Int, sp = (-(bl.length : Int)).fmod 4 := ⟨_, rfl⟩
  obtain ⟨hspa, hsp20, hspb, hspc⟩ := sp_in hsp
  refine wpC_cut 1 (I2c s₁ L' D D2 Db zs dzs bvs oS S P sp t1 t2) ?first2c ?rest2c
  case first2c =>
    dsimp only [List.take]
    have hbl9 := (cast_20 hbl (by decide)).1
    try k_fold
    k_steps
    try dsimp only
    rename Fr s₁.heap L' _ _ => fE
    rename News s₁.heap L' _ _ => nE
    exact ⟨rfl, _, _, At.of fE nE (by repeat (first | exact List.forall_mem_nil _ | refine List.forall_mem_cons.mpr ⟨by k_mem, ?_⟩)), mN, mT, mP, mD, mB, by rw [hsp]; rfl⟩
  case rest2c =>
  clear mN mT mP mD mB F1 N1
  intro s' hs3
  obtain ⟨m3, t3, ⟨h1, tk1, rfl, F1, N1⟩, mN, mT, mP, mD, mB, mS⟩ := hs3
  dsimp only [List.drop]
  refine wpC_cut 1 (I3 s₁ L') ?first3 ?rest3
  case first3 =>
    dsimp only [List.take]
    clear hspc hsp20
    try k_fold
    k_steps
    try dsimp only
    rename IntsAre _ (bl ++ _) => hIg
    rename Fr s₁.heap L' _ _ => fE
    rename News s₁.heap L' _ _ => nE
    exact ⟨rfl, _, zs, D, nums, dzs, D2, Dg, _, _, bl, _, S, P, sp, _, _, _, _, _, At.of fE nE (by repeat (first | exact List.forall_mem_nil _ | refine List.forall_mem_cons.mpr ⟨by k_mem, ?_⟩)), hIz, hId, hIg, hRaw, hsp, rfl, mN, mT, mP, mD, rfl, mS, dS, n2, n3, by omega⟩
  case rest3 =>
  clear mN mT mP mD mB mS dS n2 n3 hnl hIz hId hIb hRaw hDl hbl F1 N1 hspa hspb hsp20 hspc hsp
  intro s' hs4
  obtain ⟨m4, zs, D, nums, dzs, D2, Dg, gvs, DF, bl, FG, S, P, sp, t1, t2, t3, oS, v, ⟨h1, tk1, rfl, F1, N1⟩, hIz, hId, hIg, hRaw, hsp, hFG, mN, mT, mP, mD, mF, mS, dS, n2, n3, n4⟩ := hs4
  dsimp only [List.drop]
  obtain ⟨hnl, hDl, hbl⟩ := hRaw.lens
  obtain ⟨hspa, hsp20, _, _⟩ := sp_in hsp
  refine wpC_cut 1 (I4 s₁ L') ?first4 ?rest4
  case first4 =>
    dsimp only [List.take]
    obtain ⟨u1, u2, u3⟩ := cast_20 hnl (by decide)
    obtain ⟨u4, u5, u6⟩ := cast_20 hDl (by decide)
    have hC1 : (Str.ofString "ccclbm").cps.toList = [99, 99, 99, 108, 98, 109] := by decide +kernel
    have hC2 : (Str.ofString "mfm").cps.toList = [109, 102, 109] := by decide +kernel
    have hC3 : (Str.ofString "mb").cps.toList = [109, 98] := by decide +kernel
    have hL1 : (Str.ofString "ccclbm").length ≤ 6 := by decide +kernel
    have hL2 : (Str.ofString "mfm").length ≤ 3 := by decide +kernel
    have hL3 : (Str.ofString "mb").length ≤ 2 := by decide +kernel
    try k_fold
    k_steps
    try dsimp only
    rename Fr s₁.heap L' _ _ => fE
    rename News s₁.heap L' _ _ => nE
    exact ⟨rfl, _, gvs, DF, FG, _, S, P, _, _, _, _, _, At.of fE nE (by repeat (first | exact List.forall_mem_nil _ | refine List.forall_mem_cons.mpr ⟨by k_mem, ?_⟩)), hIg, hRaw.law hsp hFG hy9, mT, mP, mF, rfl, dS, n4⟩
  case rest4 =>
  clear mN mT mP mD mF mS dS n2 n3 n4 hnl hIz hId hIg hRaw hDl hbl F1 N1 hsp hFG hspa hsp20
  intro s' hs5
  obtain ⟨m5, gvs, DF, FG, R, S, P, t1, t2, t3, oS, v, ⟨h1, tk1, rfl, F1, N1⟩, hIg, H3, mT, mP, mF, mR, dS, n4⟩ := hs5
  dsimp only [List.drop]
  refine wpC_cut 3 (I5 s₁ L') ?first5 ?rest5
  case first5 =>
    dsimp only [List.take]
    have hFGin := H3.fin
    have hFGb := H3.fl
    have hFG9 : FG.length ≤ 1000 := Nat.le_trans hFGb (by decide)
    have hFG4 := H3.f4
    try k_fold
    k_steps
    refine srcV_list rfl (by k_asm) (by k_asm) (.inr ⟨_, by k_mem, rfl, _, rfl⟩) (vs_room hIg hFGb (by decide)) fun g4 => ?_
    refine compRest_map (n := FG.length) (fun i y => ∃ t, y = .str (sgT (FG.getD i 0)) t) (.inr ⟨_, by k_mem, rfl, _, rfl⟩) ?body4 _ 0 [] (sizeI0 hIg) ?fin4
    case body4 =>
      intro i x I oI C oC D ys m₂ h tk E' hi hP hC hx F2 N2 off ne
      obtain ⟨k, u, rfl, hk⟩ := hIg.at i _ (by simpa using hP)
      obtain ⟨hk0, hk1⟩ := hFGin k (List.mem_of_getElem? hk)
      try k_fold
      k_steps
      refine ElEnd.intro (by k_asm) (by k_asm) ⟨_, congrArg (Value.str · _) ?_⟩
      rw [hy9, getDI_of hk]
    case fin4 =>
      intro szs hz5 hj5
      dsimp only [List.nil_append]
      intro D4 h4 tk4 F5 N5 off4
      have hSz : StrsAre szs (FG.map sgT) := strs_map (hz5.trans (sizeI hIg)) hj5
      clear hj5 hz5
      k_steps
      try dsimp only
      rename Fr s₁.heap L' _ _ => fE
      rename News s₁.heap L' _ _ => nE
      exact ⟨rfl, _, gvs, DF, FG, R, S, P, _, _, _, _, _, _, _, _, At.of fE nE (by repeat (first | exact List.forall_mem_nil _ | refine List.forall_mem_cons.mpr ⟨by k_mem, ?_⟩)), hIg, H3, rfl, KBa.ints_make (dig_in 256 (by decide) _ _), mT, mP, mF, mR, rfl, rfl, by rw [hyl9]; exact hFG9⟩
  case rest5 =>
  clear mT mP mF mR dS n4 hIg H3 F1 N1
  intro s' hs6
  obtain ⟨m6, gvs, DF, FG, R, S, P, rb, OC, X, t1, t2, t3, t4, t5, ⟨h1, tk1, rfl, F1, N1⟩, hIg, H3, hOC, hkb, mT, mP, mF, mR, mW, mX, hXl⟩ := hs6
  dsimp only [List.drop]
  have hFG9 : FG.length ≤ 1000 := Nat.le_trans H3.fl (by decide)
  try dsimp only
  refine wpC_execs_cons (wpC_For ?_ (fun _ => rfl))
  k_steps
  rename IsRange _ _ _ _ _ _ _ _ => hRg
  rename News s₁.heap L' _ _ => nE5
  rename Fr s₁.heap L' _ _ => fE5
  refine forRangeC (n := FG.length) [Str.ofString "bit", Str.ofString "spot", Str.ofString "within", Str.ofString "turned", Str.ofString "told"] rfl hRg rfl hFG9 rfl rfl fE5 nE5 ?turn1 ?done1
  case done1 =>
    intro u h tk F6 N6
    try dsimp only
    refine wpC_of ?_
    try k_fold
    k_steps
    try dsimp only
    refine GoodW.toG (goodW_bool F6 hg (fun _ => rfl) ?_ rfl)
    exact hpost
  case turn1 =>
    clear hRg nE5 fE5 hpost
    intro i ti u h tk I oI hi hneI F6 N6
    dsimp only at F6 N6 ⊢
    clear hneI
    refine wpC_execs_cons (wpC_For ?_ (fun _ => rfl))
    k_steps
    rename IsRange _ _ ((_ + S).fmod 2) _ _ _ _ _ => hRg2
    rename News s₁.heap L' _ _ => nE6
    rename Fr s₁.heap L' _ _ => fE6
    obtain ⟨a0, ha0, hb0⟩ := bits_in i S
    rw [← ha0] at hRg2
    refine forRangeS (n := 3) [Str.ofString "spot", Str.ofString "within", Str.ofString "turned", Str.ofString "told"] rfl hRg2 hb0.2.1 hb0.2.2 rfl rfl fE6 nE6 ?turn2 ?done2
    case done2 =>
      intro u2 h2 tk2 F7 N7
      try dsimp only
      refine wpC_of (wpAny_execs_nil ?_)
      refine ⟨rfl, _, _, _, rfl, F7, N7, ?_⟩
      intro z hz hs
      have hs0 := hs
      obtain ⟨z1, hs⟩ := not_in hs
      exact (if_neg z1).trans ((if_neg (Bool.eq_false_iff.mp hs)).trans ((if_neg hz).trans (if_neg (Bool.eq_false_iff.mp hs0))))
    case turn2 =>
      clear hRg2 nE6 fE6
      intro j tj u2 h2 tk2 I2 oI2 hj hneI2 F7 N7
      dsimp only at F7 N7 ⊢
      clear hneI2
      have hb1 := hb0.1 j hj
      obtain ⟨b, hb⟩ : ∃ b : Int, b = a0 + (j : Int) * 2 := ⟨_, rfl⟩
      rw [← hb] at F7 hb1
      clear hb hb0 ha0
      obtain ⟨q, r, hq, hr, hqr, hr8⟩ := divq i hb1
      refine wpC_execs_at 1 ?_
      dsimp only [List.take, List.drop]
      try k_fold
      k_steps
      rename Fr s₁.heap L' _ _ => fE7
      rw [hq, hr] at fE7
      clear hq hr
      obtain ⟨hOn, hO75⟩ := oc_len hOC H3.f4 H3.fl
      have hqn := q_lt hOn hi hqr
      have hqO : (q : Int) < (OC.length : Int) := Int.ofNat_lt.mpr hqn
      have hX := one_in (oc_in hOC) hqO hr8
      refine wpC_execs_at 1 ?_
      dsimp only [List.take, List.drop]
      try k_fold
      k_steps
      try dsimp only
      rename KBw.bInts (_ ++ _ ++ _) = _ => hkt
      rename Fr s₁.heap L' _ _ => fE8
      obtain ⟨tb, htb⟩ : ∃ tb, tb = KBy.picked rb none (some (q : Int)) ++ byteArr [Builtin.bitXor (OC.getD (q : Int).toNat 0) (Int.fdiv 128 (2 ^ (r : Int).toNat))] ++ KBy.picked rb (some ((q : Int) + 1)) none := ⟨_, rfl⟩
      rw [← htb] at hkt fE8
      obtain ⟨FT, an, hts1, hts3, hFT, hFTin, hFT2, hFT1, hTo, hDu⟩ := turn_step H3 hOC hi (b6 hb1) hqr hr8 hkt
      clear hkt htb hqr hqO hX
      refine wpC_execs_cons (wpC_AssignN (wpC_Call ?_))
      try k_fold
      k_steps
      k_dflt (refine' wpC_callK ?k1 ?k2 ?_; (case k1 => k_asm); (case k2 => k_is); k_whole)
      try k_fold
      k_steps
      rename _ = S3 FT => hxT
      have hTo' := hxT ▸ hTo
      (k_dflt (refine' told_A _ _ _ _ _ _ _ an _ _ _ _ hyl9 ?hhl hTo' _ _ _ _ _ _ _ _ _ _ _ _ _ _ _ ?kB ?kF ?kX ?kN ?kpa ?kT ?kk ?kd ?ku ?kret; (case kF => k_asm); (case kB => exact B'); (case kX => exact KX); (case kN => k_asm); (case kT => exact T); (case kk => exact rfl); (case kpa => exact News.isList (by k_asm) (by k_mem)); (case hhl => exact hXl); (case kd => first | decide | (dsimp only; decide)); (case ku => first | decide | (dsimp only; decide)); intro t9 h9 tk9 F9 N9; (try dsimp only)))
      k_steps
      try dsimp only
      have hR2 : i < R.length := by rw [H3.len]; exact hi
      have hRl : R.length ≤ 1000 := by rw [H3.len]; exact hFG9
      have hFG5 := H3.f5
      refine wpC_of ?_
      try k_fold
      k_steps
      unfold Stuck
      (k_dflt (refine' use_ctr (due_A _ _ _ _ _ R _ i _ P _ _ _ _ an _ _ FG hDu hR2 hRl ?dm hIg hFG5 hi hFG9) ?db ?df ?dx ?dn ?dt ?dk ?dd ?du ?dr; (case dn => k_asm); (case df => k_asm); (case db => exact B'); (case dx => exact KX); (case dt => exact T); (case dk => exact rfl); (case dd => exact Nat.le_of_ble_eq_true rfl); (case du => exact Nat.le_of_ble_eq_true rfl); (case dm => k_mem)))
      intro t8 h8 tk8 F8 N8
      try dsimp only
      try k_fold
      k_steps
      show TurnC _ _ _ _ _ _ _ _ _
      refine ⟨rfl, _, _, _, rfl, F8, fun q hq9 => N8 q ?_, ?_⟩
      · repeat (first | exact hq9 | refine List.mem_cons_of_mem _ ?_)
      · intro z hz hs
        have hs0 := hs
        obtain ⟨z1, hs⟩ := not_in hs
        obtain ⟨z2, hs⟩ := not_in hs
        obtain ⟨z3, hs⟩ := not_in hs
        obtain ⟨z4, hs⟩ := not_in hs
        exact (if_neg z4).trans ((if_neg z3).trans ((if_neg z2).trans ((if_neg z1).trans ((if_neg hz).trans (if_neg (Bool.eq_false_iff.mp hs0))))))
end Mine
end
theorem PySem.Challenge.cw_pa0029_03_holds : PySem.Challenge.rw_pa0029_03.Holds := by
  exact Mine.law_walk
