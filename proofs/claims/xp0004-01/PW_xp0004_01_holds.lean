import PyProof.Rows.All
import Wide.All
import OpenK.AllK
import Wide.FinOn
import PySem.Challenge.RW_xp0004_01
open PySem PySem.W PySem.Calls PyProof.Rows
set_option Elab.async false
set_option maxRecDepth 100000
set_option linter.unusedSimpArgs false
set_option linter.unusedVariables false
set_option compiler.extract_closed false
namespace Mine
open PyProof.Rows in
section
/-- Names of the built-in activations that count as a view on their first argument. -/
noncomputable def viewIds : List String := ["bytearray.__contains__", "bytearray.__mod__", "bytearray.__rmod__", "_struct.pack_into.held", "bytearray.find.held"] ++ Builtin.Bytes.decodersThatHold
noncomputable def calm : Code → Bool
  | .builtin id _ => !viewIds.contains id
  | _ => true
noncomputable def CalmB (Γ : Ctx) : Prop := ∀ cp ∈ Γ.below, calm cp.1 = true
noncomputable def Calm (Γ : Ctx) : Prop := calm Γ.code = true ∧ CalmB Γ
noncomputable def wpC {α : Type} (M : Model) (A : Around) (t : Sem α) (Q : α → Shared → Prop) (E : Value → Shared → Prop) (s : Shared) : Prop :=
  ∀ Γ p, Γ.In A → Calm Γ → Sem.wp M Γ t (fun a _ s' => Q a s') (fun e _ s' => E e s') p s
noncomputable def codeC (M : Model) (A : Around) (c : Code) (R : Result → Shared → Prop) (s : Shared) : Prop :=
  ∀ Γ p, Γ.code = c → Γ.Below A → CalmB Γ → wpCode M Γ R p s
section
variable {α β : Type} {M : Model} {A : Around} {E : Value → Shared → Prop} {s : Shared} {t : Sem α} {Q : α → Shared → Prop}
theorem wpC_any (h : wpAny M A t Q E s) : wpC M A t Q E s := fun Γ p hΓ _ => h Γ p hΓ
theorem codeC_any {c : Code} {R : Result → Shared → Prop} (h : codeAny M A c R s) : codeC M A c R s := fun Γ p hc hΓ _ => h Γ p hc hΓ
theorem wpC_mono {Q' : α → Shared → Prop} {E' : Value → Shared → Prop} (h : wpC M A t Q E s) (hQ : ∀ a s, Q a s → Q' a s) (hE : ∀ e s, E e s → E' e s) : wpC M A t Q' E' s :=
  fun Γ p hΓ hC => Sem.wp_mono M Γ t (fun a _ s => hQ a s) (fun e _ s => hE e s) p s (h Γ p hΓ hC)
theorem wpC_bind {m : Sem α} {f : α → Sem β} {Q : β → Shared → Prop} (h : wpC M A m (fun a s' => wpC M A (f a) Q E s') E s) : wpC M A (m >>= f) Q E s := fun Γ p hΓ hC => by
  rw [Sem.wp_bind']
  exact Sem.wp_mono M Γ m (fun a p' s' h' => h' Γ p' hΓ hC) (fun _ _ _ h' => h') p s (h Γ p hΓ hC)
/-- the first step by the library's rules -/
theorem wpC_bindA {m : Sem α} {f : α → Sem β} {Q : β → Shared → Prop} (h : wpAny M A m (fun a s' => wpC M A (f a) Q E s') E s) : wpC M A (m >>= f) Q E s := wpC_bind (wpC_any h)
theorem wpC_pure {a : α} (h : Q a s) : wpC M A (pure a) Q E s := wpC_any (wpAny_pure h)
theorem wpC_holding {vs : List Value} (h : wpC M A t Q E s) : wpC M A (holding vs t) Q E s := fun Γ p hΓ hC => by rw [Sem.wp_holding]; exact h Γ p hΓ hC
theorem wpC_onRaise {k : Value → Sem Unit} (h : wpC M A t Q (fun e s' => wpC M A (k e) (fun _ s'' => E e s'') E s') s) : wpC M A (t.onRaise k) Q E s := fun Γ p hΓ hC => by
  rw [Sem.wp_onRaise]
  exact Sem.wp_mono M Γ t (fun _ _ _ h' => h') (fun e p' s' h' => h' Γ p' hΓ hC) p s (h Γ p hΓ hC)
theorem wpC_if_true {c : Bool} {a b : Sem α} (hc : c = true) (h : wpC M A a Q E s) : wpC M A (if c = true then a else b) Q E s := by subst hc; exact h
theorem wpC_if_false {c : Bool} {a b : Sem α} (hc : c = false) (h : wpC M A b Q E s) : wpC M A (if c = true then a else b) Q E s := by subst hc; exact h
theorem wpC_of_eq {a : α} (e : t = pure a) (h : Q a s) : wpC M A t Q E s := by subst e; exact wpC_pure h
theorem codeC_mono {c : Code} {R R' : Result → Shared → Prop} (h : codeC M A c R s) (hR : ∀ r s, R r s → R' r s) : codeC M A c R' s := fun Γ p hc hΓ hC => wpCode_mono hR (h Γ p hc hΓ hC)
theorem calm_enter {Γ : Ctx} (hC : Calm Γ) (c : Code) (h : Option Value) (p : Pos) : CalmB (Γ.enter c h p) := by
  intro cp hcp
  rcases List.mem_cons.mp hcp with rfl | hcp
  · exact hC.1
  · exact hC.2 cp hcp
theorem wpC_run {c : Code} {h : Option Value} {Q : Flow → Shared → Prop}
    (hc : codeC M (A.mark h) c (fun r s' => match r with | .ok f => Q f s' | .error e => E e s') s) (hnb : h ≠ some byPass := by intro x; cases x) : wpC M A (run c h) Q E s :=
  fun Γ p hΓ hC => by rw [Sem.wp_run]; exact hc _ p rfl (hΓ.enter c h p hnb) (calm_enter hC _ _ _)
theorem wpC_runOwn {env : Env} {c : Code} {h : Option Value} {Q : Flow → Shared → Prop}
    (hc : codeC M (A.mark h) c (fun r s' => match r with | .ok f => Q f s' | .error e => cameBackBy M A env E e s') s) (hnb : h ≠ some byPass := by intro x; cases x) : wpC M A (runOwn c env h) Q E s := by
  unfold runOwn
  refine wpC_onRaise (wpC_mono (wpC_run (E := cameBackBy M A env E) hc hnb) (fun _ _ x => x) fun e s' he => wpC_any he)
theorem wpC_runValue {c : Code} {Q : Value → Shared → Prop} (hc : codeC M A c (fun r s' => match r with | .ok (.ret v) => Q v s' | .ok _ => False | .error e => E e s') s) : wpC M A (runValue c) Q E s :=
  fun Γ p hΓ hC => by rw [Sem.wp_runValue]; exact hc _ p rfl (hΓ.enter c none p (by intro x; cases x)) (calm_enter hC _ _ _)
theorem wpC_call {f : Value} {pos : List Value} {kw : List (Str × Value)} {Q : Value → Shared → Prop}
    (hc : codeC M A (.call f ⟨pos, kw⟩) (fun r s' => match r with | .ok (.ret v) => Q v s' | .ok _ => False | .error e => E e s') s) : wpC M A (call f pos kw) Q E s := wpC_runValue hc
theorem codeC_of_tree {c : Code} {R : Result → Shared → Prop} (hcalm : calm c = true)
    (h : wpC M (A.under c) (M.den c) (fun fin s' => match fin with | .done f => R (.ok f) s' | .again c' => c'.quiet = true ∧ codeC M A c' R s') (fun e s' => R (.error e) s') s) : codeC M A c R s := fun Γ p hc hΓ hC => by
  rw [wpCode_iff_wp, hc]
  refine Sem.wp_mono M Γ _ (fun fin p' s' h' => ?_) (fun _ _ _ h' => h') p s (h Γ p (hc ▸ hΓ.in) ⟨by rw [hc]; exact hcalm, hC⟩)
  cases fin with
  | done f => exact h'
  | again c' => exact ⟨h'.1, h'.2 (Γ.goto c') p' rfl (hΓ.goto c') hC⟩
theorem codeC_loop' {c : Code} {R : Result → Shared → Prop} (hq : c.quiet = true) (hcalm : calm c = true) (I : Nat → Shared → Prop)
    (turn : ∀ n s, I n s → wpC M (A.under c) (M.den c)
      (fun fin s' => match fin with
        | .done f => R (.ok f) s'
        | .again c' => (c' = c ∧ ∃ m, m < n ∧ I m s') ∨ (c'.quiet = true ∧ codeC M A c' R s')) (fun e s' => R (.error e) s') s)
    (n : Nat) (h : I n s) : codeC M A c R s := by
  induction n using Nat.strongRecOn generalizing s with
  | ind n ih =>
    refine codeC_of_tree hcalm (wpC_mono (turn n s h) (fun fin s' hf => ?_) fun _ _ h' => h')
    cases fin with
    | done f => exact hf
    | again c' =>
      rcases hf with ⟨rfl, m, hm, hI⟩ | hf
      · exact ⟨hq, ih m hm hI⟩
      · exact hf
theorem wpC_noted {env : Env} {m : Sem α} {Q : α → Shared → Prop} (h : wpC M A m Q (notedBy M A env E) s) : wpC M A (m.onRaise fun x => do noteFrame x env; theTreesLotGoes x) Q E s :=
  wpC_onRaise (wpC_mono h (fun _ _ q => q) fun _ _ hx => wpC_any (wpAny_bind (wpAny_mono hx (fun _ _ e => wpAny_theTreesLotGoes e) fun _ _ e => e)))
theorem wpC_execs_cons {env : Env} {st rest} {Q : Flow → Shared → Prop}
    (h : wpC M A (exec st env) (fun f s' => match f with | .next => wpC M A (execs rest env) Q E s' | f => Q f s') E s) : wpC M A (execs (st :: rest) env) Q E s := fun Γ p hΓ hC => by
  rw [execs_cons, Sem.wp_bind']
  refine Sem.wp_mono M Γ _ (fun f p' s' h' => ?_) (fun _ _ _ h' => h') _ _ (h Γ p hΓ hC)
  cases f <;> first | exact h' Γ p' hΓ hC | exact h'
theorem wpC_If {env : Env} {test body orelse pos} {Q : Flow → Shared → Prop}
    (h : wpAny M A (isTrue test env (eval test env)) (fun b s₂ => if b then wpC M A (execs body env) Q E s₂ else wpC M A (execs orelse env) Q E s₂) E s) : wpC M A (exec (.If test body orelse pos) env) Q E s := fun Γ p hΓ hC => by
  simp only [exec_If, Sem.wp_bind', Sem.wp_cmd_standAt]
  refine Sem.wp_mono M Γ _ (fun b p₂ s₂ h₂ => ?_) (fun _ _ _ h' => h') _ _ (h Γ _ hΓ)
  cases b <;> exact h₂ Γ p₂ hΓ hC
theorem wpC_Assign_Name {env : Env} {x pos' value pos} {Q : Flow → Shared → Prop}
    (h : wpC M A (eval value env) (fun v s₁ => wpAny M A (storeName env x v) (fun _ => Q .next) E s₁) E s)
    (hs : swapsWith value (some (.Name x pos')) pos.line env = pure false := by rfl) : wpC M A (exec (.Assign [.Name x pos'] value pos) env) Q E s := fun Γ p hΓ hC => by
  simp only [exec_Assign_Name env x pos' value pos hs, Sem.wp_bind', Sem.wp_cmd_standAt, Sem.wp_bindName, Sem.wp_pure']
  exact Sem.wp_mono M Γ _ (fun v _ s₁ h₁ => h₁ Γ _ hΓ) (fun _ _ _ h' => h') _ _ (h Γ _ hΓ hC)
theorem wpC_Assign_stores {env : Env} {targets : List Expr} {value : Expr} {pos : Pos} {Q : Flow → Shared → Prop}
    (h : wpC M A (eval value env) (fun v s₁ => wpAny M A (assignAll v ((assignEach targets env).map (·.2))) (fun _ => Q .next) E s₁) E s)
    (hs : swapsWithSole targets value pos.line env = pure false) (hw : swappedStores targets value env = pure none) : wpC M A (exec (.Assign targets value pos) env) Q E s := by
  rw [exec_Assign_arm]
  refine wpC_bindA (wpAny_standAt ?_)
  rw [hs]
  refine wpC_bindA (wpAny_pure ?_)
  rw [if_neg (by decide)]
  refine wpC_bind (wpC_mono h (fun v s₁ h₁ => ?_) fun _ _ x => x)
  rw [hw]
  refine wpC_bindA (wpAny_pure ?_)
  show wpC M A (do assignAll v ((assignEach targets env).map (·.2)); pure .next) Q E s₁
  exact wpC_any (wpAny_bind (wpAny_mono h₁ (fun _ _ x => wpAny_pure x) fun _ _ x => x))
theorem wpC_BinOp {env : Env} {l op r pos} {Q : Value → Shared → Prop}
    (h : wpC M A (eval l env) (fun a s₁ => wpC M A (eval r env) (fun b s₂ => wpAny M A (binaryOp op a b) Q E s₂) E s₁) E s) : wpC M A (eval (.BinOp l op r pos) env) Q E s := fun Γ p hΓ hC => by
  simp only [eval_BinOp, Sem.wp_bind', Sem.wp_holding, Sem.wp_cmd_standAt, Sem.wp_operate]
  exact Sem.wp_mono M Γ _ (fun a p₁ s₁ h₁ => Sem.wp_mono M Γ _ (fun b _ s₂ h₂ => h₂ Γ _ hΓ) (fun _ _ _ h' => h') _ _ (h₁ Γ p₁ hΓ hC)) (fun _ _ _ h' => h') _ _ (h Γ p hΓ hC)
theorem wpC_Call_Name {env : Env} {id : Str} {p pos : Pos} {args : List Expr} {Q : Value → Shared → Prop}
    (h : wpAny M A (eval (.Name id p) env) (fun f s₁ => wpC M A (callWith pos f [] (backTo pos (starEach args env)) []) Q E s₁) E s) : wpC M A (eval (.Call (.Name id p) args [] pos) env) Q E s := by
  show wpC M A (do callWith pos (← eval (.Name id p) env) [] (backTo pos (starEach args env)) (backToKw pos (keywordEach [] env))) Q E s
  exact wpC_bindA h
theorem splicedC_cons {x : Sem Value} {rest : List (Bool × Sem Value)} {Q : List Value → Shared → Prop}
    (h : wpC M A x (fun v s₁ => wpAny M A (spliced rest) (fun vs s₂ => Q (v :: vs) s₂) E s₁) E s) : wpC M A (spliced ((false, x) :: rest)) Q E s := by
  rw [spliced]
  refine wpC_bind (wpC_mono h (fun v s₁ h₁ => ?_) fun _ _ x => x)
  simp only [Bool.false_eq_true, if_false]
  exact wpC_any (wpAny_bind (wpAny_pure (wpAny_bind (wpAny_holding (wpAny_mono h₁ (fun vs s₂ h₂ => wpAny_pure h₂) fun _ _ x => x)))))
theorem evalArgsC_plain {f : Value} {x : Sem Value} {rest : List (Bool × Sem Value)} {Q : Args → Shared → Prop}
    (h : wpC M A (spliced ((false, x) :: rest)) (fun vs s' => Q ⟨vs, []⟩ s') E s) : wpC M A (evalArgs f true ((false, x) :: rest) []) Q E s := by
  unfold evalArgs
  show wpC M A (spliced ((false, x) :: rest) >>= _) Q E s
  refine wpC_bind (wpC_mono h (fun vs s' h' => ?_) fun _ _ x => x)
  exact wpC_any (wpAny_holding (wpAny_bind (wpAny_pure (wpAny_bind (wpAny_pure (wpAny_pure h'))))))
theorem wpC_keep {vs : List Value} (h : wpC M A t Q E s) : wpC M A (t.keep vs) Q E s := fun Γ p hΓ hC => by rw [Sem.wp_keep]; exact h Γ p hΓ hC
theorem callWithC_of {f : Value} {pos : Pos} {first : List Value} {Q : Value → Shared → Prop} {P : Heap → Prop} {args : List (Bool × Sem Value)} {keywords : List (Option Str × Sem Value)} (hplain : (args.any (·.1) || keywords.any (·.1.isNone)) = false)
    (hk : ∀ h, P h → ∃ k, (k = Keeper.frame ∨ k = Keeper.machine ∨ k = Keeper.boundFrame) ∧ Looks M h (keeperOf f) k)
    (h : wpC M A (evalArgs f true args keywords) (fun a s₁ => P s₁.heap ∧ wpC M A (call f (first ++ a.pos) a.kw) Q E s₁) E s) : wpC M A (callWith pos f first args keywords) Q E s := by
  unfold callWith
  refine wpC_bind (wpC_holding (wpC_mono h (fun a s₁ h₁ => wpC_bindA (wpAny_standAt ?_)) fun _ _ x => x))
  obtain ⟨k, hk', L⟩ := hk _ h₁.1
  simp only [hplain]
  refine wpC_bindA (L.here ?_)
  have tail : ∀ {t : Sem Value}, wpC M A t Q E s₁ → wpC M A (t >>= fun r => holding [r] point >>= fun _ => pure r) Q E s₁ :=
    fun ht => wpC_bind (wpC_mono ht (fun r s₂ hr => wpC_any (wpAny_bind (wpAny_holding (wpAny_point (wpAny_pure hr))))) fun _ _ x => x)
  have marked (mk : Value) : wpC M A (callMarked mk f (first ++ a.pos) a.kw) Q E s₁ := by unfold callMarked; exact wpC_keep h₁.2
  rcases hk' with rfl | rfl | rfl <;> dsimp only <;> first | exact tail h₁.2 | (split <;> first | exact tail h₁.2 | exact tail (marked _))
end
section
variable {prog : Program} {w : World} {A : Around} {E : Value → Shared → Prop} {s : Shared} {R : Result → Shared → Prop}
theorem codeC_builtin {id : String} {args : Args} {b : Builtin} (hcalm : viewIds.contains id = false) (hb : entryFor table id = some b)
    (h : wpC (model prog w) (A.under (.builtin id args)) (b args)
      (fun fin s' => match fin with | .done f => R (.ok f) s' | .again c' => c'.quiet = true ∧ codeC (model prog w) A c' R s') (fun e s' => R (.error e) s') s) :
    codeC (model prog w) A (.builtin id args) R s := by
  refine codeC_of_tree (by show (!viewIds.contains id) = true; rw [hcalm]; rfl) ?_
  show wpC _ _ (match entryFor table id with | some b => b args | none => unsupported ((withoutEnding? id "#data").getD id)) _ _ s
  rw [hb]; exact h
theorem codeC_call_builtin {id : String} {args : Args} {b : Builtin} (hcalm : viewIds.contains id = false) (hq : plainId id = true) (hb : entryFor table id = some b)
    (h : wpAny (model prog w) A.in1 (checkBuiltinCall id args) (fun _ s₁ => wpC (model prog w) A.in1 (b args)
      (fun fin s' => match fin with | .done f => R (.ok f) s' | .again c' => c'.quiet = true ∧ codeC (model prog w) A c' R s') (fun e s' => R (.error e) s') s₁)
      (fun e s' => R (.error e) s') s) : codeC (model prog w) A (.call (.builtin id) args) R s := by
  refine codeC_of_tree rfl ?_
  show wpC _ A.in1 (do checkBuiltinCall id args; again (.builtin id args)) _ _ s
  refine wpC_bindA (wpAny_mono h (fun _ s₁ h₁ => wpC_pure (And.intro (plainId_quiet hq args) (codeC_builtin hcalm hb ?_))) fun _ _ h' => h')
  rw [Around.under_plainId hq args]; exact h₁
theorem codeC_func {body env}
    (h : wpC (model prog w) (A.deeper env) (execs body env) (fun f s' => R (.ok (.ret (match f with | .ret v => v | _ => .none))) s')
      (fun e s' => wpAny (model prog w) (A.deeper env) (leaving env e) (fun _ s'' => R (.error e) s'') (fun e' s'' => R (.error e') s'') s') s) : codeC (model prog w) A (.func body env) R s := by
  refine codeC_of_tree rfl ?_
  show wpC _ (A.deeper env) (do point; match ← (execs body env).onRaise (leaving env) with | .ret v => ret v | _ => ret .none) _ _ s
  refine wpC_bindA (wpAny_point (wpC_bind (wpC_onRaise (wpC_mono h (fun f s' h' => ?_) fun _ _ h' => wpC_any h'))))
  cases f <;> exact wpC_any (wpAny_pure h')
theorem codeC_block {stmts : List Stmt} {env : Env}
    (h : wpC (model prog w) A (execs stmts env) (fun f s' => R (.ok f) s') (notedBy (model prog w) A env fun e s' => R (.error e) s') s) : codeC (model prog w) A (.block stmts env) R s := by
  refine codeC_of_tree rfl ?_
  show wpC _ _ (do return Fin.done (← (execs stmts env).onRaise (fun x => do noteFrame x env; theTreesLotGoes x))) _ _ s
  exact wpC_bind (wpC_noted (wpC_mono h (fun f s' h' => wpC_pure h') fun _ _ h' => h'))
theorem codeC_call_function {a : Addr} {args : Args} {o : Obj} {fd : FuncData} {body : List Stmt} (hroom : A.depth < recursionLimit)
    (ho : s.heap.get? a = some o)
    (hd' : o.data = .func fd) (hco : fd.scope.isCoroutine = false) (hgen : fd.scope.isGenerator = false) (hbody : fd.body = .stmts body) (hcd : s.heap.CodeRec fd.code fd.qualname)
    (h : wpAny (model prog w) A.in1 (bindArgs fd args) (fun binds s₁ =>
      wpAny (model prog w) A.in1 (newFunctionEnv fd.scope fd.globals fd.closure binds (fd.qualname ++ ".<locals>.") (some a) fd.code none fd.builtins)
        (fun env s₂ => s₂.heap.NoLimit ∧ codeC (model prog w) A (.func body env) R s₂) (fun e s' => R (.error e) s') s₁) (fun e s' => R (.error e) s') s) :
    codeC (model prog w) A (.call (.ref a) args) R s := by
  refine codeC_of_tree rfl (wpC_any ?_)
  show wpAny _ A.in1 (callAny (.ref a) args) _ _ s
  simp only [callAny]
  refine wpAny_bind (wpAny_load ho ?_)
  obtain ⟨c, oc, vs, tq, hc, hoc, hdc, hq⟩ := hcd
  simp only [hd', callFunction, hco, hgen, hbody, hc]
  rw [hc] at h
  refine wpAny_bind (m := field (.ref c) 1) (wpAny_field hoc hdc hq (wpAny_bind (wpAny_pure ?_)))
  exact wpAny_bind (wpAny_mono h (fun binds s₁ h₁ => wpAny_bind (wpAny_mono h₁ (fun env s₂ h₂ => wpAny_bind (wpAny_enterFrame h₂.1 hroom
    (wpAny_pure (And.intro rfl h₂.2)))) fun _ _ h' => h')) fun _ _ h' => h')
theorem codeC_call_def {a : Addr} {o : Obj} {fd : FuncData} {body : List Stmt} {args : Args} {binds : List (Str × Value)}
    (hroom : A.depth < recursionLimit) (ho : s.heap.get? a = some o) (hdata : o.data = .func fd) (hlim : s.heap.NoLimit) (hcd : s.heap.CodeRec fd.code fd.qualname) (hbody : fd.body = .stmts body) (hbind : BindsTo s fd args binds)
    (hcell : ∀ x ∈ fd.scope.names, x.2 ≠ .cell) (hloc : ∀ x ∈ binds, fd.scope.names.lookup x.1 = some .local)
    (h : ∀ h₀, h₀.Ns s.heap.objs.size (fun x => binds.reverse.lookup x) → (∀ b o, s.heap.get? b = some o → h₀.get? b = some o) →
      wpC (model prog w) (A.deeper (callEnv fd s.heap.objs.size a)) (execs body (callEnv fd s.heap.objs.size a)) (fun f s' => R (.ok (.ret (match f with | .ret v => v | _ => .none))) s')
        (fun e s' => wpAny (model prog w) (A.deeper (callEnv fd s.heap.objs.size a)) (leaving (callEnv fd s.heap.objs.size a) e) (fun _ s'' => R (.error e) s'') (fun e' s'' => R (.error e') s'') s')
        { s with heap := h₀, toks := s.toks + binds.length })
    (hco : fd.scope.isCoroutine = false := by rfl) (hgen : fd.scope.isGenerator = false := by rfl) (hk : fd.scope.kind = .function := by rfl) : codeC (model prog w) A (.call (.ref a) args) R s := by
  refine codeC_call_function hroom ho hdata hco hgen hbody hcd (hbind _ _ _ _ ?_)
  refine wpAny_newFunctionEnv hcell hloc (fun h₀ hns₀ hsb₀ => ⟨hlim.fresh _ hsb₀, codeC_func (h h₀ hns₀ fun b o e => ?_)⟩) hk
  exact hsb₀.extBut b o (Nat.ne_of_lt (Heap.lt_size e)) (Heap.get?_push_of_some _ e)
theorem codeC_forLoop {target it body orelse env} (I : Nat → Shared → Prop)
    (turn : ∀ n s, I n s → wpAny (model prog w) A (pyNext it) (fun r s₁ => match r with
      | none => wpC (model prog w) A (execs orelse env) (fun f s₃ => R (.ok f) s₃) (notedBy (model prog w) A env fun e s' => R (.error e) s') s₁
      | some v => wpAny (model prog w) A (assign target env v) (fun _ s₂ => wpC (model prog w) A (execs body env) (fun f s₃ => match f with
          | .next | .cont => ∃ m, m < n ∧ I m s₃
          | .brk => R (.ok .next) s₃
          | .ret v => R (.ok (.ret v)) s₃) (notedBy (model prog w) A env fun e s' => R (.error e) s') s₂) (notedBy (model prog w) A env fun e s' => R (.error e) s') s₁) (notedBy (model prog w) A env fun e s' => R (.error e) s') s)
    (n : Nat) (h : I n s) (ht : ∀ v, letOwnedTupleGo target it v = pure () := by intro _; rfl) : codeC (model prog w) A (.forLoop target it body orelse env) R s := by
  refine codeC_loop' rfl rfl I (fun n s hI => ?_) n h
  show wpC _ _ ((forTurn target it body orelse env).onRaise (fun x => do noteFrame x env; theTreesLotGoes x)) _ _ s
  refine wpC_noted ?_
  simp only [forTurn]
  refine wpC_bindA (wpAny_standAt (wpC_bindA (wpAny_onRaise (wpAny_mono (turn n s hI) (fun r s₁ h₁ => ?_) fun _ _ h' => wpAny_standAt h'))))
  cases r with
  | none => exact wpC_pure (.inr ⟨rfl, codeC_block h₁⟩)
  | some v =>
    refine wpC_bindA (wpAny_of_eq (ht v) ?_)
    refine wpC_bindA (wpAny_mono h₁ (fun _ s₂ h₂ => wpC_bind (wpC_mono h₂ (fun f s₃ h₃ => ?_) fun _ _ h' => h')) fun _ _ h' => h')
    cases f with
    | next => exact wpC_pure (.inl ⟨rfl, h₃⟩)
    | cont => exact wpC_pure (.inl ⟨rfl, h₃⟩)
    | brk => exact wpC_pure h₃
    | ret v => exact wpC_pure h₃
theorem wpC_For {env : Env} {target iter body orelse pos} {Q : Flow → Shared → Prop}
    (h : wpAny (model prog w) A (eval iter env) (fun x s₁ => wpAny (model prog w) A (pyIter x) (fun it s₂ =>
      codeC (model prog w) A (.forLoop target it body orelse env) (fun r s' => match r with | .ok f => Q f s' | .error e => cameBackBy (model prog w) A env E e s') s₂) E s₁) E s)
    (hs : ∀ x, foldedSetIterable iter env x = pure x := by intro _; rfl) :
    wpC (model prog w) A (exec (.For target iter body orelse pos) env) Q E s := by
  rw [exec_For]
  exact wpC_bindA (wpAny_standAt (wpC_bindA (wpAny_mono h (fun x s₁ h₁ => wpC_bindA (wpAny_of_eq (hs x) (wpC_bindA (wpAny_standAt (wpC_bindA (wpAny_holding
    (wpAny_mono h₁ (fun it s₂ h₂ => wpC_runOwn h₂) fun _ _ h' => h'))))))) fun _ _ h' => h')))
end
section
variable {prog : Program} {w : World} {A₀ A : Around} {s : Shared} {base h₀ : Heap} {outer : List Env} {L : Addr} {m mg mb : Str → Option Value} {env : Env} {news : List (Addr × Obj)} {K : Frag} {p : Program} {loose : List Str} {mean : ExcName → Option Value}
  {R : Result → Shared → Prop} {name qual : Str} {params : Arguments} {body : List Stmt} {scope : Scope} {dV kV doc pm cdv ct oc : Value} {an od : Option Addr} {osl : Array (Option Value)} {f cc : Addr} {args : Args} {binds : List (Str × Value)}
theorem codeC_def (B : Below A₀ base outer h₀) (F : Fr h₀ L s.heap m) (X₀ : K.In h₀) (N : News h₀ L s.heap news) (T : Top p loose mean mg mb h₀) (hA : A.frames = some (env :: outer)) (hf : env.frame = some L) (hke : env.scope.kind = .function)
    (ho : K.lookup f = some ⟨oc, od, .func (fnOf name qual params body scope dV kV doc pm an cdv ct), osl⟩) (hcd : codeIn K cdv qual = true) (hroom : A.depth < recursionLimit)
    (hbind : BindsTo s (fnOf name qual params body scope dV kV doc pm an cdv ct) args binds) (hloc : ∀ y ∈ binds, scope.names.lookup y.1 = some .local)
    (h : ∀ g L' h₁, Fr h₀ L g m → Fr g L' h₁ (fun y => binds.reverse.lookup y) → News g L' h₁ news → Below A base (env :: outer) g → K.In g → Top p loose mean mg mb g → (∀ p ∈ news, p.1 < L') →
      wpC (model prog w) (A.deeper (envOf qual scope L' f cdv)) (execs body (envOf qual scope L' f cdv))
        (fun fl s' => LeaveK h₀ L m g R (match fl with | .ret v => v | _ => .none) s')
        (fun e s' => wpAny (model prog w) (A.deeper (envOf qual scope L' f cdv)) (leaving (envOf qual scope L' f cdv) e) (fun _ s'' => R (.error e) s'') (fun e' s'' => R (.error e') s'') s')
        { s with heap := h₁, toks := s.toks + binds.length })
    (hco : scope.isCoroutine = false := by rfl) (hgen : scope.isGenerator = false := by rfl) (hk : scope.kind = .function := by rfl)
    (hcell : ∀ x ∈ scope.names, x.2 ≠ .cell := by decide) : codeC (model prog w) A (.call (.ref f) args) R s := by
  obtain ⟨FG, BG, st, lv⟩ := groundX (R := R) B F N hA hf hke
  refine codeC_call_def (fd := fnOf name qual params body scope dV kV doc pm an cdv ct) (body := body) (binds := binds) hroom ((X₀.keeps F.keep) _ _ ho) rfl (T.nolimit.keeps F.keep) (codeRec_of (X₀.keeps F.keep) hcd) rfl hbind hcell hloc (fun h₁ hns hk₁ => ?_) hco hgen hk
  exact wpC_mono (h _ s.heap.objs.size h₁ FG ⟨hns, fun b o e => hk₁ b o (of_hideAll _ e), Nat.le_of_eq (hideAll_size _ _)⟩
    (fun p hp => ⟨hk₁ _ _ (N p hp).1, Nat.ne_of_lt (Heap.lt_size (N p hp).1), hideAll_none _ (List.mem_map_of_mem hp)⟩) BG (X₀.keeps st) (T.keeps st) (fun p hp => Heap.lt_size (N p hp).1)) (fun fl s' hl => lv _ _ hl) fun _ _ y => y
theorem codeA_def (B : Below A₀ base outer h₀) (F : Fr h₀ L s.heap m) (X₀ : K.In h₀) (N : News h₀ L s.heap news) (T : Top p loose mean mg mb h₀) (hA : A.frames = some (env :: outer)) (hf : env.frame = some L) (hke : env.scope.kind = .function)
    (ho : K.lookup f = some ⟨oc, od, .func (fnOf name qual params body scope dV kV doc pm an cdv ct), osl⟩) (hcd : codeIn K cdv qual = true) (hroom : A.depth < recursionLimit)
    (hbind : BindsTo s (fnOf name qual params body scope dV kV doc pm an cdv ct) args binds) (hloc : ∀ y ∈ binds, scope.names.lookup y.1 = some .local)
    (h : ∀ g L' h₁, Fr h₀ L g m → Fr g L' h₁ (fun y => binds.reverse.lookup y) → News g L' h₁ news → Below A base (env :: outer) g → K.In g → Top p loose mean mg mb g → (∀ p ∈ news, p.1 < L') →
      wpAny (model prog w) (A.deeper (envOf qual scope L' f cdv)) (execs body (envOf qual scope L' f cdv))
        (fun fl s' => LeaveK h₀ L m g R (match fl with | .ret v => v | _ => .none) s')
        (fun e s' => wpAny (model prog w) (A.deeper (envOf qual scope L' f cdv)) (leaving (envOf qual scope L' f cdv) e) (fun _ s'' => R (.error e) s'') (fun e' s'' => R (.error e') s'') s')
        { s with heap := h₁, toks := s.toks + binds.length })
    (hco : scope.isCoroutine = false := by rfl) (hgen : scope.isGenerator = false := by rfl) (hk : scope.kind = .function := by rfl)
    (hcell : ∀ x ∈ scope.names, x.2 ≠ .cell := by decide) : codeAny (model prog w) A (.call (.ref f) args) R s := by
  obtain ⟨FG, BG, st, lv⟩ := groundX (R := R) B F N hA hf hke
  refine codeAny_call_def (fd := fnOf name qual params body scope dV kV doc pm an cdv ct) (body := body) (binds := binds) hroom ((X₀.keeps F.keep) _ _ ho) rfl (T.nolimit.keeps F.keep) (codeRec_of (X₀.keeps F.keep) hcd) rfl hbind hcell hloc (fun h₁ hns hk₁ => ?_) hco hgen hk
  exact wpAny_mono (h _ s.heap.objs.size h₁ FG ⟨hns, fun b o e => hk₁ b o (of_hideAll _ e), Nat.le_of_eq (hideAll_size _ _)⟩
    (fun p hp => ⟨hk₁ _ _ (N p hp).1, Nat.ne_of_lt (Heap.lt_size (N p hp).1), hideAll_none _ (List.mem_map_of_mem hp)⟩) BG (X₀.keeps st) (T.keeps st) (fun p hp => Heap.lt_size (N p hp).1)) (fun fl s' hl => lv _ _ hl) fun _ _ y => y
end
end

section
/-- The one activation from which a claim's call is made: nothing lies below it. -/
noncomputable def base0 : Ctx := ⟨.builtin "claim.caller" {}, none, none, [], none⟩
theorem base0_calm : Calm base0 := ⟨by decide +kernel, fun _ h => nomatch h⟩
theorem ends0 {prog : Program} {w : World} {t : Sem Fin} {s : Shared} {R : Result → Shared → Prop} (hz : s.asleep)
    (h : wpC (model prog w) callerA t (fun fin s' => ∃ v, fin = .done (.ret v) ∧ R (.ok (.ret v)) s' ∧ AllBare s'.gens) (fun e s' => R (.error e) s' ∧ AllBare s'.gens) s) :
    ∃ n r s' s'', runN (denote table) prog w n s ⟨t, .builtin "claim.caller" {}, default, []⟩ = .halted (outcomeOf r) s' ∧
      schedN (denote table) prog w n (.single s ⟨t, .builtin "claim.caller" {}, default, []⟩) = .halted (outcomeOf r) s' ∧ s'.forget = s''.forget ∧ R r s'' := by
  have k : Sem.wp (model prog w) base0 t (Sem.finPost (model prog w) base0 fun r s' => R r s' ∧ leftWithCleanup s'.gens = false) (fun e _ s' => R (.error e) s' ∧ leftWithCleanup s'.gens = false) default s :=
    Sem.wp_mono _ _ _ (fun fin p s' ⟨v, e, a, b⟩ => by subst e; exact ⟨a, leftWithCleanup_false_of_bare b⟩) (fun _ _ _ ⟨a, b⟩ => ⟨a, leftWithCleanup_false_of_bare b⟩) _ _ (h base0 default caller_in base0_calm)
  obtain ⟨n, r, s₁, s₂, a, b, c, d⟩ := wp_halts_full (M := model prog w) hz k
  exact ⟨n, r, s₂, s₁, b, a, c, d⟩
theorem from0 {c : ClaimW} {tree : List Value → Sem Fin} {w : World} {s : Shared} {free : Addr → Prop} {gens : Prop} {kept : Heap → Prop} (hz : s.asleep) (hg : s.gens = #[])
    (h : ∀ args, c.pre args = true → WData.layableAll args = true → ∀ ord : List DictEntry → List DictEntry, (∀ l, (ord l).Perm l) → ∃ vs s₁, layAllW c.records (classAt s.heap) w.params ord args s = some (vs, s₁) ∧
      wpC (model c.prog w) callerA (tree vs) (fun fin z => ∃ v, fin = .done (.ret v) ∧ (c.Ends s args vs s₁ (.ok (.ret v)) z ∧ z.os = s.os ∧ kept z.heap) ∧ AllBare z.gens) (fun e z => (c.Ends s args vs s₁ (.error e) z ∧ z.os = s.os ∧ kept z.heap) ∧ AllBare z.gens) s₁) :
    c.CallFrom (fun vs => ⟨tree vs, .builtin "claim.caller" {}, default, []⟩) w free gens kept s := by
  intro args hpre hlay ord hord
  obtain ⟨vs, s₁, hl, hw⟩ := h args hpre hlay ord hord
  have un := layAllW_rest _ _ _ hl
  obtain ⟨n, x, z, z', hr, hs, hfo, hE, hos, hkp⟩ := ends0 (R := fun x z => c.Ends s args vs s₁ x z ∧ z.os = s.os ∧ kept z.heap) (Shared.asleep_of_life un.2.2.2 hz) hw
  obtain ⟨eh, _, _, eo, _⟩ := Shared.forget_eq hfo
  replace hE := hE.congr eh
  rw [← eo] at hos
  rw [← eh] at hkp
  refine ⟨vs, s₁, hl, n, _, z, hs, ?_, (fun _ i x hx => by rw [hg] at hx; simp at hx), hkp, by rw [(runN_life _ _ _ hr).trans un.2.2.2], Shared.rest_eq hos⟩
  rcases hE with ⟨v, rfl, d1, d2, d3, d4, d5⟩ | ⟨e, ob, cls, rfl, d1, d2, d3, d4, d5⟩
  · exact .inl ⟨v, rfl, d1, d2, d3, fun b o y _ => d4 b o y, d5⟩
  · exact .inr ⟨e, ob, cls, rfl, d1, d2, d3, d4, fun b o y _ => d5 b o y⟩
noncomputable abbrev WalkC (q : Program) (loose : List Str) (XP : (Str → Option Value) → Heap → Prop) (YP : World → Heap → Prop) (r : RowW) (d : DefRec) (kwd : List (Str × Expr)) : Prop :=
  ∀ (w : World) (s₀ s₁ : Shared) (mg mb : Str → Option Value), Ground q loose r.records XP w s₀ mg mb s₁.heap → YP w s₁.heap → ∀ (a : Addr) (o : Obj) (pm cd doc dV kV : Value), s₁.heap.get? a = some o →
    o.data = .func { docDef d.name d.params d.body d.scope pm cd doc with defaults := dV, kwdefaults := kV } → s₁.heap.CodeRec cd d.name → Dflts mg s₁.heap d.params kwd dV kV → mg d.name = some (.ref a) → s₁.gens = #[] →
    ∀ (args : List WData) (vals : List Value) (as : List Addr), r.claim.pre args = true → WData.layableAll args = true → ReadsAllW r.records (classAt s₀.heap) s₁.heap vals args as → WellAll w.params s₁.heap vals args → (∀ a ∈ as, (a == sysModules) = false) →
      wpC (model r.prog w) callerA (PySem.call (.ref a) vals) (fun v s' => GoodWG r.claim (classAt s₀.heap) (ExcName.means s₀.heap) args s₁ (.ok (.ret v)) s')
        (fun e s' => GoodWG r.claim (classAt s₀.heap) (ExcName.means s₀.heap) args s₁ (.error e) s') s₁
/-- The head's last step, for a walk that holds where no view lies on the stack. -/
theorem PySem.W.holds_open {r : OpenRow} {q : Program} {loose : List Str} {Xt : Shared → Bool} {XP : (Str → Option Value) → Heap → Prop} {α : Type} {Yf : Shared → α} {Ya : World → α} {YP : World → Heap → Prop} {d : DefRec} {kwd : List (Str × Expr)} {N : Nat}
    (left : LeftO r.prog q loose Xt Yf Ya N) (hY : ∀ w s, Yf s = Ya w → YP w s.heap) (hYk : ∀ w h h', YP w h → (∀ b o, h.get? b = some o → h'.get? b = some o) → YP w h')
    (hX : ∀ s, Xt s = true → XP (s.heap.nsMap mainGlobals) s.heap) (hXk : ∀ mg h h', XP mg h → (∀ b o, h.get? b = some o → h'.get? b = some o) → XP mg h')
    (hdef : defOf q r.name = some (d, kwd)) (hp : r.prog.theDef r.name = some (d.params, d.body, d.scope)) (hk : kwWritten? d.params.kwonlyargs d.params.kw_defaults = some kwd) (hRf : ∀ s, Xt s = true → RecFacts r.records s.heap) (hwr : (!r.writes || r.records.isEmpty) = true)
    (k1 : r.wellSaid = true) (ok : (chainsOk q && opensWell r.prog && (frees r.toRowW && r.within.isEmpty)) = true) (hb : r.prog.bare) (hw : r.toRowW.promised)
    (call : WalkC q loose XP YP r.toRowW d kwd) : r.Holds := by
  have okk := ok
  simp only [Bool.and_eq_true] at okk
  obtain ⟨⟨hch, ho⟩, hfr, hwi⟩ := okk
  obtain ⟨hsame, hu, ha, hap, hm⟩ := frees_parts hfr
  have hid := ident_freeW hu ha hap
  have hwn : r.toRowW.claim.within = [] := List.isEmpty_iff.mp hwi
  refine ⟨k1, hw, ⟨hb, ho, by show r.makers.map _ = []; rw [hm]; rfl⟩, hw.witness, fun w => ⟨(left.behind hX hch w).1, fun s' hs' => ?_⟩⟩
  obtain ⟨s₀, hf, hg0, s, hT, hz, hgs, hg, GG, y⟩ := (left.behind (XP := fun mg h => XP mg h ∧ RecFacts r.records h) (fun s hs => ⟨hX s hs, hRf s hs⟩) hch w).2 s' hs'
  have RF := GG.X.2
  have G0 : Ground q loose [] XP w s (s.heap.nsMap mainGlobals) (s.heap.nsMap builtinsNs) s.heap := { GG with X := GG.X.1 }
  have hgn : s.gens = #[] := Array.eq_empty_of_size_eq_zero (beq_iff_eq.mp hgs)
  refine ⟨s₀, hf, hg0, s, hT, fun n hn => ?_, RF.1, RF.2.1, from0 hz hgn fun args hpre hlay ord hord => ?_⟩
  · obtain rfl : n = r.name := by split at hn <;> simp_all
    exact pinned_of_view hg G0 hdef hp hk
  obtain ⟨⟨vs, s₁⟩, hl⟩ := Option.isSome_iff_exists.mp (layAllW_isSome (P := w.params) (ord := ord) (RF.ground G0).has args r.args s (pre_splitW hpre).1)
  have up := layAllW_keeps _ _ _ hl
  have un := layAllW_rest _ _ _ hl
  obtain ⟨as, hrd, hin, hold⟩ := reads_layAllW hord _ _ _ hl hlay s₁.heap (fun _ _ e => e)
  have L : Laid r.records w s s₁ args vs as := ⟨⟨ord, hord, hl⟩, hrd, hin, hold, up, un.1.trans hgn, un.2.2.1⟩
  have G := (RF.ground G0).keeps hXk up
  obtain ⟨a, o, pm, cd, doc, dV, kV, f1, f2, f3, f4, f5⟩ := G.fn hdef
  have walk := call w s s₁ _ _ G (hYk _ _ _ (hY w s y) up) a o pm cd doc dV kV f2 f3 f4 f5 (defOf_name hdef ▸ f1) L.gens args vs as hpre hlay L.reads L.well (L.low G0.low)
  have fin : ∀ {x z}, GoodWG r.toRowW.claim (classAt s.heap) (ExcName.means s.heap) args s₁ x z → (r.toRowW.claim.Ends s args vs s₁ x z ∧ z.os = s.os ∧ (r.writes = true → namesKept r.prog r.keeps s.heap z.heap ∧ ∀ x ∈ r.records, ∀ a, classAt s.heap x.1 = some a → recordClass z.heap a x.1 (x.2.map (·.1)) = true)) ∧ AllBare z.gens :=
    fun g => (have q := g.laid (c := r.toRowW.claim) hsame hwn hid L; ⟨⟨q.1, q.2.1, fun e => ⟨namesKept_of hT hg r.keeps up g.2.1.old, noTable hwr e⟩⟩, q.2.2⟩)
  refine ⟨vs, s₁, hl, wpC_bindA (wpAny_nsGet G.T.g ?_)⟩
  rw [f1]
  exact wpC_bind (wpC_mono walk (fun v z g => wpC_pure ⟨v, rfl, fin g⟩) fun e z g => fin g)
/-- A hook that tells of some empty tables besides. -/
noncomputable def tabHook (H : Hook) (ts : List Addr) : Hook where
  α := H.α × List (Option Obj)
  obs := fun s => (H.obs s, ts.map s.heap.get?)
  val := fun w => (H.val w, ts.map fun _ => some (tabObj #[]))
  says := fun w h => H.says w h ∧ ∀ P ∈ ts, h.get? P = some (tabObj #[])
  of := fun w s x => ⟨H.of w s (Prod.mk.inj x).1, List.map_inj_left.mp (Prod.mk.inj x).2⟩
  keeps := fun w h h' x k => ⟨H.keeps w h h' x.1 k, fun P hP => k _ _ (x.2 P hP)⟩
end

section
local macro_rules
  | `(tactic| o_head ($_h : $_t)) => Lean.Macro.throwUnsupported
  | `(tactic| o_head $H) => `(tactic| o_head (tabHook $H [91] : PySem.W.Hook))
set_option synthInstance.maxSize 1 in
set_option maxHeartbeats 8000000 in
open_top hd for PySem.Challenge.rw_xp0004_01
end

noncomputable def catS (l : List PySem.Str) : PySem.Str := ⟨(l.flatMap fun x => x.cps.toList).toArray⟩
theorem emp_cps : (Str.ofString "").cps = #[] := by decide +kernel
theorem emp_len : (Str.ofString "").length = 0 := by decide +kernel
theorem join_emp (l : List PySem.Str) : Txt.join (Str.ofString "") l = catS l := by
  have key : ∀ (r : List PySem.Str) (a : Array Nat), r.foldl (fun acc p => acc ++ (Str.ofString "").cps ++ p.cps) a = a ++ (r.flatMap fun x => x.cps.toList).toArray := by
    intro r
    induction r with
    | nil => intro a; simp
    | cons p r ih => intro a; rw [List.foldl_cons, ih, emp_cps]; apply Array.ext'; simp
  unfold Txt.join Builtin.Str.glued catS
  cases l with
  | nil => rfl
  | cons p r => rw [List.drop_one, List.tail_cons, key, List.headD_cons]; congr 1; apply Array.ext'; simp
theorem catS_two (a b : PySem.Str) : catS [a, b] = a ++ b := by
  unfold catS
  apply Str.ext'
  rw [Str.cps_append]; apply Array.ext'; simp
theorem room_d {d N : Nat} (h : d + 20 < N) : d + 1 + 10 < N := by omega
theorem room_u {d N : Nat} (h : d + 120 < N) : d + 3 + 80 < N := by omega
theorem room_s {a b c : Nat} (ha : a ≤ 200) (hb : b = 2) (hc : c ≤ 20) : a + b + c + 1 ≤ 1000 := by omega
theorem cutA {q i l : Nat} (hl : l = 2 * q) (hi : i < q) : 2 * i + 2 ≤ l := by omega
theorem cutB {q i l : Nat} (hl : l = 2 * q) (hi : i < q) : min (2 * i) l = 2 * i := Nat.min_eq_left (Nat.le_trans (Nat.le_add_right _ 2) (cutA hl hi))
theorem cutC {q i l : Nat} (hl : l = 2 * q) (hi : i < q) : min (2 * i + 2) l - 2 * i = 2 := by rw [Nat.min_eq_left (cutA hl hi)]; exact Nat.add_sub_cancel_left _ _
theorem castA (i : Nat) : (0 : Int) + (i : Int) * 2 + 2 = ((2 * i + 2 : Nat) : Int) := by omega
theorem castB (i : Nat) : (0 : Int) + (i : Int) * 2 = ((2 * i : Nat) : Int) := by omega
theorem castD {n j : Nat} (h : j < 2 * n - 1) : 2 * (n : Int) - 2 + (j : Int) * -1 = ((2 * n - 2 - j : Nat) : Int) := by omega
theorem castE {q j : Nat} (h : j < q) : q + 1 - 2 - j + 1 = q + 1 - 1 - j := by
  obtain ⟨k, rfl⟩ := Nat.exists_eq_add_of_lt h
  show (j + k) - j + 1 = (j + (k + 1)) - j
  rw [Nat.add_sub_cancel_left, Nat.add_sub_cancel_left]
theorem sub_two {a b : Nat} (h : b = a) : min (a - 2) b = a - 2 := Nat.min_eq_left (h ▸ Nat.sub_le _ _)
theorem seven {c : Int} (h0 : 0 ≤ c) (h : c < 7) : c = 0 ∨ c = 1 ∨ c = 2 ∨ c = 3 ∨ c = 4 ∨ c = 5 ∨ c = 6 := by
  obtain ⟨n, rfl⟩ := Int.eq_ofNat_of_zero_le h0
  exact (by decide : ∀ m : Fin 7, ((m.val : Nat) : Int) = 0 ∨ ((m.val : Nat) : Int) = 1 ∨ ((m.val : Nat) : Int) = 2 ∨ ((m.val : Nat) : Int) = 3 ∨ ((m.val : Nat) : Int) = 4 ∨ ((m.val : Nat) : Int) = 5 ∨ ((m.val : Nat) : Int) = 6) ⟨n, Int.ofNat_lt.mp h⟩
theorem four {i : Nat} (h : i < 4) : i = 0 ∨ i = 1 ∨ i = 2 ∨ i = 3 :=
  (by decide : ∀ m : Fin 4, m.val = 0 ∨ m.val = 1 ∨ m.val = 2 ∨ m.val = 3) ⟨i, h⟩

noncomputable abbrev PR : Program := PySem.Challenge.rw_xp0004_01.row.prog
noncomputable abbrev KK (w : World) : Frag := hd.heap_39 w.params
noncomputable abbrev accObj (dx : Addr) (items : Array Value) (n : Nat) : Obj := { cls := .ref 122, dict := some dx, data := .seq items n }
section
variable {w : World} {A : Around} {R : Result → Shared → Prop} {h : Heap} {g : Array GenState} {d : Drawn} {t : Nat} {os : OsState}
theorem acc_chk (X : (hd.heap_39 w.params).In h) : Looks (model PR w) h (checkBuiltinCall "list.__new__" ⟨[.ref 122], []⟩) () := Looks.of_peek X (by kernel_rfl)
theorem acc_isType (X : (hd.heap_39 w.params).In h) : Looks (model PR w) h (isType (.ref 122)) true := Looks.of_peek X (by kernel_rfl)
theorem acc_sub (X : (hd.heap_39 w.params).In h) : Looks (model PR w) h (isSubtype (.ref 122) (.type "list")) true := Looks.of_peek X (by kernel_rfl)
theorem acc_del (X : (hd.heap_39 w.params).In h) : Looks (model PR w) h (classHasDel 122) false := Looks.of_peek X (by kernel_rfl)
theorem acc_new (X : (hd.heap_39 w.params).In h)
   (hq : R (.ok (.ret (.ref (h.objs.size + 1)))) ⟨(h.push emptyDict).push (accObj h.objs.size #[] 0), g, d, t, os⟩) :
   codeAny (model PR w) A (.call (.builtin "list.__new__") ⟨[.ref 122], []⟩) R ⟨h, g, d, t, os⟩ := by
  refine codeAny_call_builtin_code (Code.quiet_builtin _ (by decide +kernel)) ?_
  refine (acc_chk X).at ?_
  refine codeAny_builtin_stack F.entry_list_new rfl fun p st => ?_
  have hown := owner_list_new
  simp only [hown]
  have h1 := acc_isType X
  have h2 := acc_sub X
  have h3 := acc_del (h := (h.push emptyDict).push (accObj h.objs.size #[] 0)) (X.keeps fun b o e => Heap.get?_push_of_some _ (Heap.get?_push_of_some _ e))
  repeat (first | simp only [Bool.not_true, Bool.false_eq_true, if_false] | lk)
  show R _ _
  rw [Heap.size_push]
  exact hq
theorem acc_mro (X : (hd.heap_39 w.params).In h) : Looks (model PR w) h (mroOf (.ref 122)) [.ref 122, .type "list", .type "object"] := Looks.of_peek X (by kernel_rfl)
theorem acc_made (X : (hd.heap_39 w.params).In h) : Looks (model PR w) h (Bind.madeBy (.ref 122)) (some "list.__new__") := Looks.of_peek X (by kernel_rfl)
theorem acc_callAny (X : (hd.heap_39 w.params).In h) : Looks (model PR w) h (callAny (.ref 122) ⟨[], []⟩) (Fin.again (.call (.builtin "type.__call__") ⟨[.ref 122], []⟩)) := Looks.of_peek X (by kernel_rfl)
theorem acc_chk2 (X : (hd.heap_39 w.params).In h) : Looks (model PR w) h (checkBuiltinCall "type.__call__" ⟨[.ref 122], []⟩) () := Looks.of_peek X (by kernel_rfl)
theorem acc_selfsub (X : (hd.heap_39 w.params).In h) : Looks (model PR w) h (isSubtype (.ref 122) (.ref 122)) true := Looks.of_peek X (by kernel_rfl)
theorem acc_init (X : (hd.heap_39 w.params).In h) : Looks (model PR w) h (typeLookup (.ref 122) "__init__") (some (.ref 59)) := Looks.of_peek X (by kernel_rfl)
theorem acc_make (X : (hd.heap_39 w.params).In h)
    (hq : codeAny (model PR w) (A.under (.builtin "type.__call__" ⟨[.ref 122], []⟩)) (.call (.ref 59) ⟨[.ref (h.objs.size + 1)], []⟩) (InitBack (h.objs.size + 1) R) ⟨(h.push emptyDict).push (accObj h.objs.size #[] 0), g, d, t, os⟩) :
    codeAny (model PR w) A (.call (.ref 122) ⟨[], []⟩) R ⟨h, g, d, t, os⟩ := by
  refine codeAny_of_tree ?_
  show wpAny _ _ (callAny (.ref 122) _) _ _ _
  refine (acc_callAny X).at ?_
  refine (And.intro rfl ?_)
  refine codeAny_call_builtin_at (Code.quiet_builtin _ (by decide +kernel)) entry_typeCall ((acc_chk2 X).at ?_)
  unfold Builtin.«type.__call__»
  have h1 := acc_mro X
  have h2 := acc_made X
  have k : ∀ b o, h.get? b = some o → ((h.push emptyDict).push (accObj h.objs.size #[] 0)).get? b = some o := fun b o e => Heap.get?_push_of_some _ (Heap.get?_push_of_some _ e)
  repeat (first | simp only [Bool.not_true, Bool.false_eq_true, if_false] | with_reducible refine wpAny_call ?_ | lk)
  refine acc_new X ?_
  have X' := X.keeps k
  have h3 := acc_selfsub X'
  have h4 := acc_init X'
  have hx : ((h.push emptyDict).push (accObj h.objs.size #[] 0)).get? (h.objs.size + 1) = some (accObj h.objs.size #[] 0) := by heap_get
  have t1 : Looks (model PR w) ((h.push emptyDict).push (accObj h.objs.size #[] 0)) (typeOf (.ref (h.objs.size + 1))) (.ref 122) := (Looks.ld hx).andThen .now
  have b1 := bind_fn (M := model PR w) X' (.ref (h.objs.size + 1)) (f := 59) (by kernel_rfl)
  unfold isInstance callSpecial? specialOf
  repeat (first | with_reducible refine wpAny_call ?_ | lk)
  refine codeAny_mono hq fun r s' z => ?_
  rcases r with e | (v | _ | _ | _) <;> first | exact z | exact z.elim | skip
  obtain ⟨rfl, z⟩ := z
  exact wpAny_pure (wpAny_pure z)
end
section
variable {α : Type} {M : Model} {A : Around} {E : Value → Shared → Prop} {s : Shared} {Q : α → Shared → Prop}
theorem nd_call {c : Code} {hh : Option Value} {gd : Bool} {l : List Value} {k : Result → Sem α} (hc : codeAny M (A.mark hh) c (fun r s' => wpAny M A (k r) Q E s') s) (hnb : hh ≠ some byPass := by intro x; cases x) :
    wpAny M A (.call c hh gd l k) Q E s := fun Γ p hΓ => by
  show wpCode M (Γ.enter c hh p) (fun r s' => Sem.wp M Γ (k r) _ _ p s') p s
  exact wpCode_mono (fun r s' z => z Γ p hΓ) (hc _ p rfl (hΓ.enter c hh p hnb))
theorem nd_at {p : Pos} {k : Unit → Sem α} (h : wpAny M A (k ()) Q E s) : wpAny M A (.at p k) Q E s := fun Γ _ hΓ => h Γ p hΓ
theorem nd_update {a : Addr} {pt : Option Value} {f : Obj → Obj} {o : Obj} {k : Unit → Sem α} (ho : s.heap.get? a = some o) (h : wpAny M A (k ()) Q E { s with heap := s.heap.update a f }) : wpAny M A (.update a pt f k) Q E s :=
  fun Γ p hΓ => ⟨by rw [ho]; rfl, h Γ p hΓ⟩
theorem nd_handled {k : Option Value → Sem α} (h : wpAny M A (k A.handled) Q E s) : wpAny M A (.handled false k) Q E s := fun Γ p hΓ => by
  show Sem.wp M Γ (k Γ.handled) _ _ p s
  rw [hΓ.1]; exact h Γ p hΓ
end
section
variable {w : World} {A : Around} {R : Result → Shared → Prop} {E : Value → Shared → Prop} {h : Heap} {g : Array GenState} {d : Drawn} {t : Nat} {os : OsState} {x so dx : Addr} {items : Array Value} {n : Nat}
noncomputable abbrev superObj (x : Addr) : Obj := ks_superObj 122 x 122
theorem acc_type (hx : h.get? x = some (accObj dx items n)) : Looks (model PR w) h (typeOf (.ref x)) (.ref 122) := (Looks.ld hx).andThen .now
theorem acc_isList (hx : h.get? x = some (accObj dx items n)) (X : (hd.heap_39 w.params).In h) : Looks (model PR w) h (isInstance (.ref x) (.type "list")) true := (acc_type hx).andThen (acc_sub X)
theorem acc_opaque (X : (hd.heap_39 w.params).In h) : Looks (model PR w) h (opaqueClassAbove (.ref 122)) none := Looks.of_peek X (by kernel_rfl)
theorem acc_any (X : (hd.heap_39 w.params).In h) : Looks (model PR w) h (nsGet cStatics "thirdparty.any") none := Looks.of_peek X (by kernel_rfl)
theorem entry_method_descriptor : entryFor table "method_descriptor.__get__" = some Builtin.«method_descriptor.__get__» := entryFor_of_tree (by kernel_rfl)
theorem entry_wrapper_descriptor : entryFor table "wrapper_descriptor.__get__" = some Builtin.«wrapper_descriptor.__get__» := entryFor_of_tree (by kernel_rfl)
theorem bi_pop (X : (hd.heap_39 w.params).In h) : Looks (model PR w) h (classOwn (.type "list") "pop") (some (.builtin "list.pop")) := Looks.of_peek X (by kernel_rfl)
theorem ty_pop (X : (hd.heap_39 w.params).In h) : Looks (model PR w) h (typeOf (.builtin "list.pop")) (.type "method_descriptor") := Looks.of_peek X (by kernel_rfl)
theorem dg_pop (X : (hd.heap_39 w.params).In h) : Looks (model PR w) h (checkBuiltinCall "method_descriptor.__get__" ⟨[.builtin "list.pop", .ref x, .ref 122], []⟩) () := Looks.of_peek X (by kernel_rfl)
theorem tl_mdesc (X : (hd.heap_39 w.params).In h) : Looks (model PR w) h (typeLookup (.type "method_descriptor") "__get__") (some (.builtin "method_descriptor.__get__")) := Looks.of_peek X (by kernel_rfl)
theorem tl_wdesc (X : (hd.heap_39 w.params).In h) : Looks (model PR w) h (typeLookup (.type "wrapper_descriptor") "__get__") (some (.builtin "wrapper_descriptor.__get__")) := Looks.of_peek X (by kernel_rfl)
noncomputable abbrev boundObj (bt id : String) (x : Addr) : Obj := { cls := .type bt, data := .fields #[.builtin id, .ref x] }
set_option maxHeartbeats 4000000 in
theorem getMethod_sup {pl : Sem Bool} {Q : Value × List Value → Shared → Prop} {nm : Str} {id dt gid bt : String} (X : (hd.heap_39 w.params).In h) (hso : h.get? so = some (superObj x)) (hx : h.get? x = some (accObj dx items n))
   (hne : x ≠ 122) (b0 : (nm == "__class__") = false)
   (b1 : Looks (model PR w) h (classOwn (.type "list") nm) (some (.builtin id))) (b2 : Looks (model PR w) h (typeOf (.builtin id)) (.type dt))
   (g1 : Looks (model PR w) h (typeLookup (.type dt) "__get__") (some (.builtin gid)))
   (hend : ∀ (A : Around) (R : Result → Shared → Prop), R (.ok (.ret (.ref h.objs.size))) ⟨h.push (boundObj bt id x), g, d, t + 1, os⟩ → codeAny (model PR w) A (.call (.builtin gid) ⟨[.builtin id, .ref x, .ref 122], []⟩) R ⟨h, g, d, t + 1, os⟩)
   (hq : Q (.ref h.objs.size, []) ⟨h.push (boundObj bt id x), g, d, t + 1, os⟩) :
   wpAny (model PR w) A (getMethod (.ref so) nm pl) Q E ⟨h, g, d, t, os⟩ := by
  have t1 : Looks (model PR w) h (typeOf (.ref so)) (.type "super") := (Looks.ld hso).andThen .now
  have o1 := acc_opaque X
  have m1 := acc_mro X
  have hdt : (superObj x).data = .fields #[.ref 122, .ref x, .ref 122] := rfl
  have f0 : (#[.ref 122, .ref x, .ref 122] : Array Value)[0]? = some (.ref 122) := rfl
  have f1 : (#[.ref 122, .ref x, .ref 122] : Array Value)[1]? = some (.ref x) := rfl
  have f2 : (#[.ref 122, .ref x, .ref 122] : Array Value)[2]? = some (.ref 122) := rfl
  have e1 : (Value.ref x == Value.ref 122) = false := by simp [hne]
  unfold getMethod specialOf
  repeat (first | simp only [Bool.not_true, Bool.false_eq_true, if_false] | lk)
  refine nd_call ?_
  show codeAny _ _ (.call (.builtin "super.__getattribute__") ⟨[.ref so, .str nm t], []⟩) _ _
  refine codeAny_call_builtin PySem.F.ks_slot_super_ga.plain PySem.F.ks_entry_super_ga (PySem.F.ks_slot_super_ga.check _ _ _ _ _ _ _ _ ⟨_, hso, rfl⟩ (PySem.F.ks_gaArgs_super _ _) ?_)
  unfold Builtin.«super.__getattribute__»
  repeat (first
    | (with_reducible refine wpAny_field hso hdt f0 ?_) | (with_reducible refine wpAny_field hso hdt f1 ?_) | (with_reducible refine wpAny_field hso hdt f2 ?_)
    | (with_reducible refine ks_wpAny_notOpaque o1 ?_)
    | (with_reducible refine Looks.at m1 ?_)
    | (simp only [b0, e1, Bool.not_true, Bool.or_false, Bool.false_eq_true, if_false]) | with_reducible refine wpAny_call ?_ | lk)
  refine hend _ _ ?_
  dsimp only
  repeat lk
  exact hq
theorem getMethod_pop {pl : Sem Bool} {Q : Value × List Value → Shared → Prop} (X : (hd.heap_39 w.params).In h) (hso : h.get? so = some (superObj x)) (hx : h.get? x = some (accObj dx items n))
   (hne : x ≠ 122)
   (hq : Q (.ref h.objs.size, []) ⟨h.push { cls := .type "builtin_function_or_method", data := .fields #[.builtin "list.pop", .ref x] }, g, d, t + 1, os⟩) :
   wpAny (model PR w) A (getMethod (.ref so) "pop" pl) Q E ⟨h, g, d, t, os⟩ :=
  getMethod_sup X hso hx hne (by decide +kernel) (bi_pop X) (ty_pop X) (tl_mdesc X) (fun A R hR => by
    have m1 := acc_mro X
    refine codeAny_call_builtin_code (Code.quiet_builtin _ (by decide +kernel)) ((dg_pop X).at (codeAny_builtin entry_method_descriptor ?_))
    unfold Builtin.«method_descriptor.__get__»
    repeat (first | (simp only [Bool.not_true, Bool.or_false, Bool.false_eq_true, if_false]) | lk)
    exact hR) hq
theorem bi_init (X : (hd.heap_39 w.params).In h) : Looks (model PR w) h (classOwn (.type "list") "__init__") (some (.builtin "list.__init__")) := Looks.of_peek X (by kernel_rfl)
theorem ty_init (X : (hd.heap_39 w.params).In h) : Looks (model PR w) h (typeOf (.builtin "list.__init__")) (.type "wrapper_descriptor") := Looks.of_peek X (by kernel_rfl)
theorem dg_init (X : (hd.heap_39 w.params).In h) : Looks (model PR w) h (checkBuiltinCall "wrapper_descriptor.__get__" ⟨[.builtin "list.__init__", .ref x, .ref 122], []⟩) () := Looks.of_peek X (by kernel_rfl)
theorem getMethod_init {pl : Sem Bool} {Q : Value × List Value → Shared → Prop} (X : (hd.heap_39 w.params).In h) (hso : h.get? so = some (superObj x)) (hx : h.get? x = some (accObj dx items n))
   (hne : x ≠ 122)
   (hq : Q (.ref h.objs.size, []) ⟨h.push { cls := .type "method-wrapper", data := .fields #[.builtin "list.__init__", .ref x] }, g, d, t + 1, os⟩) :
   wpAny (model PR w) A (getMethod (.ref so) "__init__" pl) Q E ⟨h, g, d, t, os⟩ :=
  getMethod_sup X hso hx hne (by decide +kernel) (bi_init X) (ty_init X) (tl_wdesc X) (fun A R hR => by
    have m1 := acc_mro X
    refine codeAny_call_builtin_code (Code.quiet_builtin _ (by decide +kernel)) ((dg_init X).at (codeAny_builtin entry_wrapper_descriptor ?_))
    unfold Builtin.«wrapper_descriptor.__get__»
    repeat (first | (simp only [Bool.not_true, Bool.or_false, Bool.false_eq_true, if_false]) | lk)
    exact hR) hq
theorem bi_len (X : (hd.heap_39 w.params).In h) : Looks (model PR w) h (classOwn (.type "list") "__len__") (some (.builtin "list.__len__")) := Looks.of_peek X (by kernel_rfl)
theorem ty_len (X : (hd.heap_39 w.params).In h) : Looks (model PR w) h (typeOf (.builtin "list.__len__")) (.type "wrapper_descriptor") := Looks.of_peek X (by kernel_rfl)
theorem dg_len (X : (hd.heap_39 w.params).In h) : Looks (model PR w) h (checkBuiltinCall "wrapper_descriptor.__get__" ⟨[.builtin "list.__len__", .ref x, .ref 122], []⟩) () := Looks.of_peek X (by kernel_rfl)
theorem getMethod_len {pl : Sem Bool} {Q : Value × List Value → Shared → Prop} (X : (hd.heap_39 w.params).In h) (hso : h.get? so = some (superObj x)) (hx : h.get? x = some (accObj dx items n))
   (hne : x ≠ 122)
   (hq : Q (.ref h.objs.size, []) ⟨h.push { cls := .type "method-wrapper", data := .fields #[.builtin "list.__len__", .ref x] }, g, d, t + 1, os⟩) :
   wpAny (model PR w) A (getMethod (.ref so) "__len__" pl) Q E ⟨h, g, d, t, os⟩ :=
  getMethod_sup X hso hx hne (by decide +kernel) (bi_len X) (ty_len X) (tl_wdesc X) (fun A R hR => by
    have m1 := acc_mro X
    refine codeAny_call_builtin_code (Code.quiet_builtin _ (by decide +kernel)) ((dg_len X).at (codeAny_builtin entry_wrapper_descriptor ?_))
    unfold Builtin.«wrapper_descriptor.__get__»
    repeat (first | (simp only [Bool.not_true, Bool.or_false, Bool.false_eq_true, if_false]) | lk)
    exact hR) hq
end
theorem check_meth {M : Model} {A : Around} {E : Value → Shared → Prop} {s : Shared} {i owner n : String} {self : Value} {rest : List Value} {kw : List (Str × Value)} {Q : Unit → Shared → Prop}
    (hk : builtinKind i = some .method) (hs : splitId i = some (owner, n)) (hi : Looks M s.heap (isInstance self (.type owner)) true) (ha : argsOk i ⟨self :: rest, kw⟩) (q : Q () s) :
    wpAny M A (checkBuiltinCall i ⟨self :: rest, kw⟩) Q E s := by
  simp only [checkBuiltinCall, hk, hs]
  refine wpAny_bind (hi.here ?_)
  simp only [Bool.not_true, Bool.false_eq_true, if_false]
  cases hsig : Manifest.signature? i with
  | none => exact wpAny_pure q
  | some sig =>
    simp only [argsOk, hsig] at ha
    have h2 : Bind.checkArgs i sig ⟨self :: rest, kw⟩ = pure () := ha
    show wpAny M A (Bind.checkArgs i sig ⟨self :: rest, kw⟩) Q E s
    rw [h2]; exact wpAny_pure q
section
variable {w : World} {A : Around} {R : Result → Shared → Prop} {E : Value → Shared → Prop} {h : Heap} {g : Array GenState} {d : Drawn} {t : Nat} {os : OsState} {x so dx q : Addr} {items : Array Value} {n : Nat}
theorem acc_upd (hx : h.get? x = some (accObj dx items n)) (f : Array Value → Array Value) (n' : Nat) (hf : n' = if (f items).size == items.size then n else n + 1) :
    (h.update x (Obj.mapSeq f)).get? x = some (accObj dx (f items) n') := by
  rw [Heap.get?_update_self (Obj.mapSeq f) hx rfl, hf]; rfl
theorem acc_append {v : Value} {Q : Value → Shared → Prop} (X : (hd.heap_39 w.params).In h) (hx : h.get? x = some (accObj dx items n)) (hz : items.size ≤ 1000)
   (hq : ∀ h', h'.get? x = some (accObj dx (items.push v) (n + 1)) → Heap.SameBut x h h' → Q .none ⟨h', g, d, t, os⟩) :
   wpAny (model PR w) A (call (.builtin "list.append") [.ref x, v]) Q E ⟨h, g, d, t, os⟩ := by
  refine wpAny_call (codeAny_call_builtin (by decide +kernel) F.entry_list_append (check_meth (owner := "list") (n := "append") (by decide +kernel) (by decide +kernel) (acc_isList hx X) (F.args_list_append_2 _ _) ?_))
  show wpAny (model PR w) A.in1 (Builtin.List.listUpdate (.ref x) (·.push v) >>= fun _ => ret .none) _ _ _
  refine wpAny_bind (wpAny_updateSeq hx rfl ?_)
  exact wpAny_pure (hq _ (acc_upd hx _ _ (by simp)) (Heap.SameBut.update ..))
theorem acc_popEnd {items' : Array Value} {v : Value} {Q : Fin → Shared → Prop} (X : (hd.heap_39 w.params).In h) (hx : h.get? x = some (accObj dx (items'.push v) n)) (hz : items'.size ≤ 1000)
   (hq : ∀ h', h'.get? x = some (accObj dx items' (n + 1)) → Heap.SameBut x h h' → Q (.done (.ret v)) ⟨h', g, d, t, os⟩) :
   wpAny (model PR w) A (Builtin.«list.pop» ⟨[.ref x], []⟩) Q E ⟨h, g, d, t, os⟩ := by
  unfold Builtin.«list.pop»
  repeat (first | (simp only [Bool.not_true, Bool.or_false, Bool.false_eq_true, if_false]) | lk)
  have e1 : (items'.push v).isEmpty = false := by simp
  have e2 : ((seqIndex? (-1) (items'.push v).size).bind fun k => Option.map (fun x => (k, x)) (items'.push v)[k]?) = some (items'.size, v) := by
    have : seqIndex? (-1) (items'.push v).size = some items'.size := by
      unfold seqIndex?; simp; omega
    rw [this]; simp
  rw [e1, e2]
  simp only [Bool.false_eq_true, if_false]
  refine wpAny_bind (wpAny_updateSeq hx rfl ?_ (by rw [Array.size_push, sizeLine_eq]; omega) (by simp [Array.eraseIdxIfInBounds]; rw [sizeLine_eq]; omega))
  · refine wpAny_pure (hq _ ?_ (Heap.SameBut.update ..))
    have e3 : (items'.push v).eraseIdxIfInBounds items'.size = items' := by
      simp only [Array.eraseIdxIfInBounds, Array.size_push, Nat.lt_succ_self, dif_pos]
      apply Array.ext'
      simp [List.eraseIdx_append_of_length_le]
    have := acc_upd hx (fun x => x.eraseIdxIfInBounds items'.size) (n + 1) (by simp only [e3]; simp)
    rwa [e3] at this
theorem acc_notMod (X : (hd.heap_39 w.params).In h) (hx : h.get? x = some (accObj dx items n)) : Looks (model PR w) h (isInstance (.ref x) (.type "module")) false :=
  (acc_type hx).andThen (Looks.of_peek X (by kernel_rfl))
theorem acc_noType (hx : h.get? x = some (accObj dx items n)) : Looks (model PR w) h (isType (.ref x)) false := (Looks.ld hx).andThen .now
theorem acc_cls (X : (hd.heap_39 w.params).In h) : ∃ oc od cd sl, h.get? 122 = some ⟨oc, od, .cls cd, sl⟩ ∧ cd.hasDict = true ∧ cd.qualname = Str.ofString "_Accumulator" := by
  have key : (hd.heap_39 w.params).In h → PySem.Challenge.rw_xp0004_01 = PySem.Challenge.rw_xp0004_01 → ∃ oc od cd sl, h.get? 122 = some ⟨oc, od, .cls cd, sl⟩ ∧ cd.hasDict = true ∧ cd.qualname = Str.ofString "_Accumulator" := by
    k_fill
    intro X _
    exact ⟨_, _, _, _, X 122 _ (by k_is), rfl, rfl⟩
  exact key X rfl
theorem acc_chkPop (X : (hd.heap_39 w.params).In h) (hx : h.get? x = some (accObj dx items n)) : Looks (model PR w) h (checkBoundCall "list.pop" ⟨[.ref x], []⟩) () := by
  intro A Q E s k q
  have X' := X.keeps k
  have hx' := k _ _ hx
  obtain ⟨h', g, d, t, os⟩ := s
  unfold checkBoundCall
  refine wpAny_bind ((acc_notMod X' hx').at ?_)
  refine wpAny_bind ((acc_noType (w := w) hx').at ?_)
  refine wpAny_bind ((acc_type (w := w) hx').at ?_)
  exact (Looks.of_peek X' (by kernel_rfl)).at q
theorem bound_call {bt id : String} {Q : Value → Shared → Prop} (hbt : (Value.type bt == .type "method" || Value.type bt == .type "builtin_function_or_method" || Value.type bt == .type "method-wrapper") = true) (hbt2 : (Value.type bt != .type "method") = true)
   (hb : h.get? q = some (boundObj bt id x)) (hc : Looks (model PR w) h (checkBoundCall id ⟨[.ref x], []⟩) ())
   (hqi : (Code.builtin id ⟨[.ref x], []⟩).quiet = true)
   (hq : codeAny (model PR w) A (.builtin id ⟨[.ref x], []⟩) (fun r s' => match r with | .ok (.ret v) => Q v s' | .ok _ => False | .error e => E e s') ⟨h, g, d, t, os⟩) :
   wpAny (model PR w) A (call (.ref q) []) Q E ⟨h, g, d, t, os⟩ := by
  refine wpAny_call (codeAny_of_tree ?_)
  show wpAny _ _ (callAny (.ref q) ⟨[], []⟩) _ _ _
  unfold callAny
  refine wpAny_bind (wpAny_load hb ?_)
  dsimp only
  rw [hbt, if_pos rfl]
  show wpAny _ _ (if (Value.type bt != .type "method") = true then (checkBoundCall id ⟨[.ref x], []⟩ >>= fun _ => again (.builtin id ⟨[.ref x], []⟩)) else again (.call (.builtin id) ⟨[.ref x], []⟩)) _ _ _
  rw [hbt2, if_pos rfl]
  exact wpAny_bind (hc.at (wpAny_pure ⟨hqi, hq⟩))
theorem acc_popCall {items' : Array Value} {v : Value} {Q : Value → Shared → Prop} (X : (hd.heap_39 w.params).In h) (hx : h.get? x = some (accObj dx (items'.push v) n)) (hz : items'.size ≤ 1000)
   (hb : h.get? q = some (boundObj "builtin_function_or_method" "list.pop" x))
   (hq : ∀ h', h'.get? x = some (accObj dx items' (n + 1)) → Heap.SameBut x h h' → Q v ⟨h', g, d, t, os⟩) :
   wpAny (model PR w) A (call (.ref q) []) Q E ⟨h, g, d, t, os⟩ :=
  bound_call (by decide +kernel) (by decide +kernel) hb (acc_chkPop X hx) (Code.quiet_builtin _ (by decide +kernel)) (codeAny_builtin F.entry_list_pop (acc_popEnd X hx hz hq))
theorem acc_chkLen (X : (hd.heap_39 w.params).In h) : Looks (model PR w) h (checkBoundCall "list.__len__" ⟨[.ref x], []⟩) () := Looks.of_peek X (by kernel_rfl)
theorem acc_lenCall {Q : Value → Shared → Prop} (X : (hd.heap_39 w.params).In h) (hx : h.get? x = some (accObj dx items n))
   (hb : h.get? q = some (boundObj "method-wrapper" "list.__len__" x))
   (hq : Q (.int items.size t) ⟨h, g, d, t + 1, os⟩) :
   wpAny (model PR w) A (call (.ref q) []) Q E ⟨h, g, d, t, os⟩ := by
  refine bound_call (by decide +kernel) (by decide +kernel) hb (acc_chkLen X) (Code.quiet_builtin _ (by decide +kernel)) (codeAny_builtin F.entry_list_len ?_)
  unfold Builtin.«list.__len__»
  repeat (first | (simp only [if_true, Bool.not_true, Bool.or_false, Bool.false_eq_true, if_false]) | lk)
  exact hq
theorem acc_chkInit (X : (hd.heap_39 w.params).In h) : Looks (model PR w) h (checkBoundCall "list.__init__" ⟨[.ref x], []⟩) () := Looks.of_peek X (by kernel_rfl)
theorem acc_initCall {Q : Value → Shared → Prop} (X : (hd.heap_39 w.params).In h) (hx : h.get? x = some (accObj dx #[] n))
   (hb : h.get? q = some (boundObj "method-wrapper" "list.__init__" x))
   (hq : ∀ h', h'.get? x = some (accObj dx #[] n) → Heap.SameBut x h h' → Q .none ⟨h', g, d, t, os⟩) :
   wpAny (model PR w) A (call (.ref q) []) Q E ⟨h, g, d, t, os⟩ := by
  refine bound_call (by decide +kernel) (by decide +kernel) hb (acc_chkInit X) (Code.quiet_builtin _ (by decide +kernel)) (codeAny_builtin F.entry_list_init ?_)
  show wpAny _ _ (Builtin.List.listItems (.ref x) >>= fun old => Builtin.List.listUpdate (.ref x) (fun _ => #[]) >>= fun _ => letGo old.toList.reverse >>= fun _ => ret .none) _ _ _
  have i1 : Looks (model PR w) h (Builtin.List.listItems (.ref x)) #[] := by
    intro A Q E s k q
    have hx' := k _ _ hx
    obtain ⟨h', g, d, t, os⟩ := s
    unfold Builtin.List.listItems
    repeat lk
    exact q
  refine wpAny_bind (i1.at (wpAny_bind (wpAny_updateSeq hx rfl ?_ (by simp) (by simp))))
  repeat (first | (simp only [if_true, Bool.not_true, Bool.or_false, Bool.false_eq_true, if_false]) | lk)
  exact hq _ (acc_upd hx _ _ (by simp)) (Heap.SameBut.update ..)
end
section
variable {w : World} {A : Around} {E : Value → Shared → Prop} {s : Shared} {h₀ : Heap} {L : Addr} {m : Str → Option Value} {news news' : List (Addr × Obj)} {x so dx q : Addr} {items : Array Value} {n : Nat} {bt id : String}
theorem acc_ne (X₀ : (hd.heap_39 w.params).In h₀) (N : News h₀ L s.heap news) {o : Obj} (hx : (x, o) ∈ news) : x ≠ 122 := by
  intro e
  obtain ⟨oc, od, cd, sl, hC, _⟩ := acc_cls X₀
  have := (N _ hx).2.2
  rw [show (x, o).1 = 122 from e, hC] at this
  cases this
noncomputable abbrev accDict (hs : Int) (t1 t2 : Tok) : Obj := dictOf [⟨hs, .str (Str.ofString "_initial_size") t1, .int 0 t2⟩] 1
theorem acc_ga {h : Heap} (X : (hd.heap_39 w.params).In h) : Looks (model PR w) h (typeLookup (.ref 122) "__getattribute__") (some (.builtin "list.__getattribute__")) := Looks.of_peek X (by kernel_rfl)
theorem acc_ga2 {h : Heap} (X : (hd.heap_39 w.params).In h) : Looks (model PR w) h (typeLookup (.ref 122) "__getattr__") none := Looks.of_peek X (by kernel_rfl)
set_option maxHeartbeats 4000000 in
theorem getMethod_inst {h : Heap} {g : Array GenState} {d : Drawn} {t : Nat} {os : OsState} {name : Str} {f tf : Value} {od : Obj} {pl : Sem Bool} {Q : Value × List Value → Shared → Prop} (X : (hd.heap_39 w.params).In h) (hx : h.get? x = some (accObj dx items n)) (hdx : h.get? dx = some od)
    (hl : lookIn name od = some none) (hf : Looks (model PR w) h (typeLookup (.ref 122) name) (some f)) (htf : Looks (model PR w) h (typeOf f) tf) (hk : (tf != .type "function" && tf != .type "method_descriptor" && tf != .type "wrapper_descriptor") = false)
    (hq : Q (f, [.ref x]) ⟨h, g, d, t, os⟩) : wpAny (model PR w) A (getMethod (.ref x) name pl) Q E ⟨h, g, d, t, os⟩ := by
  have t1 := acc_type (w := w) hx
  have t2 := acc_ga X
  have t3 := acc_ga2 X
  have e1 : (Manifest.canonical "list.__getattribute__" != "object.__getattribute__") = false := by decide +kernel
  have e2 := nsLook_of hl
  have n1 : Looks (model PR w) h (nsGet dx name) none := (Looks.ld hdx).andThen (Looks.of_pure e2)
  unfold getMethod specialOf
  repeat (first | (simp only [e1, hk, Bool.false_eq_true, if_false]) | lk)
  exact hq
theorem nw_getMethod_inst {name : Str} {f tf : Value} {es : List DictEntry} {k : Nat} {pl : Sem Bool} {Q : Value × List Value → Shared → Prop} (F : Fr h₀ L s.heap m) (X₀ : (hd.heap_39 w.params).In h₀) (N : News h₀ L s.heap news) (hx : (x, accObj dx items n) ∈ news) (hdx : (dx, dictOf es k) ∈ news)
    (hl : getL name es = some none) (hf : findIn (hd.heap_39 w.params) (.ref 122) name = some (some f)) (htf : typeIn (hd.heap_39 w.params) f = some tf) (hk : (tf != .type "function" && tf != .type "method_descriptor" && tf != .type "wrapper_descriptor") = false)
    (hq : Q (f, [.ref x]) s) : wpAny (model PR w) A (getMethod (.ref x) name pl) Q E s := by
  obtain ⟨hh, g, d, t, os⟩ := s
  have X := X₀.keeps F.keep
  exact getMethod_inst X (N _ hx).1 (N _ hdx).1 hl (looks_findIn X hf) (looks_typeIn X htf) hk hq
theorem inst_acc {C : Addr} {h : Heap} {od : Obj} {sl : Array (Option Value)} {its : Array Value} {k : Nat} (N : News h₀ L h news) (h1 : (x, (⟨.ref C, some dx, .seq its k, sl⟩ : Obj)) ∈ news) (h2 : (dx, od) ∈ news) :
    InstAt h x ⟨.ref C, some dx, .seq its k, sl⟩ C (some od) := ⟨(N _ h1).1, rfl, rfl, (N _ h2).1⟩
theorem nw_getMethod_pop {pl : Sem Bool} {Q : Value × List Value → Shared → Prop} (F : Fr h₀ L s.heap m) (X₀ : (hd.heap_39 w.params).In h₀) (N : News h₀ L s.heap news) (hso : (so, superObj x) ∈ news) (hx : (x, accObj dx items n) ∈ news)
    (h : ∀ q h', Fr h₀ L h' m → News h₀ L h' ((q, boundObj "builtin_function_or_method" "list.pop" x) :: news) → (∀ p ∈ news, p.1 < q) → Q (.ref q, []) { s with heap := h', toks := s.toks + 1 }) : wpAny (model PR w) A (getMethod (.ref so) "pop" pl) Q E s := by
  obtain ⟨hh, g, d, t, os⟩ := s
  refine getMethod_pop (X₀.keeps F.keep) (N _ hso).1 (N _ hx).1 (acc_ne X₀ N hx) ?_
  obtain ⟨F', N', l'⟩ := ks_newsPush (s := ⟨hh, g, d, t, os⟩) (o := boundObj "builtin_function_or_method" "list.pop" x) F N rfl (Heap.get?_push_at rfl rfl) (fun b o e => Heap.get?_push_of_some _ e)
  exact h _ _ F' N' l'
theorem nw_getMethod_len {pl : Sem Bool} {Q : Value × List Value → Shared → Prop} (F : Fr h₀ L s.heap m) (X₀ : (hd.heap_39 w.params).In h₀) (N : News h₀ L s.heap news) (hso : (so, superObj x) ∈ news) (hx : (x, accObj dx items n) ∈ news)
    (h : ∀ q h', Fr h₀ L h' m → News h₀ L h' ((q, boundObj "method-wrapper" "list.__len__" x) :: news) → (∀ p ∈ news, p.1 < q) → Q (.ref q, []) { s with heap := h', toks := s.toks + 1 }) : wpAny (model PR w) A (getMethod (.ref so) "__len__" pl) Q E s := by
  obtain ⟨hh, g, d, t, os⟩ := s
  refine getMethod_len (X₀.keeps F.keep) (N _ hso).1 (N _ hx).1 (acc_ne X₀ N hx) ?_
  obtain ⟨F', N', l'⟩ := ks_newsPush (s := ⟨hh, g, d, t, os⟩) (o := boundObj "method-wrapper" "list.__len__" x) F N rfl (Heap.get?_push_at rfl rfl) (fun b o e => Heap.get?_push_of_some _ e)
  exact h _ _ F' N' l'
theorem nw_getMethod_init {pl : Sem Bool} {Q : Value × List Value → Shared → Prop} (F : Fr h₀ L s.heap m) (X₀ : (hd.heap_39 w.params).In h₀) (N : News h₀ L s.heap news) (hso : (so, superObj x) ∈ news) (hx : (x, accObj dx items n) ∈ news)
    (h : ∀ q h', Fr h₀ L h' m → News h₀ L h' ((q, boundObj "method-wrapper" "list.__init__" x) :: news) → (∀ p ∈ news, p.1 < q) → Q (.ref q, []) { s with heap := h', toks := s.toks + 1 }) : wpAny (model PR w) A (getMethod (.ref so) "__init__" pl) Q E s := by
  obtain ⟨hh, g, d, t, os⟩ := s
  refine getMethod_init (X₀.keeps F.keep) (N _ hso).1 (N _ hx).1 (acc_ne X₀ N hx) ?_
  obtain ⟨F', N', l'⟩ := ks_newsPush (s := ⟨hh, g, d, t, os⟩) (o := boundObj "method-wrapper" "list.__init__" x) F N rfl (Heap.get?_push_at rfl rfl) (fun b o e => Heap.get?_push_of_some _ e)
  exact h _ _ F' N' l'
theorem keeps_b (hbt : (Value.type bt != .type "method") = true) (hb2 : (Value.type bt == .type "builtin_function_or_method" || Value.type bt == .type "method-wrapper") = true) {M : Model} (h : Heap) (X : h.get? q = some (boundObj bt id x)) : ∃ k, (k = Keeper.frame ∨ k = Keeper.machine ∨ k = Keeper.boundFrame) ∧ Looks M h (keeperOf (.ref q)) k := by
  refine ⟨.machine, .inr (.inl rfl), ?_⟩
  intro A Q E s k qq
  have hx' := k _ _ X
  unfold keeperOf
  refine wpAny_bind (wpAny_load hx' ?_)
  dsimp only
  rw [hbt, if_pos rfl]
  show wpAny _ _ (pure (if (Value.type bt == .type "builtin_function_or_method" || Value.type bt == .type "method-wrapper") = true then Keeper.machine else .caller)) _ _ _
  rw [hb2, if_pos rfl]
  exact wpAny_pure qq
theorem nw_callWith_b {M : Model} {env : Env} {pos : Pos} {first : List Value} {Q : Value → Shared → Prop} (N : News h₀ L s.heap news) (hq : (q, boundObj bt id x) ∈ news) (hbt : (Value.type bt != .type "method") = true) (hb2 : (Value.type bt == .type "builtin_function_or_method" || Value.type bt == .type "method-wrapper") = true)
    (h : wpAny M A (call (.ref q) (first ++ [])) Q E s) : wpAny M A (callWith pos (.ref q) first (backTo pos (starEach [] env)) []) Q E s :=
  callWith_of (P := fun h => h.get? q = some (boundObj bt id x)) rfl (keeps_b hbt hb2) (evalArgs_nil3 ⟨(N _ hq).1, h⟩)
theorem nw_popCall {its : Array Value} {v : Value} {Q : Value → Shared → Prop} (F : Fr h₀ L s.heap m) (X₀ : (hd.heap_39 w.params).In h₀) (N : News h₀ L s.heap news) (hq : (q, boundObj "builtin_function_or_method" "list.pop" x) ∈ news)
    (U : Upd x (accObj dx (its.push v) n) (accObj dx its (n + 1)) news news') (hz : its.size ≤ 1000)
    (h : ∀ h', Fr h₀ L h' m → News h₀ L h' news' → Q v { s with heap := h' }) : wpAny (model PR w) A (call (.ref q) []) Q E s := by
  obtain ⟨pre, post, rfl, rfl, a, b⟩ := U.split
  have z := N (x, accObj dx (its.push v) n) (List.mem_append.mpr (.inr (.head _)))
  obtain ⟨hh, g, d, t, os⟩ := s
  exact acc_popCall (X₀.keeps F.keep) z.1 hz (N _ hq).1 fun h' ho' hs => h h' (F.change hs z.2.1 z.2.2) (news_set N a b hs ho')
theorem nw_lenCall {Q : Value → Shared → Prop} (F : Fr h₀ L s.heap m) (X₀ : (hd.heap_39 w.params).In h₀) (N : News h₀ L s.heap news) (hq : (q, boundObj "method-wrapper" "list.__len__" x) ∈ news) (hx : (x, accObj dx items n) ∈ news)
    (h : Q (.int items.size s.toks) { s with toks := s.toks + 1 }) : wpAny (model PR w) A (call (.ref q) []) Q E s := by
  obtain ⟨hh, g, d, t, os⟩ := s
  exact acc_lenCall (X₀.keeps F.keep) (N _ hx).1 (N _ hq).1 h
theorem nw_lenCallP {its : Array Value} {v : Value} {Q : Value → Shared → Prop} (F : Fr h₀ L s.heap m) (X₀ : (hd.heap_39 w.params).In h₀) (N : News h₀ L s.heap news) (hq : (q, boundObj "method-wrapper" "list.__len__" x) ∈ news) (hx : (x, accObj dx (its.push v) n) ∈ news)
    (h : Q (.int ((its.size : Int) + 1) s.toks) { s with toks := s.toks + 1 }) : wpAny (model PR w) A (call (.ref q) []) Q E s := by
  refine nw_lenCall F X₀ N hq hx ?_
  rw [Array.size_push]
  exact h
theorem nw_initCall {Q : Value → Shared → Prop} (F : Fr h₀ L s.heap m) (X₀ : (hd.heap_39 w.params).In h₀) (N : News h₀ L s.heap news) (hq : (q, boundObj "method-wrapper" "list.__init__" x) ∈ news)
    (U : Upd x (accObj dx #[] n) (accObj dx #[] n) news news')
    (h : ∀ h', Fr h₀ L h' m → News h₀ L h' news' → Q .none { s with heap := h' }) : wpAny (model PR w) A (call (.ref q) []) Q E s := by
  obtain ⟨pre, post, rfl, rfl, a, b⟩ := U.split
  have z := N (x, accObj dx #[] n) (List.mem_append.mpr (.inr (.head _)))
  obtain ⟨hh, g, d, t, os⟩ := s
  exact acc_initCall (X₀.keeps F.keep) z.1 (N _ hq).1 fun h' ho' hs => h h' (F.change hs z.2.1 z.2.2) (news_set N a b hs ho')
theorem nw_append {v : Value} {Q : Value → Shared → Prop} (F : Fr h₀ L s.heap m) (X₀ : (hd.heap_39 w.params).In h₀) (N : News h₀ L s.heap news)
    (U : Upd x (accObj dx items n) (accObj dx (items.push v) (n + 1)) news news') (hz : items.size ≤ 1000)
    (h : ∀ h', Fr h₀ L h' m → News h₀ L h' news' → Q .none { s with heap := h' }) : wpAny (model PR w) A (call (.builtin "list.append") [.ref x, v]) Q E s := by
  obtain ⟨pre, post, rfl, rfl, a, b⟩ := U.split
  have z := N (x, accObj dx items n) (List.mem_append.mpr (.inr (.head _)))
  obtain ⟨hh, g, d, t, os⟩ := s
  exact acc_append (X₀.keeps F.keep) z.1 hz fun h' ho' hs => h h' (F.change hs z.2.1 z.2.2) (news_set N a b hs ho')
theorem nw_make {Q : Value → Shared → Prop} (F : Fr h₀ L s.heap m) (X₀ : (hd.heap_39 w.params).In h₀) (N : News h₀ L s.heap news)
    (h : ∀ x dx h', Fr h₀ L h' m → News h₀ L h' ((x, accObj dx #[] 0) :: (dx, dictOf [] 0) :: news) → (∀ p ∈ news, p.1 < dx) → dx < x →
      codeAny (model PR w) (A.under (.builtin "type.__call__" ⟨[.ref 122], []⟩)) (.call (.ref 59) ⟨[.ref x], []⟩) (InitBack x fun r s' => match r with | .ok (.ret v) => Q v s' | .ok _ => False | .error e => E e s') { s with heap := h' }) :
    wpAny (model PR w) A (call (.ref 122) []) Q E s := by
  obtain ⟨hh, g, d, t, os⟩ := s
  refine wpAny_call (acc_make (X₀.keeps F.keep) (h _ hh.objs.size _ ((F.push _).push _) ?_ (fun p hp => Heap.lt_size (N p hp).1) (Nat.lt_succ_self _)))
  have := (N.push F emptyDict).push (F.push _) (accObj hh.objs.size #[] 0)
  rwa [Heap.size_push] at this
end
local macro_rules | `(tactic| ktr_rel) => `(tactic| first | k_asm | k_mem | k_upd | k_updF | omega)
local macro_rules | `(tactic| ktd_rel) => `(tactic| first | k_is | k_get | decide +kernel | exact rfl | ktr_room | assumption | exact BindsTo.of_eq rfl | exact binds_K (by k_in) rfl (by k_is) rfl rfl rfl | exact locs rfl)
local macro_rules | `(tactic| tb_rel) => `(tactic| (ktr_rel; ktr_rel; ktr_rel; ktr_rel; ktr_rel))
local macro_rules | `(tactic| tb_start) => `(tactic| (intro h' F' N'; (try dsimp only at N'); (try k_sweep)))
local macro_rules | `(tactic| k_inst) => `(tactic| (apply inst_acc; ktr_rel; ktr_rel; ktr_rel))
local macro_rules | `(tactic| k_all) => `(tactic| assumption)
local macro_rules | `(tactic| walk_at "getMethod ref") => `(tactic| (k_dflt (first | (apply nw_getMethod_pop; tb_rel) | (apply nw_getMethod_len; tb_rel) | (apply nw_getMethod_init; tb_rel)); intro q' h' F' N' l1; (try k_lt l1)))
local macro_rules | `(tactic| walk_at "getMethod ref") => `(tactic| k_dflt (apply nw_getMethod_inst; tb_rel; ktd_rel; ktd_rel; ktd_rel; ktd_rel; k_whole))
local macro_rules | `(tactic| walk_at "callWith ref") => `(tactic| k_dflt (apply nw_callWith_b; ktr_rel; ktr_rel; ktd_rel; ktd_rel))
local macro_rules | `(tactic| walk_at "call ref") => `(tactic| k_dflt (first | (apply nw_popCall; tb_rel; ktr_rel; tb_start) | (apply nw_lenCallP; tb_rel) | (apply nw_lenCall; tb_rel) | (apply nw_initCall; tb_rel; tb_start)))
local macro_rules | `(tactic| walk_at "call builtin:list.append") => `(tactic| (k_dflt (apply nw_append; tb_rel); tb_start))
local macro_rules | `(tactic| ks_enter) => `(tactic| (apply ks_code_super; tb_rel; exact rfl; exact rfl; ktd_rel; ktd_rel; ktd_rel; ktd_rel; ktd_rel; ktd_rel; rotate_left; decide; exact rfl; exact rfl; exact rfl; intro g' L' h' FG' F' N' B' X' T' l1; (try k_lt l1); (try dsimp only); (try k_lift B')))
local macro_rules | `(tactic| k_room) => `(tactic| ktr_room)
local macro_rules | `(tactic| walk_at "wpAt") => `(tactic| (ks_step "eval Call"; k_dflt apply ks_wpAt_MethodCall))
local macro_rules | `(tactic| walk_at "wpAt") => `(tactic| (ks_step "exec If"; k_dflt apply ks_wpAt_If))
local macro_rules | `(tactic| walk_at "wpAt") => `(tactic| ((try dsimp only); ks_step "execs cons"; k_dflt apply ks_wpAt_execs_cons))
local macro_rules | `(tactic| walk_at "wpAt") => `(tactic| ((try dsimp only); ks_step "exec Expr"; k_dflt apply ks_wpAt_Expr_any))
local macro_rules | `(tactic| walk_at "wpAt") => `(tactic| (dsimp only; ks_step "exec Return"; k_dflt apply ks_wpAt_Return_some))

noncomputable abbrev LS : List PySem.Str := looseW hd.view_39 [Str.ofString "_Accumulator"]
noncomputable abbrev GClaim (w : World) (mean : ExcName → Option Value) (mg mb : Str → Option Value) (f : Addr) (vs : List Value) (pre : Prop) (p : Program) (ls : List PySem.Str) (news : List (Addr × Obj)) (post : Heap → Addr → Heap → (Str → Option Value) → Shared → (Value → Shared → Prop) → Prop) : Prop :=
  ∀ (dp un : Nat) (gd : Option (List Code)) (cn : Str) (cs : Scope) (a : Addr) (ccd : Value) (cl : List (Str × Addr)) (outer : List Env) (A₀ : Around) (base h₀ : Heap) (L : Addr) (m : Str → Option Value) (s : Shared) (Q E : Value → Shared → Prop),
    Below A₀ base outer h₀ → Fr h₀ L s.heap m → (hd.heap_39 w.params).In h₀ → News h₀ L s.heap news → Top p ls mean mg mb h₀ → cs.kind = .function →
    pre → dp + 10 < recursionLimit → un + 80 < cLine → post h₀ L s.heap m s Q →
      wpAny (model PySem.Challenge.rw_xp0004_01.row.prog w) (ktrTop dp un gd cn cs L a ccd cl outer) (call (.ref f) vs) Q E s
set_option maxHeartbeats 4000000 in
theorem pop_spec (w : World) (mean : ExcName → Option Value) (mg mb : Str → Option Value) (p : Program) (ls : List PySem.Str) (rest : List (Addr × Obj)) (x dx : Addr) (its : Array Value) (v : Value) (n : Nat) (hs : Int) (t1 t2 : Tok) :
  GClaim w mean mg mb 82 [.ref x] (its.size ≤ 1000 ∧ dx ≠ x ∧ ∀ p ∈ rest, p.1 ≠ x) p ls ((x, accObj dx (its.push v) n) :: (dx, accDict hs t1 t2) :: rest)
    (fun h₀ L h m s Q => ∀ h' tk', Fr h₀ L h' m → News h₀ L h' ((x, accObj dx its (n + 1)) :: (dx, accDict hs t1 t2) :: rest) → Q v { s with heap := h', toks := tk' }) := by
  dsimp only [GClaim]
  w_top off
  k_fill
  intros; rename_i hpre _ _ hret
  obtain ⟨hp1, hp2, hp3⟩ := hpre
  refine wpAny_call ?_
  ks_enter
  k_steps
  all_goals first | omega | exact hret _ _ (by k_asm) (cb_drop (by assumption) (by kcj_all))

theorem refuse_acc (self : Value) : refuseLoop self "__setattr__" [.ref 122, .type "list", .type "object"] = pure () := by rw [refuseLoop_ref]; kernel_rfl
section
variable {w : World} {A : Around} {E : Value → Shared → Prop} {h : Heap} {g : Array GenState} {d : Drawn} {t : Nat} {os : OsState} {x dx : Addr} {items : Array Value} {n : Nat} {R : Result → Shared → Prop}
theorem acc_sa (X : (hd.heap_39 w.params).In h) : Looks (model PR w) h (typeLookup (.ref 122) "__setattr__") (some (.builtin "object.__setattr__")) := Looks.of_peek X (by kernel_rfl)
theorem acc_isz (X : (hd.heap_39 w.params).In h) : Looks (model PR w) h (typeLookup (.ref 122) "_initial_size") none := Looks.of_peek X (by kernel_rfl)
theorem acc_subO (X : (hd.heap_39 w.params).In h) : Looks (model PR w) h (isSubtype (.ref 122) (.type "object")) true := Looks.of_peek X (by kernel_rfl)
set_option maxHeartbeats 4000000 in
theorem acc_store {v : Value} {tk : Tok} (X : (hd.heap_39 w.params).In h) (hx : h.get? x = some (accObj dx items n)) (hdx : h.get? dx = some (dictOf [] 0))
    (hq : ∀ h', h'.get? dx = some (dictOf [⟨PyData.keyHash w.params (Str.ofString "_initial_size"), .str (Str.ofString "_initial_size") t, v⟩] 1) → Heap.SameBut dx h h' → R (.ok (.ret .none)) ⟨h', g, d, t + 1, os⟩) :
    codeAny (model PR w) A (.call (.builtin "object.__setattr__") ⟨[.ref x, .str "_initial_size" tk, v], []⟩) R ⟨h, g, d, t, os⟩ := by
  have SF := PySem.F.store_object
  have i1 : Looks (model PR w) h (isInstance (.ref x) (.type "object")) true := (acc_type hx).andThen (acc_subO X)
  have i2 := acc_type (w := w) hx
  have i3 := acc_mro X
  have i4 := acc_isz X
  refine codeAny_call_builtin SF.slot.plain SF.entry (@check_slot (model PR w) _ _ ⟨h, g, d, t, os⟩ "object.__setattr__" "object" "__setattr__" (.ref x) [.str "_initial_size" tk, v] [] _ SF.kind SF.split i1 (SF.args (.ref x) (.str "_initial_size" tk) v) ?_)
  rw [osa_eq, refuse_eq]
  refine wpAny_bind (wpAny_bind (i2.at (wpAny_bind (i3.at ?_))))
  rw [refuse_acc]
  refine wpAny_pure (wpAny_bind (i2.at (wpAny_bind (i4.at ?_))))
  refine wpAny_bind ?_
  obtain ⟨oc, od, cd, sl, hC, hcd, hqn⟩ := acc_cls X
  unfold Builtin.ObjectAttr.storeTaker?
  repeat (first | (simp only [hcd, if_true, Bool.not_true, Bool.or_false, Bool.false_eq_true, if_false]) | lk)
  refine nd_update hdx ?_
  have key : ∀ (hs : Int) (k : Value), (h.update dx (Obj.putName "_initial_size" hs k v)).get? dx = some (dictOf [⟨hs, k, v⟩] 1) := fun hs k => by
    rw [Heap.get?_update_self (Obj.putName "_initial_size" hs k v) hdx (by rw [putName_dict]; rfl), putName_dict]; rfl
  have k1 := key (if ("_initial_size" : Str).cps.isEmpty = true then 0 else reduceHash ((model PR w).w.params.strHash ("_initial_size" : Str).cps)) (Value.str "_initial_size" t)
  repeat (first | (simp only [hcd, if_true, Bool.not_true, Bool.or_false, Bool.false_eq_true, if_false]) | lk)
  exact hq _ k1 (Heap.SameBut.update ..)
end
section
variable {w : World} {A : Around} {E : Value → Shared → Prop} {s : Shared} {h₀ : Heap} {L : Addr} {m : Str → Option Value} {news news' : List (Addr × Obj)} {x so dx q : Addr} {items : Array Value} {n : Nat}
theorem nw_store {v : Value} {Q : Unit → Shared → Prop} (F : Fr h₀ L s.heap m) (X₀ : (hd.heap_39 w.params).In h₀) (N : News h₀ L s.heap news) (hx : (x, accObj dx items n) ∈ news)
    (U : Upd dx (dictOf [] 0) (dictOf [⟨PyData.keyHash w.params (Str.ofString "_initial_size"), .str (Str.ofString "_initial_size") (s.toks + 1), v⟩] 1) news news')
    (h : ∀ h', Fr h₀ L h' m → News h₀ L h' news' → Q () { s with heap := h', toks := s.toks + 2 }) : wpAny (model PR w) A (setAttr (.ref x) "_initial_size" v) Q E s := by
  obtain ⟨pre, post, e1, rfl, a, b⟩ := U.split
  have z := N (dx, dictOf [] 0) (e1 ▸ List.mem_append.mpr (.inr (.head _)))
  have zx := N _ hx
  subst e1
  obtain ⟨hh, g, d, t, os⟩ := s
  have X := X₀.keeps F.keep
  have t1 := acc_type (w := w) zx.1
  have t2 := acc_sa X
  unfold setAttr callSpecial? specialOf
  repeat (first | with_reducible refine wpAny_call ?_ | lk)
  refine acc_store X zx.1 z.1 fun h' ho' hs => ?_
  exact wpAny_pure (wpAny_pure (h h' (F.change hs z.2.1 z.2.2) (news_set N a b hs ho')))
end
local macro_rules | `(tactic| walk_at "setAttr ref") => `(tactic| (k_dflt (apply nw_store; tb_rel); tb_start))

set_option maxHeartbeats 4000000 in
theorem count_spec (w : World) (mean : ExcName → Option Value) (mg mb : Str → Option Value) (p : Program) (ls : List PySem.Str) (rest : List (Addr × Obj)) (x dx : Addr) (n : Nat) (hs : Int) (t1 t2 : Tok) (its : Array Value) :
  GClaim w mean mg mb 119 [.ref x] (its.size ≤ 1000) p ls ((x, accObj dx its n) :: (dx, accDict hs t1 t2) :: rest)
    (fun h₀ L h m s Q => ∀ tk h' tk', Fr h₀ L h' m → News h₀ L h' ((x, accObj dx its n) :: (dx, accDict hs t1 t2) :: rest) → Q (.int its.size tk) { s with heap := h', toks := tk' }) := by
  dsimp only [GClaim]
  w_top off
  k_fill
  intros; rename_i hpre _ _ hret
  refine wpAny_call ?_
  ks_enter
  k_steps
  all_goals first | omega | exact hret _ _ (by k_asm) (cb_drop (by assumption) (by kcj_all)) | exact hret _ _ _ (by k_asm) (cb_drop (by assumption) (by kcj_all)) | exact hret _ _ _ (by k_asm) (cb_drop (by assumption) (by kcj_all)) (by first | assumption | omega)
set_option maxHeartbeats 4000000 in
theorem push_spec (w : World) (mean : ExcName → Option Value) (mg mb : Str → Option Value) (p : Program) (ls : List PySem.Str) (rest : List (Addr × Obj)) (x dx : Addr) (n : Nat) (hs : Int) (t1 t2 : Tok) (its : Array Value) (a b : Value) :
  GClaim w mean mg mb 66 [.ref x, a, b] (its.size ≤ 1000 ∧ dx ≠ x ∧ ∀ p ∈ rest, p.1 ≠ x) p ls ((x, accObj dx its n) :: (dx, accDict hs t1 t2) :: rest)
    (fun h₀ L h m s Q => ∀ T h' tk', Fr h₀ L h' m → News h₀ L h' ((T, { cls := .type "tuple", data := .seq #[a, b] }) :: (x, accObj dx (its.push (.ref T)) (n + 1)) :: (dx, accDict hs t1 t2) :: rest) → (x < T ∧ dx < T ∧ AllLt T rest) → Q .none { s with heap := h', toks := tk' }) := by
  dsimp only [GClaim]
  w_top off
  k_fill
  intros; rename_i hpre _ _ hret
  obtain ⟨hp1, hp2, hp3⟩ := hpre
  refine wpAny_call ?_
  k_dflt cell_enter
  k_steps
  all_goals first | omega | exact hret _ _ (by k_asm) (cb_drop (by assumption) (by kcj_all)) | exact hret _ _ _ (by k_asm) (cb_drop (by assumption) (by kcj_all)) | exact hret _ _ _ (by k_asm) (cb_drop (by assumption) (by kcj_all)) (by first | assumption | omega)
set_option maxHeartbeats 4000000 in
theorem pope_spec (w : World) (mean : ExcName → Option Value) (mg mb : Str → Option Value) (p : Program) (ls : List PySem.Str) (rest : List (Addr × Obj)) (x dx : Addr) (n : Nat) (hs : Int) (t1 t2 : Tok) :
  GClaim w mean mg mb 82 [.ref x] True p ls ((x, accObj dx #[] n) :: (dx, accDict hs t1 t2) :: rest)
    (fun h₀ L h m s Q => ∀ T t3 t4 h' tk', Fr h₀ L h' m → News h₀ L h' ((T, { cls := .type "tuple", data := .seq #[.str (Str.ofString "") t3, .str (Str.ofString "") t4] }) :: (x, accObj dx #[] n) :: (dx, accDict hs t1 t2) :: rest) → Q (.ref T) { s with heap := h', toks := tk' }) := by
  dsimp only [GClaim]
  w_top off
  k_fill
  intros; rename_i hret
  refine wpAny_call ?_
  ks_enter
  k_steps
  all_goals first | omega | exact hret _ _ _ _ _ (by k_asm) (cb_drop (by assumption) (by kcj_all)) | (exfalso; rename_i hne; exact hne rfl)
set_option maxHeartbeats 4000000 in
theorem make_spec (w : World) (mean : ExcName → Option Value) (mg mb : Str → Option Value) (p : Program) (ls : List PySem.Str) (rest : List (Addr × Obj)) :
  GClaim w mean mg mb 122 [] True p ls rest
    (fun h₀ L h m s Q => ∀ x dx n hs t1 t2 h' tk', Fr h₀ L h' m → News h₀ L h' ((x, accObj dx #[] n) :: (dx, accDict hs t1 t2) :: rest) → AllLt dx rest → dx < x → Q (.ref x) { s with heap := h', toks := tk' }) := by
  dsimp only [GClaim]
  w_top off
  k_fill
  intros; rename_i hret
  refine' nw_make ?k1 ?k2 ?k3 ?_
  case k1 => k_asm
  case k2 => k_asm
  case k3 => k_asm
  intro x' d' h' F' N' l1 l2
  have hx3 : ∀ p ∈ rest, p.1 ≠ x' := fun p hp => Nat.ne_of_lt (Nat.lt_trans (l1 p hp) l2)
  have hx4 : ∀ p ∈ rest, p.1 ≠ d' := fun p hp => Nat.ne_of_lt (l1 p hp)
  replace l1 := allLt_of l1
  k_lt2 l2
  ks_enter
  k_steps
  all_goals first | omega | exact hret _ _ _ _ _ _ _ _ (by k_asm) (cb_drop (by assumption) (by kcj_all)) (by assumption) (by assumption)

section
variable {prog : Program} {w : World} {A : Around} {E : Value → Shared → Prop} {s : Shared}
noncomputable abbrev IsAcc (h : Heap) (x : Addr) (items : Array Value) : Prop := ∃ dx n, h.get? x = some (accObj dx items n)
theorem accNext_item {it l : Addr} {i : Nat} {items : Array Value} {v : Value} {Q : Option Value → Shared → Prop} (hit : s.heap.IsListIter it l i)
    (hl : IsAcc s.heap l items) (hx : items[i]? = some v)
    (hQ : ∀ h', h'.IsListIter it l (i + 1) → Heap.SameBut it s.heap h' → Q (some v) { s with heap := h' }) :
    wpAny (model prog w) A (pyNext (.ref it)) Q E s := by
  obtain ⟨o, ho, hc, hd⟩ := id hit
  obtain ⟨dx, nl, hol⟩ := hl
  unfold pyNext
  refine wpAny_bind (wpAny_attempt (wpAny_callSpecial?_slot (name := Str.ofString "__next__") hit.typeIs slot_listiter_next
    (wpAny_call_entry slot_listiter_next hit.typeIs entry_listiter_next ?_ (args_listiter_next _))))
  show wpAny _ _ (field (.ref it) 0 >>= _) _ _ s
  refine wpAny_bind (wpAny_field ho hd (x := .ref l) rfl ?_)
  show wpAny _ _ (if (Value.ref l == Value.none) = true then _ else _) _ _ s
  rw [if_neg (show ¬ ((Value.ref l == Value.none) = true) from Bool.false_ne_true)]
  refine wpAny_bind (wpAny_field ho hd (x := .int i 0) rfl ?_)
  refine wpAny_bind (wpAny_seqItems hol rfl ?_)
  simp only [Int.toNat_natCast, hx]
  refine wpAny_bind (wpAny_setField ho hd (by simp) (wpAny_pure ⟨v, rfl, wpAny_pure (hQ _ ?_ (Heap.SameBut.update ..))⟩))
  exact ⟨_, Heap.get?_update_self _ ho (Obj.isFreed_of_fields (Obj.data_mapFields hd _)), (Obj.cls_mapFields ..).trans hc, by
    rw [Obj.data_mapFields hd]; simp [rawInt]⟩
theorem accNext_end {it l : Addr} {i : Nat} {items : Array Value} {Q : Option Value → Shared → Prop} (hh : A.handled = none)
    (hit : s.heap.IsListIter it l i) (hl : IsAcc s.heap l items) (hx : items[i]? = none)
    (hQ : ∀ h', Heap.ExtBut it s.heap h' → Q none { s with heap := h' }) : wpAny (model prog w) A (pyNext (.ref it)) Q E s := by
  obtain ⟨o, ho, hc, hd⟩ := id hit
  obtain ⟨dx, nl, hol⟩ := hl
  unfold pyNext
  refine wpAny_bind (wpAny_attempt (wpAny_callSpecial?_slot (name := Str.ofString "__next__") hit.typeIs slot_listiter_next
    (wpAny_call_entry slot_listiter_next hit.typeIs entry_listiter_next ?_ (args_listiter_next _))))
  show wpAny _ _ (field (.ref it) 0 >>= _) _ _ s
  refine wpAny_bind (wpAny_field ho hd (x := .ref l) rfl ?_)
  show wpAny _ _ (if (Value.ref l == Value.none) = true then _ else _) _ _ s
  rw [if_neg (show ¬ ((Value.ref l == Value.none) = true) from Bool.false_ne_true)]
  refine wpAny_bind (wpAny_field ho hd (x := .int i 0) rfl ?_)
  refine wpAny_bind (wpAny_seqItems hol rfl ?_)
  simp only [Int.toNat_natCast, hx]
  refine wpAny_bind (wpAny_rule (wpAny_bind (wpAny_setField ho hd (by simp) ?_)))
  show wpAny _ _ (newExc (.type "StopIteration") [] >>= _) _ _ _
  refine wpAny_bind ?_
  simp only [newExc, newTuple]
  refine wpAny_bind (wpAny_newObj_type ?_ (by size_fits))
  refine wpAny_bind (m := firstArgMember _ _) (wpAny_of_eq (a := Value.none) (by first | rfl | (simp only [firstArgMember]; rfl)) ?_)
  refine wpAny_newObj_type ?_ (by size_fits)
  simp only [raiseNew]
  refine wpAny_bind (wpAny_handled ?_)
  rw [show A.in1.handled = none from hh]
  refine wpAny_bind (wpAny_pure (wpAny_throw ?_))
  refine wpAny_bind (wpAny_isInstance (T := "StopIteration") (b := true) ⟨_, Heap.get?_push_size _ rfl, rfl⟩ isSubtype_stop ?_)
  exact wpAny_pure (hQ _ (((Heap.SameBut.update ..).extBut.push _).push _))
theorem IsAcc.extBut {h h' : Heap} {a b : Addr} {items : Array Value} (x : IsAcc h a items) (hs : Heap.ExtBut b h h') (hab : a ≠ b) : IsAcc h' a items := let ⟨d, n, e⟩ := x; ⟨d, n, hs a _ hab e⟩
theorem IsAcc.at {h h' : Heap} {a : Addr} {items : Array Value} (x : IsAcc h a items) (k : ∀ o, h.get? a = some o → h'.get? a = some o) : IsAcc h' a items := let ⟨d, n, e⟩ := x; ⟨d, n, k _ e⟩
theorem walks_acc (hh : A.handled = none) (I ax : Addr) (hne : ax ≠ I) (items : Array Value) (Ts : Nat → Addr) (vals : Nat → Array Value)
    (hit : ∀ j, j < items.size → items[j]? = some (.ref (Ts j))) (hTI : ∀ j, j < items.size → Ts j ≠ I) :
    WalksU prog w A I (I :: ax :: (List.range items.size).map Ts) [I] items.size (fun j v => j < items.size ∧ v = vals j)
      (fun j h => h.IsListIter I ax j ∧ IsAcc h ax items ∧ ∀ k, k < items.size → h.IsTuple (Ts k) (vals k))
      (fun j T h => (j < items.size ∧ T = Ts j) ∧ h.IsListIter I ax (j + 1) ∧ IsAcc h ax items ∧ ∀ k, k < items.size → h.IsTuple (Ts k) (vals k)) where
  sub := fun b hb => by simp at hb; simp [hb]
  frame := fun _ _ _ st hk => ⟨st.1.at fun o e => hk I (by simp) o e, st.2.1.at fun o e => hk ax (by simp) o e,
    fun k hk' => (st.2.2 k hk').at fun o e => hk (Ts k) (List.mem_cons_of_mem _ (List.mem_cons_of_mem _ (List.mem_map.mpr ⟨k, List.mem_range.mpr hk', rfl⟩))) o e⟩
  item := fun i s Q E hi st hQ => by
    refine accNext_item st.1 st.2.1 (v := .ref (Ts i)) (hit i hi) fun h' hit' hs' => ?_
    have tup : ∀ k, k < items.size → h'.IsTuple (Ts k) (vals k) := fun k hk' => (st.2.2 k hk').extBut hs'.extBut (hTI k hk')
    exact hQ (Ts i) (vals i) h' s.toks ⟨hi, rfl⟩ (tup i hi) ⟨⟨hi, rfl⟩, hit', st.2.1.extBut hs'.extBut hne, tup⟩ fun b o hb e => hs'.extBut b o (fun h => hb (by simp [h])) e
  go := fun _ _ _ _ _ s Q _ hm hQ => wpAny_letOwnedTupleGo_listiter hm.2.1 (hQ s.heap hm.2 fun _ _ _ e => e)
  apart := fun j T _ hm hmem => by
    rcases List.mem_cons.mp hmem with e | e
    · exact hTI j hm.1.1 (hm.1.2 ▸ e)
    · cases e
  done := fun s Q E st hQ => accNext_end hh st.1 st.2.1 (by simp) fun h' he' => hQ h' s.toks fun b o hb e => he' b o (fun h => hb (by simp [h])) e
  self := fun _ _ _ _ st hQ => wpAny_pyIter_listiter st.1 hQ
end
section
variable {w : World} {A : Around} {E : Value → Shared → Prop} {h : Heap} {g : Array GenState} {d : Drawn} {t : Nat} {os : OsState} {x dx : Addr} {items : Array Value} {n : Nat}
theorem acc_iterL (X : (hd.heap_39 w.params).In h) : Looks (model PR w) h (typeLookup (.ref 122) "__iter__") (some (.builtin "list.__iter__")) := Looks.of_peek X (by kernel_rfl)
set_option maxHeartbeats 4000000 in
theorem acc_pyIter {Q : Value → Shared → Prop} (X : (hd.heap_39 w.params).In h) (hx : h.get? x = some (accObj dx items n))
    (hQ : Q (.ref h.objs.size) ⟨h.push { cls := .type "list_iterator", data := .fields #[.ref x, .int 0 0] }, g, d, t, os⟩) :
    wpAny (model PR w) A (pyIter (.ref x)) Q E ⟨h, g, d, t, os⟩ := by
  have i1 := acc_type (w := w) hx
  have i2 := acc_iterL X
  unfold pyIter specialOf
  repeat (first | (simp only [if_true, Bool.not_true, Bool.or_false, Bool.false_eq_true, if_false]) | with_reducible refine wpAny_call ?_ | lk)
  split
  all_goals repeat (first | (simp only [if_true, Bool.not_true, Bool.or_false, Bool.false_eq_true, if_false]) | with_reducible refine wpAny_call ?_ | with_reducible refine wpAny_tryCatch ?_ | lk)
  all_goals (
    refine codeAny_call_builtin (by decide +kernel) entry_list_iter (@check_slot (model PR w) _ _ ⟨h, g, d, t, os⟩ "list.__iter__" "list" "__iter__" (.ref x) [] [] _ (by decide +kernel) (by decide +kernel) (acc_isList hx X) (args_list_iter _) ?_)
    show wpAny _ _ (do ret (← newFields "list_iterator" [.ref x, rawInt 0])) _ _ _
    refine wpAny_bind (wpAny_newObj_type (wpAny_pure ?_))
    have j1 : Looks (model PR w) (h.push { cls := .type "list_iterator", data := .fields #[.ref x, .int 0 0] }) (typeOf (.ref h.objs.size)) (.type "list_iterator") := (Looks.ld (Heap.get?_push_size _ rfl)).andThen .now
    have j2 := slot_listiter_next.lookup
    dsimp only
    refine wpAny_pure ?_
    dsimp only
    refine wpAny_bind (wpAny_bind (j1.at ?_))
    rw [j2]
    exact wpAny_pure (wpAny_pure hQ))
end

section
variable {w : World}
noncomputable abbrev eltE : PySem.Expr := .Call (.Attribute (.Name "EMPTYSTRING" ⟨60, 33, 60, 44⟩) "join" ⟨60, 33, 60, 49⟩) [.Tuple [.Name "fws" ⟨60, 51, 60, 54⟩, .Name "part" ⟨60, 56, 60, 60⟩] 0 ⟨60, 50, 60, 61⟩] [] ⟨60, 33, 60, 62⟩
set_option maxHeartbeats 4000000 in
theorem elt_eval {A : Around} {E : Value → Shared → Prop} {t : Shared} {cenv : Env} {m mg : Str → Option Value} {a b : Str} {ta tb te : Tok} {Q : Value → Shared → Prop}
   (hg : cenv.globals = mainGlobals) (hk : cenv.scope.kind = .function) (hE : cenv.kindOf "EMPTYSTRING" = some .globalImplicit) (ha : cenv.kindOf "fws" = some .local) (hb : cenv.kindOf "part" = some .local)
   (hn : t.heap.Ns cenv.locals m) (hma : m "fws" = some (.str a ta)) (hmb : m "part" = some (.str b tb)) (hG : t.heap.Ns mainGlobals mg) (hmg : mg "EMPTYSTRING" = some (.str (Str.ofString "") te))
   (hsa : a.length ≤ 1000) (hsb : b.length ≤ 1000)
   (hQ : ∀ u h' tk, (∀ c o, t.heap.get? c = some o → h'.get? c = some o) → Q (.str (a ++ b) u) { t with heap := h', toks := tk }) :
   wpAny (model PR w) A (eval eltE cenv) Q E t := by
  with_unfolding_all refine MethodCall_ ?_
  refine Name_function_global hk hE (loadGlobal_global (hg ▸ hG) hmg ?_)
  refine GM.join ?_
  walk1
  walk1
  walk1
  walk1
  refine wpAny_Name (wpAny_loadName_local hk ha hn hma ?_)
  walk1
  refine wpAny_Name (wpAny_loadName_local hk hb hn hmb ?_)
  walk1
  unfold newTuple
  refine wpAny_newObj_type ?_ (by size_fits)
  walk1
  have hT : PyProof.Rows.IsTup (t.heap.push { cls := .type "tuple", data := .seq #[.str a ta, .str b tb] }) t.heap.objs.size #[.str a ta, .str b tb] := ⟨_, Heap.get?_push_size _ rfl, rfl, _, rfl⟩
  refine join_tuple (ys := [a, b]) hT (.cons _ _ (.cons _ _ .nil)) (by rw [emp_len]; simp; omega) fun u k => ?_
  rw [join_emp, catS_two]
  exact hQ _ _ _ fun c o e => Heap.get?_push_of_some _ e
end

noncomputable abbrev gpos : Pos := ⟨60, 32, 60, 85⟩
noncomputable abbrev gscope : Scope := { kind := .function, names := [(Str.ofString ".0", .local), (Str.ofString "fws", .local), (Str.ofString "part", .local), (Str.ofString "EMPTYSTRING", .globalImplicit)], isGenerator := true, isCoroutine := false, more := [] }
noncomputable abbrev genE : PySem.Expr := .GeneratorExp eltE [⟨.Tuple [.Name "fws" ⟨60, 67, 60, 70⟩, .Name "part" ⟨60, 72, 60, 76⟩] 0 ⟨60, 67, 60, 76⟩, .Name "self" ⟨60, 80, 60, 84⟩, [], 0⟩] gscope gpos
noncomputable abbrev joinE : PySem.Expr := .Call (.Attribute (.Name "EMPTYSTRING" ⟨60, 15, 60, 26⟩) "join" ⟨60, 15, 60, 31⟩) [genE] [] ⟨60, 15, 60, 86⟩
noncomputable def TabOk (ps : Array Value) : Prop := TriplesOk ps.toList ∧ (codeAmong gpos ps.toList = none ∨ ∃ c', codeAmong gpos ps.toList = some (.ref c'))
section
variable {w : World} {A : Around} {E : Value → Shared → Prop} {s : Shared} {c P : Addr} {ps : Array Value}
theorem gcode {env : Env} {qn : Str} {Q : Value → Shared → Prop} (hc : env.code = .ref c) (C : CodeHd s.heap c P) (hP : s.heap.get? P = some (tabObj ps)) (ht : TabOk ps)
    (hQ : ∀ c' h' tk ps', Heap.ExtBut P s.heap h' → s.heap.objs.size ≤ h'.objs.size → h'.get? P = some (tabObj ps') → TabOk ps' → Q (.ref c') { s with heap := h', toks := tk }) :
    wpAny (model PR w) A (genexprCode env gpos qn gscope) Q E s := by
  rcases ht with ⟨h1, h2 | ⟨c', h2⟩⟩
  · refine wpAny_genexprCodeX hc (C.code hP h1) (C.tab hP) h2 fun c' h' tk ext hle hlt ic _ tb _ => ?_
    exact hQ c' h' tk _ ext (by omega) tb.2 ⟨by rw [Array.toList_append]; exact TriplesOk_snoc _ _ _ _ h1, .inr ⟨c', by rw [Array.toList_append]; exact codeAmong_snoc _ h1 h2⟩⟩
  · obtain ⟨o, vs, file, tf, flags, tg, inF, text, tt, ho, _, hd, h11, g11, _⟩ := C
    unfold genexprCode codeAt
    rw [hc, if_neg (show ¬ ((Value.ref c == Value.none) = true) from Bool.false_ne_true)]
    refine wpAny_bind (wpAny_fieldsOf ho hd ?_)
    rw [g11]
    refine wpAny_bind (wpAny_fieldsOf hP rfl ?_)
    rw [h2]
    exact wpAny_pure (hQ c' s.heap s.toks ps (fun b o _ e => e) (Nat.le_refl _) hP ⟨h1, .inr ⟨c', h2⟩⟩)
theorem passing_all (n : Nat) : passing (fun _ => true) n 0 = List.range n := by simp [passing]
set_option maxHeartbeats 4000000 in
theorem gen_make {env : Env} {x dx : Addr} {items : Array Value} {n : Nat} {Ts : Nat → Addr} {as bs : Nat → PySem.Str} {ta tb : Nat → Tok} {mg : Str → Option Value} {te : Tok} {bm : Addr} {ob : Obj} {m : Str → Option Value} {Q : Value → Shared → Prop}
   (X : (hd.heap_39 w.params).In s.heap) (hc : env.code = .ref c) (C : CodeHd s.heap c P) (hP : s.heap.get? P = some (tabObj ps)) (ht : TabOk ps)
   (hg : env.globals = mainGlobals) (hk : env.scope.kind = .function) (hself : env.kindOf "self" = some .local) (hn : s.heap.Ns env.locals m) (hm : m "self" = some (.ref x))
   (hx : s.heap.get? x = some (accObj dx items n)) (hts : ∀ j, j < items.size → items[j]? = some (.ref (Ts j)) ∧ s.heap.IsTuple (Ts j) #[.str (as j) (ta j), .str (bs j) (tb j)])
   (hsz : ∀ j, j < items.size → (as j).length ≤ 1000 ∧ (bs j).length ≤ 1000)
   (M : BMod s.heap mainGlobals mg bm ob) (hE : mg "EMPTYSTRING" = some (.str (Str.ofString "") te)) (hlim : s.heap.NoLimit) (hG : AllBare s.gens) (hh : A.handled = none) (hroom : A.depth < recursionLimit)
   (hQ : ∀ a s', (∀ b o, b ≠ P → s.heap.get? b = some o → s'.heap.get? b = some o) → (∃ ps', s'.heap.get? P = some (tabObj ps') ∧ TabOk ps') → AllBare s'.gens → s'.os = s.os → s.heap.objs.size ≤ s'.heap.objs.size →
      Gen PR w A s.heap.objs.size.pred a (passing (fun _ => true) items.size 0).length (fun j y => ∃ i, (passing (fun _ => true) items.size 0)[j]? = some i ∧ (i < items.size ∧ ∃ u, y = .str (as i ++ bs i) u)) s' → Q (.ref a) s') :
   wpAny (model PR w) A (eval genE env) Q E s := by
  refine wpAny_GeneratorExp_walksQTD hh rfl (cl := []) (by rfl) (by decide) (by rfl) (by rfl) (by rfl) (by decide) (by rfl) hroom ?_ (by intro _; rfl)
  refine wpAny_Name (wpAny_loadName_local hk hself hn hm ?_)
  obtain ⟨hp, gs, d, tk, os⟩ := s
  refine acc_pyIter X hx ⟨hlim.push _, ?_⟩
  have hI : ∀ b o, hp.get? b = some o → b ≠ hp.objs.size := fun b o e => Nat.ne_of_lt (Heap.lt_size e)
  have up : ∀ b o, hp.get? b = some o → (hp.push { cls := .type "list_iterator", data := .fields #[.ref x, .int 0 0] }).get? b = some o := fun b o e => Heap.get?_push_of_some _ e
  refine gcode (s := ⟨hp.push { cls := .type "list_iterator", data := .fields #[.ref x, .int 0 0] }, gs, d, tk, os⟩) hc (C.keeps up) (up _ _ hP) ht fun c' h₃ tk₃ ps' ext hge hP₃ ht₃ => ?_
  have hge' : hp.objs.size + 1 ≤ h₃.objs.size := by have := hge; rw [Heap.size_push] at this; exact this
  have k₃ : ∀ b o, b ≠ P → hp.get? b = some o → h₃.get? b = some o := fun b o hb e => ext b o hb (up b o e)
  have M₃ : BMod h₃ mainGlobals mg bm ob := M.extBut (C.tab hP) fun b o hb e => k₃ b o hb e
  refine wpAny_builtinsFor (hg ▸ M₃.ns) M₃.name M₃.ne M₃.obj M₃.cls M₃.dict M₃.data ?_
  have hcP : cStatics ≠ P := fun e => by
    obtain ⟨_, hns, _⟩ := hlim
    obtain ⟨o, es, ep, ho, hd, _⟩ := hns
    rw [e, hP] at ho; cases ho; cases hd
  have hl₃ : h₃.NoLimit := hlim.extBut k₃ hcP
  have hIP : hp.objs.size ≠ P := fun e => hI P _ hP e.symm
  have hxP : x ≠ P := fun e => by rw [e] at hx; rw [hP] at hx; cases hx
  have hTP : ∀ j, j < items.size → Ts j ≠ P := fun j hj e => by
    obtain ⟨o, ho, hc', _⟩ := (hts j hj).2
    rw [e, hP] at ho; cases ho; cases hc'
  have hit₃ : h₃.get? hp.objs.size = some { cls := .type "list_iterator", data := .fields #[.ref x, .int 0 0] } := ext _ _ hIP (Heap.get?_push_size _ rfl)
  have hGm : h₃.Ns mainGlobals mg := M₃.ns
  obtain ⟨oc, hC, _⟩ : ∃ o, hp.get? cStatics = some o ∧ True := by
    obtain ⟨_, hns, _⟩ := hlim
    obtain ⟨o, _, _, ho, _⟩ := hns
    exact ⟨o, ho, trivial⟩
  refine ⟨hp.objs.size, _, _, items.size, _, _, _, (fun _ => true), (fun j y => j < items.size ∧ ∃ u, y = .str (as j ++ bs j) u), rfl,
    (fun A' hA => walks_acc (vals := fun j => #[.str (as j) (ta j), .str (bs j) (tb j)]) hA hp.objs.size x (hI x _ hx) items Ts (fun j hj => (hts j hj).1) (fun j hj => by
      obtain ⟨o, ho, _⟩ := (hts j hj).2; exact hI _ _ ho)), ?_, ?_, ?_, hl₃, ?_, ?_, ?_⟩
  · rintro i vals ⟨_, rfl⟩; exact ⟨_, _, rfl⟩
  · exact ⟨⟨_, hit₃, rfl, rfl⟩, ⟨dx, n, k₃ _ _ hxP hx⟩, fun k hk' => by
      obtain ⟨o, ho, r⟩ := (hts k hk').2
      exact ⟨o, k₃ _ _ (hTP k hk') ho, r⟩⟩
  · intro b hb
    show b < h₃.objs.size
    rcases List.mem_cons.mp hb with rfl | hb
    · exact hge'
    · rcases List.mem_cons.mp hb with rfl | hb
      · exact Nat.lt_of_lt_of_le (Heap.lt_size hx) (Nat.le_of_succ_le hge')
      · obtain ⟨j, hj, rfl⟩ := List.mem_map.mp hb
        obtain ⟨o, ho, _⟩ := (hts j (List.mem_range.mp hj)).2
        exact Nat.lt_of_lt_of_le (Heap.lt_size ho) (Nat.le_of_succ_le hge')
  · intro hm'
    exact hI _ _ hC (List.mem_singleton.mp hm')
  · intro href hhref
    refine ⟨fun A' E' i va vb t m₂ hA hD hU hPt hn₂ hma hmb hkp => ?_, fun A' E' i va vb t m₂ hA hD hU hPt hp₂ hn₂ hma hmb hkp => ?_⟩
    · rw [List.forIn_nil]
      exact wpAny_pure ⟨rfl, t.heap, t.toks, rfl, fun _ _ e => e⟩
    · obtain ⟨hi, e⟩ := hPt
      have e' := congrArg Array.toList e
      simp only [List.cons.injEq, and_true] at e'
      obtain ⟨rfl, rfl⟩ := e'
      obtain ⟨og, esg, epg, hog, rg⟩ := hGm
      have hgt : t.heap.Ns mainGlobals mg := ⟨og, esg, epg, hkp mainGlobals (List.mem_range.mpr (Heap.lt_size hog)) (fun hm' => by
        have := List.mem_singleton.mp hm'
        obtain ⟨o, _, _, ho, _⟩ := M.ns
        exact hI _ _ ho this) _ (hhref _ _ hog), rg⟩
      exact elt_eval (by show env.globals = _; exact hg) rfl rfl rfl rfl hn₂ hma hmb hgt hE (hsz i hi).1 (hsz i hi).2 fun u h' tk' k => ⟨⟨hi, u, rfl⟩, h', tk', rfl, k⟩
  · intro a h₅ tk₅ gs₅ hgb hag hsz₅ hk₅ W hat
    have hk₅' : ∀ b o, h₃.get? b = some o → h₅.get? b = some o := hk₅
    have hag' : h₃.objs.size.succ ≤ a := hag
    have hsz' : h₅.objs.size = Nat.succ a := hsz₅
    have h35 : h₃.objs.size < h₅.objs.size := by rw [hsz']; exact Nat.lt_succ_of_lt hag'
    refine hQ a _ (fun b o hb e => hk₅' b o (k₃ b o hb e)) ⟨ps', hk₅' _ _ hP₃, ht₃⟩ (hG.push hgb) rfl ?_ ⟨_, _, _, _, W, hat, (fun i s' st => st.1.typeIs), List.mem_cons_self, ?_, ?_⟩
    · show hp.objs.size ≤ h₅.objs.size
      exact Nat.le_of_lt (Nat.lt_trans hge' h35)
    · intro b hb
      show b < h₅.objs.size
      rcases List.mem_cons.mp hb with e | hb
      · rw [e, hsz']; exact Nat.lt_succ_self _
      · rcases List.mem_cons.mp hb with e | hb
        · rw [e]; exact h35
        · exact Nat.lt_trans (List.mem_range.mp hb) h35
    · intro b hb
      show hp.objs.size.pred < b
      have h0 : 0 < hp.objs.size := Nat.lt_of_le_of_lt (Nat.zero_le _) (Heap.lt_size hx)
      rcases List.mem_cons.mp hb with e | hb
      · rw [e]; exact Nat.lt_of_lt_of_le (Nat.pred_lt (Nat.pos_iff_ne_zero.mp h0)) (Nat.le_of_succ_le hge')
      · rw [List.mem_singleton.mp hb]; exact Nat.pred_lt (Nat.pos_iff_ne_zero.mp h0)
theorem gen_join {L : Addr} {a : Addr} {n : Nat} {f : Nat → PySem.Str} {t : Tok} {Q : Value → Shared → Prop} (G : AllBare s.gens)
    (Xg : Gen PR w A L a (passing (fun _ => true) n 0).length (fun j y => ∃ i, (passing (fun _ => true) n 0)[j]? = some i ∧ (i < n ∧ ∃ u, y = .str (f i) u)) s)
    (hn : n ≤ 1000) (hsz : ((List.range n).map fun i => (f i).length).sum ≤ 1000000)
    (hQ : ∀ u s', (∀ b o, b ≤ L → s.heap.get? b = some o → s'.heap.get? b = some o) → AllBare s'.gens → s'.os = s.os → Q (.str (catS ((List.range n).map f)) u) s') :
    wpAny (model PR w) A (call (.builtin "str.join") [.str (Str.ofString "") t, .ref a]) Q E s := by
  obtain ⟨fp, wr, g, St, W, hst, hT, ha, hfp, hwr⟩ := Xg
  rw [passing_all] at W
  rw [List.length_range] at W
  have W := W.in4_2
  refine SC.joinGen W hT hst hfp ha (fun j v hv => by obtain ⟨i, _, _, u, rfl⟩ := hv; exact ⟨_, u, rfl⟩) (fun s' lt hm hacc => ?_) (by rw [sizeLine_eq]; omega)
  have hl : lt.map (·.1) = (List.range n).map f := by
    apply List.ext_getElem?
    intro j
    have hsz : lt.length = n := by simpa [strValues] using hacc.1
    by_cases hj : j < n
    · have hj' : j < lt.length := hsz ▸ hj
      obtain ⟨i, hi, _, u, hv⟩ := hacc.2 j (.str lt[j].1 lt[j].2) (by simp [strValues, List.getElem?_eq_getElem hj'])
      have : i = j := by rw [List.getElem?_range hj] at hi; exact (Option.some.inj hi).symm
      subst this
      injection hv with h1 _
      simp [List.getElem?_eq_getElem hj', hj, h1]
    · rw [List.getElem?_eq_none (by simpa [hsz] using Nat.le_of_not_lt hj), List.getElem?_eq_none (by simpa using Nat.le_of_not_lt hj)]
  rw [hl]
  refine ⟨?_, fun t' k => ?_⟩
  · unfold JoinOk
    rw [Bool.not_eq_true', StrLaws.joinTotal, emp_len, Nat.mul_zero, Nat.add_zero]
    have e : (((List.range n).map f).map (·.length)).sum = ((List.range n).map fun i => (f i).length).sum := by rw [List.map_map]; rfl
    rw [e]
    unfold Builtin.Str.tooLong
    exact decide_eq_false (by rw [sizeLine_eq]; omega)
  · rw [join_emp]
    exact hQ t' { s' with toks := k } (fun b o hb e => hm.heap b o (fun hw => Nat.lt_irrefl _ (Nat.lt_of_lt_of_le (hwr b hw) hb)) e) (show AllBare s'.gens from G.movedS hm) (show s'.os = s.os from hm.os)
end
section
variable {w : World} {A : Around} {E : Value → Shared → Prop} {s : Shared} {ps : Array Value}
set_option maxHeartbeats 4000000 in
theorem str_eval {env : Env} {c P x dx : Addr} {items : Array Value} {n : Nat} {Ts : Nat → Addr} {as bs : Nat → PySem.Str} {ta tb : Nat → Tok} {mg : Str → Option Value} {te : Tok} {bm : Addr} {ob : Obj} {m : Str → Option Value} {Q : Value → Shared → Prop}
   (X : (hd.heap_39 w.params).In s.heap) (hc : env.code = .ref c) (C : CodeHd s.heap c P) (hP : s.heap.get? P = some (tabObj ps)) (ht : TabOk ps)
   (hg : env.globals = mainGlobals) (hk : env.scope.kind = .function) (hself : env.kindOf "self" = some .local) (hkE : env.kindOf "EMPTYSTRING" = some .globalImplicit) (hn : s.heap.Ns env.locals m) (hm : m "self" = some (.ref x))
   (hx : s.heap.get? x = some (accObj dx items n)) (hts : ∀ j, j < items.size → items[j]? = some (.ref (Ts j)) ∧ s.heap.IsTuple (Ts j) #[.str (as j) (ta j), .str (bs j) (tb j)])
   (hsz : ∀ j, j < items.size → (as j).length ≤ 1000 ∧ (bs j).length ≤ 1000) (hitn : items.size ≤ 1000) (hsum : ((List.range items.size).map fun i => (as i ++ bs i).length).sum ≤ 1000000)
   (M : BMod s.heap mainGlobals mg bm ob) (hE : mg "EMPTYSTRING" = some (.str (Str.ofString "") te)) (hlim : s.heap.NoLimit) (hG : AllBare s.gens) (hh : A.handled = none) (hroom : A.depth < recursionLimit)
   (hQ : ∀ u s', (∀ b o, b ≠ P → s.heap.get? b = some o → s'.heap.get? b = some o) → (∃ ps', s'.heap.get? P = some (tabObj ps') ∧ TabOk ps') → AllBare s'.gens → s'.os = s.os →
      Q (.str (catS ((List.range items.size).map fun i => as i ++ bs i)) u) s') :
   wpAny (model PR w) A (eval joinE env) Q E s := by
  with_unfolding_all refine MethodCall_ ?_
  refine Name_function_global hk hkE (loadGlobal_global (hg ▸ M.ns) hE ?_)
  refine GM.join ?_
  walk1
  walk1
  refine gen_make X hc C hP ht hg hk hself hn hm hx hts hsz M hE hlim hG hh hroom fun a s₁ k₁ ⟨ps₁, hP₁, ht₁⟩ hG₁ hos₁ hge₁ Xg => ?_
  walk1
  have hpos : 0 < s.heap.objs.size := Nat.lt_of_le_of_lt (Nat.zero_le _) (Heap.lt_size hx)
  have old : ∀ b o, s.heap.get? b = some o → b ≤ s.heap.objs.size.pred := fun b o e => Nat.le_pred_of_lt (Heap.lt_size e)
  refine gen_join hG₁ Xg hitn hsum fun u s' k₂ hG₂ hos₂ => ?_
  exact hQ u s' (fun b o hb e => k₂ b o (old b o e) (k₁ b o hb e)) ⟨ps₁, k₂ _ _ (old _ _ hP) hP₁, ht₁⟩ hG₂ (hos₂.trans hos₁)
end

noncomputable abbrev tupO (a b : PySem.Str) (ta tb : Tok) : Obj := { cls := .type "tuple", data := .seq #[.str a ta, .str b tb] }
set_option maxHeartbeats 4000000 in
theorem str_spec (w : World) (mean : ExcName → Option Value) (mg mb : Str → Option Value) (p : Program) (ls : List PySem.Str) (rest : List (Addr × Obj)) (x dx : Addr) (n : Nat) (hs : Int) (t1 t2 : Tok) (items : Array Value) (ps : Array Value)
    (Ts : Nat → Addr) (as bs : Nat → PySem.Str) (ta tb : Nat → Tok) :
  ∀ (dp un : Nat) (gd : Option (List Code)) (cn : Str) (cs : Scope) (a : Addr) (ccd : Value) (cl : List (Str × Addr)) (outer : List Env) (A₀ : Around) (base h₀ : Heap) (L : Addr) (m : Str → Option Value) (s : Shared) (Q E : Value → Shared → Prop),
    Below A₀ base outer h₀ → Fr h₀ L s.heap m → (hd.heap_39 w.params).In h₀ → News h₀ L s.heap ((x, accObj dx items n) :: (dx, accDict hs t1 t2) :: (91, tabObj ps) :: rest) → Top p ls mean mg mb h₀ → cs.kind = .function →
    TabOk ps → AllBare s.gens → items.size ≤ 1000 → (∀ j, j < items.size → items[j]? = some (.ref (Ts j)) ∧ (Ts j, tupO (as j) (bs j) (ta j) (tb j)) ∈ rest) →
    (∀ j, j < items.size → (as j).length ≤ 1000 ∧ (bs j).length ≤ 1000) → ((List.range items.size).map fun i => (as i ++ bs i).length).sum ≤ 1000000 → 91 < x → 91 < dx → (∀ p ∈ rest, p.1 ≠ 91) →
    dp + 10 < recursionLimit → un + 80 < cLine →
    (∀ u s' ps', Fr h₀ L s'.heap m → News h₀ L s'.heap ((x, accObj dx items n) :: (dx, accDict hs t1 t2) :: (91, tabObj ps') :: rest) → TabOk ps' → AllBare s'.gens → s'.os = s.os → Q (.str (catS ((List.range items.size).map fun i => as i ++ bs i)) u) s') →
      wpAny (model PySem.Challenge.rw_xp0004_01.row.prog w) (ktrTop dp un gd cn cs L a ccd cl outer) (call (.type "str") [.ref x]) Q E s := by
  w_top off
  k_fill
  intro dp un gd cn cs a ccd cl outer A₀ base h₀ L m s Q E B F X N T hcs ht hG hit hts hsz hsum hx91 hdx91 hr91 hdp hun hret
  k_dflt (refine' kso_call ?k1 ?k2 ?k3 ?k4 ?k5 ?_; (case k1 => ktr_units); (case k2 => k_in); (case k3 => k_inst); (case k4 => k_is); (case k5 => k_is))
  refine wpAny_call ?_
  k_dflt cell_enter
  rename_i g' L' h' FG' F' N' B' X' T'
  obtain ⟨bm, ob, b1, b2, b3, b4, b5, b6⟩ := T'.bmain
  have Xh := X'.keeps F'.keep
  have N91 := N' (91, tabObj ps) (.tail _ (.tail _ (.head _)))
  refine wpAny_execs_cons (wpAny_Return_some ?_)
  refine str_eval (c := 95) (P := 91) Xh rfl (codeHd_of_K Xh (by kernel_rfl)) N91.1 ht rfl rfl rfl rfl F'.ns rfl (N' _ (.head _)).1 (fun j hj => ⟨(hts j hj).1, ⟨_, (N' _ (.tail _ (.tail _ (.tail _ (hts j hj).2)))).1, rfl, _, rfl⟩⟩) hsz hit hsum
    ⟨T'.g.keeps F'.keep, b1, b2, F'.keep _ _ b3, b4, b5, b6⟩ (mg_of X' T'.g (by k_is)) (T'.nolimit.keeps F'.keep) hG rfl (by ktr_room) fun u s' k hP' hG' hos' => ?_
  obtain ⟨ps', hP', ht'⟩ := hP'
  have Fs : Fr g' L' s'.heap _ := ⟨F'.ns.at' fun o e => k _ o (fun e' => N91.2.1 e'.symm) e, fun b o e => k b o (fun e' => by rw [e', N91.2.2] at e; cases e) (F'.keep b o e), F'.above⟩
  have Ns : News g' L' s'.heap ((x, accObj dx items n) :: (dx, accDict hs t1 t2) :: (91, tabObj ps') :: rest) := by
    intro q hq
    rcases List.mem_cons.mp hq with rfl | hq
    · have z := N' _ (.head _)
      exact ⟨k _ _ (fun e => by have := hx91; rw [show x = 91 from e] at this; exact Nat.lt_irrefl _ this) z.1, z.2⟩
    · rcases List.mem_cons.mp hq with rfl | hq
      · have z := N' _ (.tail _ (.head _))
        exact ⟨k _ _ (fun e => by have := hdx91; rw [show dx = 91 from e] at this; exact Nat.lt_irrefl _ this) z.1, z.2⟩
      · rcases List.mem_cons.mp hq with rfl | hq
        · exact ⟨hP', N91.2⟩
        · have z := N' q (.tail _ (.tail _ (.tail _ hq)))
          exact ⟨k _ _ (hr91 q hq) z.1, z.2⟩
  exact leaveK_ Fs Ns fun kF kN => hret u s' ps' kF kN ht' hG' hos'

section
variable {K : Frag} {M : Model} {A : Around} {E : Value → Shared → Prop} {s : Shared} {env : Env} {pos : Pos} {f : Value} {first : List Value} {Q : Value → Shared → Prop}
theorem callC_K {e : Expr} {rest : List Expr} (hk : keepIn K f = true) (h : wpAny M A (spliced (backTo pos (starEach (e :: rest) env))) (fun vs s₁ => K.In s₁.heap ∧ wpC M A (call f (first ++ vs)) Q E s₁) E s)
    (he : starEach (e :: rest) env = (false, eval e env) :: starEach rest env := by rfl) (hplain : (backTo pos (starEach rest env)).any (·.1) = false := by rfl) :
    wpC M A (callWith pos f first (backTo pos (starEach (e :: rest) env)) []) Q E s := by
  rw [he] at h ⊢
  exact callWithC_of (by show ((false || (backTo pos (starEach rest env)).any (·.1)) || false) = false; rw [hplain]; rfl) (keeps_K hk) (wpC_any (evalArgs_plain h))
end
section
variable {prog : Program} {w : World} {A : Around} {E : Value → Shared → Prop} {s : Shared} {value slice : PySem.Expr} {d : List UInt8} {t : Tok} {h₀ : Heap} {L : Addr} {m : PySem.Str → Option Value} {news : List (Addr × Obj)} {l u : Value} {lo hi : Option Int} {Q : Value → Shared → Prop}
theorem bytes_cut (hF : Fr h₀ L s.heap m) (hN : News h₀ L s.heap news) (hl : IsPart l lo) (hu : IsPart u hi) (hz : d.length ≤ 1000) {c : List UInt8}
    (hc : (d.drop (lo.elim 0 (clipAt d.length))).take (hi.elim d.length (clipAt d.length) - lo.elim 0 (clipAt d.length)) = c)
    (h : ∀ h' t' k, Fr h₀ L h' m → News h₀ L h' news → Q (.bytes c.toArray t') { s with heap := h', toks := k })
    (hs : subscripted slice false (.bytes d.toArray t) (.ref s.heap.objs.size) = operate [.ref s.heap.objs.size, .bytes d.toArray t] (getItem (.bytes d.toArray t) (.ref s.heap.objs.size)) := by with_unfolding_all rfl)
    (ht : ∀ r, letTemporaryGo value (.bytes d.toArray t) r = pure () := by intro _; with_unfolding_all rfl) :
    wpAny (model prog w) A (subscriptTail value slice (.bytes d.toArray t) (.ref s.heap.objs.size)) Q E { s with heap := s.heap.push { cls := .type "slice", data := .fields #[l, u, .none] } } := by
  refine KBc.slice_K hF hN rfl hl hu (by rw [KBw.ints_length]; show d.length ≤ _; omega) (fun h' t' k F N _ => ?_) hs ht
  have e : KBy.picked d.toArray lo hi = c.toArray := by rw [KBc.picked_eq, ← hc]; rfl
  rw [e]
  exact h h' t' k F N
end
theorem cut2 {d : List UInt8} {i : Nat} (h : 2 * i + 2 ≤ d.length) : (d.drop (2 * i)).take 2 = [d.getD (2 * i) 0, d.getD (2 * i + 1) 0] := by
  have h1 : 2 * i < d.length := by omega
  have h2 : 2 * i + 1 < d.length := by omega
  rw [List.drop_eq_getElem_cons h1, List.drop_eq_getElem_cons h2, List.take_succ_cons, List.take_succ_cons, List.take_zero]
  rw [List.getD_eq_getElem?_getD, List.getD_eq_getElem?_getD, List.getElem?_eq_getElem h1, List.getElem?_eq_getElem h2]
  rfl
section
variable {M : Model} {A : Around} {E : Value → Shared → Prop} {s : Shared} {h₀ : Heap} {L : Addr} {m : PySem.Str → Option Value} {news : List (Addr × Obj)} {α : Type}
structure ValJ (V : Tok → Value) (h₀ : Heap) (L : Addr) (m : PySem.Str → Option Value) (news : List (Addr × Obj)) (s : Shared) (v : Value) (s' : Shared) : Prop where
  here : ∃ u h tk, v = V u ∧ s' = { s with heap := h, toks := tk } ∧ Fr h₀ L h m ∧ News h₀ L h news
/-- Two ways to one value become one way. -/
theorem val_join {t : Sem Value} {Q : Value → Shared → Prop} (V : Tok → Value) (hc : wpAny M A t (ValJ V h₀ L m news s) E s)
    (hk : ∀ u h tk, Fr h₀ L h m → News h₀ L h news → Q (V u) { s with heap := h, toks := tk }) : wpAny M A t Q E s := by
  refine wpAny_mono hc (fun v s' hv => ?_) fun _ _ x => x
  obtain ⟨u, h, tk, rfl, rfl, F, N⟩ := hv
  exact hk u h tk F N
theorem val_joinF {t : Sem Value} {Q : Value → Shared → Prop} {hF : Heap} (V : Tok → Value) (_F : Fr h₀ L hF m) (_N : News h₀ L hF news) (hc : wpAny M A t (ValJ V h₀ L m news s) E s)
    (hk : ∀ u h tk, Fr h₀ L h m → News h₀ L h news → Q (V u) { s with heap := h, toks := tk }) : wpAny M A t Q E s := val_join V hc hk
end
section
variable {K : Frag} {M : Model} {A : Around} {E : Value → Shared → Prop} {s : Shared} {env : Env} {pos : Pos} {f : Value} {first : List Value} {Q : Value → Shared → Prop}
theorem wpC_Subscript {value slice : Expr} (h : wpC M A (eval value env) (fun o s₁ => wpAny M A (eval slice env) (fun i s₂ => wpAny M A (subscriptTail value slice o i) Q E s₂) E s₁) E s) : wpC M A (eval (.Subscript value slice pos) env) Q E s := by
  rw [eval_Subscript]
  exact wpC_bind (wpC_mono h (fun o s₁ h₁ => wpC_any (wpAny_bind (wpAny_holding (wpAny_mono h₁ (fun i s₂ h₂ => wpAny_bind (wpAny_standAt h₂)) fun _ _ x => x)))) fun _ _ x => x)
/-- A call whose first argument is a call that asks for no view on the stack. -/
theorem callC_KC {e : Expr} {rest : List Expr} (hk : keepIn K f = true) (h : wpC M A (eval e env) (fun v s₁ => wpAny M A (spliced (backTo pos (starEach rest env))) (fun vs s₂ => K.In s₂.heap ∧ wpC M A (call f (first ++ (v :: vs))) Q E s₂) E s₁) E s)
    (he : starEach (e :: rest) env = (false, eval e env) :: starEach rest env := by rfl) (hplain : (backTo pos (starEach rest env)).any (·.1) = false := by rfl) :
    wpC M A (callWith pos f first (backTo pos (starEach (e :: rest) env)) []) Q E s := by
  rw [he]
  refine callWithC_of (by show ((false || (backTo pos (starEach rest env)).any (·.1)) || false) = false; rw [hplain]; rfl) (keeps_K hk) ?_
  exact evalArgsC_plain (splicedC_cons h)
end

namespace Ba
theorem lk_ga : typeLookup (.type "bytearray") "__release_buffer__" = pure (some (.builtin "bytearray.__release_buffer__")) := by rw [typeLookup_type, builtinLookup_eq_fast]; kernel_rfl
theorem lk_buf : typeLookup (.type "bytearray") "__buffer__" = pure (some (.builtin "bytearray.__buffer__")) := by rw [typeLookup_type, builtinLookup_eq_fast]; kernel_rfl
theorem lk_bytes : typeLookup (.type "bytearray") "__bytes__" = pure none := by rw [typeLookup_type, builtinLookup_eq_fast]; kernel_rfl
theorem lk_index : typeLookup (.type "bytearray") "__index__" = pure none := by rw [typeLookup_type, builtinLookup_eq_fast]; kernel_rfl
theorem sub_self : isSubtype (.type "bytearray") (.type "bytearray") = pure true := by rw [isSubtype_type]; kernel_rfl
theorem mro_ba : mroOf (.type "bytearray") = pure [.type "bytearray", .type "object"] := by rw [mroOf_type]; kernel_rfl
theorem lookup_new : typeLookup (.type "bytearray") "__new__" = pure (some (.builtin "bytearray.__new__")) := by rw [typeLookup_type, builtinLookup_eq_fast]; kernel_rfl
theorem slot_init : Slot "bytearray" "__init__" "bytearray.__init__" :=
  .of (owner := "bytearray") (n := "__init__") (by rw [typeLookup_type, builtinLookup_eq_fast]; kernel_rfl) (by decide +kernel) (by decide +kernel) (by decide +kernel)
    (by first | exact .inl (by decide +kernel) | exact .inr (by decide +kernel)) (by rw [isSubtype_type]; kernel_rfl)
theorem slot_set : Slot "bytearray" "__setitem__" "bytearray.__setitem__" :=
  .of (owner := "bytearray") (n := "__setitem__") (by rw [typeLookup_type, builtinLookup_eq_fast]; kernel_rfl) (by decide +kernel) (by decide +kernel) (by decide +kernel)
    (by first | exact .inl (by decide +kernel) | exact .inr (by decide +kernel)) (by rw [isSubtype_type]; kernel_rfl)
theorem called : TypeCalled "bytearray" "bytearray.__new__" "bytearray.__init__" :=
  ⟨by decide +kernel, by decide +kernel, ⟨_, _, mro_ba⟩, madeBy_type mro_ba lookup_new (by decide +kernel), by decide +kernel, by rw [isSubtype_type]; kernel_rfl, slot_init⟩
theorem typeCall (a : Value) : checkTypeCall "bytearray" ⟨[a], []⟩ = pure () := by kernel_rfl
theorem newCall (a : Value) : checkBuiltinCall "bytearray.__new__" ⟨[.type "bytearray", a], []⟩ = pure () := by kernel_rfl
theorem entry_new : entryFor table "bytearray.__new__" = some Builtin.«list.__new__» := entryFor_alias (id' := "list.__new__") (by kernel_rfl) rfl (by decide +kernel) (by kernel_rfl)
theorem entry_init : entryFor table "bytearray.__init__" = some Builtin.«bytearray.__init__» := entryFor_of_tree (by kernel_rfl)
theorem entry_set : entryFor table "bytearray.__setitem__" = some Builtin.«bytearray.__setitem__» := entryFor_of_tree (by kernel_rfl)
theorem args_init (a b : Value) : argsOk "bytearray.__init__" ⟨[a, b], []⟩ := by unfold argsOk; kernel_rfl
theorem args_set (a b c : Value) : argsOk "bytearray.__setitem__" ⟨[a, b, c], []⟩ := by unfold argsOk; kernel_rfl
theorem plain_new : plainId "bytearray.__new__" = true := by decide +kernel
theorem bind1 (v : Value) : Builtin.Bytes.bindOptional "bytearray.__init__" "bytearray" ["source", "encoding", "errors"] [v] [] = pure [some v, none, none] := by kernel_rfl
set_option maxRecDepth 1000000 in
set_option maxHeartbeats 4000000 in
theorem owner_new : ("bytearray.__new__".splitOn ".__new__").headD "" = "bytearray" := by simp +decide [String.splitOn, String.splitOnAux]
noncomputable abbrev obj (b : Array UInt8) : Obj := { cls := .type "bytearray", data := .bytearray b }
section
variable {prog : Program} {w : World} {A : Around} {E : Value → Shared → Prop} {s : Shared} {x : Addr} {b : Array UInt8}
theorem code_new (a : Value) {Q₁ : Value → Shared → Prop} (h : Q₁ (.ref s.heap.objs.size) { s with heap := s.heap.push (obj #[]) }) :
    codeAny (model prog w) A (.call (.builtin "bytearray.__new__") ⟨[.type "bytearray", a], []⟩) (wants Q₁ E) s := by
  refine codeAny_of_tree ?_
  show wpAny _ A.in1 (do checkBuiltinCall "bytearray.__new__" ⟨[.type "bytearray", a], []⟩; again (.builtin "bytearray.__new__" ⟨[.type "bytearray", a], []⟩)) _ _ s
  refine wpAny_bind (wpAny_of_eq (newCall a) (wpAny_pure ⟨plainId_quiet plain_new _, codeAny_builtin_stack entry_new rfl fun p st => ?_⟩))
  rw [Around.under_plainId plain_new _]
  have hsub := sub_self
  have hown := owner_new
  obtain ⟨hp, g, d, tk, os⟩ := s
  simp only [hown]
  wp_walk
  exact h
theorem special (hx : s.heap.get? x = some (obj b)) {n : Str} {r : Option Value} {Q : Option Value → Shared → Prop} (hl : typeLookup (.type "bytearray") n = pure r) (h : Q r s) : wpAny (model prog w) A (specialOf (.ref x) n) Q E s :=
  wpAny_specialOf (T := "bytearray") ⟨_, hx, rfl⟩ hl h
set_option linter.deprecated false in
theorem own (hx : s.heap.get? x = some (obj b)) {Q : Bool → Shared → Prop} (h : Q false s) : wpAny (model prog w) A (Builtin.Bytes.ownRelease (.ref x)) Q E s := by
  unfold Builtin.Bytes.ownRelease Builtin.Bytes.slotIsOwn
  refine wpAny_bind (wpAny_bind (special hx lk_ga ?_))
  show wpAny _ _ (if (!String.endsWith "bytearray.__release_buffer__" ("." ++ "__release_buffer__")) = true then _ else _) _ _ _
  rw [if_neg (by decide +kernel)]
  have e : ("bytearray.__release_buffer__".dropRight ("__release_buffer__".length + 1)) = "bytearray" := by decide +kernel
  rw [e]
  refine wpAny_isInstance (T := "bytearray") (b := true) ⟨_, hx, rfl⟩ sub_self ?_
  exact wpAny_pure h
theorem view_calm {c : Code} (hc : calm c = true) (v : Value) (p : Pos) : (match (c, p) with
    | (.builtin "bytearray.__contains__" ⟨v' :: _, _⟩, _) | (.builtin "bytearray.__mod__" ⟨v' :: _, _⟩, _)
    | (.builtin "bytearray.__rmod__" ⟨_ :: v' :: _, _⟩, _) | (.builtin "_struct.pack_into.held" ⟨v' :: _, _⟩, _) => Builtin.Bytes.sameRef v' v
    | (.builtin "bytearray.find.held" ⟨_ :: _ :: held, _⟩, _) => held.any (Builtin.Bytes.sameRef v)
    | (.builtin id ⟨v' :: _, _⟩, _) => Builtin.Bytes.sameRef v' v && Builtin.Bytes.decodersThatHold.contains id
    | _ => false) = false := by
  cases c with
  | builtin id args =>
    have h : viewIds.contains id = false := by
      have : (!viewIds.contains id) = true := hc
      simpa using this
    have h2 : Builtin.Bytes.decodersThatHold.contains id = false := by
      unfold viewIds at h
      rw [List.contains_eq_mem, decide_eq_false_iff_not] at h ⊢
      exact fun hm => h (List.mem_append_right _ hm)
    have h3 : ∀ x ∈ ["bytearray.__contains__", "bytearray.__mod__", "bytearray.__rmod__", "_struct.pack_into.held", "bytearray.find.held"], id ≠ x := by
      rintro x hx rfl
      unfold viewIds at h
      rw [List.contains_eq_mem, decide_eq_false_iff_not] at h
      exact h (List.mem_append_left _ hx)
    obtain ⟨ps, kw⟩ := args
    have a1 := h3 "bytearray.__contains__" (by simp)
    have a2 := h3 "bytearray.__mod__" (by simp)
    have a3 := h3 "bytearray.__rmod__" (by simp)
    have a4 := h3 "_struct.pack_into.held" (by simp)
    have a5 := h3 "bytearray.find.held" (by simp)
    clear h3 h hc
    cases ps with
    | nil => delta view_calm.match_1; dsimp only; simp only [dif_neg a1, dif_neg a2, dif_neg a3, dif_neg a4, dif_neg a5]
    | cons v' r => delta view_calm.match_1; dsimp only; simp only [dif_neg a1, dif_neg a2, dif_neg a3, dif_neg a4, dif_neg a5, h2, Bool.and_false]
  | _ => rfl
theorem exported {v : Value} {Q : Bool → Shared → Prop} (h : Q false s) : wpC (model prog w) A (Builtin.Bytes.exported v) Q E s := fun Γ p hΓ hC => by
  show Q (((Γ.code, p) :: Γ.below).any _) s
  have : ∀ cp ∈ (Γ.code, p) :: Γ.below, calm cp.1 = true := by
    intro cp hcp
    rcases List.mem_cons.mp hcp with rfl | hcp
    · exact hC.1
    · exact hC.2 cp hcp
  rw [show (((Γ.code, p) :: Γ.below).any _) = false from List.any_eq_false.mpr fun cp hcp => by
    have := view_calm (this cp hcp) v cp.2
    rw [Bool.not_eq_true]
    exact this]
  exact h
set_option linter.deprecated false in
theorem ownBuf (hx : s.heap.get? x = some (obj b)) {Q : Bool → Shared → Prop} (h : Q true s) : wpAny (model prog w) A (Builtin.Bytes.slotIsOwn (.ref x) "__buffer__") Q E s := by
  unfold Builtin.Bytes.slotIsOwn
  refine wpAny_bind (special hx lk_buf ?_)
  show wpAny _ _ (if (!String.endsWith "bytearray.__buffer__" ("." ++ "__buffer__")) = true then _ else _) _ _ _
  rw [if_neg (by decide +kernel)]
  have e : ("bytearray.__buffer__".dropRight ("__buffer__".length + 1)) = "bytearray" := by decide +kernel
  rw [e]
  refine wpAny_isInstance (T := "bytearray") (b := true) ⟨_, hx, rfl⟩ sub_self ?_
  exact h
theorem payload (hx : s.heap.get? x = some (obj b)) {Q : Array UInt8 → Shared → Prop} (h : Q b s) : wpAny (model prog w) A (Builtin.Bytes.payload (.ref x)) Q E s := by
  unfold Builtin.Bytes.payload Builtin.Bytes.payload?
  exact wpAny_bind (wpAny_bind (wpAny_load hx (wpAny_pure (wpAny_pure h))))
theorem write (hx : s.heap.get? x = some (obj b)) {f : Array UInt8 → Array UInt8} (hz : (f b).size ≤ sizeLine) {Q : Unit → Shared → Prop}
   (h : ∀ h', h'.get? x = some (obj (f b)) → Heap.SameBut x s.heap h' → Q () { s with heap := h' }) : wpAny (model prog w) A (Builtin.Bytes.write (.ref x) f) Q E s := by
  show wpAny _ _ (updateBytearray x f) _ _ _
  unfold updateBytearray
  refine wpAny_bind (wpAny_load hx ?_)
  show wpAny _ _ (update x (Obj.mapBytearray f) >>= fun _ => lookBehind x) _ _ _
  refine wpAny_bind (wpAny_update hx ?_)
  have hS₂ : (s.heap.update x (Obj.mapBytearray f)).get? x = some (obj (f b)) := Heap.get?_update_self (Obj.mapBytearray f) hx rfl
  refine wpAny_lookBehind hS₂ ?_ ?_
  · show (if (f b).size > sizeLine then some "bytearray:memory" else none) = none
    rw [if_neg (by omega)]
  · exact h _ hS₂ (Heap.SameBut.update ..)
set_option maxHeartbeats 4000000 in
theorem init {n : Nat} {t : Tok} {R : Result → Shared → Prop} (hx : s.heap.get? x = some (obj #[])) (hn : n ≤ 1000)
   (h : ∀ h', h'.get? x = some (obj (Array.replicate n 0)) → Heap.SameBut x s.heap h' → R (.ok (.ret .none)) { s with heap := h' }) :
   codeC (model prog w) A (.call (.builtin "bytearray.__init__") ⟨[.ref x, .int n t], []⟩) R s := by
  refine codeC_call_builtin (by decide +kernel) slot_init.plain entry_init (slot_init.check _ _ _ _ _ _ _ _ ⟨_, hx, rfl⟩ (args_init _ _) ?_)
  unfold Builtin.«bytearray.__init__»
  refine wpC_bindA (own hx ?_)
  refine wpC_if_false rfl ?_
  refine wpC_bindA (wpAny_of_eq (bind1 _) ?_)
  refine wpC_bindA (wpAny_of_eq (a := ()) rfl ?_)
  refine wpC_bindA (wpAny_of_eq (a := ()) rfl ?_)
  refine wpC_bind ?_
  refine wpC_bind (exported ?_)
  refine wpC_any ?_
  have ex0 : ∀ {Q : Bool → Shared → Prop}, Q false s → wpAny (model prog w) A.in1 (do let r ← Builtin.Bytes.exportsOf (.ref x); pure (decide (r > 0))) Q (fun e s' => R (.error e) s') s := fun h => by
    refine wpAny_bind ?_
    unfold Builtin.Bytes.exportsOf
    exact wpAny_bind (wpAny_load hx (wpAny_pure (wpAny_pure h)))
  refine ex0 ?_
  refine wpC_any ?_
  dsimp only
  rw [if_neg Bool.false_ne_true]
  obtain ⟨hp, g, d, tk, os⟩ := s
  refine wpAny_bind (write hx (by simp) fun h₁ hx₁ sb₁ => ?_)
  have hi : typeLookup (.type "int") "__index__" = pure (some (.builtin "int.__index__")) := F.slot_int_index.lookup
  have e1 : (!Builtin.Bytes.fitsIndex (n : Int)) = false := by simp only [Builtin.Bytes.fitsIndex, Bool.not_eq_false', Bool.and_eq_true, decide_eq_true_eq]; omega
  have e2 : ¬ ((n : Int) < 0) := by omega
  have e3 : ((n : Int) == 2 ^ 63 - 1) = false := by rw [beq_eq_false_iff_ne]; omega
  have e4 : Builtin.Bytes.tooLong (n : Int).toNat = false := KBy.tooLong_not (by omega)
  dsimp only
  have as0 : Looks (model prog w) h₁ (asStr? (.int (n : Int) t)) none := Looks.of_pure rfl
  have as1 : Looks (model prog w) h₁ (specialOf (.int (n : Int) t) "__index__") (some (.builtin "int.__index__")) := by
    intro A Q E s k q
    exact wpAny_specialOf (typeIs_int _ _ _) hi q
  have as2 : Looks (model prog w) h₁ (asIndex (.int (n : Int) t)) (n : Int) := Looks.of_pure rfl
  repeat (first | (simp only [Option.isSome, if_true, if_false, Bool.false_eq_true, e1, e2, e3, e4]) | (with_reducible refine wpAny_bind (wpAny_attempt (as2.at ?_))) | lk)
  by_cases h0 : (n : Int) > 0
  · rw [if_pos h0]
    refine wpAny_bind (write hx₁ (by simp [sizeLine_eq]; omega) fun h₂ hx₂ sb₂ => ?_)
    refine wpAny_pure (h h₂ ?_ (sb₁.trans sb₂))
    rw [hx₂]
    simp
  · rw [if_neg h0]
    have : n = 0 := by omega
    subst this
    exact wpAny_pure (h h₁ hx₁ sb₁)
set_option maxHeartbeats 4000000 in
theorem make {n : Nat} {t : Tok} {Q : Value → Shared → Prop} (hn : n ≤ 1000)
   (h : ∀ h', h'.get? s.heap.objs.size = some (obj (Array.replicate n 0)) → (∀ b o, s.heap.get? b = some o → h'.get? b = some o) → Q (.ref s.heap.objs.size) { s with heap := h' }) :
   wpC (model prog w) A (call (.type "bytearray") [.int n t]) Q E s := by
  refine wpC_call (codeC_of_tree rfl ?_)
  show wpC _ _ (callAny (.type "bytearray") _) _ _ _
  refine wpC_pure ⟨Code.quiet_builtin _ (by decide +kernel), codeC_builtin (by decide +kernel) F.entry_type_call ?_⟩
  rw [Around.under_plain (weight_type_call_type "bytearray" [.int n t] []) rfl]
  have h1 := called.notType
  have h2 := called.canCreate
  unfold Builtin.«type.__call__»
  simp only [h1, h2, Bool.false_eq_true, if_false]
  refine wpC_bindA (wpAny_of_eq (typeCall _) ?_)
  refine wpC_bindA (wpAny_of_eq mro_ba ?_)
  refine wpC_if_false rfl ?_
  refine wpC_bindA (wpAny_of_eq called.made ?_)
  dsimp only
  refine wpC_bindA (wpAny_pure ?_)
  refine wpC_bindA (wpAny_holding (wpAny_call (code_new (E := fun _ _ => False) (Q₁ := fun o s₁ => o = .ref s.heap.objs.size ∧ s₁ = { s with heap := s.heap.push (obj #[]) }) _ ⟨rfl, rfl⟩ |> fun z => codeAny_mono z fun r s₁ hr => ?_)))
  rcases r with e | (v | _ | _ | _)
  · exact hr.elim
  all_goals first | exact hr.elim | skip
  obtain ⟨rfl, rfl⟩ := hr
  have hx : (s.heap.push (obj #[])).get? s.heap.objs.size = some (obj #[]) := Heap.get?_push_size _ rfl
  refine wpC_bindA (wpAny_isInstance (T := "bytearray") (b := true) ⟨_, hx, rfl⟩ sub_self ?_)
  refine wpC_if_false rfl ?_
  refine wpC_bind (wpC_holding ?_)
  simp only [callSpecial?]
  refine wpC_bindA (wpAny_specialOf (T := "bytearray") ⟨_, hx, rfl⟩ slot_init.lookup ?_)
  simp only [slot_init.bind]
  refine wpC_holding (wpC_bindA (wpAny_pure (wpC_bind (wpC_call (init (s := { s with heap := s.heap.push (obj #[]) }) hx hn fun h' hx' sb => ?_)))))
  refine wpC_pure ?_
  dsimp only
  refine wpC_if_false (by rfl) ?_
  exact wpC_pure (h h' hx' fun b o e => sb.extBut b o (Nat.ne_of_lt (Heap.lt_size e)) (Heap.get?_push_of_some _ e))
theorem seqIndex_of {i : Int} {n : Nat} (h0 : 0 ≤ i) (h1 : i < n) : seqIndex? i n = some i.toNat := by
  have hn : ¬ i < 0 := by omega
  simp [seqIndex?, hn, h0, h1]
theorem setItem_ba {i v : Int} {t u : Tok} {Q : Unit → Shared → Prop} (hx : s.heap.get? x = some (obj b)) (h0 : 0 ≤ i) (h1 : i < b.size) (hz : b.size ≤ 1000) (v0 : 0 ≤ v) (v1 : v < 256)
   (h : ∀ h', h'.get? x = some (obj (b.setIfInBounds i.toNat v.toNat.toUInt8)) → Heap.SameBut x s.heap h' → Q () { s with heap := h' }) :
   wpAny (model prog w) A (setItem (.ref x) (.int i t) (.int v u)) Q E s := by
  have hT : s.TypeIs (.ref x) "bytearray" := ⟨_, hx, rfl⟩
  unfold setItem
  refine wpAny_holding ?_
  refine wpAny_bind (wpAny_sequenceKey hT (by decide) ?_)
  refine wpAny_bind (wpAny_callSpecial?_slot (name := Str.ofString "__setitem__") hT slot_set (wpAny_call_entry slot_set hT entry_set ?_ (args_set _ _ _)))
  unfold Builtin.«bytearray.__setitem__»
  refine bm_if_false rfl ?_
  dsimp only
  refine wpAny_bind ?_
  unfold Builtin.Bytes.subscript?
  refine wpAny_bind (wpAny_specialOf (typeIs_int _ _ _) F.slot_int_index.lookup ?_)
  refine bm_if_false rfl ?_
  refine wpAny_bind (wpAny_of_eq (a := i) rfl ?_)
  have e1 : Builtin.Bytes.fitsIndex i = true := by simp only [Builtin.Bytes.fitsIndex, Bool.and_eq_true, decide_eq_true_eq]; omega
  rw [e1]
  refine bm_if_false rfl ?_
  refine wpAny_pure ?_
  dsimp only
  refine wpAny_bind ?_
  unfold Builtin.Bytes.byteValue
  refine wpAny_bind (wpAny_of_eq (a := v) rfl ?_)
  refine bm_if_false (by simp only [Bool.or_eq_false_iff, decide_eq_false_iff_not]; omega) ?_
  refine wpAny_pure ?_
  refine wpAny_bind (payload hx ?_)
  rw [seqIndex_of h0 h1]
  dsimp only
  refine wpAny_bind (write hx (by rw [Array.size_setIfInBounds, sizeLine_eq]; omega) fun h' hx' sb => ?_)
  exact wpAny_pure ⟨_, rfl, wpAny_pure (h h' hx' sb)⟩
set_option maxHeartbeats 4000000 in
theorem bytes_new {Q : Value → Shared → Prop} (hx : s.heap.get? x = some (obj b)) (hz : b.size ≤ 1000) (h : ∀ t k, Q (.bytes b t) { s with toks := k }) :
    codeAny (model prog w) A (.call (.builtin "bytes.__new__") ⟨[.type "bytes", .ref x], []⟩) (wants Q E) s := by
  refine codeAny_of_tree ?_
  show wpAny _ A.in1 (do checkBuiltinCall "bytes.__new__" ⟨[.type "bytes", .ref x], []⟩; again (.builtin "bytes.__new__" ⟨[.type "bytes", .ref x], []⟩)) _ _ s
  refine wpAny_bind (wpAny_of_eq (F.bm_newCall _) (wpAny_pure ⟨plainId_quiet F.bm_plain _, codeAny_builtin F.bm_entry ?_⟩))
  rw [Around.under_plainId F.bm_plain _]
  have hT : s.TypeIs (.ref x) "bytearray" := ⟨_, hx, rfl⟩
  unfold Builtin.«bytes.__new__»
  refine wpAny_bind (wpAny_of_eq (a := true) rfl ?_)
  refine bm_if_false rfl ?_
  refine wpAny_bind (wpAny_of_eq F.bm_sub ?_)
  refine bm_if_false rfl ?_
  refine wpAny_bind (wpAny_of_eq (F.bm_bind _) ?_)
  refine wpAny_bind (wpAny_of_eq (a := ()) rfl ?_)
  refine wpAny_bind (wpAny_of_eq (a := ()) rfl ?_)
  refine bm_if_false rfl ?_
  refine wpAny_bind (wpAny_specialOf hT lk_bytes ?_)
  refine wpAny_bind (wpAny_bind ?_)
  show wpAny _ _ (load x >>= _) _ _ _
  refine wpAny_bind (wpAny_load hx ?_)
  refine wpAny_pure (wpAny_pure ?_)
  refine bm_if_false rfl ?_
  refine wpAny_bind (wpAny_specialOf hT lk_index ?_)
  refine bm_if_true rfl ?_
  first
    | show wpAny _ _ (Builtin.Bytes.buffer? "bytes.__new__" (.ref x) true >>= _) _ _ _
    | (refine wpAny_bind ?_; show wpAny _ _ (Builtin.Bytes.buffer? "bytes.__new__" (.ref x) true >>= _) _ _ _)
  refine wpAny_bind ?_
  unfold Builtin.Bytes.buffer?
  refine wpAny_bind (wpAny_specialOf hT lk_buf ?_)
  dsimp only
  refine wpAny_bind (ownBuf hx ?_)
  rw [if_neg (show ¬ ((!true) = true) from Bool.false_ne_true)]
  refine wpAny_bind (wpAny_specialOf hT lk_buf ?_)
  try dsimp only
  refine wpAny_bind (own hx ?_)
  rw [if_neg Bool.false_ne_true]
  refine wpAny_bind (payload hx (wpAny_pure ?_))
  try dsimp only
  refine wpAny_bind (wpAny_rule ?_)
  refine wpAny_bind (wpAny_mkBytes ?_ (by rw [sizeLine_eq]; omega))
  show wpAny _ _ (if (Value.type "bytes" == Value.type "bytes") = true then _ else _) _ _ _
  refine bm_if_true (by decide) ?_
  first
    | exact wpAny_pure (h _ _)
    | exact wpAny_bind (wpAny_pure (wpAny_pure (h _ _)))
theorem to_bytes {Q : Value → Shared → Prop} (hx : s.heap.get? x = some (obj b)) (hz : b.size ≤ 1000) (h : ∀ t k, Q (.bytes b t) { s with toks := k }) :
    wpAny (model prog w) A (call (.type "bytes") [.ref x]) Q E s := by
  refine callType_codes (Q₁ := fun obj s₁ => s₁.TypeIs obj "bytes" ∧ Q obj s₁) F.bm_called (F.bm_typeCall _) F.entry_object_init
    (bytes_new hx hz fun t k => ⟨PySem.W.typeIs_bytes _ _ _, h t k⟩) fun obj s₁ h₁ => ?_
  exact ⟨h₁.1, F.args_object_init_2 obj _, object_init_meets F.bm_called.init.lookup F.bm_called.made (by decide) prog w A.in1 _ s₁ ⟨h₁.1, rfl, h₁.2⟩⟩
end
section
variable {prog : Program} {w : World} {A : Around} {E : Value → Shared → Prop} {s : Shared} {h₀ : Heap} {L x : Addr} {m : Str → Option Value} {news news' : List (Addr × Obj)} {b : Array UInt8}
theorem nw_make {n : Nat} {t : Tok} {Q : Value → Shared → Prop} (F : Fr h₀ L s.heap m) (N : News h₀ L s.heap news) (hn : n ≤ 1000)
   (h : ∀ x h', Fr h₀ L h' m → News h₀ L h' ((x, obj (Array.replicate n 0)) :: news) → (∀ p ∈ news, p.1 < x) → Q (.ref x) { s with heap := h' }) :
   wpC (model prog w) A (call (.type "bytearray") [.int n t]) Q E s := by
  refine make hn fun h' hx k => ?_
  obtain ⟨F', N', l⟩ := ks_newsPush (o := obj (Array.replicate n 0)) F N rfl hx k
  exact h _ h' F' N' l
theorem nw_set {i v : Int} {t u : Tok} {Q : Unit → Shared → Prop} (F : Fr h₀ L s.heap m) (N : News h₀ L s.heap news) (h0 : 0 ≤ i) (h1 : i < b.size) (hz : b.size ≤ 1000) (v0 : 0 ≤ v) (v1 : v < 256)
   (U : Upd x (obj b) (obj (b.setIfInBounds i.toNat v.toNat.toUInt8)) news news')
   (h : ∀ h', Fr h₀ L h' m → News h₀ L h' news' → Q () { s with heap := h' }) : wpAny (model prog w) A (setItem (.ref x) (.int i t) (.int v u)) Q E s := by
  obtain ⟨pre, post, rfl, rfl, a, c⟩ := U.split
  have z := N (x, obj b) (List.mem_append.mpr (.inr (.head _)))
  exact setItem_ba z.1 h0 h1 hz v0 v1 fun h' ho' hs => h h' (F.change hs z.2.1 z.2.2) (news_set N a c hs ho')
theorem nw_bytes {Q : Value → Shared → Prop} (N : News h₀ L s.heap news) (hx : (x, obj b) ∈ news) (hz : b.size ≤ 1000) (h : ∀ t k, Q (.bytes b t) { s with toks := k }) :
    wpAny (model prog w) A (call (.type "bytes") [.ref x]) Q E s := to_bytes (N _ hx).1 hz h
end
end Ba

theorem fr_congr {h₀ h : Heap} {L : Addr} {m m' : Str → Option Value} (F : Fr h₀ L h m) (e : ∀ y, m y = m' y) : Fr h₀ L h m' := by
  have : m = m' := funext e
  subst this
  exact F
theorem news_sub {h₀ h : Heap} {L : Addr} {news news' : List (Addr × Obj)} (N : News h₀ L h news) (hs : ∀ p ∈ news', p ∈ news) : News h₀ L h news' := fun p hp => N p (hs p hp)
theorem fr_changeB {h₀ h h' : Heap} {L d : Addr} {m : Str → Option Value} (F : Fr h₀ L h m) (hs : Heap.ExtBut d h h') (hL : d ≠ L) (hn : h₀.get? d = none) : Fr h₀ L h' m := by
  obtain ⟨oL, a1, a2, hoL, a3⟩ := F.ns
  refine ⟨⟨oL, a1, a2, hs L _ hL.symm hoL, a3⟩, fun b x e => hs b _ ?_ (F.keep b x e), F.above⟩
  rintro rfl
  rw [hn] at e
  cases e
section
variable {prog : Program} {w : World} {A : Around} {h₀ : Heap} {L : Addr} {it : Addr} {n : Nat} {val : Nat → Tok → Value} {ob : Nat → Obj → Prop} {P : List (Addr × Obj) → Prop}
structure Iter (prog : Program) (w : World) (A : Around) (h₀ : Heap) (L it : Addr) (n : Nat) (val : Nat → Tok → Value) (ob : Nat → Obj → Prop) (P : List (Addr × Obj) → Prop) : Prop where
  next : ∀ {E : Value → Shared → Prop} (i : Nat) (s : Shared) (m : Str → Option Value) (news : List (Addr × Obj)) (o : Obj) (Q : Option Value → Shared → Prop), i < n → Fr h₀ L s.heap m → ob i o → News h₀ L s.heap ((it, o) :: news) → (∀ p ∈ news, p.1 ≠ it) → P news →
    (∀ u h' tk' o', Fr h₀ L h' m → ob (i + 1) o' → News h₀ L h' ((it, o') :: news) → Q (some (val i u)) { s with heap := h', toks := tk' }) → wpAny (model prog w) A (pyNext (.ref it)) Q E s
  stop : ∀ {E : Value → Shared → Prop} (s : Shared) (m : Str → Option Value) (news : List (Addr × Obj)) (o : Obj) (Q : Option Value → Shared → Prop), Fr h₀ L s.heap m → ob n o → News h₀ L s.heap ((it, o) :: news) → (∀ p ∈ news, p.1 ≠ it) → P news →
    (∀ h' tk', Fr h₀ L h' m → News h₀ L h' news → Q none { s with heap := h', toks := tk' }) → wpAny (model prog w) A (pyNext (.ref it)) Q E s
noncomputable def TurnEnd (h₀ : Heap) (L it : Addr) (oi : Obj) (J : (Str → Option Value) → List (Addr × Obj) → Array GenState → Drawn → OsState → Prop) (s : Shared) : Prop :=
  ∃ m' news', Fr h₀ L s.heap m' ∧ News h₀ L s.heap ((it, oi) :: news') ∧ (∀ p ∈ news', p.1 ≠ it) ∧ J m' news' s.gens s.drawn s.os
theorem codeAny_forLoopT {R : Result → Shared → Prop} {target : Expr} {it : Value} {body orelse : List Stmt} {env : Env} {s : Shared} (I : Nat → Shared → Prop)
    (turn : ∀ n s, I n s → wpAny (model prog w) A (pyNext it) (fun r s₁ => match r with
      | none => wpAny (model prog w) A (execs orelse env) (fun f s₃ => R (.ok f) s₃) (notedBy (model prog w) A env fun e s' => R (.error e) s') s₁
      | some v => wpAny (model prog w) A (letOwnedTupleGo target it v) (fun _ s₁ => wpAny (model prog w) A (assign target env v) (fun _ s₂ => wpAny (model prog w) A (execs body env) (fun f s₃ => match f with
          | .next | .cont => ∃ m, m < n ∧ I m s₃
          | .brk => R (.ok .next) s₃
          | .ret v => R (.ok (.ret v)) s₃) (notedBy (model prog w) A env fun e s' => R (.error e) s') s₂) (notedBy (model prog w) A env fun e s' => R (.error e) s') s₁) (notedBy (model prog w) A env fun e s' => R (.error e) s') s₁) (notedBy (model prog w) A env fun e s' => R (.error e) s') s)
    (n : Nat) (h : I n s) : codeAny (model prog w) A (.forLoop target it body orelse env) R s := by
  refine codeAny_loop' rfl I (fun n s hI => ?_) n h
  show wpAny _ _ ((forTurn target it body orelse env).onRaise (fun x => do noteFrame x env; theTreesLotGoes x)) _ _ s
  refine wpAny_noted ?_
  simp only [forTurn]
  refine wpAny_bind (wpAny_standAt (wpAny_bind (wpAny_onRaise (wpAny_mono (turn n s hI) (fun r s₁ h₁ => ?_) fun _ _ h' => wpAny_standAt h'))))
  cases r with
  | none => exact wpAny_pure (.inr ⟨rfl, codeAny_block h₁⟩)
  | some v =>
    refine wpAny_bind (wpAny_mono h₁ (fun _ s₁ h₁ => ?_) fun _ _ h' => h')
    refine wpAny_bind (wpAny_mono h₁ (fun _ s₂ h₂ => wpAny_bind (wpAny_mono h₂ (fun f s₃ h₃ => ?_) fun _ _ h' => h')) fun _ _ h' => h')
    cases f with
    | next => exact wpAny_pure (.inl ⟨rfl, h₃⟩)
    | cont => exact wpAny_pure (.inl ⟨rfl, h₃⟩)
    | brk => exact wpAny_pure h₃
    | ret v => exact wpAny_pure h₃
theorem owned_list {target : Expr} {v : Value} {o : Obj} {l : Addr} {i : Nat} {Q : Unit → Shared → Prop} {E : Value → Shared → Prop} {s : Shared} (ho : s.heap.get? it = some o) (hc : o.cls = .type "list_iterator") (hd : o.data = .fields #[.ref l, .int i 0]) (h : Q () s) :
    wpAny (model prog w) A (letOwnedTupleGo target (.ref it) v) Q E s := by
  unfold letOwnedTupleGo
  have key : wpAny (model prog w) A (do
      let (.ref r, .ref a) := (Value.ref it, v) | return
      let o ← load r
      match o.cls, o.data with
      | .type n, .fields vs =>
        if ["enumerate", "zip", "dict_itemiterator", "dict_reverseitemiterator", "odict_iterator", "itertools.zip_longest", "itertools.pairwise"].contains n && vs[0]? == some (rawInt a) then
          rule "for.unpacks-the-owned-tuple"
          updateField r 0 .none
      | _, _ => pure ()) Q E s := by
    cases v with
    | ref a =>
      refine wpAny_bind (wpAny_load ho ?_)
      rw [hc, hd]
      exact wpAny_pure h
    | _ => exact wpAny_pure h
  split
  · exact key
  · exact key
  · exact wpAny_pure h
theorem for_iterT {target : Expr} {body : List Stmt} {env : Env} {R : Result → Shared → Prop} {s : Shared} (hI : Iter prog w A h₀ L it n val ob P)
    (J : Nat → (Str → Option Value) → List (Addr × Obj) → Array GenState → Drawn → OsState → Prop) {m₀ : Str → Option Value} {news₀ : List (Addr × Obj)}
    {o₀ : Obj} (F₀ : Fr h₀ L s.heap m₀) (O₀ : ob 0 o₀) (N₀ : News h₀ L s.heap ((it, o₀) :: news₀)) (D₀ : ∀ p ∈ news₀, p.1 ≠ it) (hP : ∀ i m news g d o, J i m news g d o → P news) (start : J 0 m₀ news₀ s.gens s.drawn s.os)
    (done : ∀ h g d tk o m news, J n m news g d o → Fr h₀ L h m → News h₀ L h news → R (.ok .next) ⟨h, g, d, tk, o⟩)
    (turn : ∀ i u h g d tk o m news oi, i < n → J i m news g d o → Fr h₀ L h m → News h₀ L h ((it, oi) :: news) → (∀ p ∈ news, p.1 ≠ it) →
      wpAny (model prog w) A (assign target env (val i u)) (fun _ s₂ => wpAny (model prog w) A (execs body env) (fun f s₃ => match f with
          | .next | .cont => TurnEnd h₀ L it oi (J (i + 1)) s₃
          | .brk => False
          | .ret v => R (.ok (.ret v)) s₃) (notedBy (model prog w) A env fun e s' => R (.error e) s') s₂) (notedBy (model prog w) A env fun e s' => R (.error e) s') ⟨h, g, d, tk, o⟩)
    (ht : ∀ (v : Value) (i : Nat) (oi : Obj) (s : Shared) (Q : Unit → Shared → Prop) (E : Value → Shared → Prop), ob i oi → s.heap.get? it = some oi → Q () s → wpAny (model prog w) A (letOwnedTupleGo target (.ref it) v) Q E s) : codeAny (model prog w) A (.forLoop target (.ref it) body [] env) R s := by
  refine codeAny_forLoopT (fun k s => ∃ i m news, k = n - i ∧ i ≤ n ∧ Fr h₀ L s.heap m ∧ (∃ oi, ob i oi ∧ News h₀ L s.heap ((it, oi) :: news)) ∧ (∀ p ∈ news, p.1 ≠ it) ∧ J i m news s.gens s.drawn s.os) ?_ n ⟨0, m₀, news₀, by omega, Nat.zero_le _, F₀, ⟨_, O₀, N₀⟩, D₀, start⟩
  rintro k s ⟨i, m, news, hk, hle, F, ⟨oi, O, N⟩, D, hJ⟩
  by_cases hi : i < n
  · refine hI.next i s m news oi _ hi F O N D (hP _ _ _ _ _ _ hJ) fun u h' tk' oi' F' O' N' => ?_
    refine ht _ _ _ _ _ _ O' (N' _ (.head _)).1 ?_
    refine wpAny_mono (turn i u h' s.gens s.drawn tk' s.os m news oi' hi hJ F' N' D) (fun _ s₂ h₂ => wpAny_mono h₂ (fun f s₃ h₃ => ?_) fun _ _ x => x) fun _ _ x => x
    cases f with
    | next => obtain ⟨m', news', a, b, c, d⟩ := h₃; exact ⟨n - (i + 1), by omega, i + 1, m', news', rfl, hi, a, ⟨_, O', b⟩, c, d⟩
    | cont => obtain ⟨m', news', a, b, c, d⟩ := h₃; exact ⟨n - (i + 1), by omega, i + 1, m', news', rfl, hi, a, ⟨_, O', b⟩, c, d⟩
    | brk => exact h₃.elim
    | ret v => exact h₃
  · have : i = n := by omega
    subst this
    refine hI.stop s m news oi _ F O N D (hP _ _ _ _ _ _ hJ) fun h' tk' F' N' => ?_
    exact wpAny_execs_nil (done h' s.gens s.drawn tk' s.os m news hJ F' N')
theorem for_iter {target : Expr} {body : List Stmt} {env : Env} {R : Result → Shared → Prop} {s : Shared} (hI : Iter prog w A h₀ L it n val ob P)
    (J : Nat → (Str → Option Value) → List (Addr × Obj) → Array GenState → Drawn → OsState → Prop) {m₀ : Str → Option Value} {news₀ : List (Addr × Obj)}
    {o₀ : Obj} (F₀ : Fr h₀ L s.heap m₀) (O₀ : ob 0 o₀) (N₀ : News h₀ L s.heap ((it, o₀) :: news₀)) (D₀ : ∀ p ∈ news₀, p.1 ≠ it) (hP : ∀ i m news g d o, J i m news g d o → P news) (start : J 0 m₀ news₀ s.gens s.drawn s.os)
    (done : ∀ h g d tk o m news, J n m news g d o → Fr h₀ L h m → News h₀ L h news → R (.ok .next) ⟨h, g, d, tk, o⟩)
    (turn : ∀ i u h g d tk o m news oi, i < n → J i m news g d o → Fr h₀ L h m → News h₀ L h ((it, oi) :: news) → (∀ p ∈ news, p.1 ≠ it) →
      wpAny (model prog w) A (assign target env (val i u)) (fun _ s₂ => wpAny (model prog w) A (execs body env) (fun f s₃ => match f with
          | .next | .cont => TurnEnd h₀ L it oi (J (i + 1)) s₃
          | .brk => False
          | .ret v => R (.ok (.ret v)) s₃) (notedBy (model prog w) A env fun e s' => R (.error e) s') s₂) (notedBy (model prog w) A env fun e s' => R (.error e) s') ⟨h, g, d, tk, o⟩)
    (ht : ∀ v, letOwnedTupleGo target (.ref it) v = pure () := by intro _; rfl) : codeAny (model prog w) A (.forLoop target (.ref it) body [] env) R s :=
  for_iterT hI J F₀ O₀ N₀ D₀ hP start done turn fun v _ _ _ _ _ _ _ hq => by rw [ht v]; exact wpAny_pure hq
theorem forC_iter {target : Expr} {body : List Stmt} {env : Env} {R : Result → Shared → Prop} {s : Shared} (hI : Iter prog w A h₀ L it n val ob P)
    (J : Nat → (Str → Option Value) → List (Addr × Obj) → Array GenState → Drawn → OsState → Prop) {m₀ : Str → Option Value} {news₀ : List (Addr × Obj)}
    {o₀ : Obj} (F₀ : Fr h₀ L s.heap m₀) (O₀ : ob 0 o₀) (N₀ : News h₀ L s.heap ((it, o₀) :: news₀)) (D₀ : ∀ p ∈ news₀, p.1 ≠ it) (hP : ∀ i m news g d o, J i m news g d o → P news) (start : J 0 m₀ news₀ s.gens s.drawn s.os)
    (done : ∀ h g d tk o m news, J n m news g d o → Fr h₀ L h m → News h₀ L h news → R (.ok .next) ⟨h, g, d, tk, o⟩)
    (turn : ∀ i u h g d tk o m news oi, i < n → J i m news g d o → Fr h₀ L h m → News h₀ L h ((it, oi) :: news) → (∀ p ∈ news, p.1 ≠ it) →
      wpAny (model prog w) A (assign target env (val i u)) (fun _ s₂ => wpC (model prog w) A (execs body env) (fun f s₃ => match f with
          | .next | .cont => TurnEnd h₀ L it oi (J (i + 1)) s₃
          | .brk => False
          | .ret v => R (.ok (.ret v)) s₃) (notedBy (model prog w) A env fun e s' => R (.error e) s') s₂) (notedBy (model prog w) A env fun e s' => R (.error e) s') ⟨h, g, d, tk, o⟩)
    (ht : ∀ v, letOwnedTupleGo target (.ref it) v = pure () := by intro _; rfl) : codeC (model prog w) A (.forLoop target (.ref it) body [] env) R s := by
  refine codeC_forLoop (fun k s => ∃ i m news, k = n - i ∧ i ≤ n ∧ Fr h₀ L s.heap m ∧ (∃ oi, ob i oi ∧ News h₀ L s.heap ((it, oi) :: news)) ∧ (∀ p ∈ news, p.1 ≠ it) ∧ J i m news s.gens s.drawn s.os) ?_ n ⟨0, m₀, news₀, by omega, Nat.zero_le _, F₀, ⟨_, O₀, N₀⟩, D₀, start⟩ ht
  rintro k s ⟨i, m, news, hk, hle, F, ⟨oi, O, N⟩, D, hJ⟩
  by_cases hi : i < n
  · refine hI.next i s m news oi _ hi F O N D (hP _ _ _ _ _ _ hJ) fun u h' tk' oi' F' O' N' => ?_
    refine wpAny_mono (turn i u h' s.gens s.drawn tk' s.os m news oi' hi hJ F' N' D) (fun _ s₂ h₂ => wpC_mono h₂ (fun f s₃ h₃ => ?_) fun _ _ x => x) fun _ _ x => x
    cases f with
    | next => obtain ⟨m', news', a, b, c, d⟩ := h₃; exact ⟨n - (i + 1), by omega, i + 1, m', news', rfl, hi, a, ⟨_, O', b⟩, c, d⟩
    | cont => obtain ⟨m', news', a, b, c, d⟩ := h₃; exact ⟨n - (i + 1), by omega, i + 1, m', news', rfl, hi, a, ⟨_, O', b⟩, c, d⟩
    | brk => exact h₃.elim
    | ret v => exact h₃
  · have : i = n := by omega
    subst this
    refine hI.stop s m news oi _ F O N D (hP _ _ _ _ _ _ hJ) fun h' tk' F' N' => ?_
    exact wpC_any (wpAny_execs_nil (done h' s.gens s.drawn tk' s.os m news hJ F' N'))
end
section
variable {prog : Program} {w : World} {A : Around} {E : Value → Shared → Prop} {s : Shared} {h₀ : Heap} {L : Addr} {m : Str → Option Value} {news : List (Addr × Obj)}
noncomputable abbrev rIt (a c : Int) (n i : Nat) : Obj := { cls := .type "range_iterator", dict := none, data := .fields #[rawInt (a + (i : Int) * c), rawInt ((n : Int) - (i : Int)), rawInt c], slots := #[] }
theorem iter_range {it : Addr} {a c : Int} {n : Nat} (hh : A.handled = none) : Iter prog w A h₀ L it n (fun i u => .int (a + (i : Int) * c) u) (fun i o => o = rIt a c n i) (fun _ => True) := by
  constructor
  · rintro E i s m news _ Q hi F rfl N D _ h
    have z := N _ (.head _)
    have z1 : IsRangeIter s.heap it (a + (i : Int) * c) ((n : Int) - (i : Int)) c := z.1
    refine wpAny_pyNext_range_item z1 (by omega) fun h' hit sb => h _ h' _ _ (F.change sb z.2.1 z.2.2) rfl ?_
    have e1 : a + (i : Int) * c + c = a + ((i + 1 : Nat) : Int) * c := by rw [Int.natCast_add, Int.add_mul, Int.add_assoc]; simp
    have e2 : (n : Int) - (i : Int) - 1 = (n : Int) - ((i + 1 : Nat) : Int) := by omega
    rw [e1, e2] at hit
    have N2 := news_set (pre := []) (post := news) (o := rIt a c n i) N (fun _ h => nomatch h) (fun p hp => D p hp) sb (o' := rIt a c n (i + 1)) hit
    exact N2
  · rintro E s m news _ Q F rfl N D _ h
    have z := N _ (.head _)
    have z1 : IsRangeIter s.heap it (a + (n : Int) * c) ((n : Int) - (n : Int)) c := z.1
    refine wpAny_pyNext_range_end hh z1 (by omega) fun h' sb => h h' _ ?_ fun p hp => ?_
    · exact fr_changeB F sb z.2.1 z.2.2
    · have zp := N p (.tail _ hp)
      exact ⟨sb _ _ (D p hp) zp.1, zp.2⟩
noncomputable abbrev lIt (l : Addr) (i : Nat) : Obj := { cls := .type "list_iterator", dict := none, data := .fields #[.ref l, .int i 0], slots := #[] }
noncomputable def HasList (l : Addr) (items : Array Value) (news : List (Addr × Obj)) : Prop := ∃ o k, (l, o) ∈ news ∧ o.cls = .type "list" ∧ o.data = .seq items k
theorem HasList.isList {l : Addr} {items : Array Value} {h : Heap} (H : HasList l items news) (N : News h₀ L h news) : h.IsList l items := by
  obtain ⟨o, k, hm, hc, hd⟩ := H
  exact ⟨o, (N _ hm).1, hc, k, hd⟩
theorem iter_list {it l : Addr} {items : Array Value} (hh : A.handled = none) : Iter prog w A h₀ L it items.size (fun i _ => items.getD i .none) (fun i o => o.cls = .type "list_iterator" ∧ o.data = .fields #[.ref l, .int i 0]) (HasList l items) := by
  constructor
  · rintro E i s m news oi Q hi F ⟨hc0, hd0⟩ N D P h
    have z := N _ (.head _)
    have z1 : s.heap.IsListIter it l i := ⟨_, z.1, hc0, hd0⟩
    have z2 := P.isList (news_sub N fun p hp => .tail _ hp)
    refine wpAny_pyNext_list_item (x := items.getD i .none) z1 z2 (by simp [Array.getD, hi]) fun h' hit sb => ?_
    obtain ⟨o, ho, hc, hd⟩ := hit
    have N2 := news_set (pre := []) (post := news) (o := oi) N (fun _ h => nomatch h) (fun p hp => D p hp) sb (o' := o) ho
    exact h 0 h' _ o (F.change sb z.2.1 z.2.2) ⟨hc, hd⟩ N2
  · rintro E s m news oi Q F ⟨hc0, hd0⟩ N D P h
    have z := N _ (.head _)
    have z1 : s.heap.IsListIter it l items.size := ⟨_, z.1, hc0, hd0⟩
    have z2 := P.isList (news_sub N fun p hp => .tail _ hp)
    refine wpAny_pyNext_list_end hh z1 z2 (by simp) fun h' sb => h h' _ ?_ fun p hp => ?_
    · exact fr_changeB F sb z.2.1 z.2.2
    · have zp := N p (.tail _ hp)
      exact ⟨sb _ _ (D p hp) zp.1, zp.2⟩
theorem range_start {r : Addr} {a b c : Int} {t u v : Tok} {n : Nat} {Q : Value → Shared → Prop} (hr : IsRange s.heap r a b c t u v) (hsmall : Builtin.Range.small a b c = true) (hn : Builtin.Range.rangeSize a b c = (n : Int))
    (F : Fr h₀ L s.heap m) (N : News h₀ L s.heap news)
    (h : ∀ it h', Fr h₀ L h' m → News h₀ L h' ((it, rIt a c n 0) :: news) → (∀ p ∈ news, p.1 < it) → Q (.ref it) { s with heap := h' }) : wpAny (model prog w) A (pyIter (.ref r)) Q E s := by
  refine wpAny_pyIter_range hr hsmall ?_
  rw [hn]
  have e : rIt a c n 0 = { cls := .type "range_iterator", dict := none, data := .fields #[rawInt a, rawInt n, rawInt c], slots := #[] } := by simp [rIt]
  rw [e] at h
  obtain ⟨F', N', l⟩ := ks_newsPush (o := { cls := .type "range_iterator", dict := none, data := .fields #[rawInt a, rawInt n, rawInt c], slots := #[] }) F N rfl (Heap.get?_push_size _ rfl) (fun b o e => Heap.get?_push_of_some _ e)
  exact h _ _ F' N' l
theorem list_start {l : Addr} {items : Array Value} {Q : Value → Shared → Prop} (H : HasList l items news)
    (F : Fr h₀ L s.heap m) (N : News h₀ L s.heap news)
    (h : ∀ it h' o, Fr h₀ L h' m → (o.cls = .type "list_iterator" ∧ o.data = .fields #[.ref l, .int 0 0]) → News h₀ L h' ((it, o) :: news) → (∀ p ∈ news, p.1 < it) → Q (.ref it) { s with heap := h' }) : wpAny (model prog w) A (pyIter (.ref l)) Q E s := by
  refine wpAny_pyIter_list (H.isList N) ?_
  obtain ⟨F', N', l⟩ := ks_newsPush (o := { cls := .type "list_iterator", data := .fields #[.ref l, .int 0 0] }) F N rfl (Heap.get?_push_size _ rfl) (fun b o e => Heap.get?_push_of_some _ e)
  exact h _ _ _ F' ⟨rfl, rfl⟩ N' l
theorem range_small {a b c : Int} {n : Nat} (ha : -1000000 ≤ a) (ha' : a ≤ 1000000) (hb : -1000000 ≤ b) (hb' : b ≤ 1000000) (hc : -1000000 ≤ c) (hc' : c ≤ 1000000) (hn : Builtin.Range.rangeSize a b c = (n : Int)) (hn' : n ≤ 1000000) : Builtin.Range.small a b c = true := by
  have fits : ∀ x : Int, -4000000 ≤ x → x ≤ 4000000 → Builtin.Range.rangeFitsLong x = true := fun x h1 h2 => by
    unfold Builtin.Range.rangeFitsLong
    simp only [Bool.and_eq_true, decide_eq_true_eq]
    omega
  unfold Builtin.Range.small
  rw [hn, fits a (by omega) (by omega), fits b (by omega) (by omega), fits c (by omega) (by omega), fits n (by omega) (by omega)]
  simp only [Bool.true_and, Bool.or_eq_true]
  right
  split
  · exact fits _ (by omega) (by omega)
  · exact fits _ (by omega) (by omega)
theorem rsize_up {a n c : Int} {k : Nat} (hc : 0 < c) (e : n - a = (k : Int) * c) : Builtin.Range.rangeSize a n c = (k : Int) := by
  unfold Builtin.Range.rangeSize
  by_cases hk : k = 0
  · subst hk
    have : ¬ a < n := by simp at e; omega
    simp [hc, this]
  · have hk1 : (1 : Int) ≤ k := by omega
    have h1 : 0 < (k : Int) * c := Int.mul_pos (by omega) hc
    have : a < n := by omega
    rw [if_pos hc, if_pos this, e]
    have := ((Int.ediv_emod_unique (a := (k : Int) * c - 1) (b := c) (r := c - 1) (q := (k : Int) - 1) hc).mpr ⟨by rw [Int.mul_sub, Int.mul_comm c k]; omega, by omega, by omega⟩).1
    rw [this]; omega
end
noncomputable def StopFor (P : Prop) : Prop := P
theorem StopFor.out {P : Prop} (h : StopFor P) : P := h
theorem StopFor.go {P : Prop} (h : P) : StopFor P := h
local macro_rules | `(tactic| walk_at "exec For Name Call cons nil") => `(tactic| apply StopFor.out)
local macro_rules | `(tactic| walk_at "exec For Name Name cons nil") => `(tactic| apply StopFor.out)
local macro_rules | `(tactic| walk_at "exec For Tuple Name cons nil") => `(tactic| apply StopFor.out)

noncomputable abbrev CClaim (w : World) (mean : ExcName → Option Value) (mg mb : Str → Option Value) (f : Addr) (vs : List Value) (pre : Prop) (p : Program) (ls : List PySem.Str) (news : List (Addr × Obj)) (post : Heap → Addr → Heap → (Str → Option Value) → Shared → (Value → Shared → Prop) → Prop) : Prop :=
  ∀ (dp un : Nat) (gd : Option (List Code)) (cn : Str) (cs : Scope) (a : Addr) (ccd : Value) (cl : List (Str × Addr)) (outer : List Env) (A₀ : Around) (base h₀ : Heap) (L : Addr) (m : Str → Option Value) (s : Shared) (Q E : Value → Shared → Prop),
    Below A₀ base outer h₀ → Fr h₀ L s.heap m → (hd.heap_39 w.params).In h₀ → News h₀ L s.heap news → Top p ls mean mg mb h₀ → cs.kind = .function →
    pre → dp + 10 < recursionLimit → un + 80 < cLine → post h₀ L s.heap m s Q →
      wpC (model PySem.Challenge.rw_xp0004_01.row.prog w) (ktrTop dp un gd cn cs L a ccd cl outer) (call (.ref f) vs) Q E s
noncomputable def bswAt (d : List UInt8) (wd k : Nat) : UInt8 := d.getD ((k / wd) * wd + (wd - 1 - k % wd)) 0
noncomputable def bswF (d : List UInt8) (wd : Nat) : List UInt8 := (List.range d.length).map (bswAt d wd)
noncomputable def BInv (d : List UInt8) (wd i j : Nat) (b : Array UInt8) : Prop := b.size = d.length ∧ ∀ k, k < d.length → (k < i * wd ∨ (i * wd + wd - j ≤ k ∧ k < i * wd + wd)) → b[k]? = some (bswAt d wd k)
theorem BInv.start {d : List UInt8} {wd : Nat} : BInv d wd 0 0 (Array.replicate d.length 0) := ⟨by simp, fun k _ h => h.elim (fun q => by rw [Nat.zero_mul] at q; exact absurd q (Nat.not_lt_zero _)) fun ⟨a, b⟩ => absurd b (Nat.not_lt.mpr a)⟩
theorem BInv.next {d : List UInt8} {wd i : Nat} {b : Array UInt8} (h : BInv d wd i wd b) : BInv d wd (i + 1) 0 b := ⟨h.1, fun k hk hh => h.2 k hk (hh.elim (fun q => (Nat.lt_or_ge k (i * wd)).imp id fun g => ⟨by rw [Nat.add_sub_cancel]; exact g, by rw [← Nat.succ_mul]; exact q⟩) fun ⟨a, b⟩ => absurd b (Nat.not_lt.mpr a))⟩
theorem BInv.step {d : List UInt8} {wd i j : Nat} {b : Array UInt8} {v : UInt8} (h : BInv d wd i j b) (hj : j < wd) (hi : i * wd + wd ≤ d.length) (hv : v = d.getD (i * wd + j) 0) : BInv d wd i (j + 1) (b.setIfInBounds (i * wd + wd - 1 - j) v) := by
  refine ⟨by rw [Array.size_setIfInBounds]; exact h.1, fun k hk hh => ?_⟩
  rw [Array.getElem?_setIfInBounds]
  by_cases e : i * wd + wd - 1 - j = k
  · rw [if_pos e, if_pos (by rw [h.1, e]; exact hk)]
    subst e
    congr 1
    rw [hv]
    unfold bswAt
    have h1 : 1 + j ≤ wd := by rw [Nat.add_comm]; exact hj
    have e0 : i * wd + wd - 1 - j = (wd - 1 - j) + i * wd := by rw [Nat.sub_sub, Nat.sub_sub, Nat.add_sub_assoc h1, Nat.add_comm]
    have h2 : wd - 1 - j < wd := by rw [Nat.sub_sub]; exact Nat.sub_lt (Nat.zero_lt_of_lt hj) (Nat.lt_of_lt_of_le Nat.zero_lt_one (Nat.le_add_right _ _))
    have e1 : (i * wd + wd - 1 - j) / wd = i := by rw [e0, Nat.add_mul_div_right _ _ (Nat.zero_lt_of_lt hj), Nat.div_eq_of_lt h2, Nat.zero_add]
    have e2 : (i * wd + wd - 1 - j) % wd = wd - 1 - j := by rw [e0, Nat.add_mul_mod_self_right, Nat.mod_eq_of_lt h2]
    rw [e1, e2]
    congr 1
    rw [Nat.sub_sub_self (Nat.le_sub_one_of_lt hj)]
  · rw [if_neg e]
    have e' : i * wd + wd - (j + 1) ≠ k := by rw [Nat.add_comm j 1, ← Nat.sub_sub]; exact e
    exact h.2 k hk (hh.imp id fun ⟨a, b⟩ => ⟨Nat.le_of_pred_lt (Nat.lt_of_le_of_ne a e'), b⟩)
theorem BInv.done {d : List UInt8} {wd q : Nat} {b : Array UInt8} (h : BInv d wd q 0 b) (hq : q * wd = d.length) : b = (bswF d wd).toArray := by
  apply Array.ext_getElem?
  intro k
  by_cases hk : k < d.length
  · rw [h.2 k hk (by omega)]
    simp [bswF, hk]
  · rw [Array.getElem?_eq_none (by rw [h.1]; omega)]
    simp [bswF, hk]
@[reducible] noncomputable def bsMap (d : List UInt8) (wd : Nat) (t u : Tok) (x : Addr) (oj oi : Option Value) : Str → Option Value := fun y => if y = Str.ofString "j" then oj else if y = Str.ofString "i" then oi else if y = Str.ofString "swapped_data" then some (.ref x) else List.lookup y [(Str.ofString "data", .bytes d.toArray t), (Str.ofString "width", .int (wd : Int) u)].reverse
set_option maxHeartbeats 4000000 in
theorem bsw_spec (w : World) (mean : ExcName → Option Value) (mg mb : Str → Option Value) (p : Program) (ls : List PySem.Str) (rest : List (Addr × Obj)) (d : List UInt8) (wd q : Nat) (t u : Tok) :
  CClaim w mean mg mb 133 [.bytes d.toArray t, .int (wd : Int) u] (d.length ≤ 1000 ∧ 1 ≤ wd ∧ 1 ≤ q ∧ q * wd = d.length) p ls rest
    (fun h₀ L h m s Q => ∀ tk h' tk', Fr h₀ L h' m → News h₀ L h' rest → Q (.bytes (bswF d wd).toArray tk) { s with heap := h', toks := tk' }) := by
  dsimp only [CClaim]
  w_top off
  k_fill
  intro dp un gd cn cs a ccd cl outer A₀ base h₀ L m s Q E B F X N T hcs hpre hdp hun hret
  obtain ⟨hp1, hp2, hpq, hp3⟩ := hpre
  have hwd : wd ≤ 1000 := by have := Nat.le_mul_of_pos_left wd hpq; omega
  have hwI : (1 : Int) ≤ wd := by omega
  have hwI2 : (wd : Int) ≤ 1000 := by omega
  have hqq : q ≤ 1000 := by have := Nat.le_mul_of_pos_right q hp2; omega
  refine wpC_call ?_
  refine' codeC_def (binds := [(Str.ofString "data", .bytes d.toArray t), (Str.ofString "width", .int (wd : Int) u)]) ?k1 ?k2 ?k3 ?k4 ?k5 ?kA ?kF ?kK ?k6 ?k7 ?k8 ?k9 ?kB ?_ ?c1 ?c2 ?c3 ?c4
  case kA => exact rfl
  case kF => exact rfl
  case kK => assumption
  case k1 => k_asm
  case k2 => k_asm
  case k3 => k_asm
  case k4 => k_asm
  case k5 => k_asm
  case k6 => k_is
  case k7 => k_is
  case k8 => ktr_room
  case k9 => exact BindsTo.of_eq rfl
  case kB => exact locs rfl
  case c4 => decide
  case c1 => exact rfl
  case c2 => exact rfl
  case c3 => exact rfl
  k_whole
  intro g' L' h' FG' F' N' B' X' T' l1
  refine wpC_execs_cons (wpC_Assign_Name (wpC_Call_Name ?_))
  k_steps
  refine callWithC_of (P := fun _ => True) rfl (fun h _ => ⟨.machine, .inr (.inl rfl), Looks.of_pure rfl⟩) (wpC_any (evalArgs_plain (x := eval _ _) (rest := []) (spliced_cons ?_)))
  k_steps
  refine spliced_nil ⟨trivial, Ba.nw_make (by k_asm) (by k_asm) hp1 fun x h₁ F₁ N₁ l₂ => ?_⟩
  have hx3 : ∀ p ∈ rest, p.1 ≠ x := fun p hp => Nat.ne_of_lt (l₂ p hp)
  replace l₂ := allLt_of l₂
  k_steps
  refine wpC_any (wpAny_execs_cons (wpAny_For ?_))
  k_steps
  rename_i F₂ N₂ h₂ tk₂ t₁ u₁ v₁ hR _ _ _
  have hwq : (wd : Int) * q ≤ 1000 := by have : q * wd ≤ 1000 := by omega
                                         rw [← Int.natCast_mul, Nat.mul_comm]; omega
  have hsz : d.toArray.size = d.length := rfl
  refine range_start hR (range_small (by omega) (by omega) (by omega) (by omega) (by omega) (by omega) (rsize_up (k := q) (by omega) (by rw [hsz, ← hp3]; simp)) (by omega)) (rsize_up (k := q) (by omega) (by rw [hsz, ← hp3]; simp)) (by assumption) (by assumption) fun it h₃ F₃ N₃ l₃ => ?_
  refine for_iter (m₀ := bsMap d wd t u x none none) (iter_range rfl) (fun i m news g dd o => g = s.gens ∧ dd = s.drawn ∧ o = s.os ∧ ∃ b oi oj, BInv d wd i 0 b ∧ news = (x, Ba.obj b) :: rest ∧ m = bsMap d wd t u x oj oi)
    (fr_congr F₃ ?_) rfl N₃ (fun p hp => Nat.ne_of_lt (l₃ p hp)) (fun _ _ _ _ _ _ _ => trivial) ?_ ?_ ?_
  · intro y
    unfold bsMap
    by_cases e1 : y = Str.ofString "j"
    · subst e1; rfl
    · by_cases e2 : y = Str.ofString "i"
      · subst e2; rfl
      · rw [if_neg e1, if_neg e2]
  · exact ⟨rfl, rfl, rfl, _, none, none, BInv.start, rfl, rfl⟩
  · rintro h₄ g₄ d₄ tk₄ o₄ m₄ news₄ ⟨rfl, rfl, rfl, b, oi, oj, hB, rfl, rfl⟩ F₄ N₄
    delta bsMap at F₄; (try dsimp only at F₄)
    k_steps
    refine Ba.nw_bytes (by k_asm) (.head _) (by rw [hB.1]; exact hp1) fun t₅ k₅ => ?_
    k_steps
    rw [hB.done hp3]
    exact hret _ _ _ (by k_asm) (cb_drop (by assumption) (by kcj_all))
  · rintro i u₅ h₄ g₄ d₄ tk₄ o₄ m₄ news₄ oi₄ hi ⟨rfl, rfl, rfl, b, oi, oj, hB, rfl, rfl⟩ F₄ N₄ D₄
    delta bsMap at F₄; (try dsimp only at F₄)
    have hit : it ≠ x := fun e => D₄ _ (.head _) e.symm
    have hitr : ∀ p ∈ rest, p.1 ≠ it := fun p hp => D₄ p (.tail _ hp)
    have hitx : ∀ {b' : Array UInt8}, ∀ p ∈ (x, Ba.obj b') :: rest, p.1 ≠ it := fun p hp => by
      rcases List.mem_cons.mp hp with rfl | hp
      · exact hit.symm
      · exact hitr p hp
    have hiq : i * wd + wd ≤ d.length := by
      have : (i + 1) * wd ≤ q * wd := Nat.mul_le_mul_right _ hi
      rw [Nat.add_mul] at this; omega
    have hiw : ((i : Int) * (wd : Int)) = ((i * wd : Nat) : Int) := by rw [Int.natCast_mul]
    k_steps
    refine StopFor.go (wpAny_For ?_)
    k_steps
    rename_i hR₂ _ _ _
    refine range_start hR₂ (range_small (by omega) (by omega) (by omega) (by omega) (by omega) (by omega) (rsize_up (k := wd) (by omega) (by omega)) (by omega)) (rsize_up (k := wd) (by omega) (by omega)) (by assumption) (by assumption) fun it₂ h₅ F₅ N₅ l₅ => ?_
    have hj0 : ∀ p ∈ (it, oi₄) :: (x, Ba.obj b) :: rest, p.1 ≠ it₂ := fun p hp => Nat.ne_of_lt (l₅ p hp)
    refine for_iter (m₀ := bsMap d wd t u x oj (some (.int (0 + (i : Int) * (wd : Int)) u₅))) (iter_range rfl) (fun j m news g dd o => g = s.gens ∧ dd = s.drawn ∧ o = s.os ∧ ∃ b oj, BInv d wd i j b ∧ news = (it, oi₄) :: (x, Ba.obj b) :: rest ∧ m = bsMap d wd t u x oj (some (.int (0 + (i : Int) * (wd : Int)) u₅)))
      (fr_congr F₅ ?_) rfl N₅ hj0 (fun _ _ _ _ _ _ _ => trivial) ?_ ?_ ?_
    · intro y
      unfold bsMap
      by_cases e1 : y = Str.ofString "j"
      · subst e1; rfl
      · by_cases e2 : y = Str.ofString "i"
        · subst e2; rfl
        · rw [if_neg e1, if_neg e2, if_neg e2, if_neg e1, if_neg e2]
    · exact ⟨rfl, rfl, rfl, _, oj, hB, rfl, rfl⟩
    · rintro h₆ g₆ d₆ tk₆ o₆ m₆ news₆ ⟨rfl, rfl, rfl, b, oj, hB₂, rfl, rfl⟩ F₆ N₆
      k_steps
      refine ⟨_, _, fr_congr F₆ fun y => rfl, N₆, ?_, rfl, rfl, rfl, _, _, _, hB₂.next, rfl, rfl⟩
      rintro p hp
      exact hitx p hp
    · rintro j u₇ h₆ g₆ d₆ tk₆ o₆ m₆ news₆ oi₆ hj ⟨rfl, rfl, rfl, b, oj, hB₂, rfl, rfl⟩ F₆ N₆ D₆
      delta bsMap at F₆; (try dsimp only at F₆)
      have hit2 : it₂ ≠ x := fun e => D₆ _ (.tail _ (.head _)) e.symm
      have hit3 : it₂ ≠ it := fun e => D₆ _ (.head _) e.symm
      have hit4 : ∀ p ∈ rest, p.1 ≠ it₂ := fun p hp => D₆ p (.tail _ (.tail _ hp))
      have hbs := hB₂.1
      have hi0 : (0 : Int) + (i : Int) * (wd : Int) + ((0 : Int) + (j : Int) * 1) = ((i * wd + j : Nat) : Int) := by rw [hiw]; omega
      have hi1 : (0 : Int) + (i : Int) * (wd : Int) + (wd : Int) - 1 - ((0 : Int) + (j : Int) * 1) = ((i * wd + wd - 1 - j : Nat) : Int) := by rw [hiw]; omega
      k_steps
      rw [hi0, hi1]
      refine Ba.nw_set (b := b) (by k_asm) (by k_asm) (by omega) (by rw [hbs]; omega) (by rw [hbs]; exact hp1) (by omega) (by have := UInt8.toNat_lt (d.getD ((i * wd + j : Nat) : Int).toNat 0); omega) (by k_upd) fun h₇ F₇ N₇ => ?_
      k_steps
      refine ⟨_, _, fr_congr (m' := bsMap d wd t u x (some (.int (0 + (j : Int) * 1) u₇)) (some (.int (0 + (i : Int) * (wd : Int)) u₅))) F₇ ?_, N₇, ?_, rfl, rfl, rfl, _, _, hB₂.step (v := d.getD (i * wd + j) 0) hj hiq rfl, ?_, rfl⟩
      · intro y
        unfold bsMap
        by_cases e1 : y = Str.ofString "j"
        · subst e1; rfl
        · rw [if_neg e1, if_neg e1, if_neg e1]
      · rintro p hp
        rcases List.mem_cons.mp hp with rfl | hp
        · exact hit3.symm
        · rcases List.mem_cons.mp hp with rfl | hp
          · exact hit2.symm
          · exact hit4 p hp
      · simp only [Int.toNat_natCast, Nat.toUInt8_eq, UInt8.ofNat_toNat]

section
open Builtin Builtin.Str
noncomputable def find4 (x y : PySem.Str) (i j : Int) : Int := match occurrences x y (fromIndex x.length i) (min (fromIndex x.length j) x.length) 1 with | k :: _ => (k : Int) | [] => -1
noncomputable def rfind4 (x y : PySem.Str) (i j : Int) : Int := match lastOccurrence x y (fromIndex x.length i) (min (fromIndex x.length j) x.length) with | some k => (k : Int) | none => -1
noncomputable def stripF (x : PySem.Str) : PySem.Str :=
  let e1 : Int := if 0 ≤ Txt.find x (Str.ofString "\n") then Txt.find x (Str.ofString "\n") else x.length
  let e2 : Int := if 0 ≤ find4 x (Str.ofString ":") 0 e1 then find4 x (Str.ofString ":") 0 e1 else e1
  let st : Int := if 0 ≤ rfind4 x (Str.ofString ".") 0 e2 then rfind4 x (Str.ofString ".") 0 e2 + 1 else 0
  Txt.slice x (some st) (some e2)
theorem strip_end {Q : Value → Shared → Prop} {x : PySem.Str} {e1 e2 st : Int} {t : Tok} {s : Shared} (h1 : (0 ≤ Txt.find x (Str.ofString "\n") ∧ e1 = Txt.find x (Str.ofString "\n")) ∨ (¬ 0 ≤ Txt.find x (Str.ofString "\n") ∧ e1 = x.length))
   (h2 : e2 = if 0 ≤ find4 x (Str.ofString ":") 0 e1 then find4 x (Str.ofString ":") 0 e1 else e1) (h3 : st = if 0 ≤ rfind4 x (Str.ofString ".") 0 e2 then rfind4 x (Str.ofString ".") 0 e2 + 1 else 0)
   (h : Q (.str (stripF x) t) s) : Q (.str (Txt.slice x (some st) (some e2)) t) s := by
  have e : e1 = if 0 ≤ Txt.find x (Str.ofString "\n") then Txt.find x (Str.ofString "\n") else x.length := by
    rcases h1 with ⟨a, b⟩ | ⟨a, b⟩
    · rw [if_pos a, b]
    · rw [if_neg a, b]
  subst h3 h2 e
  exact h
variable {prog : Program} {w : World} {A : Around} {E : Value → Shared → Prop} {s : Shared} {x y : PySem.Str} {t u v v' : Tok} {i j : Int} {Q : Value → Shared → Prop}
theorem gives_find4 : Gives («str.find» ⟨[.str x t, .str y u, .int i v, .int j v'], []⟩) (.int (find4 x y i j)) := by
  show Gives (match occurrences x y (fromIndex x.length i) (min (fromIndex x.length j) x.length) 1 with | k :: _ => retInt k | [] => (do rule "str.find.not-found"; retInt (-1))) _
  unfold find4
  cases occurrences x y (fromIndex x.length i) (min (fromIndex x.length j) x.length) 1 with
  | nil => exact .rule (.of_eq rfl)
  | cons k _ => exact .of_eq rfl
theorem gives_rfind4 : Gives («str.rfind» ⟨[.str x t, .str y u, .int i v, .int j v'], []⟩) (.int (rfind4 x y i j)) := by
  show Gives (match lastOccurrence x y (fromIndex x.length i) (min (fromIndex x.length j) x.length) with | some k => retInt k | none => (do rule "str.rfind.not-found"; retInt (-1))) _
  unfold rfind4
  cases lastOccurrence x y (fromIndex x.length i) (min (fromIndex x.length j) x.length) with
  | none => exact .rule (.of_eq rfl)
  | some k => exact .of_eq rfl
theorem call_find4 (hq : ∀ tk, Q (.int (find4 x y i j) tk) { s with toks := s.toks + 1 }) : wpAny (model prog w) A (call (.builtin "str.find") [.str x t, .str y u, .int i v, .int j v']) Q E s :=
  call_gives F.slot_str_find (typeIs_str _ _ _) F.entry_str_find (F.args_str_find_4 _ _ _ _) gives_find4 (hq _)
theorem call_rfind4 (hq : ∀ tk, Q (.int (rfind4 x y i j) tk) { s with toks := s.toks + 1 }) : wpAny (model prog w) A (call (.builtin "str.rfind") [.str x t, .str y u, .int i v, .int j v']) Q E s :=
  call_gives F.slot_str_rfind (typeIs_str _ _ _) F.entry_str_rfind (F.args_str_rfind_4 _ _ _ _) gives_rfind4 (hq _)
end
local macro_rules | `(tactic| walk_at "call builtin:str.find") => `(tactic| (apply call_find4; intro _; (try dsimp only)))
local macro_rules | `(tactic| walk_at "call builtin:str.rfind") => `(tactic| (apply call_rfind4; intro _; (try dsimp only)))
set_option maxHeartbeats 4000000 in
theorem strip_spec (w : World) (mean : ExcName → Option Value) (mg mb : Str → Option Value) (p : Program) (ls : List PySem.Str) (rest : List (Addr × Obj)) (x : Str) (t : Tok) :
  GClaim w mean mg mb 42 [.str x t] (x.length ≤ 1000) p ls rest
    (fun h₀ L h m s Q => ∀ tk h' tk', Fr h₀ L h' m → News h₀ L h' rest → Q (.str (stripF x) tk) { s with heap := h', toks := tk' }) := by
  dsimp only [GClaim]
  w_top off
  k_fill
  intro dp un gd cn cs a ccd cl outer A₀ base h₀ L m s Q E B F X N T hcs hpre hdp hun hret
  refine wpAny_call ?_
  k_dflt cell_enter
  k_steps
  all_goals (refine' strip_end ?h1 ?h2 ?h3 (hret _ _ _ (by k_asm) (cb_drop (by assumption) (by kcj_all))); (case h1 => assumption); (case h2 => first | rw [if_pos (by assumption)] | rw [if_neg (by assumption)]); (case h3 => first | rw [if_pos (by assumption)] | rw [if_neg (by assumption)]))

noncomputable def repl (c r : PySem.Str) (x : PySem.Str) : PySem.Str := if (Builtin.Str.occurrences x c 0 x.length 1).isEmpty = true then x else Txt.replace x c r
noncomputable def EscAt (g : Heap) (L : Addr) (gs : Array GenState) (dd : Drawn) (os : OsState) (news : List (Addr × Obj)) (m₀ : Str → Option Value) (x : PySem.Str) (s' : Shared) : Prop :=
  ∃ t' h' tk', s' = ⟨h', gs, dd, tk', os⟩ ∧ 1 ≤ tk' ∧ Fr g L h' (fun y => if y = Str.ofString "text" then some (.str x t') else m₀ y) ∧ News g L h' news
noncomputable def escF (x : PySem.Str) : PySem.Str := (repl (Str.ofString "\r") (Str.ofString "&#xD;") (repl (Str.ofString "\n") (Str.ofString "&#xA;") (repl (Str.ofString "\t") (Str.ofString "&#x9;") (repl (Str.ofString "\"") (Str.ofString "&quot;") (repl (Str.ofString "<") (Str.ofString "&lt;") (repl (Str.ofString "&") (Str.ofString "&amp;") x))))))
section
set_option maxHeartbeats 8000000 in
theorem esc_spec (w : World) (mean : ExcName → Option Value) (mg mb : Str → Option Value) (p : Program) (ls : List PySem.Str) (rest : List (Addr × Obj)) (x : Str) (t : Tok) :
  ∀ (dp un : Nat) (gd : Option (List Code)) (cn : Str) (cs : Scope) (a : Addr) (ccd : Value) (cl : List (Str × Addr)) (outer : List Env) (A₀ : Around) (base h₀ : Heap) (L : Addr) (m : Str → Option Value) (s : Shared) (Q E : Value → Shared → Prop),
    Below A₀ base outer h₀ → Fr h₀ L s.heap m → (hd.heap_39 w.params).In h₀ → News h₀ L s.heap rest → Top p ls mean mg mb h₀ → cs.kind = .function →
    (∀ y : Str, y ∈ [x, (repl (Str.ofString "&") (Str.ofString "&amp;") x), (repl (Str.ofString "<") (Str.ofString "&lt;") (repl (Str.ofString "&") (Str.ofString "&amp;") x)), (repl (Str.ofString "\"") (Str.ofString "&quot;") (repl (Str.ofString "<") (Str.ofString "&lt;") (repl (Str.ofString "&") (Str.ofString "&amp;") x))), (repl (Str.ofString "\t") (Str.ofString "&#x9;") (repl (Str.ofString "\"") (Str.ofString "&quot;") (repl (Str.ofString "<") (Str.ofString "&lt;") (repl (Str.ofString "&") (Str.ofString "&amp;") x)))), (repl (Str.ofString "\n") (Str.ofString "&#xA;") (repl (Str.ofString "\t") (Str.ofString "&#x9;") (repl (Str.ofString "\"") (Str.ofString "&quot;") (repl (Str.ofString "<") (Str.ofString "&lt;") (repl (Str.ofString "&") (Str.ofString "&amp;") x)))))] → y.length ≤ 1048576) → 0 < s.toks → dp + 10 < recursionLimit → un + 80 < cLine →
    (∀ tk h' tk', Fr h₀ L h' m → News h₀ L h' rest → Q (.str (escF x) tk) { s with heap := h', toks := tk' }) →
      wpAny (model PySem.Challenge.rw_xp0004_01.row.prog w) (ktrTop dp un gd cn cs L a ccd cl outer) (call (.ref 35) [.str x t]) Q E s := by
  w_top off
  k_fill
  intro dp un gd cn cs a ccd cl outer A₀ base h₀ L m s Q E B F X N T hcs hpre htk hdp hun hret
  obtain ⟨hh, gs, dd, tk, os⟩ := s
  refine wpAny_call ?_
  refine' codeA_def (binds := [(Str.ofString "text", .str x t)]) ?k1 ?k2 ?k3 ?k4 ?k5 ?kA ?kF ?kK ?k6 ?k7 ?k8 ?k9 ?kB ?_ ?c1 ?c2 ?c3 ?c4
  case kA => exact rfl
  case kF => exact rfl
  case kK => assumption
  case k1 => k_asm
  case k2 => k_asm
  case k3 => k_asm
  case k4 => k_asm
  case k5 => k_asm
  case k6 => k_is
  case k7 => k_is
  case k8 => ktr_room
  case k9 => exact BindsTo.of_eq rfl
  case kB => exact locs rfl
  case c4 => decide
  case c1 => exact rfl
  case c2 => exact rfl
  case c3 => exact rfl
  k_whole
  intro g' L' h₁ FG' F₁ N₁ B' X' T' l1
  have htk1 : 1 ≤ tk + 1 := by omega
  refine wpAny_execs_cons (wpAny_Try_except ?_)
  have hl1 : Str.length x ≤ 1048576 := hpre _ (by simp)
  refine wpAny_execs_cons (wpAny_mono (Q := fun fl s' => fl = .next ∧ EscAt g' L' gs dd os rest (fun y => List.lookup y [(Str.ofString "text", Value.str x t)].reverse) (repl (Str.ofString "&") (Str.ofString "&amp;") x) s') (E := fun _ _ => False) (wpAny_If (wpAny_with_toks (n := 1) htk1 (wpAny_mono (Q := fun b s' => b = !(Builtin.Str.occurrences x (Str.ofString "&") 0 (Str.length x) 1).isEmpty ∧ ∃ k, s' = ⟨h₁, gs, dd, k, os⟩) (E := fun _ _ => False) ?_ ?_ (fun _ _ z => z.elim)))) ?_ (fun _ _ z => z.elim))
  · k_steps
  · rintro _ _ ⟨rfl, k, rfl⟩ hk
    cases he : (Builtin.Str.occurrences x (Str.ofString "&") 0 (Str.length x) 1).isEmpty
    · have hk' : 1 ≤ k := hk
      refine wpAny_with_toks (n := 1) hk (wpAny_execs_cons (wpAny_Assign_Name ?_))
      k_steps
      refine SC.replaceW (show (k : Nat) ≠ 0 by omega) (show (k + 1 : Nat) ≠ 0 by omega) (show (k : Nat) ≠ k + 1 by omega) (by decide) hl1 (by decide) fun t' k' => ?_
      k_steps
      rename_i hF hN hp
      exact ⟨_, _, _, rfl, hp, by rw [show (repl (Str.ofString "&") (Str.ofString "&amp;") x) = Txt.replace x (Str.ofString "&") (Str.ofString "&amp;") from if_neg (by rw [he]; exact Bool.false_ne_true)]; exact fr_congr hF (fun y => by by_cases e : y = Str.ofString "text"; (subst e; rfl); (simp only [e, if_false])), hN⟩
    · exact wpAny_execs_nil ⟨rfl, t, _, k, rfl, hk, by rw [show (repl (Str.ofString "&") (Str.ofString "&amp;") x) = x from if_pos he]; exact fr_congr (m' := fun y => if y = Str.ofString "text" then some (.str x t) else List.lookup y [(Str.ofString "text", Value.str x t)].reverse) F₁ (fun y => by by_cases e : y = Str.ofString "text"; (subst e; rfl); (rw [if_neg e])), N₁⟩
  rintro _ _ ⟨rfl, t1, h1, tk1, rfl, htk1, F1, N1⟩
  have hl2 : Str.length (repl (Str.ofString "&") (Str.ofString "&amp;") x) ≤ 1048576 := hpre _ (by simp)
  refine wpAny_execs_cons (wpAny_mono (Q := fun fl s' => fl = .next ∧ EscAt g' L' gs dd os rest (fun y => List.lookup y [(Str.ofString "text", Value.str x t)].reverse) (repl (Str.ofString "<") (Str.ofString "&lt;") (repl (Str.ofString "&") (Str.ofString "&amp;") x)) s') (E := fun _ _ => False) (wpAny_If (wpAny_with_toks (n := 1) htk1 (wpAny_mono (Q := fun b s' => b = !(Builtin.Str.occurrences (repl (Str.ofString "&") (Str.ofString "&amp;") x) (Str.ofString "<") 0 (Str.length (repl (Str.ofString "&") (Str.ofString "&amp;") x)) 1).isEmpty ∧ ∃ k, s' = ⟨h1, gs, dd, k, os⟩) (E := fun _ _ => False) ?_ ?_ (fun _ _ z => z.elim)))) ?_ (fun _ _ z => z.elim))
  · k_steps
  · rintro _ _ ⟨rfl, k, rfl⟩ hk
    cases he : (Builtin.Str.occurrences (repl (Str.ofString "&") (Str.ofString "&amp;") x) (Str.ofString "<") 0 (Str.length (repl (Str.ofString "&") (Str.ofString "&amp;") x)) 1).isEmpty
    · have hk' : 1 ≤ k := hk
      refine wpAny_with_toks (n := 1) hk (wpAny_execs_cons (wpAny_Assign_Name ?_))
      k_steps
      refine SC.replaceW (show (k : Nat) ≠ 0 by omega) (show (k + 1 : Nat) ≠ 0 by omega) (show (k : Nat) ≠ k + 1 by omega) (by decide) hl2 (by decide) fun t' k' => ?_
      k_steps
      rename_i hF hN hp
      exact ⟨_, _, _, rfl, hp, by rw [show (repl (Str.ofString "<") (Str.ofString "&lt;") (repl (Str.ofString "&") (Str.ofString "&amp;") x)) = Txt.replace (repl (Str.ofString "&") (Str.ofString "&amp;") x) (Str.ofString "<") (Str.ofString "&lt;") from if_neg (by rw [he]; exact Bool.false_ne_true)]; exact fr_congr hF (fun y => by by_cases e : y = Str.ofString "text"; (subst e; rfl); (simp only [e, if_false])), hN⟩
    · exact wpAny_execs_nil ⟨rfl, t1, _, k, rfl, hk, by rw [show (repl (Str.ofString "<") (Str.ofString "&lt;") (repl (Str.ofString "&") (Str.ofString "&amp;") x)) = (repl (Str.ofString "&") (Str.ofString "&amp;") x) from if_pos he]; exact F1, N1⟩
  rintro _ _ ⟨rfl, t2, h2, tk2, rfl, htk2, F2, N2⟩
  have hl3 : Str.length (repl (Str.ofString "<") (Str.ofString "&lt;") (repl (Str.ofString "&") (Str.ofString "&amp;") x)) ≤ 1048576 := hpre _ (by simp)
  refine wpAny_execs_cons (wpAny_mono (Q := fun fl s' => fl = .next ∧ EscAt g' L' gs dd os rest (fun y => List.lookup y [(Str.ofString "text", Value.str x t)].reverse) (repl (Str.ofString "\"") (Str.ofString "&quot;") (repl (Str.ofString "<") (Str.ofString "&lt;") (repl (Str.ofString "&") (Str.ofString "&amp;") x))) s') (E := fun _ _ => False) (wpAny_If (wpAny_with_toks (n := 1) htk2 (wpAny_mono (Q := fun b s' => b = !(Builtin.Str.occurrences (repl (Str.ofString "<") (Str.ofString "&lt;") (repl (Str.ofString "&") (Str.ofString "&amp;") x)) (Str.ofString "\"") 0 (Str.length (repl (Str.ofString "<") (Str.ofString "&lt;") (repl (Str.ofString "&") (Str.ofString "&amp;") x))) 1).isEmpty ∧ ∃ k, s' = ⟨h2, gs, dd, k, os⟩) (E := fun _ _ => False) ?_ ?_ (fun _ _ z => z.elim)))) ?_ (fun _ _ z => z.elim))
  · k_steps
  · rintro _ _ ⟨rfl, k, rfl⟩ hk
    cases he : (Builtin.Str.occurrences (repl (Str.ofString "<") (Str.ofString "&lt;") (repl (Str.ofString "&") (Str.ofString "&amp;") x)) (Str.ofString "\"") 0 (Str.length (repl (Str.ofString "<") (Str.ofString "&lt;") (repl (Str.ofString "&") (Str.ofString "&amp;") x))) 1).isEmpty
    · have hk' : 1 ≤ k := hk
      refine wpAny_with_toks (n := 1) hk (wpAny_execs_cons (wpAny_Assign_Name ?_))
      k_steps
      refine SC.replaceW (show (k : Nat) ≠ 0 by omega) (show (k + 1 : Nat) ≠ 0 by omega) (show (k : Nat) ≠ k + 1 by omega) (by decide) hl3 (by decide) fun t' k' => ?_
      k_steps
      rename_i hF hN hp
      exact ⟨_, _, _, rfl, hp, by rw [show (repl (Str.ofString "\"") (Str.ofString "&quot;") (repl (Str.ofString "<") (Str.ofString "&lt;") (repl (Str.ofString "&") (Str.ofString "&amp;") x))) = Txt.replace (repl (Str.ofString "<") (Str.ofString "&lt;") (repl (Str.ofString "&") (Str.ofString "&amp;") x)) (Str.ofString "\"") (Str.ofString "&quot;") from if_neg (by rw [he]; exact Bool.false_ne_true)]; exact fr_congr hF (fun y => by by_cases e : y = Str.ofString "text"; (subst e; rfl); (simp only [e, if_false])), hN⟩
    · exact wpAny_execs_nil ⟨rfl, t2, _, k, rfl, hk, by rw [show (repl (Str.ofString "\"") (Str.ofString "&quot;") (repl (Str.ofString "<") (Str.ofString "&lt;") (repl (Str.ofString "&") (Str.ofString "&amp;") x))) = (repl (Str.ofString "<") (Str.ofString "&lt;") (repl (Str.ofString "&") (Str.ofString "&amp;") x)) from if_pos he]; exact F2, N2⟩
  rintro _ _ ⟨rfl, t3, h3, tk3, rfl, htk3, F3, N3⟩
  have hl4 : Str.length (repl (Str.ofString "\"") (Str.ofString "&quot;") (repl (Str.ofString "<") (Str.ofString "&lt;") (repl (Str.ofString "&") (Str.ofString "&amp;") x))) ≤ 1048576 := hpre _ (by simp)
  refine wpAny_execs_cons (wpAny_mono (Q := fun fl s' => fl = .next ∧ EscAt g' L' gs dd os rest (fun y => List.lookup y [(Str.ofString "text", Value.str x t)].reverse) (repl (Str.ofString "\t") (Str.ofString "&#x9;") (repl (Str.ofString "\"") (Str.ofString "&quot;") (repl (Str.ofString "<") (Str.ofString "&lt;") (repl (Str.ofString "&") (Str.ofString "&amp;") x)))) s') (E := fun _ _ => False) (wpAny_If (wpAny_with_toks (n := 1) htk3 (wpAny_mono (Q := fun b s' => b = !(Builtin.Str.occurrences (repl (Str.ofString "\"") (Str.ofString "&quot;") (repl (Str.ofString "<") (Str.ofString "&lt;") (repl (Str.ofString "&") (Str.ofString "&amp;") x))) (Str.ofString "\t") 0 (Str.length (repl (Str.ofString "\"") (Str.ofString "&quot;") (repl (Str.ofString "<") (Str.ofString "&lt;") (repl (Str.ofString "&") (Str.ofString "&amp;") x)))) 1).isEmpty ∧ ∃ k, s' = ⟨h3, gs, dd, k, os⟩) (E := fun _ _ => False) ?_ ?_ (fun _ _ z => z.elim)))) ?_ (fun _ _ z => z.elim))
  · k_steps
  · rintro _ _ ⟨rfl, k, rfl⟩ hk
    cases he : (Builtin.Str.occurrences (repl (Str.ofString "\"") (Str.ofString "&quot;") (repl (Str.ofString "<") (Str.ofString "&lt;") (repl (Str.ofString "&") (Str.ofString "&amp;") x))) (Str.ofString "\t") 0 (Str.length (repl (Str.ofString "\"") (Str.ofString "&quot;") (repl (Str.ofString "<") (Str.ofString "&lt;") (repl (Str.ofString "&") (Str.ofString "&amp;") x)))) 1).isEmpty
    · have hk' : 1 ≤ k := hk
      refine wpAny_with_toks (n := 1) hk (wpAny_execs_cons (wpAny_Assign_Name ?_))
      k_steps
      refine SC.replaceW (show (k : Nat) ≠ 0 by omega) (show (k + 1 : Nat) ≠ 0 by omega) (show (k : Nat) ≠ k + 1 by omega) (by decide) hl4 (by decide) fun t' k' => ?_
      k_steps
      rename_i hF hN hp
      exact ⟨_, _, _, rfl, hp, by rw [show (repl (Str.ofString "\t") (Str.ofString "&#x9;") (repl (Str.ofString "\"") (Str.ofString "&quot;") (repl (Str.ofString "<") (Str.ofString "&lt;") (repl (Str.ofString "&") (Str.ofString "&amp;") x)))) = Txt.replace (repl (Str.ofString "\"") (Str.ofString "&quot;") (repl (Str.ofString "<") (Str.ofString "&lt;") (repl (Str.ofString "&") (Str.ofString "&amp;") x))) (Str.ofString "\t") (Str.ofString "&#x9;") from if_neg (by rw [he]; exact Bool.false_ne_true)]; exact fr_congr hF (fun y => by by_cases e : y = Str.ofString "text"; (subst e; rfl); (simp only [e, if_false])), hN⟩
    · exact wpAny_execs_nil ⟨rfl, t3, _, k, rfl, hk, by rw [show (repl (Str.ofString "\t") (Str.ofString "&#x9;") (repl (Str.ofString "\"") (Str.ofString "&quot;") (repl (Str.ofString "<") (Str.ofString "&lt;") (repl (Str.ofString "&") (Str.ofString "&amp;") x)))) = (repl (Str.ofString "\"") (Str.ofString "&quot;") (repl (Str.ofString "<") (Str.ofString "&lt;") (repl (Str.ofString "&") (Str.ofString "&amp;") x))) from if_pos he]; exact F3, N3⟩
  rintro _ _ ⟨rfl, t4, h4, tk4, rfl, htk4, F4, N4⟩
  have hl5 : Str.length (repl (Str.ofString "\t") (Str.ofString "&#x9;") (repl (Str.ofString "\"") (Str.ofString "&quot;") (repl (Str.ofString "<") (Str.ofString "&lt;") (repl (Str.ofString "&") (Str.ofString "&amp;") x)))) ≤ 1048576 := hpre _ (by simp)
  refine wpAny_execs_cons (wpAny_mono (Q := fun fl s' => fl = .next ∧ EscAt g' L' gs dd os rest (fun y => List.lookup y [(Str.ofString "text", Value.str x t)].reverse) (repl (Str.ofString "\n") (Str.ofString "&#xA;") (repl (Str.ofString "\t") (Str.ofString "&#x9;") (repl (Str.ofString "\"") (Str.ofString "&quot;") (repl (Str.ofString "<") (Str.ofString "&lt;") (repl (Str.ofString "&") (Str.ofString "&amp;") x))))) s') (E := fun _ _ => False) (wpAny_If (wpAny_with_toks (n := 1) htk4 (wpAny_mono (Q := fun b s' => b = !(Builtin.Str.occurrences (repl (Str.ofString "\t") (Str.ofString "&#x9;") (repl (Str.ofString "\"") (Str.ofString "&quot;") (repl (Str.ofString "<") (Str.ofString "&lt;") (repl (Str.ofString "&") (Str.ofString "&amp;") x)))) (Str.ofString "\n") 0 (Str.length (repl (Str.ofString "\t") (Str.ofString "&#x9;") (repl (Str.ofString "\"") (Str.ofString "&quot;") (repl (Str.ofString "<") (Str.ofString "&lt;") (repl (Str.ofString "&") (Str.ofString "&amp;") x))))) 1).isEmpty ∧ ∃ k, s' = ⟨h4, gs, dd, k, os⟩) (E := fun _ _ => False) ?_ ?_ (fun _ _ z => z.elim)))) ?_ (fun _ _ z => z.elim))
  · k_steps
  · rintro _ _ ⟨rfl, k, rfl⟩ hk
    cases he : (Builtin.Str.occurrences (repl (Str.ofString "\t") (Str.ofString "&#x9;") (repl (Str.ofString "\"") (Str.ofString "&quot;") (repl (Str.ofString "<") (Str.ofString "&lt;") (repl (Str.ofString "&") (Str.ofString "&amp;") x)))) (Str.ofString "\n") 0 (Str.length (repl (Str.ofString "\t") (Str.ofString "&#x9;") (repl (Str.ofString "\"") (Str.ofString "&quot;") (repl (Str.ofString "<") (Str.ofString "&lt;") (repl (Str.ofString "&") (Str.ofString "&amp;") x))))) 1).isEmpty
    · have hk' : 1 ≤ k := hk
      refine wpAny_with_toks (n := 1) hk (wpAny_execs_cons (wpAny_Assign_Name ?_))
      k_steps
      refine SC.replaceW (show (k : Nat) ≠ 0 by omega) (show (k + 1 : Nat) ≠ 0 by omega) (show (k : Nat) ≠ k + 1 by omega) (by decide) hl5 (by decide) fun t' k' => ?_
      k_steps
      rename_i hF hN hp
      exact ⟨_, _, _, rfl, hp, by rw [show (repl (Str.ofString "\n") (Str.ofString "&#xA;") (repl (Str.ofString "\t") (Str.ofString "&#x9;") (repl (Str.ofString "\"") (Str.ofString "&quot;") (repl (Str.ofString "<") (Str.ofString "&lt;") (repl (Str.ofString "&") (Str.ofString "&amp;") x))))) = Txt.replace (repl (Str.ofString "\t") (Str.ofString "&#x9;") (repl (Str.ofString "\"") (Str.ofString "&quot;") (repl (Str.ofString "<") (Str.ofString "&lt;") (repl (Str.ofString "&") (Str.ofString "&amp;") x)))) (Str.ofString "\n") (Str.ofString "&#xA;") from if_neg (by rw [he]; exact Bool.false_ne_true)]; exact fr_congr hF (fun y => by by_cases e : y = Str.ofString "text"; (subst e; rfl); (simp only [e, if_false])), hN⟩
    · exact wpAny_execs_nil ⟨rfl, t4, _, k, rfl, hk, by rw [show (repl (Str.ofString "\n") (Str.ofString "&#xA;") (repl (Str.ofString "\t") (Str.ofString "&#x9;") (repl (Str.ofString "\"") (Str.ofString "&quot;") (repl (Str.ofString "<") (Str.ofString "&lt;") (repl (Str.ofString "&") (Str.ofString "&amp;") x))))) = (repl (Str.ofString "\t") (Str.ofString "&#x9;") (repl (Str.ofString "\"") (Str.ofString "&quot;") (repl (Str.ofString "<") (Str.ofString "&lt;") (repl (Str.ofString "&") (Str.ofString "&amp;") x)))) from if_pos he]; exact F4, N4⟩
  rintro _ _ ⟨rfl, t5, h5, tk5, rfl, htk5, F5, N5⟩
  have hl6 : Str.length (repl (Str.ofString "\n") (Str.ofString "&#xA;") (repl (Str.ofString "\t") (Str.ofString "&#x9;") (repl (Str.ofString "\"") (Str.ofString "&quot;") (repl (Str.ofString "<") (Str.ofString "&lt;") (repl (Str.ofString "&") (Str.ofString "&amp;") x))))) ≤ 1048576 := hpre _ (by simp)
  refine wpAny_execs_cons (wpAny_mono (Q := fun fl s' => fl = .next ∧ EscAt g' L' gs dd os rest (fun y => List.lookup y [(Str.ofString "text", Value.str x t)].reverse) (repl (Str.ofString "\r") (Str.ofString "&#xD;") (repl (Str.ofString "\n") (Str.ofString "&#xA;") (repl (Str.ofString "\t") (Str.ofString "&#x9;") (repl (Str.ofString "\"") (Str.ofString "&quot;") (repl (Str.ofString "<") (Str.ofString "&lt;") (repl (Str.ofString "&") (Str.ofString "&amp;") x)))))) s') (E := fun _ _ => False) (wpAny_If (wpAny_with_toks (n := 1) htk5 (wpAny_mono (Q := fun b s' => b = !(Builtin.Str.occurrences (repl (Str.ofString "\n") (Str.ofString "&#xA;") (repl (Str.ofString "\t") (Str.ofString "&#x9;") (repl (Str.ofString "\"") (Str.ofString "&quot;") (repl (Str.ofString "<") (Str.ofString "&lt;") (repl (Str.ofString "&") (Str.ofString "&amp;") x))))) (Str.ofString "\r") 0 (Str.length (repl (Str.ofString "\n") (Str.ofString "&#xA;") (repl (Str.ofString "\t") (Str.ofString "&#x9;") (repl (Str.ofString "\"") (Str.ofString "&quot;") (repl (Str.ofString "<") (Str.ofString "&lt;") (repl (Str.ofString "&") (Str.ofString "&amp;") x)))))) 1).isEmpty ∧ ∃ k, s' = ⟨h5, gs, dd, k, os⟩) (E := fun _ _ => False) ?_ ?_ (fun _ _ z => z.elim)))) ?_ (fun _ _ z => z.elim))
  · k_steps
  · rintro _ _ ⟨rfl, k, rfl⟩ hk
    cases he : (Builtin.Str.occurrences (repl (Str.ofString "\n") (Str.ofString "&#xA;") (repl (Str.ofString "\t") (Str.ofString "&#x9;") (repl (Str.ofString "\"") (Str.ofString "&quot;") (repl (Str.ofString "<") (Str.ofString "&lt;") (repl (Str.ofString "&") (Str.ofString "&amp;") x))))) (Str.ofString "\r") 0 (Str.length (repl (Str.ofString "\n") (Str.ofString "&#xA;") (repl (Str.ofString "\t") (Str.ofString "&#x9;") (repl (Str.ofString "\"") (Str.ofString "&quot;") (repl (Str.ofString "<") (Str.ofString "&lt;") (repl (Str.ofString "&") (Str.ofString "&amp;") x)))))) 1).isEmpty
    · have hk' : 1 ≤ k := hk
      refine wpAny_with_toks (n := 1) hk (wpAny_execs_cons (wpAny_Assign_Name ?_))
      k_steps
      refine SC.replaceW (show (k : Nat) ≠ 0 by omega) (show (k + 1 : Nat) ≠ 0 by omega) (show (k : Nat) ≠ k + 1 by omega) (by decide) hl6 (by decide) fun t' k' => ?_
      k_steps
      rename_i hF hN hp
      exact ⟨_, _, _, rfl, hp, by rw [show (repl (Str.ofString "\r") (Str.ofString "&#xD;") (repl (Str.ofString "\n") (Str.ofString "&#xA;") (repl (Str.ofString "\t") (Str.ofString "&#x9;") (repl (Str.ofString "\"") (Str.ofString "&quot;") (repl (Str.ofString "<") (Str.ofString "&lt;") (repl (Str.ofString "&") (Str.ofString "&amp;") x)))))) = Txt.replace (repl (Str.ofString "\n") (Str.ofString "&#xA;") (repl (Str.ofString "\t") (Str.ofString "&#x9;") (repl (Str.ofString "\"") (Str.ofString "&quot;") (repl (Str.ofString "<") (Str.ofString "&lt;") (repl (Str.ofString "&") (Str.ofString "&amp;") x))))) (Str.ofString "\r") (Str.ofString "&#xD;") from if_neg (by rw [he]; exact Bool.false_ne_true)]; exact fr_congr hF (fun y => by by_cases e : y = Str.ofString "text"; (subst e; rfl); (simp only [e, if_false])), hN⟩
    · exact wpAny_execs_nil ⟨rfl, t5, _, k, rfl, hk, by rw [show (repl (Str.ofString "\r") (Str.ofString "&#xD;") (repl (Str.ofString "\n") (Str.ofString "&#xA;") (repl (Str.ofString "\t") (Str.ofString "&#x9;") (repl (Str.ofString "\"") (Str.ofString "&quot;") (repl (Str.ofString "<") (Str.ofString "&lt;") (repl (Str.ofString "&") (Str.ofString "&amp;") x)))))) = (repl (Str.ofString "\n") (Str.ofString "&#xA;") (repl (Str.ofString "\t") (Str.ofString "&#x9;") (repl (Str.ofString "\"") (Str.ofString "&quot;") (repl (Str.ofString "<") (Str.ofString "&lt;") (repl (Str.ofString "&") (Str.ofString "&amp;") x))))) from if_pos he]; exact F5, N5⟩
  rintro _ _ ⟨rfl, t6, h6, tk6, rfl, htk6, F6, N6⟩
  k_steps
  exact hret _ _ _ (by k_asm) (cb_drop (by assumption) (by kcj_all))
end

section
open LCg
variable {prog : Program} {w : World} {A : Around} {E : Value → Shared → Prop} {s : Shared} {h₀ : Heap} {L : Addr} {m : Str → Option Value} {env : Env} {elt : Expr} {x : Str} {scope : Scope} {cl : List (Str × Addr)}
noncomputable def SrcG (prog : Program) (w : World) (A : Around) (h₀ : Heap) (L : Addr) (m : Str → Option Value) (env : Env) (elt : Expr) (x : Str) (scope : Scope) (cl : List (Str × Addr)) (Fin : Shared → List Value → List (Addr × Obj) → Prop) (it : Value) (s₂ : Shared) : Prop :=
  ∃ (I : Addr) (fp : List Addr) (n : Nat) (P : Nat → Value → Prop) (St : Nat → Heap → Prop) (S : List (Addr × Obj) → Prop) (news : List (Addr × Obj)), it = .ref I ∧ Walks prog w A I fp [I] n P St ∧ n ≤ sizeLine ∧ (∀ i h, St i h → ∃ o, h.get? I = some o) ∧
    (∀ i h h' o nw, St i h → h.get? I = some o → h'.get? I = some o → (∀ b o, h₀.get? b = some o → h'.get? b = some o) → News h₀ L h' nw → S nw → St i h') ∧ St 0 s₂.heap ∧ (∀ b ∈ fp, b < s₂.heap.objs.size) ∧ Fr h₀ L s₂.heap m ∧ News h₀ L s₂.heap news ∧
    L ≠ I ∧ h₀.get? I = none ∧ (∀ p ∈ news, p.1 ≠ I) ∧ S news ∧ CompRest prog w A h₀ L m env elt x scope cl s₂ S P (Fin s₂) n 0 [] news
theorem ListComp_G {iter : Expr} {px : Pos} {pos : Pos} {Q : Value → Shared → Prop} (F₀ : Fr h₀ L s.heap m)
    (hclos : closureFor scope env = pure cl) (hcell : ∀ y ∈ scope.names, y.2 ≠ .cell) (hkind : scope.kind = .function)
    (hnames : ∀ y ∈ scope.names, y.2 = .local → scope.names.lookup y.1 = some .local) (hx : scope.names.lookup x = some .local)
    (h : wpAny (model prog w) A (eval iter env) (fun xv s₁ => wpAny (model prog w) A (pyIter xv) (SrcG prog w A h₀ L m env elt x scope cl (fun s₂ => FinE h₀ L m s₂ Q)) E s₁) E s)
    (hs : ∀ x, foldedSetIterable iter env x = pure x := by intro _; rfl) :
    wpAny (model prog w) A (eval (.ListComp elt [⟨.Name x px, iter, [], 0⟩] scope pos) env) Q E s := by
  rw [eval_ListComp]
  refine wpAny_comprehension_free (use := none) rfl hs hclos hkind hnames (wpAny_mono h (fun xv s₁ h₁ => wpAny_mono h₁ (fun it s₂ h₂ => ?_) fun _ _ e => e) fun _ _ e => e)
  obtain ⟨I, fp, n, P, St, S, news, rfl, W, hsz, hIo, hSt, hst, hfp, F, N, hIL, hI₀, off, hS, R⟩ := h₂
  refine block_U W hsz hIo hSt hcell hkind hx hst hfp F N hIL hI₀ off hS R ?_
  intro D C h tk m' ys news' F' N' o1 hn hC₀ hD₀ hCL hDL hCD offC fin
  refine ⟨m', hn, fun h'' hs'' => fin D h'' tk (F'.change hs'' hCL hC₀) (fun p hp => ?_) o1⟩
  refine ⟨hs''.extBut _ _ ?_ (N' p hp).1, (N' p hp).2⟩
  rcases List.mem_cons.mp hp with rfl | hp
  · exact Ne.symm hCD
  · exact offC p hp
theorem Assign_ListComp_G {iter : Expr} {y : Str} {px py : Pos} {pos spos : Pos} {Q : Flow → Shared → Prop} (F₀ : Fr h₀ L s.heap m) (hLe : env.locals = L)
    (hsw : swapsWith (.ListComp elt [⟨.Name x px, iter, [], 0⟩] scope pos) (some (.Name y py)) spos.line env = pure true)
    (hclos : closureFor scope env = pure cl) (hcell : ∀ z ∈ scope.names, z.2 ≠ .cell) (hkind : scope.kind = .function)
    (hnames : ∀ z ∈ scope.names, z.2 = .local → scope.names.lookup z.1 = some .local) (hx : scope.names.lookup x = some .local)
    (hy : env.kindOf y = some .local) (hp : (env.scope.kind == .class || (env.scope.kind == .module && env.locals != env.globals)) = false)
    (h : wpAny (model prog w) A (eval iter env) (fun xv s₁ => wpAny (model prog w) A (pyIter xv) (SrcG prog w A h₀ L m env elt x scope cl (fun s₂ => FinA h₀ L m s₂ y Q)) E s₁) E s)
    (hs : ∀ x, foldedSetIterable iter env x = pure x := by intro _; rfl) :
    wpAny (model prog w) A (exec (.Assign [.Name y py] (.ListComp elt [⟨.Name x px, iter, [], 0⟩] scope pos) spos) env) Q E s := by
  subst hLe
  rw [exec_Assign_Name_used _ _ _ _ hsw]
  refine wpAny_bind (wpAny_standAt (wpAny_bind ?_))
  show wpAny _ A (do let _ ← comprehension (.ListComp elt [⟨.Name x px, iter, [], 0⟩] scope pos) scope env _ (newList []) false (eval iter env) (some (assign (.Name y py) env))) _ _ s
  refine wpAny_bind (wpAny_mono (wpAny_comprehension_free (use := some (assign (.Name y py) env)) (Q := fun _ s' => Q .next s') rfl hs hclos hkind hnames
    (wpAny_mono h (fun xv s₁ h₁ => wpAny_mono h₁ (fun it s₂ h₂ => ?_) fun _ _ e => e) fun _ _ e => e)) (fun _ s' hq => wpAny_pure (wpAny_pure hq)) fun _ _ e => e)
  obtain ⟨I, fp, n, P, St, S, news, rfl, W, hsz, hIo, hSt, hst, hfp, F, N, hIL, hI₀, off, hS, R⟩ := h₂
  refine block_U W hsz hIo hSt hcell hkind hx hst hfp F N hIL hI₀ off hS R ?_
  intro D C h' tk m' ys news' F' N' o1 hn hC₀ hD₀ hCL hDL hCD offC fin
  show wpAny _ A (assign (.Name y py) env (.ref D)) _ _ _
  refine wpAny_assign_Name (wpAny_storeName_local hy F'.ns (fun h₂ hn₂ hs₂ => ?_) hp)
  have hL₀ : h₀.get? env.locals = none := Heap.get?_none_of_le F'.above
  have F₂ : Fr h₀ env.locals h₂ (fun z => if z = y then some (.ref D) else m z) := ⟨hn₂, fun b o e => hs₂.extBut b o (fun q => by rw [q, hL₀] at e; cases e) (F'.keep b o e), F'.above⟩
  refine ⟨m', hn.sameBut hs₂ hCL, fun h'' hs'' => fin D h'' _ (F₂.change hs'' hCL hC₀) (fun p hp => ?_) o1⟩
  have z : h₂.get? p.1 = some p.2 := hs₂.extBut _ _ (N' p hp).2.1 (N' p hp).1
  refine ⟨hs''.extBut _ _ ?_ z, (N' p hp).2⟩
  rcases List.mem_cons.mp hp with rfl | hp
  · exact Ne.symm hCD
  · exact offC p hp
theorem comp_inv {S : List (Addr × Obj) → Prop} {P : Nat → Value → Prop} {Fin : List Value → List (Addr × Obj) → Prop} {n : Nat} {news : List (Addr × Obj)} (J : Nat → List Value → List (Addr × Obj) → Prop) (start : J 0 [] news)
    (done : ∀ ys news, J n ys news → Fin ys news)
    (turn : ∀ i v I oI C oC D m₂ h tk ys news (E' : Value → Shared → Prop), i < n → J i ys news → P i v → NsObj oC m₂ → m₂ x = some v → Fr h₀ L h m → News h₀ L h ((I, oI) :: (C, oC) :: (D, lst ys) :: news) → Off3 I C D news → ((@Ne Nat I C) ∧ (@Ne Nat I D) ∧ (@Ne Nat C D)) →
      wpAny (model prog w) A (eval elt (compEnvC scope cl C env)) (CompEnd h₀ L m { s with heap := h, toks := tk } I oI C oC D (lst ys) S (fun y news' => J (i + 1) (ys ++ [y]) news')) E' { s with heap := h, toks := tk }) :
    CompRest prog w A h₀ L m env elt x scope cl s S P Fin n 0 [] news := by
  have key : ∀ (j i : Nat) (ys : List Value) (news : List (Addr × Obj)), i + j = n → J i ys news → CompRest prog w A h₀ L m env elt x scope cl s S P Fin j i ys news := by
    intro j
    induction j with
    | zero =>
      intro i ys news hi hy
      have e : i = n := by omega
      subst e
      exact CompRest.zero (done ys news hy)
    | succ j ih =>
      intro i ys news hi hy
      refine CompRest.succ ?_
      intro v I oI C oC D m₂ h tk E' hv hC hx F N off ne
      refine wpAny_mono (turn i v I oI C oC D m₂ h tk ys news E' (by omega) hy hv hC hx F N off ne) (fun y s₂ hq => ?_) fun _ _ e => e
      obtain ⟨h', tk', nw, e, F', N', off', hS, hn⟩ := hq
      exact ⟨h', tk', nw, e, F', N', off', hS, ih (i + 1) _ _ (by omega) hn⟩
  exact key n 0 [] news (by omega) start
theorem comp_fix {S : List (Addr × Obj) → Prop} {P : Nat → Value → Prop} {Fin : List Value → List (Addr × Obj) → Prop} {n : Nat} {news : List (Addr × Obj)} (J : Nat → List Value → Prop) (start : J 0 [])
    (done : ∀ ys, J n ys → Fin ys news)
    (turn : ∀ i v I oI C oC D m₂ h tk ys (E' : Value → Shared → Prop), i < n → J i ys → P i v → NsObj oC m₂ → m₂ x = some v → Fr h₀ L h m → News h₀ L h ((I, oI) :: (C, oC) :: (D, lst ys) :: news) → Off3 I C D news → ((@Ne Nat I C) ∧ (@Ne Nat I D) ∧ (@Ne Nat C D)) →
      wpAny (model prog w) A (eval elt (compEnvC scope cl C env)) (CompEnd h₀ L m { s with heap := h, toks := tk } I oI C oC D (lst ys) S (fun y news' => news' = news ∧ J (i + 1) (ys ++ [y]))) E' { s with heap := h, toks := tk }) :
    CompRest prog w A h₀ L m env elt x scope cl s S P Fin n 0 [] news :=
  comp_inv (fun i ys nw => nw = news ∧ J i ys) ⟨rfl, start⟩ (fun ys nw ⟨e, h⟩ => e ▸ done ys h) (fun i v I oI C oC D m₂ h tk ys nw E' hi ⟨e, hJ⟩ hv hC hx F N off ne => by
    subst e
    exact turn i v I oI C oC D m₂ h tk ys E' hi hJ hv hC hx F N off ne)
theorem src_range {Fin : Shared → List Value → List (Addr × Obj) → Prop} {r : Addr} {a b c : Int} {t u v : Tok} {n : Nat} {news : List (Addr × Obj)}
    (hh : A.handled = none) (F : Fr h₀ L s.heap m) (N : News h₀ L s.heap news) (hr : IsRange s.heap r a b c t u v) (hsm : Builtin.Range.small a b c = true) (hn : Builtin.Range.rangeSize a b c = ((n : Nat) : Int)) (hsz : n ≤ 1000)
    (h : ∀ g, CompRest prog w A h₀ L m env elt x scope cl { s with heap := g } (fun _ => True) (fun i v => i < n ∧ ∃ t, v = .int (a + (i : Int) * c) t) (Fin { s with heap := g }) n 0 [] news) :
    wpAny (model prog w) A (pyIter (.ref r)) (SrcG prog w A h₀ L m env elt x scope cl Fin) E s := by
  refine wpAny_pyIter_range hr hsm ?_
  refine ⟨_, _, n, _, _, fun _ => True, news, rfl, (Walks.range hh s.heap.objs.size a c n).bound, by rw [sizeLine_eq]; omega, fun i h st => ⟨_, st⟩, ?_, by show IsRangeIter _ _ _ _ _; rw [hn]; simpa using Heap.get?_push_size _ rfl, ?_,
    F.keeps fun _ _ e => Heap.get?_push_of_some _ e, N.grown fun _ _ e => Heap.get?_push_of_some _ e, Nat.ne_of_lt F.ns.lt, next_is_new F, fun p hp => Nat.ne_of_lt (Heap.lt_size (N p hp).1), trivial, h _⟩
  · intro i h h' o nw st e e' _ _ _
    have st' : h.get? s.heap.objs.size = some _ := st
    show h'.get? s.heap.objs.size = some _
    rw [e', ← e]; exact st'
  · intro b hb
    rw [List.mem_singleton.mp hb]
    show s.heap.objs.size < (s.heap.push _).objs.size
    rw [Heap.size_push]; exact Nat.lt_succ_self _
theorem src_list {Fin : Shared → List Value → List (Addr × Obj) → Prop} {ax : Addr} {its : Array Value} {news : List (Addr × Obj)}
    (hh : A.handled = none) (F : Fr h₀ L s.heap m) (N : News h₀ L s.heap news) (hm : SrcAt h₀ ax its news) (hsz : its.size ≤ 1000)
    (h : ∀ g, CompRest prog w A h₀ L m env elt x scope cl { s with heap := g } (SrcAt h₀ ax its) (fun i v => its[i]? = some v) (Fin { s with heap := g }) its.size 0 [] news) :
    wpAny (model prog w) A (pyIter (.ref ax)) (SrcG prog w A h₀ L m env elt x scope cl Fin) E s := by
  have hl := hm.list F.keep N
  have hlt : ax < s.heap.objs.size := by obtain ⟨_, e, _⟩ := hl; exact Heap.lt_size e
  refine wpAny_pyIter_list hl ?_
  have up : ∀ b o, s.heap.get? b = some o → (s.heap.push { cls := .type "list_iterator", data := .fields #[.ref ax, .int 0 0] }).get? b = some o := fun b o e => Heap.get?_push_of_some _ e
  refine ⟨_, _, its.size, _, _, SrcAt h₀ ax its, news, rfl, Walks.list hh s.heap.objs.size ax (Nat.ne_of_lt hlt) its, by rw [sizeLine_eq]; omega, (fun i h st => by obtain ⟨o, e, _⟩ := st.1; exact ⟨o, e⟩), list_st, ⟨⟨_, Heap.get?_push_size _ rfl, rfl, rfl⟩, hl.push _⟩, ?_,
    F.keeps up, N.grown up, Nat.ne_of_lt F.ns.lt, next_is_new F, fun p hp => Nat.ne_of_lt (Heap.lt_size (N p hp).1), hm, h _⟩
  intro b hb
  show b < (s.heap.push _).objs.size
  rw [Heap.size_push]
  rcases List.mem_cons.mp hb with rfl | hb
  · exact Nat.lt_succ_self _
  · rw [List.mem_singleton.mp hb]; exact Nat.lt_succ_of_lt hlt
theorem walks_str {I : Addr} (hh : A.handled = none) (y : Str) (t : Tok) : Walks prog w A I [I] [I] y.cps.size (SignAt y) (fun i h => h.IsStrIter I (strIterType y) y t i) := by
  unfold strIterType
  cases ha : y.cps.all (· < 128)
  · exact Walks.strWide hh I y t
  · exact Walks.strAscii hh I y t
theorem src_str {Fin : Shared → List Value → List (Addr × Obj) → Prop} {y : Str} {t : Tok} {news : List (Addr × Obj)}
    (hh : A.handled = none) (F : Fr h₀ L s.heap m) (N : News h₀ L s.heap news) (hsz : y.cps.size ≤ 1000)
    (h : ∀ g, CompRest prog w A h₀ L m env elt x scope cl { s with heap := g } (fun _ => True) (SignAt y) (Fin { s with heap := g }) y.cps.size 0 [] news) :
    wpAny (model prog w) A (pyIter (.str y t)) (SrcG prog w A h₀ L m env elt x scope cl Fin) E s := by
  refine wpAny_pyIter_strU ?_
  have up : ∀ b o, s.heap.get? b = some o → (s.heap.push { cls := .type (strIterType y), data := .fields #[.str y t, .int 0 0] }).get? b = some o := fun b o e => Heap.get?_push_of_some _ e
  refine ⟨_, _, y.cps.size, _, _, fun _ => True, news, rfl, walks_str hh y t, by rw [sizeLine_eq]; omega, (fun i h st => by obtain ⟨o, e, _⟩ := st; exact ⟨o, e⟩), ?_, ⟨_, Heap.get?_push_size _ rfl, rfl, rfl⟩, ?_,
    F.keeps up, N.grown up, Nat.ne_of_lt F.ns.lt, next_is_new F, fun p hp => Nat.ne_of_lt (Heap.lt_size (N p hp).1), trivial, h _⟩
  · intro i h h' o nw st e e' _ _ _
    obtain ⟨o', q, r⟩ := st
    rw [e] at q; cases q
    exact ⟨o, e', r⟩
  · intro b hb
    rw [List.mem_singleton.mp hb]
    show s.heap.objs.size < (s.heap.push _).objs.size
    rw [Heap.size_push]; exact Nat.lt_succ_self _
end
local macro_rules | `(tactic| ktr_unf) => `(tactic| first | with_unfolding_all rfl | decide)
local macro_rules | `(tactic| walk_at "eval ListComp") => `(tactic| k_dflt (apply ListComp_G; k_asm; ktr_unf; ktr_unf; ktr_unf; ktr_unf; ktr_unf; rotate_left; exact fun _ => rfl))
local macro_rules | `(tactic| walk_at "exec Assign cons ListComp") => `(tactic| k_dflt (apply Assign_ListComp_G; k_asm; ktr_unf; ktr_unf; ktr_unf; ktr_unf; ktr_unf; ktr_unf; ktr_unf; ktr_unf; ktr_unf; rotate_left; exact fun _ => rfl))

noncomputable def esc1 (c : Nat) : PySem.Str := if c = 38 then Str.ofString "&amp;" else if c = 60 then Str.ofString "&lt;" else if c = 34 then Str.ofString "&quot;" else if c = 9 then Str.ofString "&#x9;" else if c = 10 then Str.ofString "&#xA;" else if c = 13 then Str.ofString "&#xD;" else ⟨#[c]⟩
noncomputable def spelled (x : PySem.Str) : PySem.Str := catS (x.cps.toList.map esc1)
theorem esc1_len (c : Nat) : (esc1 c).length ≤ 6 := by
  unfold esc1
  repeat' split
  all_goals first | decide | (show 1 ≤ 6; decide)
theorem esc_sum : ∀ l : List Nat, ((l.map esc1).map (·.length)).sum ≤ 6 * l.length
  | [] => by simp
  | c :: l => by
    have := esc_sum l
    have := esc1_len c
    simp only [List.map_cons, List.sum_cons, List.length_cons]
    omega
noncomputable def tabD : List (PyData × PyData) := [(.str (Str.ofString "&"), .str (Str.ofString "&amp;")), (.str (Str.ofString "<"), .str (Str.ofString "&lt;")), (.str (Str.ofString "\""), .str (Str.ofString "&quot;")), (.str (Str.ofString "\t"), .str (Str.ofString "&#x9;")), (.str (Str.ofString "\n"), .str (Str.ofString "&#xA;")), (.str (Str.ofString "\r"), .str (Str.ofString "&#xD;"))]
theorem tab_get (c : Nat) : (Spec.lookup (.str ⟨#[c]⟩) tabD).getD (.str ⟨#[c]⟩) = .str (esc1 c) := by
  have one : ∀ (k : Nat) (y : PyData) (r : List (PyData × PyData)), Spec.lookup (.str ⟨#[c]⟩) ((.str ⟨#[k]⟩, y) :: r) = if c = k then some y else Spec.lookup (.str ⟨#[c]⟩) r := by
    intro k y r
    show (if Spec.same (.str ⟨#[k]⟩) (.str ⟨#[c]⟩) = true then some y else _) = _
    rw [same_sign]
    by_cases e : c = k
    · subst e; simp
    · rw [if_neg e, if_neg (by simpa using fun h => e h.symm)]
  have e : tabD = [(.str ⟨#[38]⟩, .str (Str.ofString "&amp;")), (.str ⟨#[60]⟩, .str (Str.ofString "&lt;")), (.str ⟨#[34]⟩, .str (Str.ofString "&quot;")), (.str ⟨#[9]⟩, .str (Str.ofString "&#x9;")), (.str ⟨#[10]⟩, .str (Str.ofString "&#xA;")), (.str ⟨#[13]⟩, .str (Str.ofString "&#xD;"))] := rfl
  rw [e]
  simp only [one]
  unfold esc1
  repeat' split
  all_goals first | rfl | contradiction
set_option maxHeartbeats 4000000 in
theorem spl_spec (w : World) (mean : ExcName → Option Value) (mg mb : Str → Option Value) (p : Program) (ls : List PySem.Str) (rest : List (Addr × Obj)) (x : Str) (t : Tok) :
  GClaim w mean mg mb 145 [.str x t] (x.length ≤ 100) p ls rest
    (fun h₀ L h m s Q => ∀ tk h' tk', Fr h₀ L h' m → News h₀ L h' rest → Q (.str (spelled x) tk) { s with heap := h', toks := tk' }) := by
  dsimp only [GClaim]
  w_top off
  k_fill
  intro dp un gd cn cs a ccd cl outer A₀ base h₀ L m s Q E B F X N T hcs hpre hdp hun hret
  refine wpAny_call ?_
  refine' code_defC (binds := [(Str.ofString "name", .str x t)]) ?k1 ?k2 ?k3 ?k4 ?k5 ?kA ?kF ?kK ?k6 ?k7 ?k8 ?k9 ?kB ?kD ?_ ?c2 ?c3 ?c4
  case kA => exact rfl
  case kF => exact rfl
  case kK => assumption
  case k1 => k_asm
  case k2 => k_asm
  case k3 => k_asm
  case k4 => k_asm
  case k5 => k_asm
  case k6 => k_is
  case k7 => k_is
  case k8 => ktr_room
  case k9 => exact BindsTo.of_eq rfl
  case kB => exact rfl
  case kD => decide +kernel
  case c2 => exact rfl
  case c3 => exact rfl
  case c4 => exact rfl
  k_whole
  intro g' L' h₁ tk₁ cells FG' F' N' Y' B' X' T' l1
  k_cells Y'
  simp only [List.cons_append, List.nil_append] at N'
  have hcl : ∀ p ∈ rest, p.1 ≠ L' + 1 := fun p hp => Nat.ne_of_lt (Nat.lt_succ_of_lt (l1 p hp))
  try dsimp only
  k_steps
  show wpAny _ _ _ _ _ _
  k_steps
  refine src_str rfl (by k_asm) (by k_asm) (Nat.le_trans hpre (by decide)) fun g => comp_fix (fun i ys => StrsAre ys ((x.cps.toList.take i).map esc1)) .nil ?_ ?_
  · intro ys hys
    unfold LCg.FinE
    intro D h₄ tk₄ F₄ N₄ o1
    k_steps
    rw [List.take_of_length_le (by simp)] at hys
    refine join_list ⟨_, (N₄ _ (.head _)).1, rfl, _, rfl⟩ hys ?_ fun t₅ k₅ => ?_
    · rw [show (Str.ofString "").length = 0 from rfl, Nat.mul_zero, Nat.add_zero]
      have := esc_sum x.cps.toList
      have h2 : x.cps.toList.length ≤ 100 := hpre
      omega
    rw [join_emp]
    k_steps
    exact hret _ _ _ (by k_asm) (cb_drop (by assumption) (by kcj_all))
  · rintro i v I oI C oC D m₂ h₃ tk₃ ys E' hi hys ⟨c, u, hc, rfl⟩ hC hx F₃ N₃ off ne
    k_steps
    rename_i v₃ _ hv₃
    refine ⟨h₃, _, _, rfl, F₃, N₃, off, trivial, rfl, ?_⟩
    rw [show Spec.lookup (PyData.str ⟨#[c]⟩) (strData _) = Spec.lookup (PyData.str ⟨#[c]⟩) tabD from rfl, tab_get] at hv₃
    have hv₄ := hv₃ s.heap
    cases hv₄
    have e : (List.take (i + 1) x.cps.toList).map esc1 = (List.take i x.cps.toList).map esc1 ++ [esc1 c] := by
      rw [List.take_add_one, show x.cps.toList[i]? = some c by simpa using hc, List.map_append]; rfl
    rw [e]
    exact kct_snoc hys

section
open LCg
variable {prog : Program} {w : World} {A : Around} {E : Value → Shared → Prop} {s : Shared} {h₀ : Heap} {L : Addr} {m : Str → Option Value} {env : Env} {kx vx : Expr} {x : Str} {scope : Scope} {cl : List (Str × Addr)} {K : Type} [DecidableEq K] {knd : KeyKind prog w K}
noncomputable def DEnd (knd : KeyKind prog w K) (h₀ : Heap) (L : Addr) (m : Str → Option Value) (s₁ : Shared) (I : Addr) (oI : Obj) (C : Addr) (oC : Obj) (D : Addr) (oD : Obj) (S : List (Addr × Obj) → Prop) (rest : K → Value → List (Addr × Obj) → Prop) (kv : Value) (y : Value) (s₂ : Shared) : Prop :=
  ∃ h' tk news' k, s₂ = { s₁ with heap := h', toks := tk } ∧ knd.is k kv = true ∧ Fr h₀ L h' m ∧ News h₀ L h' ((I, oI) :: (C, oC) :: (D, oD) :: news') ∧ Off3 I C D news' ∧ S news' ∧ rest k y news'
noncomputable def DTurn (prog : Program) (w : World) (A : Around) (h₀ : Heap) (L : Addr) (m : Str → Option Value) (env : Env) (kx vx : Expr) (x : Str) (scope : Scope) (cl : List (Str × Addr)) (knd : KeyKind prog w K) (s₂ : Shared) (S : List (Addr × Obj) → Prop) (P : Nat → Value → Prop) (n : Nat) (J : Nat → List (K × Value) → List (Addr × Obj) → Prop) : Prop :=
  ∀ i v I oI C oC D oD m₂ h tk kvs news (E' : Value → Shared → Prop), 1 ≤ tk → i < n → J i kvs news → P i v → NsObj oC m₂ → m₂ x = some v → Obj.IsDictOf knd oD kvs → Fr h₀ L h m → News h₀ L h ((I, oI) :: (C, oC) :: (D, oD) :: news) → Off3 I C D news → ((@Ne Nat I C) ∧ (@Ne Nat I D) ∧ (@Ne Nat C D)) →
      wpAny (model prog w) A (eval kx (compEnvC scope cl C env)) (fun kv s₄ => wpAny (model prog w) A (eval vx (compEnvC scope cl C env)) (DEnd knd h₀ L m { s₂ with heap := h, toks := tk } I oI C oC D oD S (fun k y news' => J (i + 1) (stored kvs k y) news') kv) E' s₄) E' { s₂ with heap := h, toks := tk }
theorem block_D {iter : Expr} {px : Pos} {pos : Pos} {s₂ : Shared} {I : Addr} {fp : List Addr} {n : Nat} {P : Nat → Value → Prop} {St : Nat → Heap → Prop} {S : List (Addr × Obj) → Prop} {news : List (Addr × Obj)}
    {RR : Value → Addr → Result → Shared → Prop}
    (W : Walks prog w A I fp [I] n P St) (hsz : n ≤ sizeLine) (hIo : ∀ i h, St i h → ∃ o, h.get? I = some o)
    (hSt : ∀ i h h' o nw, St i h → h.get? I = some o → h'.get? I = some o → (∀ b o, h₀.get? b = some o → h'.get? b = some o) → News h₀ L h' nw → S nw → St i h')
    (hcell : ∀ y ∈ scope.names, y.2 ≠ .cell) (hkind : scope.kind = .function) (hx : scope.names.lookup x = some .local) (htk : 1 ≤ s₂.toks) (hst : St 0 s₂.heap) (hfp : ∀ b ∈ fp, b < s₂.heap.objs.size)
    (F : Fr h₀ L s₂.heap m) (N : News h₀ L s₂.heap news) (hIL : L ≠ I) (hI₀ : h₀.get? I = none) (off : ∀ p ∈ news, p.1 ≠ I) (hS : S news)
    (J : Nat → List (K × Value) → List (Addr × Obj) → Prop) (start : J 0 [] news) (hJl : ∀ i kvs nw, J i kvs nw → kvs.length ≤ i) (turn : DTurn prog w A h₀ L m env kx vx x scope cl knd s₂ S P n J)
    (hRR : ∀ D oD C h tk m' kvs news', Fr h₀ L h m → News h₀ L h ((D, oD) :: news') → Obj.IsDictOf knd oD kvs → Off1 D news' → h.Ns C m' → h₀.get? C = none → h₀.get? D = none → C ≠ L → D ≠ L → C ≠ D → (∀ p ∈ news', p.1 ≠ C) → J n kvs news' → RR (.ref D) C (.ok .next) { s₂ with heap := h, toks := tk }) :
    wpAny (model prog w) A newDict (fun acc s₃ => wpAny (model prog w) A (newFunctionEnv scope env.globals cl [] env.qual none .none (some env)) (fun cenv s₄ =>
      codeAny (model prog w) A (.compStart (.DictComp kx vx [⟨.Name x px, iter, [], 0⟩] scope pos) 0 (.ref I) acc { cenv with scope := relabel scope env }) (RR acc cenv.locals) s₄) E s₃) E s₂ := by
  refine wpAny_newObj_type (wpAny_newFunctionEnv hcell (by intro y hy; simp at hy) (fun h₁ hns₁ hsb₁ => ?_) hkind)
  dsimp only at hns₁ hsb₁ ⊢
  have hnew : (s₂.heap.push { cls := .type "dict", dict := none, data := .dict #[] }).DictOf knd s₂.heap.objs.size [] := Heap.DictOf.new s₂.heap
  generalize hH2 : s₂.heap.push { cls := .type "dict", dict := none, data := .dict #[] } = H2 at hns₁ hsb₁ hnew ⊢
  have hC : H2.objs.size = s₂.heap.objs.size + 1 := by rw [← hH2, Heap.size_push]
  have hDC : s₂.heap.objs.size ≠ H2.objs.size := by rw [hC]; exact Nat.ne_of_lt (Nat.lt_succ_self _)
  have below : ∀ b, b < s₂.heap.objs.size → b ≠ H2.objs.size ∧ b ≠ s₂.heap.objs.size := fun b hb => ⟨by rw [hC]; exact Nat.ne_of_lt (Nat.lt_succ_of_lt hb), Nat.ne_of_lt hb⟩
  have hDf : s₂.heap.objs.size ∉ fp := fun hm => Nat.lt_irrefl _ (hfp _ hm)
  have hCf : H2.objs.size ∉ fp := fun hm => by have := hfp _ hm; rw [hC] at this; exact Nat.lt_irrefl _ (Nat.lt_of_succ_lt this)
  have hIf : I ∈ fp := W.sub I (List.mem_singleton.mpr rfl)
  have hIlt : I < s₂.heap.objs.size := hfp I hIf
  have old : ∀ b o, s₂.heap.get? b = some o → h₁.get? b = some o := fun b o e => hsb₁.extBut b o (below b (Heap.lt_size e)).1 (Heap.get?_push_of_some _ (hH2 ▸ Heap.get?_push_of_some _ e))
  have hacc : h₁.DictOf knd s₂.heap.objs.size [] := hnew.at fun o e => hsb₁.extBut _ _ hDC (Heap.get?_push_of_some _ e)
  have hst₁ : St 0 h₁ := W.frame _ _ _ hst fun b _ o e => old b o e
  have fresh : ∀ a, s₂.heap.objs.size ≤ a → s₂.heap.get? a = none := fun a ha => by
    cases e : s₂.heap.get? a with
    | none => rfl
    | some o' => exact absurd (Heap.lt_size e) (Nat.not_lt.mpr ha)
  have fresh₀ : ∀ a, s₂.heap.objs.size ≤ a → h₀.get? a = none := fun a ha => by
    cases e : h₀.get? a with
    | none => rfl
    | some o' => have := F.keep a o' e; rw [fresh a ha] at this; cases this
  have hD₀ : h₀.get? s₂.heap.objs.size = none := fresh₀ _ (Nat.le_refl _)
  have hC₀ : h₀.get? H2.objs.size = none := fresh₀ _ (by rw [hC]; exact Nat.le_succ _)
  have hLlt : L < s₂.heap.objs.size := F.ns.lt
  have hDL : s₂.heap.objs.size ≠ L := Ne.symm (below L hLlt).2
  have hCL : H2.objs.size ≠ L := Ne.symm (below L hLlt).1
  have hCI : I ≠ H2.objs.size := (below I hIlt).1
  have hDI : I ≠ s₂.heap.objs.size := (below I hIlt).2
  have off₀ : Off3 I H2.objs.size s₂.heap.objs.size news := Off3.of fun p hp => ⟨off p hp, (below _ (Heap.lt_size (N p hp).1)).1, (below _ (Heap.lt_size (N p hp).1)).2⟩
  obtain ⟨oD₀, heD₀, hoD₀⟩ := Heap.dictOf_iff.mp hacc
  have loop : ∀ s₃ : Shared, s₃ = { s₂ with heap := h₁, toks := s₂.toks + ([] : List (Str × Value)).length } →
      codeAny (model prog w) A (.compLoop (.DictComp kx vx [⟨.Name x px, iter, [], 0⟩] scope pos) 0 (.ref I) (.ref s₂.heap.objs.size) (compEnvC scope cl H2.objs.size env))
        (RR (.ref s₂.heap.objs.size) H2.objs.size) s₃ := by
    rintro s₃ rfl
    refine codeAny_compLoop_testsD
      (fun k s' => ∃ h' tk i kvs m' news' oD, s' = { s₂ with heap := h', toks := tk } ∧ 1 ≤ tk ∧ i ≤ n ∧ k = n + 1 - i ∧ St i h' ∧ Fr h₀ L h' m ∧ h'.Ns H2.objs.size m' ∧ News h₀ L h' ((s₂.heap.objs.size, oD) :: news') ∧ Obj.IsDictOf knd oD kvs ∧
        Off3 I H2.objs.size s₂.heap.objs.size news' ∧ S news' ∧ J i kvs news') ?_ (n + 1)
      ⟨h₁, _, 0, [], _, news, oD₀, rfl, htk, Nat.zero_le _, rfl, hst₁, F.keeps old, hns₁, fun p hp => ?_, hoD₀, off₀, hS, start⟩
    · rintro k s' ⟨h', tk, i, kvs, m', news', oD, rfl, htk₁, hi, rfl, hst', F', hn', N', hoD, off', hS', hJ⟩
      by_cases hlt : i < n
      · refine wpAny_with_toks (n := 1) htk₁ (W.item i _ _ _ hlt hst' fun v h₂ tk₂ hPv hst₂ hk₂ => fun htk₂ => ?_)
        refine wpAny_assign_Name (wpAny_storeName_local (lookup_relabel_local hx) (hn'.at' fun o e => hk₂ _ o (by simpa using Ne.symm hCI) e) (fun h₃ hn₃ hs₃ => ?_) (by simp [compEnvC, relabel, hkind]))
        refine wpAny_tests_nil ?_
        simp only [if_true]
        have hst₃ : St (i + 1) h₃ := W.frame _ _ _ hst₂ fun b hb o e => hs₃.extBut b o (fun q => hCf (by have q' : b = H2.objs.size := q; rw [← q']; exact hb)) e
        obtain ⟨oI, heI⟩ := hIo _ _ hst₃
        obtain ⟨oC, heC, hoC⟩ := ns_obj hn₃
        have F₃ : Fr h₀ L h₃ m := (fr_but F' hk₂ hIL hI₀).change hs₃ hCL hC₀
        have off3 := off'.mem
        have N₂ : News h₀ L h₂ ((s₂.heap.objs.size, oD) :: news') := news_but N' hk₂ fun p hp => by
          rcases List.mem_cons.mp hp with rfl | hp
          · exact Ne.symm hDI
          · exact (off3 p hp).1
        have N₃ : News h₀ L h₃ ((I, oI) :: (H2.objs.size, oC) :: (s₂.heap.objs.size, oD) :: news') := fun p hp => by
          rcases List.mem_cons.mp hp with rfl | hp
          · exact ⟨heI, Ne.symm hIL, hI₀⟩
          · rcases List.mem_cons.mp hp with rfl | hp
            · exact ⟨heC, hCL, hC₀⟩
            · have z := N₂ p hp
              refine ⟨hs₃.extBut _ _ ?_ z.1, z.2⟩
              rcases List.mem_cons.mp hp with rfl | hp
              · exact hDC
              · exact (off3 p hp).2.1
        refine wpAny_mono (turn i v I oI H2.objs.size oC s₂.heap.objs.size oD _ h₃ _ kvs news' _ (Nat.succ_le_succ (Nat.zero_le _)) hlt hJ hPv hoC (by simp) hoD F₃ N₃ off' ⟨hCI, hDI, Ne.symm hDC⟩) (fun kv s₄ h₄ => wpAny_mono h₄ (fun y s₅ h₅ => ?_) fun _ _ e => e) fun _ _ e => e
        obtain ⟨h₄, tk₄, news₄, kk, rfl, hkk, F₄, N₄, off₄, hS₄, R₄⟩ := h₅
        have zI := (N₄ (I, oI) List.mem_cons_self).1
        have zC := (N₄ (H2.objs.size, oC) (List.mem_cons_of_mem _ List.mem_cons_self)).1
        have zD := (N₄ (s₂.heap.objs.size, oD) (List.mem_cons_of_mem _ (List.mem_cons_of_mem _ List.mem_cons_self))).1
        have N₄' : News h₀ L h₄ news₄ := fun p hp => N₄ p (List.mem_cons_of_mem _ (List.mem_cons_of_mem _ (List.mem_cons_of_mem _ hp)))
        have hst₄ : St (i + 1) h₄ := hSt _ _ _ _ _ hst₃ heI zI F₄.keep N₄' hS₄
        refine wpAny_dictSet_pairs (hsz := Nat.le_trans (hJl _ _ _ hJ) (Nat.le_trans (Nat.le_of_lt hlt) hsz)) hkk (Heap.dictOf_iff.mpr ⟨oD, zD, hoD⟩) fun h₅ hl₅ hs₅ => ?_
        obtain ⟨oD₅, heD₅, hoD₅⟩ := Heap.dictOf_iff.mp hl₅
        have off4 := off₄.mem
        refine ⟨n + 1 - (i + 1), by omega, h₅, _, i + 1, stored kvs kk y, _, news₄, oD₅, rfl, Nat.succ_le_succ (Nat.zero_le _), hlt, rfl, W.frame _ _ _ hst₄ fun b hb o e => hs₅.extBut b o (fun q => hDf (q ▸ hb)) e, F₄.change hs₅ hDL hD₀,
          (hoC.ns zC).sameBut hs₅ (Ne.symm hDC), fun p hp => ?_, hoD₅, off₄, hS₄, R₄⟩
        rcases List.mem_cons.mp hp with rfl | hp
        · exact ⟨heD₅, hDL, hD₀⟩
        · exact ⟨hs₅.extBut _ _ (off4 p hp).2.2 (N₄' p hp).1, (N₄' p hp).2⟩
      · obtain rfl : i = n := Nat.le_antisymm hi (Nat.not_lt.mp hlt)
        refine wpAny_with_toks (n := 1) htk₁ ?_
        refine W.done _ _ _ hst' fun h₂ tk₂ hk₂ => fun _ => ?_
        have off3 := off'.mem
        exact hRR _ oD _ h₂ tk₂ _ kvs news' (fr_but F' hk₂ hIL hI₀) (news_but N' hk₂ fun p hp => by
          rcases List.mem_cons.mp hp with rfl | hp
          · exact Ne.symm hDI
          · exact (off3 p hp).1) hoD off'.one (hn'.at' fun o e => hk₂ _ o (by simpa using Ne.symm hCI) e) hC₀ hD₀ hCL hDL (Ne.symm hDC) (fun p hp => (off3 p hp).2.1) hJ
    · rcases List.mem_cons.mp hp with rfl | hp
      · exact ⟨heD₀, hDL, hD₀⟩
      · exact ⟨old _ _ (N p hp).1, (N p hp).2⟩
  exact codeAny_compStart_dict (loop _ rfl) (W.self 0 _ _ _ hst₁ (loop _ rfl))
noncomputable def DSrc (prog : Program) (w : World) (A : Around) (h₀ : Heap) (L : Addr) (m : Str → Option Value) (env : Env) (kx vx : Expr) (x : Str) (scope : Scope) (cl : List (Str × Addr)) (knd : KeyKind prog w K) (Q : Value → Shared → Prop) (xv : Value) (s₁ : Shared) : Prop :=
  ∃ ax its news J, xv = .ref ax ∧ A.handled = none ∧ 1 ≤ s₁.toks ∧ Fr h₀ L s₁.heap m ∧ News h₀ L s₁.heap news ∧ SrcAt h₀ ax its news ∧ its.size ≤ 1000 ∧ J 0 [] news ∧ (∀ i kvs nw, J i kvs nw → kvs.length ≤ i) ∧
       (∀ g, DTurn prog w A h₀ L m env kx vx x scope cl knd { s₁ with heap := g } (SrcAt h₀ ax its) (fun i v => its[i]? = some v) its.size J) ∧
       (∀ D oD h tk kvs news', Fr h₀ L h m → News h₀ L h ((D, oD) :: news') → Obj.IsDictOf knd oD kvs → Off1 D news' → J its.size kvs news' → Q (.ref D) { s₁ with heap := h, toks := tk })
theorem DictComp_list {iter : Expr} {px : Pos} {pos : Pos} {Q : Value → Shared → Prop} (knd : KeyKind prog w K) (F₀ : Fr h₀ L s.heap m)
    (hclos : closureFor scope env = pure cl) (hcell : ∀ y ∈ scope.names, y.2 ≠ .cell) (hkind : scope.kind = .function)
    (hnames : ∀ y ∈ scope.names, y.2 = .local → scope.names.lookup y.1 = some .local) (hx : scope.names.lookup x = some .local)
    (h : wpAny (model prog w) A (eval iter env) (DSrc prog w A h₀ L m env kx vx x scope cl knd Q) E s)
    (hs : ∀ x, foldedSetIterable iter env x = pure x := by intro _; rfl) :
    wpAny (model prog w) A (eval (.DictComp kx vx [⟨.Name x px, iter, [], 0⟩] scope pos) env) Q E s := by
  rw [arm_eval_DictComp]
  refine wpAny_comprehension_free (use := none) rfl hs hclos hkind hnames (wpAny_mono h (fun xv s₁ h₁ => ?_) fun _ _ e => e)
  obtain ⟨ax, its, news, J, rfl, hh, htk, F, N, hm, hsz, start, hJl, turn, fin⟩ := h₁
  have hl := hm.list F.keep N
  have hlt : ax < s₁.heap.objs.size := by obtain ⟨_, e, _⟩ := hl; exact Heap.lt_size e
  refine wpAny_pyIter_list hl ?_
  have up : ∀ b o, s₁.heap.get? b = some o → (s₁.heap.push { cls := .type "list_iterator", data := .fields #[.ref ax, .int 0 0] }).get? b = some o := fun b o e => Heap.get?_push_of_some _ e
  refine block_D (knd := knd) (RR := fun acc C => compPost (model prog w) A E none Q acc C) (Walks.list hh s₁.heap.objs.size ax (Nat.ne_of_lt hlt) its) (by rw [sizeLine_eq]; omega) (fun i h st => by obtain ⟨o, e, _⟩ := st.1; exact ⟨o, e⟩) list_st hcell hkind hx htk ⟨⟨_, Heap.get?_push_size _ rfl, rfl, rfl⟩, hl.push _⟩ ?_
    (F.keeps up) (N.grown up) (Nat.ne_of_lt F.ns.lt) (next_is_new F) (fun p hp => Nat.ne_of_lt (Heap.lt_size (N p hp).1)) hm J start hJl (turn _) ?_
  · intro b hb
    show b < (s₁.heap.push _).objs.size
    rw [Heap.size_push]
    rcases List.mem_cons.mp hb with rfl | hb
    · exact Nat.lt_succ_self _
    · rw [List.mem_singleton.mp hb]; exact Nat.lt_succ_of_lt hlt
  · intro D oD C h tk m' kvs news' F' N' hoD o1 hn hC₀ hD₀ hCL hDL hCD offC hJ
    refine ⟨m', hn, fun h'' hs'' => fin D oD h'' tk kvs news' (F'.change hs'' hCL hC₀) (fun p hp => ?_) hoD o1 hJ⟩
    refine ⟨hs''.extBut _ _ ?_ (N' p hp).1, (N' p hp).2⟩
    rcases List.mem_cons.mp hp with rfl | hp
    · exact Ne.symm hCD
    · exact offC p hp
end

noncomputable def EscOk (x : Str) : Prop := ∀ y : Str, y ∈ [x, (repl (Str.ofString "&") (Str.ofString "&amp;") x), (repl (Str.ofString "<") (Str.ofString "&lt;") (repl (Str.ofString "&") (Str.ofString "&amp;") x)), (repl (Str.ofString "\"") (Str.ofString "&quot;") (repl (Str.ofString "<") (Str.ofString "&lt;") (repl (Str.ofString "&") (Str.ofString "&amp;") x))), (repl (Str.ofString "\t") (Str.ofString "&#x9;") (repl (Str.ofString "\"") (Str.ofString "&quot;") (repl (Str.ofString "<") (Str.ofString "&lt;") (repl (Str.ofString "&") (Str.ofString "&amp;") x)))), (repl (Str.ofString "\n") (Str.ofString "&#xA;") (repl (Str.ofString "\t") (Str.ofString "&#x9;") (repl (Str.ofString "\"") (Str.ofString "&quot;") (repl (Str.ofString "<") (Str.ofString "&lt;") (repl (Str.ofString "&") (Str.ofString "&amp;") x)))))] → y.length ≤ 1048576
noncomputable def WOk (names : List Str) (kvs : List (Str × Value)) : Prop := ∀ y ∈ names, ∃ t, valueAt kvs y = some (.str (escF y) t)
theorem valueAt_stored {K : Type} [DecidableEq K] (kvs : List (K × Value)) (k z : K) (v : Value) : valueAt (stored kvs k v) z = if z = k then some v else valueAt kvs z := by
  unfold stored
  by_cases h : kvs.any (fun kv => kv.1 = k) = true
  · rw [if_pos h]
    induction kvs with
    | nil => simp at h
    | cons kv kvs ih =>
      unfold valueAt at ih ⊢
      rw [List.map_cons, List.find?_cons, List.find?_cons]
      by_cases e : kv.1 = k
      · rw [if_pos e]
        by_cases ez : z = k
        · subst ez; simp [e]
        · have e2 : ¬ kv.1 = z := fun q => ez (by rw [← q, e])
          simp only [e2, decide_false, if_neg ez]
          by_cases hh : kvs.any (fun kv => kv.1 = k) = true
          · simpa [ez] using ih hh
          · have : (kvs.map fun kv => if kv.1 = k then (kv.1, v) else kv) = kvs := by
              refine (List.map_congr_left (fun q hq => ?_)).trans (List.map_id _)
              rw [if_neg (fun e' => hh (List.any_eq_true.mpr ⟨q, hq, by simpa using e'⟩))]; rfl
            rw [this]
      · rw [if_neg e]
        have hh : kvs.any (fun kv => kv.1 = k) = true := by simpa [e] using h
        by_cases e2 : kv.1 = z
        · have : ¬ z = k := fun q => e (e2.trans q)
          simp [e2, this]
        · simp only [e2, decide_false]
          exact ih hh
  · rw [if_neg h]
    unfold valueAt
    rw [List.find?_append]
    by_cases ez : z = k
    · subst ez
      have : kvs.find? (fun kv => kv.1 = z) = none := by
        rw [List.find?_eq_none]
        intro q hq e
        exact h (List.any_eq_true.mpr ⟨q, hq, e⟩)
      simp [this]
    · have : ¬ k = z := fun q => ez q.symm
      simp [ez, this]
theorem WOk.snoc {names : List Str} {kvs : List (Str × Value)} {i : Nat} {y : Str} {t : Tok} (h : WOk (names.take i) kvs) (hy : names[i]? = some y) : WOk (names.take (i + 1)) (stored kvs y (.str (escF y) t)) := by
  intro z hz
  rw [valueAt_stored]
  by_cases e : z = y
  · subst e; exact ⟨t, if_pos rfl⟩
  · rw [if_neg e]
    rw [List.take_add_one, hy] at hz
    rcases List.mem_append.mp hz with hz | hz
    · exact h z hz
    · exact absurd (by simpa using hz) e
theorem strs_at : ∀ {vs : List Value} {ys : List Str}, StrsAre vs ys → ∀ {i : Nat} {v : Value}, vs[i]? = some v → ∃ y t, ys[i]? = some y ∧ v = .str y t
  | _, _, .nil, i, v, h => by simp at h
  | _, _, .cons y t r, 0, v, h => ⟨y, t, rfl, by simpa using h.symm⟩
  | _, _, .cons y t r, i + 1, v, h => by
    obtain ⟨y', t', h1, h2⟩ := strs_at r (i := i) (by simpa using h)
    exact ⟨y', t', by simpa using h1, h2⟩
theorem off1_ne {D : Addr} : ∀ {l : List (Addr × Obj)}, LCg.Off1 D l → ∀ p ∈ l, p.1 ≠ D
  | [], _, _, h => nomatch h
  | _ :: _, x, p, h => by
    rcases List.mem_cons.mp h with rfl | h
    · exact x.1
    · exact off1_ne x.2 p h
theorem HasList.src {h₀ : Heap} {l : Addr} {items : Array Value} {news : List (Addr × Obj)} (H : HasList l items news) : LCg.SrcAt h₀ l items news := by
  obtain ⟨o, k, hm, hc, hd⟩ := H
  exact .inr ⟨o, hm, hc, k, hd⟩
section
local macro_rules | `(tactic| walk_at "eval DictComp") => `(tactic| apply StopFor.out)
local macro_rules | `(tactic| walk_at "call ref") => `(tactic| apply StopFor.out)
set_option maxHeartbeats 4000000 in
theorem wri_spec (w : World) (mean : ExcName → Option Value) (mg mb : Str → Option Value) (p : Program) (ls : List PySem.Str) (rest : List (Addr × Obj)) (nl : Addr) (items : Array Value) (names : List Str) :
  ∀ (dp un : Nat) (gd : Option (List Code)) (cn : Str) (cs : Scope) (a : Addr) (ccd : Value) (cl : List (Str × Addr)) (outer : List Env) (A₀ : Around) (base h₀ : Heap) (L : Addr) (m : Str → Option Value) (s : Shared) (Q E : Value → Shared → Prop),
    Below A₀ base outer h₀ → Fr h₀ L s.heap m → (hd.heap_39 w.params).In h₀ → News h₀ L s.heap rest → Top p ls mean mg mb h₀ → cs.kind = .function →
    HasList nl items rest → items.size ≤ 100 → StrsAre items.toList names → (∀ x ∈ names, EscOk x) → 1 ≤ s.toks → dp + 20 < recursionLimit → un + 120 < cLine →
    (∀ D oD (kvs : List (Str × Value)) h' tk', Fr h₀ L h' m → News h₀ L h' ((D, oD) :: rest) → Obj.IsDictOf (strKind PR w) oD kvs → WOk names kvs → (∀ p ∈ rest, p.1 ≠ D) → Q (.ref D) { s with heap := h', toks := tk' }) →
      wpAny (model PySem.Challenge.rw_xp0004_01.row.prog w) (ktrTop dp un gd cn cs L a ccd cl outer) (call (.ref 150) [.ref nl]) Q E s := by
  w_top off
  k_fill
  intro dp un gd cn cs a ccd cl outer A₀ base h₀ L m s Q E B F X N T hcs hnl hsz hst hok htk hdp hun hret
  refine wpAny_call ?_
  refine' codeA_def (binds := [(Str.ofString "names", .ref nl)]) ?k1 ?k2 ?k3 ?k4 ?k5 ?kA ?kF ?kK ?k6 ?k7 ?k8 ?k9 ?kB ?_ ?c1 ?c2 ?c3 ?c4
  case kA => exact rfl
  case kF => exact rfl
  case kK => assumption
  case k1 => k_asm
  case k2 => k_asm
  case k3 => k_asm
  case k4 => k_asm
  case k5 => k_asm
  case k6 => k_is
  case k7 => k_is
  case k8 => ktr_room
  case k9 => exact BindsTo.of_eq rfl
  case kB => exact locs rfl
  case c4 => decide
  case c1 => exact rfl
  case c2 => exact rfl
  case c3 => exact rfl
  k_whole
  intro g' L' h₁ FG' F₁ N₁ B' X' T' l1
  refine wpAny_execs_cons (wpAny_Return_some ?_)
  k_steps
  refine StopFor.go (DictComp_list (strKind PR w) (F₀ := F₁) (by rfl) (by decide) (by rfl) (by decide) (by rfl) ?_)
  k_steps
  refine ⟨nl, items, rest, fun i kvs nw => nw = rest ∧ WOk (names.take i) kvs ∧ kvs.length ≤ i, rfl, rfl, Nat.le_trans htk (Nat.le_add_right _ _), F₁, N₁, hnl.src, Nat.le_trans hsz (by decide), ⟨rfl, fun _ h => by simp at h, Nat.le_refl _⟩, fun _ _ _ h => h.2.2, ?_, ?_⟩
  · rintro g i v I oI C oC D oD m₂ h₂ tk₂ kvs nw E' htk₂ hi ⟨rfl, hW, hle⟩ hv hC hx hoD F₂ N₂ off ne
    obtain ⟨y, t, hy, rfl⟩ := strs_at hst (i := i) (v := v) (by simpa using hv)
    k_steps
    refine StopFor.go ?_
    refine' esc_spec w mean mg mb p ls _ y t _ _ _ _ _ _ _ _ _ _ _ g' L' _ _ _ _ ?b1 ?b2 ?b3 ?b4 ?b5 ?b6 ?b7 ?b8 ?b9 ?b10 ?b11
    case b1 => exact B'
    case b2 => k_asm
    case b3 => k_asm
    case b4 => k_asm
    case b5 => k_asm
    case b6 => exact rfl
    case b7 => exact hok y (List.mem_of_getElem? hy)
    case b8 => exact htk₂
    case b9 => show dp + 1 + 10 < recursionLimit; omega
    case b10 => show un + 3 + 80 < cLine; omega
    intro tk₃ h₃ tk₄ F₃ N₃
    k_whole
    exact ⟨h₃, tk₄, nw, y, rfl, strKind_is _ _ _ _, F₃, N₃, off, hnl.src, rfl, hW.snoc hy, Nat.le_trans (stored_length_le _ _ _) (Nat.succ_le_succ hle)⟩
  · rintro D oD h₂ tk₂ kvs nw F₂ N₂ hoD o1 ⟨rfl, hW, _⟩
    k_steps
    exact hret D oD kvs _ _ (by k_asm) (by k_asm) hoD (by rwa [List.take_of_length_le (by rw [← hst.length]; simp)] at hW) (off1_ne o1)
end

section
variable {prog : Program} {w : World} {A : Around} {E : Value → Shared → Prop} {s : Shared} {h₀ : Heap} {L D : Addr} {m : Str → Option Value} {news : List (Addr × Obj)} {its : Array Value} {n : Nat} {u : Obj → List (Addr × Obj)}
theorem nw_lappend {v : Value} {Q : Value → Shared → Prop} (F : Fr h₀ L s.heap m) (N : News h₀ L s.heap news) (U : UpdF D (listOf its n) news u) (hz : its.size ≤ 1000)
    (h : ∀ h', Fr h₀ L h' m → News h₀ L h' (u (listOf (its.push v) (n + 1))) → Q .none { s with heap := h' }) : wpAny (model prog w) A (call (.builtin "list.append") [.ref D, v]) Q E s := by
  obtain ⟨pre, post, rfl, hu, a, b⟩ := U.split
  have z := N (D, listOf its n) (List.mem_append.mpr (.inr (.head _)))
  refine append_at z.1 (fun h' hs ho => h h' (F.change hs z.2.1 z.2.2) ?_) (by rw [sizeLine_eq]; omega)
  rw [hu]
  exact news_set N a b hs ho
theorem str_idx {vs : List Value} {ys : List Str} (hS : StrsAre vs ys) {y : Str} (hy : y ∈ ys) : ∃ j, ∃ hj : j < vs.length, j = ys.idxOf y ∧ isStrOf y vs[j] = true ∧ ∀ i (hi : i < vs.length), i < j → isStrOf y vs[i] = false := by
  have hj : ys.idxOf y < vs.length := by rw [hS.length]; exact List.idxOf_lt_length_iff.mpr hy
  have at_ : ∀ i (hi : i < vs.length), ∃ z t, ys[i]? = some z ∧ vs[i] = .str z t := fun i hi => strs_at hS (List.getElem?_eq_getElem hi)
  refine ⟨ys.idxOf y, hj, rfl, ?_, fun i hi hlt => ?_⟩
  · obtain ⟨z, t, hz, e⟩ := at_ _ hj
    rw [e]
    have : ys[ys.idxOf y]? = some y := by
      rw [List.getElem?_eq_getElem (List.idxOf_lt_length_iff.mpr hy), List.getElem_idxOf]
    rw [this] at hz; cases hz
    show (y == y) = true
    exact beq_self_eq_true y
  · obtain ⟨z, t, hz, e⟩ := at_ i hi
    rw [e]
    show (z == y) = false
    have hi' : i < ys.length := by rw [← hS.length]; exact hi
    have := List.not_of_lt_findIdx (p := (· == y)) (xs := ys) (i := i) hlt
    rw [List.getElem?_eq_getElem hi'] at hz; cases hz
    simpa using this
theorem strs_erase : ∀ {vs : List Value} {ys : List Str} (y : Str), StrsAre vs ys → StrsAre (vs.eraseIdx (ys.idxOf y)) (ys.erase y)
  | _, _, y, .nil => .nil
  | _, _, y, .cons z t r => by
    rw [List.idxOf_cons, List.erase_cons]
    by_cases e : z == y
    · rw [e]; exact r
    · have e' : (z == y) = false := by simpa using e
      rw [e']
      exact .cons z t (strs_erase y r)
theorem nw_lremove {y : Str} {t : Tok} {ys : List Str} {Q : Value → Shared → Prop} (F : Fr h₀ L s.heap m) (N : News h₀ L s.heap news) (U : UpdF D (listOf its n) news u) (hS : StrsAre its.toList ys) (hy : y ∈ ys) (hz : its.size ≤ 1000)
    (h : ∀ h' its', StrsAre its'.toList (ys.erase y) → Fr h₀ L h' m → News h₀ L h' (u (listOf its' (n + 1))) → Q .none { s with heap := h' }) : wpAny (model prog w) A (call (.builtin "list.remove") [.ref D, .str y t]) Q E s := by
  obtain ⟨pre, post, rfl, hu, a', b'⟩ := U.split
  have z := N (D, listOf its n) (List.mem_append.mpr (.inr (.head _)))
  obtain ⟨j, hj, hje, b, c⟩ := str_idx hS hy
  have hs : its.toList.length = its.size := Array.length_toList
  have hz' : its.size ≤ sizeLine := by rw [sizeLine_eq]; omega
  refine call_meets PySem.F.slot_list_remove ⟨_, z.1, rfl⟩ PySem.F.entry_list_remove (PySem.F.args_list_remove_2 _ _)
    (MeetsSeq.list_remove D its n (.str y t) (isStrOf y) (fun x hx => eq_isStrOf y t hS x (by simpa using hx)) j (by omega) (by simpa using b) (fun i hi hlt => (c i (by omega) hlt : isStrOf y its.toList[i] = false)) hz')
    ⟨z.1, h _ (its.eraseIdxIfInBounds j) ?_ (F.change (Heap.SameBut.update ..) z.2.1 z.2.2) (by
      rw [hu]
      refine ki_turn _ N a' b' rfl ?_
      have : (its.eraseIdxIfInBounds j).size ≠ its.size := by rw [← Array.length_toList, Array.toList_eraseIdxIfInBounds, List.length_eraseIdx_of_lt hj]; omega
      rw [if_neg (by simpa using this)])⟩
  rw [Array.toList_eraseIdxIfInBounds, hje]
  exact strs_erase y hS
theorem nw_lindex {y : Str} {t : Tok} {ys : List Str} {Q : Value → Shared → Prop} (N : News h₀ L s.heap news) (hm : (D, listOf its n) ∈ news) (hS : StrsAre its.toList ys) (hy : y ∈ ys) (hz : its.size ≤ 1000)
    (h : Q (.int (ys.idxOf y : Nat) s.toks) { s with toks := s.toks + 1 }) : wpAny (model prog w) A (call (.builtin "list.index") [.ref D, .str y t]) Q E s := by
  obtain ⟨j, hj, hje, b, c⟩ := str_idx hS hy
  have hs : its.toList.length = its.size := Array.length_toList
  rw [← hje] at h
  exact call_meets PySem.F.slot_list_index ⟨_, (N _ hm).1, rfl⟩ PySem.F.entry_list_index (PySem.F.args_list_index_2 _ _)
    (MeetsSeq.list_index D its n (.str y t) (isStrOf y) (fun x hx => eq_isStrOf y t hS x (by simpa using hx)) j (by omega) (by omega) (by simpa using b) (fun i hi hlt => (c i (by omega) hlt : isStrOf y its.toList[i] = false))) ⟨(N _ hm).1, h⟩
theorem upd_of {d : Addr} {o : Obj} : ∀ {l : List (Addr × Obj)} {g : Obj → List (Addr × Obj)}, UpdF d o l g → ∀ o', Upd d o o' l (g o')
  | _, _, .head h, _ => .head h
  | _, _, .tail h r, o' => .tail h (upd_of r o')
theorem strs_last {us : List Value} {l : List Str} (hi : StrsAre us l) : 0 < us.length → ∃ y t, us = us.dropLast ++ [y] ∧ y = Value.str (l.getLastD ⟨#[]⟩) t ∧ StrsAre us.dropLast l.dropLast := by
  induction hi with
  | nil => intro h; exact absurd h (Nat.lt_irrefl 0)
  | cons k t r ih =>
    intro _
    cases r with
    | nil => exact ⟨.str k t, t, rfl, rfl, .nil⟩
    | cons k' t' r' =>
      obtain ⟨y, u, h1, h2, h3⟩ := ih (Nat.succ_pos _)
      exact ⟨y, u, congrArg (List.cons (Value.str k t)) h1, h2, .cons k t h3⟩
theorem nw_lpop {ys : List Str} {Q : Value → Shared → Prop} (F : Fr h₀ L s.heap m) (N : News h₀ L s.heap news) (U : UpdF D (listOf its n) news u) (hS : StrsAre its.toList ys) (hne : ys ≠ []) (hz : its.size ≤ 1000)
    (h : ∀ h' its' t, StrsAre its'.toList ys.dropLast → Fr h₀ L h' m → News h₀ L h' (u (listOf its' (n + 1))) → Q (.str (ys.getLastD ⟨#[]⟩) t) { s with heap := h' }) : wpAny (model prog w) A (call (.builtin "list.pop") [.ref D]) Q E s := by
  have hlen : 0 < its.toList.length := by rw [hS.length]; exact List.length_pos_iff.mpr hne
  obtain ⟨y, t, h1, h2, h3⟩ := strs_last hS hlen
  subst h2
  refine kl_pop F N (p := its.toList.dropLast) (y := .str (ys.getLastD ⟨#[]⟩) t) ?_ (upd_of U _) (by rw [sizeLine_eq, Array.length_toList]; omega) fun h' F' N' => h h' its.toList.dropLast.toArray t (by simpa using h3) F' N'
  have e := kpa_last (.str (ys.getLastD ⟨#[]⟩) t) its.toList.dropLast
  rw [← h1] at e
  simpa using e
theorem st_canLayAll0 : ∀ ns : List Str, ns.all PyData.strOk = true → PyData.canLayAll0 (ns.map PyData.str) = true
  | [], _ => rfl
  | x :: r, h => by
    have h' : PyData.strOk x = true ∧ r.all PyData.strOk = true := by simpa using h
    have := st_canLayAll0 r h'.2
    simp [PyData.canLayAll0, PyData.canLay0, this, h'.1]
theorem st_depthAll : ∀ ns : List Str, PyData.depthAll (ns.map PyData.str) = 0
  | [] => rfl
  | _ :: r => by simp [PyData.depthAll, PyData.depth, st_depthAll r]
theorem st_shaped (ns : List Str) (h : ns.all PyData.strOk = true) : SeqAt.shaped (.list (ns.map PyData.str)) = true := by
  simp [SeqAt.shaped, PyData.canLay0, PyData.depth, st_canLayAll0 ns h, st_depthAll]
theorem st_sameAll : ∀ ns ms : List Str, PySem.Spec.sameAll (ns.map PyData.str) (ms.map PyData.str) = decide (ns = ms)
  | [], [] => by simp [PySem.Spec.sameAll]
  | [], _ :: _ => by simp [PySem.Spec.sameAll]
  | _ :: _, [] => by simp [PySem.Spec.sameAll]
  | a :: r, b :: t => by
    have := st_sameAll r t
    simp only [List.map_cons, PySem.Spec.sameAll, PySem.Spec.same, this]
    by_cases h : a = b <;> by_cases h' : r = t <;> simp [h, h']
theorem st_same (ns ms : List Str) : PySem.Spec.same (.list (ns.map PyData.str)) (.list (ms.map PyData.str)) = decide (ns = ms) := by
  simp only [PySem.Spec.same]; exact st_sameAll ns ms
theorem eq_strs {a b : Addr} {xs ys : Array Value} {ns ms : List Str} {Q : Value → Shared → Prop} (ha : s.heap.IsList a xs) (hb : s.heap.IsList b ys) (hi : StrsAre xs.toList ns) (hj : StrsAre ys.toList ms) (oi : ns.all PyData.strOk = true) (oj : ms.all PyData.strOk = true) (hu : A.units + 64 < cLine) (h : Q (.bool (decide (ns = ms))) s) :
    wpAny (model prog w) A (compareOp .Eq (.ref a) (.ref b)) Q E s :=
  eq_dataH_same (reads_newData (ys := xs.toList) ha hi.carried) (reads_newData (ys := ys.toList) hb hj.carried) (st_shaped _ oi) (st_shaped _ oj) hu (SeqAt.noMix_of_shape (.list .str) rfl _ _ (list_map_has fun _ => rfl) (list_map_has fun _ => rfl)) (by rw [st_same]; exact h)
theorem ne_strs {a b : Addr} {xs ys : Array Value} {ns ms : List Str} {Q : Value → Shared → Prop} (ha : s.heap.IsList a xs) (hb : s.heap.IsList b ys) (hi : StrsAre xs.toList ns) (hj : StrsAre ys.toList ms) (oi : ns.all PyData.strOk = true) (oj : ms.all PyData.strOk = true) (hu : A.units + 64 < cLine) (h : Q (.bool (!decide (ns = ms))) s) :
    wpAny (model prog w) A (compareOp .NotEq (.ref a) (.ref b)) Q E s :=
  ne_dataH_same (reads_newData (ys := xs.toList) ha hi.carried) (reads_newData (ys := ys.toList) hb hj.carried) (st_shaped _ oi) (st_shaped _ oj) hu (SeqAt.noMix_of_shape (.list .str) rfl _ _ (list_map_has fun _ => rfl) (list_map_has fun _ => rfl)) (by rw [st_same]; exact h)
end
local macro_rules | `(tactic| walk_at "call builtin:list.append") => `(tactic| (k_dflt (apply nw_lappend; ktr_rel; ktr_rel; ktr_rel; ktr_rel); tb_start))

noncomputable def path (once : List Str) : Str := catS (once.map fun y => Str.ofString "." ++ y)
noncomputable def waysStep (once : List Str) (hb : Str × Str) : List Str := if hb.2 ∈ once then once.erase hb.2 else once ++ [hb.1]
noncomputable def onceAt (pairs : List (Str × Str)) (i : Nat) : List Str := (pairs.take i).foldl waysStep []
noncomputable def waysF (pairs : List (Str × Str)) : List Str := (List.range pairs.length).map fun i => path (onceAt pairs (i + 1))
theorem fold_len : ∀ (l : List (Str × Str)) (o : List Str), (l.foldl waysStep o).length ≤ o.length + l.length
  | [], o => Nat.le_refl _
  | p :: l, o => by
    have := fold_len l (waysStep o p)
    have h2 : (waysStep o p).length ≤ o.length + 1 := by
      unfold waysStep
      split
      · exact Nat.le_trans (List.length_erase_le) (Nat.le_succ _)
      · simp
    simp only [List.foldl_cons, List.length_cons]
    omega
theorem once_len (pairs : List (Str × Str)) (i : Nat) : (onceAt pairs i).length ≤ i := by
  have := fold_len (pairs.take i) []
  rw [List.length_take] at this
  simp only [List.length_nil] at this
  unfold onceAt
  omega
theorem once_succ {pairs : List (Str × Str)} {i : Nat} {p : Str × Str} (h : pairs[i]? = some p) : onceAt pairs (i + 1) = waysStep (onceAt pairs i) p := by
  unfold onceAt
  rw [List.take_add_one, h, List.foldl_append]; rfl
theorem fold_mem : ∀ (l : List (Str × Str)) (o : List Str) (z : Str), z ∈ l.foldl waysStep o → z ∈ o ∨ ∃ q ∈ l, z = q.1
  | [], o, z, h => .inl h
  | p :: l, o, z, h => by
    rcases fold_mem l (waysStep o p) z h with h | ⟨q, hq, e⟩
    · unfold waysStep at h
      split at h
      · exact .inl (List.mem_of_mem_erase h)
      · rcases List.mem_append.mp h with h | h
        · exact .inl h
        · exact .inr ⟨p, .head _, by simpa using h⟩
    · exact .inr ⟨q, .tail _ hq, e⟩
theorem once_mem (pairs : List (Str × Str)) (i : Nat) (z : Str) (h : z ∈ onceAt pairs i) : ∃ q ∈ pairs, z = q.1 := by
  rcases fold_mem _ _ z h with h | ⟨q, hq, e⟩
  · nomatch h
  · exact ⟨q, List.mem_of_mem_take hq, e⟩
theorem sum_le : ∀ (l : List Str) (n : Nat), (∀ z ∈ l, z.length ≤ n) → ((l.map (Str.ofString "." ++ ·)).map (·.length)).sum ≤ (n + 1) * l.length
  | [], n, _ => by simp
  | z :: l, n, h => by
    have h1 := sum_le l n fun q hq => h q (.tail _ hq)
    have h2 := h z (.head _)
    have h3 : (Str.ofString "." ++ z).length = 1 + z.length := by
      show ((Str.ofString "." ++ z).cps).size = _
      rw [Str.cps_append, Array.size_append]; rfl
    simp only [List.map_cons, List.sum_cons, List.length_cons, Nat.mul_add, Nat.mul_one, h3]
    omega
theorem once_sum (pairs : List (Str × Str)) (i : Nat) (hs : ∀ x ∈ pairs, x.1.length ≤ 100) : (((onceAt pairs i).map (Str.ofString "." ++ ·)).map (·.length)).sum ≤ 101 * i := by
  have h1 := sum_le (onceAt pairs i) 100 fun z hz => by
    obtain ⟨q, hq, rfl⟩ := once_mem pairs i z hz
    exact hs q hq
  have h2 := once_len pairs i
  have : (100 + 1) * (onceAt pairs i).length ≤ 101 * i := Nat.mul_le_mul_left _ h2
  omega
theorem strs_size {its : Array Value} {ys : List Str} (h : StrsAre its.toList ys) : its.size = ys.length := by rw [← h.length, Array.length_toList]
theorem ways_take {pairs : List (Str × Str)} {i : Nat} (hi : i < pairs.length) : (waysF pairs).take (i + 1) = (waysF pairs).take i ++ [catS ((onceAt pairs (i + 1)).map (Str.ofString "." ++ ·))] := by
  rw [List.take_add_one]
  congr 1
  simp [waysF, hi, path]
/-- A list object of pairs of strs, its tuples in the ledger. -/
noncomputable def PairsAt (l : Addr) (items : Array Value) (pairs : List (Str × Str)) (news : List (Addr × Obj)) : Prop :=
  HasList l items news ∧ items.size = pairs.length ∧ ∀ (i : Nat) (h b : Str), pairs[i]? = some (h, b) → ∃ T ta tb, items[i]? = some (Value.ref T) ∧ (T, tupO h b ta tb) ∈ news
theorem ne_of_allLt {d : Nat} : ∀ {l : List (Addr × Obj)}, AllLt d l → ∀ p ∈ l, p.1 ≠ d
  | [], _, _, h => nomatch h
  | _ :: _, x, p, h => by
    rcases List.mem_cons.mp h with rfl | h
    · exact Nat.ne_of_lt x.1
    · exact ne_of_allLt x.2 p h
theorem HasList.sub {l : Addr} {items : Array Value} {news news' : List (Addr × Obj)} (H : HasList l items news) (hs : ∀ p ∈ news, p ∈ news') : HasList l items news' := by
  obtain ⟨o, k, hm, r⟩ := H
  exact ⟨o, k, hs _ hm, r⟩
noncomputable def wmap (l D O : Addr) (ob oh : Option Value) : Str → Option Value := fun y => if y = Str.ofString "back" then ob else if y = Str.ofString "here" then oh else if y = Str.ofString "due" then some (.ref D) else if y = Str.ofString "once" then some (.ref O) else List.lookup y [(Str.ofString "pairs", Value.ref l)].reverse
structure WyMid (pairs : List (Str × Str)) (g' : Heap) (L' : Addr) (m : Str → Option Value) (it : Addr) (oi : Obj) (D O : Addr) (dits : Array Value) (dk : Nat) (rest : List (Addr × Obj)) (i : Nat) (s : Shared) (f : Flow) (s' : Shared) : Prop where
  next : f = .next
  here : ∃ (h : Heap) (tk : Nat) (oits : Array Value) (ok : Nat), s' = { s with heap := h, toks := tk } ∧ Fr g' L' h m ∧ News g' L' h ((it, oi) :: (D, listOf dits dk) :: (O, listOf oits ok) :: rest) ∧ StrsAre oits.toList (onceAt pairs (i + 1))
section
local macro_rules | `(tactic| walk_at "exec If") => `(tactic| apply StopFor.out)
local macro_rules | `(tactic| k_mem) => `(tactic| assumption)
set_option maxHeartbeats 4000000 in
theorem ways_spec (w : World) (mean : ExcName → Option Value) (mg mb : Str → Option Value) (p : Program) (ls : List PySem.Str) (rest : List (Addr × Obj)) (l : Addr) (items : Array Value) (pairs : List (Str × Str)) :
  GClaim w mean mg mb 162 [.ref l] (PairsAt l items pairs rest ∧ pairs.length ≤ 100 ∧ ∀ x ∈ pairs, x.1.length ≤ 100) p ls rest
    (fun h₀ L h m s Q => ∀ D its k h' tk', Fr h₀ L h' m → News h₀ L h' ((D, listOf its k) :: rest) → StrsAre its.toList (waysF pairs) → (∀ p ∈ rest, p.1 ≠ D) → Q (.ref D) { s with heap := h', toks := tk' }) := by
  dsimp only [GClaim]
  w_top off
  k_fill
  intro dp un gd cn cs a ccd cl outer A₀ base h₀ L m s Q E B F X N T hcs hpre hdp hun hret
  obtain ⟨⟨hP1, hP2, hP3⟩, hlen, hshort⟩ := hpre
  refine wpAny_call ?_
  refine' codeA_def (binds := [(Str.ofString "pairs", .ref l)]) ?k1 ?k2 ?k3 ?k4 ?k5 ?kA ?kF ?kK ?k6 ?k7 ?k8 ?k9 ?kB ?_ ?c1 ?c2 ?c3 ?c4
  case kA => exact rfl
  case kF => exact rfl
  case kK => assumption
  case k1 => k_asm
  case k2 => k_asm
  case k3 => k_asm
  case k4 => k_asm
  case k5 => k_asm
  case k6 => k_is
  case k7 => k_is
  case k8 => ktr_room
  case k9 => exact BindsTo.of_eq rfl
  case kB => exact locs rfl
  case c4 => decide
  case c1 => exact rfl
  case c2 => exact rfl
  case c3 => exact rfl
  k_whole
  intro g' L' h₁ FG' F₁ N₁ B' X' T' l1
  replace l1 := allLt_of l1
  k_steps

  rename_i O ha lO hb D hc lD h₂ F₂ N₂
  refine StopFor.go (wpAny_For ?_)
  k_steps
  have hOr : ∀ p ∈ rest, p.1 ≠ O := fun p hp => Nat.ne_of_lt (lO p hp)
  have hDr : ∀ p ∈ rest, p.1 ≠ D := ne_of_allLt lD.2
  refine list_start (l := l) (items := items) (news := (D, listOf #[] 0) :: (O, listOf #[] 0) :: rest) (hP1.sub fun p hp => .tail _ (.tail _ hp)) F₂ N₂ fun it h₃ oi F₃ hoi N₃ l₃ => ?_
  refine for_iterT (m₀ := wmap l D O none none) (iter_list (l := l) (items := items) rfl) (fun i m nw g dd o => g = s.gens ∧ dd = s.drawn ∧ o = s.os ∧ ∃ dits dk oits ok oh ob, nw = (D, listOf dits dk) :: (O, listOf oits ok) :: rest ∧ StrsAre oits.toList (onceAt pairs i) ∧ StrsAre dits.toList ((waysF pairs).take i) ∧ m = wmap l D O ob oh)
    (fr_congr F₃ ?_) hoi N₃ (fun p hp => Nat.ne_of_lt (l₃ p hp)) ?_ ?_ ?_ ?_ ?_
  · intro y
    unfold wmap
    by_cases e1 : y = Str.ofString "back"
    · subst e1; rfl
    · by_cases e2 : y = Str.ofString "here"
      · subst e2; rfl
      · rw [if_neg e1, if_neg e2]
  · rintro i m nw g dd o ⟨_, _, _, dits, dk, oits, ok, oh, ob, rfl, _⟩
    exact hP1.sub fun p hp => .tail _ (.tail _ hp)
  · exact ⟨rfl, rfl, rfl, _, _, _, _, none, none, rfl, .nil, .nil, rfl⟩
  · rintro h₄ g₄ d₄ tk₄ o₄ m₄ news₄ ⟨rfl, rfl, rfl, dits, dk, oits, ok, oh, ob, rfl, hO, hD, rfl⟩ F₄ N₄
    delta wmap at F₄; (try dsimp only at F₄)
    k_steps
    refine hret D dits dk _ _ (by k_asm) (cb_drop (by assumption) (by kcj_all)) ?_ hDr
    rwa [hP2, List.take_of_length_le (by simp [waysF])] at hD
  · rintro i u₅ h₄ g₄ d₄ tk₄ o₄ m₄ news₄ oi₄ hi ⟨rfl, rfl, rfl, dits, dk, oits, ok, oh, ob, rfl, hO, hD, rfl⟩ F₄ N₄ D₄
    delta wmap at F₄; (try dsimp only at F₄)
    have hi' : i < pairs.length := by rw [← hP2]; exact hi
    obtain ⟨⟨hh, bb⟩, hpi⟩ : ∃ x, pairs[i]? = some x := ⟨_, List.getElem?_eq_getElem hi'⟩
    obtain ⟨T₁, ta, tb, hT, hTm⟩ := hP3 i hh bb hpi
    rw [show items.getD i .none = Value.ref T₁ by rw [Array.getD_eq_getD_getElem?, hT]; rfl]
    have hOi : it ≠ O := fun e => D₄ _ (.tail _ (.head _)) e.symm
    have hDi : it ≠ D := fun e => D₄ _ (.head _) e.symm
    have hri : ∀ p ∈ rest, p.1 ≠ it := fun p hp => D₄ p (.tail _ (.tail _ hp))
    have hoz : oits.size ≤ 1000 := by have := strs_size hO; have := once_len pairs i; omega
    have hdz : dits.size ≤ 1000 := by have := strs_size hD; rw [List.length_take] at this; omega
    k_steps
    rename_i F₅ N₅
    have F₆ := fr_congr (m' := wmap l D O (some (.str bb tb)) (some (.str hh ta))) F₅ (fun y => by
      unfold wmap
      by_cases e1 : y = Str.ofString "back"
      · simp only [if_pos e1]
      · by_cases e2 : y = Str.ofString "here"
        · simp only [if_neg e1, if_pos e2]
        · simp only [if_neg e1, if_neg e2])
    clear F₅
    unfold wmap at F₆; (try dsimp only at F₆)
    refine StopFor.go (wpAny_mono (?hm : wpAny _ _ _ (WyMid pairs g' L' (wmap l D O (some (.str bb tb)) (some (.str hh ta))) it oi₄ D O dits dk rest i ⟨h₄, s.gens, s.drawn, tk₄, s.os⟩) _ _) ?hn fun _ _ x => x)
    case hm =>
      refine wpAny_If ?_
      k_steps
      · rename_i hin
        refine nw_lremove F₆ N₅ (by k_updF) hO (by simpa using hin) hoz fun h₇ its₇ S₇ F₇ N₇ => ?_
        (try dsimp only at N₇)
        clear F₆ N₅
        k_steps
        exact ⟨rfl, _, _, its₇, _, rfl, F₇, N₇, by rw [once_succ hpi, waysStep, if_pos (by simpa using hin)]; exact S₇⟩
      · rename_i hin _ _ _
        refine ⟨rfl, _, _, _, _, rfl, by assumption, by assumption, ?_⟩
        rw [once_succ hpi, waysStep, if_neg (by simp at hin; exact fun hm => hin _ hm rfl), Array.toList_push]; exact kct_snoc hO
    case hn =>
      clear hO hoz F₆ N₅
      intro f s₅ hm
      obtain ⟨rfl, h5, tk5, its2, ok2, rfl, F₅, N₅, hS2⟩ := hm
      delta wmap at F₅; (try dsimp only at F₅)
      try dsimp only
      k_steps
      have hz2 := once_len pairs (i + 1)
      refine src_list rfl F₅ N₅ (.inr ⟨_, .tail _ (.tail _ (.head _)), rfl, _, rfl⟩) (by have := strs_size hS2; omega) fun g => comp_fix (fun j ys => StrsAre ys (((onceAt pairs (i + 1)).take j).map (Str.ofString "." ++ ·))) .nil ?_ ?_
      · intro ys hys
        rw [List.take_of_length_le (Nat.le_of_eq (strs_size hS2).symm)] at hys
        unfold LCg.FinE
        intro D₂ h₇ tk₇ F₇ N₇ o7
        k_steps
        refine join_list ⟨_, (N₇ _ (.head _)).1, rfl, _, rfl⟩ hys ?_ fun t₈ k₈ => ?_
        · rw [show (Str.ofString "").length = 0 from rfl, Nat.mul_zero, Nat.add_zero]
          have := once_sum pairs (i + 1) hshort
          omega
        rw [join_emp]
        have hq1 : @Ne Nat D₂ it := Ne.symm o7.1
        have hq2 : @Ne Nat D₂ D := Ne.symm o7.2.1
        have hq3 : @Ne Nat D₂ O := Ne.symm o7.2.2.1
        have hDi2 : @Ne Nat it D := hDi
        have hq4 := off1_ne o7.2.2.2
        k_steps
        rename_i F₈ N₈
        refine ⟨wmap l D O (some (.str bb tb)) (some (.str hh ta)), _, F₈, news_sub N₈ (fun p hp => .tail _ hp), ?_, rfl, rfl, rfl, _, _, _, _, _, _, rfl, hS2, ?_, rfl⟩
        · intro p hp
          rcases List.mem_cons.mp hp with rfl | hp
          · exact Ne.symm hDi
          · rcases List.mem_cons.mp hp with rfl | hp
            · exact Ne.symm hOi
            · exact hri p hp
        · rw [Array.toList_push, ways_take hi']
          exact kct_snoc hD
      · rintro j v I oI C oC D' m₂ h₆ tk₆ ys E' hj hys hv hC hx F₆ N₆ off ne
        obtain ⟨z, tz, hz, rfl⟩ := strs_at hS2 (i := j) (v := v) (by rw [Array.getElem?_toList]; exact hv)
        have hzl : z.length ≤ 100 := by
          obtain ⟨q, hq, rfl⟩ := once_mem pairs (i + 1) z (List.mem_of_getElem? hz)
          exact hshort q hq
        k_steps
        refine ⟨h₆, _, _, rfl, F₆, N₆, off, .inr ⟨_, .tail _ (.tail _ (.head _)), rfl, _, rfl⟩, rfl, ?_⟩
        have e : ((onceAt pairs (i + 1)).take (j + 1)).map (Str.ofString "." ++ ·) = ((onceAt pairs (i + 1)).take j).map (Str.ofString "." ++ ·) ++ [Str.ofString "." ++ z] := by
          rw [List.take_add_one, hz, List.map_append]; rfl
        rw [e]
        exact kct_snoc hys
  · intro v i oi s Q E hoi hg hq
    exact owned_list hg hoi.1 hoi.2 hq
end

noncomputable def letter (i : Nat) : Str := Txt.item (Str.ofString "abcd") (i : Int)
theorem strOk_of {x : Str} (h : x.cps.toList.all (fun c => decide (c < 0x110000)) = true) : PyData.strOk x = true := by
  unfold PyData.strOk; rw [← Array.all_toList]; exact h
noncomputable def signF (d k : Int) : Str :=
  if (d.fdiv 2 + k).fmod 9 < 7 then Txt.item (Str.ofString "\t\n\r&<>\"") ((d.fdiv 2 + k).fmod 9)
  else if (Builtin.Str.occurrences (Str.ofString ".:abcd") ⟨#[((d.fdiv 18).fmod 128).toNat]⟩ 0 (Str.ofString ".:abcd").length 1).isEmpty = true then ⟨#[((d.fdiv 18).fmod 128).toNat]⟩ else Str.ofString "-"
theorem str_len_append (a b : Str) : (a ++ b).length = a.length + b.length := by
  show (a.cps ++ b.cps).size = _
  rw [Array.size_append]; rfl
theorem signF_a (d k : Int) (h : (d.fdiv 2 + k).fmod 9 < 7) : signF d k = Txt.item (Str.ofString "\t\n\r&<>\"") ((d.fdiv 2 + k).fmod 9) := if_pos h
theorem signF_b (d k : Int) (h : ¬ (d.fdiv 2 + k).fmod 9 < 7) (h' : (Builtin.Str.occurrences (Str.ofString ".:abcd") ⟨#[((d.fdiv 18).fmod 128).toNat]⟩ 0 (Str.ofString ".:abcd").length 1).isEmpty = true) : signF d k = ⟨#[((d.fdiv 18).fmod 128).toNat]⟩ := (if_neg h).trans (if_pos h')
theorem signF_c (d k : Int) (h : ¬ (d.fdiv 2 + k).fmod 9 < 7) (h' : (Builtin.Str.occurrences (Str.ofString ".:abcd") ⟨#[((d.fdiv 18).fmod 128).toNat]⟩ 0 (Str.ofString ".:abcd").length 1).isEmpty = false) : signF d k = Str.ofString "-" := (if_neg h).trans (if_neg (by rw [h']; decide))
theorem signF_ok (d k : Int) : (signF d k).length = 1 ∧ PyData.strOk (signF d k) = true := by
  unfold signF
  generalize hc : (d.fdiv 2 + k).fmod 9 = c
  have h0 : 0 ≤ c := by rw [← hc]; exact Int.fmod_nonneg_of_pos _ (by decide)
  generalize he : (d.fdiv 18).fmod 128 = e
  have h1 : 0 ≤ e := by rw [← he]; exact Int.fmod_nonneg_of_pos _ (by decide)
  have h2 : e < 128 := by rw [← he]; exact Int.fmod_lt_of_pos _ (by decide)
  split
  · rename_i h7
    rcases seven h0 h7 with rfl | rfl | rfl | rfl | rfl | rfl | rfl <;> exact ⟨by decide, strOk_of (by decide)⟩
  · split
    · refine ⟨rfl, ?_⟩
      show (#[e.toNat] : Array Nat).all _ = true
      simp
      omega
    · exact ⟨by decide, strOk_of (by decide)⟩
theorem letter_ok {i : Nat} (h : i < 4) : (letter i).length = 1 ∧ PyData.strOk (letter i) = true := by
  rcases four h with rfl | rfl | rfl | rfl <;> exact ⟨by decide, strOk_of (by decide)⟩
theorem strOk_append {a b : Str} (ha : PyData.strOk a = true) (hb : PyData.strOk b = true) : PyData.strOk (a ++ b) = true := by
  show (a.cps ++ b.cps).all _ = true
  rw [Array.all_append]
  simp only [Bool.and_eq_true]
  exact ⟨ha, hb⟩
noncomputable def ringStep (n : Nat) (st : Str × List Str × Nat) (kd : Nat × Int) : Str × List Str × Nat :=
  if st.2.2 < n ∧ (st.2.1 = [] ∨ kd.2.fmod 2 = 1) then
    (st.1 ++ (signF kd.2 (kd.1 : Nat) ++ letter st.2.2), st.2.1 ++ [letter st.2.2 ++ signF kd.2 (kd.1 : Nat)], st.2.2 + 1)
  else (st.1 ++ st.2.1.getLastD ⟨#[]⟩, st.2.1.dropLast, st.2.2)
noncomputable def ringL (n : Nat) (ds : List Int) : Str × List Str × Nat := ((List.range ds.length).zip ds).foldl (ringStep n) (Str.ofString "", [], 0)
theorem ringL_snoc (n : Nat) (ds : List Int) (d : Int) : ringL n (ds ++ [d]) = ringStep n (ringL n ds) (ds.length, d) := by
  unfold ringL
  rw [List.length_append, List.length_singleton, List.range_succ, List.zip_append (by simp), List.foldl_append]
  rfl
structure RInv (n : Nat) (st : Str × List Str × Nat) (i : Nat) : Prop where
  le : st.2.2 ≤ n
  len : st.2.1.length + i = 2 * st.2.2
  ok : st.2.1.all PyData.strOk = true
  sz : st.1.length = 2 * i
  two : ∀ y ∈ st.2.1, y.length = 2
theorem RInv.step {n : Nat} {st : Str × List Str × Nat} {i : Nat} (h : RInv n st i) (hi : i < 2 * n) (hn : n ≤ 4) (d : Int) : RInv n (ringStep n st (i, d)) (i + 1) := by
  obtain ⟨st1, st2, op⟩ := st
  obtain ⟨h1, h2, h3, h4, h5⟩ := h
  dsimp only at h1 h2 h3 h4 h5
  obtain ⟨s1, s2⟩ := signF_ok d (i : Nat)
  unfold ringStep
  dsimp only
  split
  · rename_i hc
    obtain ⟨l1, l2⟩ := letter_ok (i := op) (by omega)
    refine ⟨by dsimp only; omega, by dsimp only; rw [List.length_append, List.length_singleton]; omega, ?_, by dsimp only; rw [str_len_append, str_len_append, s1, l1]; omega, ?_⟩
    · dsimp only
      rw [List.all_append, h3]
      simp [strOk_append l2 s2]
    · intro y hy
      dsimp only at hy
      rcases List.mem_append.mp hy with hy | hy
      · exact h5 y hy
      · rw [List.mem_singleton.mp hy, str_len_append, s1, l1]
  · rename_i hc
    have hne : st2 ≠ [] := by
      rintro rfl
      exact hc ⟨by simp at h2; omega, .inl rfl⟩
    have hl : st2.getLastD ⟨#[]⟩ ∈ st2 := by
      rw [List.getLastD_eq_getLast?, List.getLast?_eq_some_getLast hne]; exact List.getLast_mem hne
    have hp := List.length_pos_iff.mpr hne
    refine ⟨h1, by dsimp only; rw [List.length_dropLast]; omega, ?_, by dsimp only; rw [str_len_append, h5 _ hl]; omega, fun y hy => h5 y (List.dropLast_subset _ hy)⟩
    dsimp only
    rw [List.all_eq_true] at h3 ⊢
    exact fun y hy => h3 y (List.dropLast_subset _ hy)
theorem ints_of : ∀ {xs : List Value}, (∀ x ∈ xs, ∃ n t, x = Value.int n t) → ∃ ns, IntsAre xs ns
  | [], _ => ⟨[], .nil⟩
  | x :: xs, h => by
    obtain ⟨n, t, rfl⟩ := h x (.head _)
    obtain ⟨ns, hn⟩ := ints_of fun y hy => h y (.tail _ hy)
    exact ⟨n :: ns, .cons n t hn⟩
theorem ints_pick {vs : List Value} {ns : List Int} (hi : IntsAre vs ns) (a b c : Option Int) : ∃ ms, IntsAre (slicePick vs.toArray a b c).toList ms := by
  refine ints_of fun x hx => ?_
  unfold slicePick at hx
  rw [List.toList_toArray] at hx
  obtain ⟨i, _, hi'⟩ := List.mem_filterMap.mp hx
  obtain ⟨n, t, rfl, _⟩ := IntsAre.at hi _ x (by simpa using hi')
  exact ⟨n, t, rfl⟩
noncomputable def rmap (l : Addr) (size : Nat) (t : Tok) (Wd : Addr) (rg : Str) (rt : Tok) (op : Nat) (ot : Tok) (ok od ow os : Option Value) : Str → Option Value := fun y =>
  if y = Str.ofString "sign" then os else if y = Str.ofString "what" then ow else if y = Str.ofString "drawn" then od else if y = Str.ofString "k" then ok else
  if y = Str.ofString "opened" then some (.int (op : Int) ot) else if y = Str.ofString "ways" then some (.ref Wd) else if y = Str.ofString "ring" then some (.str rg rt) else List.lookup y [(Str.ofString "script", Value.ref l), (Str.ofString "size", .int (size : Int) t)].reverse
section
variable {M : Model} {A : Around} {E : Value → Shared → Prop} {s : Shared} {env : Env} {h₀ : Heap} {L : Addr} {m : Str → Option Value} {news : List (Addr × Obj)}
theorem if_join {test : Expr} {thn els : List Stmt} {pos : Pos} {Q : Flow → Shared → Prop} (c : Bool) (F : Fr h₀ L s.heap m) (N : News h₀ L s.heap news)
    (hc : wpAny M A (isTrue test env (eval test env)) (fun k s₂ => KJoinC c h₀ L m news s k s₂) E s)
    (h1 : c = true → ∀ h tk, Fr h₀ L h m → News h₀ L h news → wpAny M A (execs thn env) Q E { s with heap := h, toks := tk })
    (h2 : c = false → ∀ h tk, Fr h₀ L h m → News h₀ L h news → wpAny M A (execs els env) Q E { s with heap := h, toks := tk }) :
    wpAny M A (exec (.If test thn els pos) env) Q E s := by
  refine wpAny_If (wpAny_mono hc (fun k s₂ hkc => ?_) fun _ _ h => h)
  obtain ⟨rfl, h, tk, rfl, F', N'⟩ := hkc
  cases k with
  | true => exact h1 rfl h tk F' N'
  | false => exact h2 rfl h tk F' N'
structure JoinS (x v : Str) (h₀ : Heap) (L : Addr) (m : Str → Option Value) (news : List (Addr × Obj)) (s : Shared) (f : Flow) (s' : Shared) : Prop where
  next : f = .next
  here : ∃ (t : Tok) (h : Heap) (tk : Nat), s' = { s with heap := h, toks := tk } ∧ Fr h₀ L h (fun y => if y = x then some (.str v t) else m y) ∧ News h₀ L h news
theorem JoinS.over {x v : Str} {o : Option Value} {t : Tok} {h : Heap} {tk : Nat} (F : Fr h₀ L h (fun y => if y = x then some (.str v t) else if y = x then o else m y)) (N : News h₀ L h news) :
    JoinS x v h₀ L m news s .next { s with heap := h, toks := tk } :=
  ⟨rfl, t, h, tk, rfl, fr_congr F (fun y => by by_cases e : y = x <;> simp [e]), N⟩
theorem stmt_join {st : Stmt} {Q : Flow → Shared → Prop} (x v : Str) (F : Fr h₀ L s.heap m) (N : News h₀ L s.heap news)
    (hc : wpAny M A (exec st env) (fun k s₂ => JoinS x v h₀ L m news s k s₂) E s)
    (hk : ∀ t h tk, Fr h₀ L h (fun y => if y = x then some (.str v t) else m y) → News h₀ L h news → Q .next { s with heap := h, toks := tk }) :
    wpAny M A (exec st env) Q E s := by
  refine wpAny_mono hc (fun k s₂ hkc => ?_) fun _ _ h => h
  obtain ⟨rfl, t, h, tk, rfl, F', N'⟩ := hkc
  exact hk t h tk F' N'
end
section
local macro_rules | `(tactic| k_mem) => `(tactic| assumption)
local macro_rules | `(tactic| walk_at "exec If") => `(tactic| apply StopFor.out)
set_option maxHeartbeats 8000000 in
theorem ring_spec (w : World) (mean : ExcName → Option Value) (mg mb : Str → Option Value) (p : Program) (ls : List PySem.Str) (rest : List (Addr × Obj)) (l : Addr) (vs : List Value) (ns : List Int) (size : Nat) (t : Tok) :
  ∀ (dp un : Nat) (gd : Option (List Code)) (cn : Str) (cs : Scope) (a : Addr) (ccd : Value) (cl : List (Str × Addr)) (outer : List Env) (A₀ : Around) (base h₀ : Heap) (L : Addr) (m : Str → Option Value) (s : Shared) (Q E : Value → Shared → Prop),
    Below A₀ base outer h₀ → Fr h₀ L s.heap m → (hd.heap_39 w.params).In h₀ → News h₀ L s.heap rest → Top p ls mean mg mb h₀ → cs.kind = .function →
    base.IsList l vs.toArray → IntsAre vs ns → ns.length ≤ 63 → (size = 3 ∨ size = 4) → dp + 10 < recursionLimit → un + 80 < cLine →
    (∀ ds tk h' tk', ds.length = 2 * size → Fr h₀ L h' m → News h₀ L h' rest → Q (.str (ringL size ds).1 tk) { s with heap := h', toks := tk' }) →
      wpAny (model PySem.Challenge.rw_xp0004_01.row.prog w) (ktrTop dp un gd cn cs L a ccd cl outer) (call (.ref 140) [.ref l, .int (size : Int) t]) Q E s := by
  w_top off
  k_fill
  intro dp un gd cn cs a ccd cl outer A₀ base h₀ L m s Q E B F X N T hcs hl hi hn hsz hdp hun hret
  refine wpAny_call ?_
  refine' codeA_def (binds := [(Str.ofString "script", .ref l), (Str.ofString "size", .int (size : Int) t)]) ?k1 ?k2 ?k3 ?k4 ?k5 ?kA ?kF ?kK ?k6 ?k7 ?k8 ?k9 ?kB ?_ ?c1 ?c2 ?c3 ?c4
  case kA => exact rfl
  case kF => exact rfl
  case kK => assumption
  case k1 => k_asm
  case k2 => k_asm
  case k3 => k_asm
  case k4 => k_asm
  case k5 => k_asm
  case k6 => k_is
  case k7 => k_is
  case k8 => ktr_room
  case k9 => exact BindsTo.of_eq rfl
  case kB => exact locs rfl
  case c4 => decide
  case c1 => exact rfl
  case c2 => exact rfl
  case c3 => exact rfl
  k_whole
  intro g' L' h₁ FG' F₁ N₁ B' X' T' l1
  replace l1 := allLt_of l1
  have hl' : g'.IsList l vs.toArray := by
    obtain ⟨o, ho, r⟩ := hl
    exact ⟨o, B'.stays _ _ ho, r⟩
  have hsI : (3 : Int) ≤ size := by omega
  have hsI2 : (size : Int) ≤ 4 := by omega
  k_steps
  refine StopFor.go (wpAny_For ?_)
  k_steps
  rename_i Wd _ lW _ _ _ _ _ _ _ _ _ hR F₂ N₂ _
  have hnb : Builtin.Range.rangeSize 0 (2 * (size : Int)) 1 = ((2 * size : Nat) : Int) := rsize_up (k := 2 * size) (by decide) (by omega)
  refine range_start hR (range_small (by decide) (by decide) (by omega) (by omega) (by decide) (by decide) hnb (by omega)) hnb F₂ N₂ fun it h₃ F₃ N₃ l₃ => ?_
  refine for_iter (m₀ := rmap l size t Wd (Str.ofString "") (s.toks + 2) 0 tk none none none none) (iter_range rfl) (fun i m nw g dd o => g = s.gens ∧ dd = s.drawn ∧ o = s.os ∧ ∃ (ds : List Int) (its : Array Value) (wk : Nat) (rt ot : Tok) (ok od ow os : Option Value), ds.length = i ∧ RInv size (ringL size ds) i ∧ nw = (Wd, listOf its wk) :: rest ∧ StrsAre its.toList (ringL size ds).2.1 ∧ m = rmap l size t Wd (ringL size ds).1 rt (ringL size ds).2.2 ot ok od ow os)
    (fr_congr F₃ ?_) rfl N₃ (fun p hp => Nat.ne_of_lt (l₃ p hp)) (fun _ _ _ _ _ _ _ => trivial) ?_ ?_ ?_
  · intro y
    unfold rmap
    by_cases e1 : y = Str.ofString "sign"
    · subst e1; rfl
    · by_cases e2 : y = Str.ofString "what"
      · subst e2; rfl
      · by_cases e3 : y = Str.ofString "drawn"
        · subst e3; rfl
        · by_cases e4 : y = Str.ofString "k"
          · subst e4; rfl
          · rw [if_neg e1, if_neg e2, if_neg e3, if_neg e4]; rfl
  · exact ⟨rfl, rfl, rfl, [], _, _, _, _, none, none, none, none, rfl, ⟨Nat.zero_le _, rfl, rfl, rfl, fun _ h => nomatch h⟩, rfl, .nil, rfl⟩
  · rintro h₄ g₄ d₄ tk₄ o₄ m₄ news₄ ⟨rfl, rfl, rfl, ds, its, wk, rt, ot, ok, od, ow, os, hds, hI, rfl, hS, rfl⟩ F₄ N₄
    delta rmap at F₄; (try dsimp only at F₄)
    k_steps
    exact hret ds _ _ _ hds (by k_asm) (cb_drop (by assumption) (by kcj_all))
  · rintro i u₅ h₄ g₄ d₄ tk₄ o₄ m₄ news₄ oi₄ hik ⟨rfl, rfl, rfl, ds, its, wk, rt, ot, ok, od, ow, os, hds, hI, rfl, hS, rfl⟩ F₄ N₄ D₄
    delta rmap at F₄; (try dsimp only at F₄)
    have hWi : it ≠ Wd := fun e => D₄ _ (.head _) e.symm
    have hri : ∀ p ∈ rest, p.1 ≠ it := fun p hp => D₄ p (.tail _ hp)
    have hri' : ∀ p ∈ rest, p.1 ≠ Wd := fun p hp => Nat.ne_of_lt (lW p hp)
    clear hR F₂ N₂ hnb F₃ N₃ l₃
    obtain ⟨hI1, hI2, hI3, hI4, hI5⟩ := id hI
    generalize hop : (ringL size ds).2.2 = op at *
    generalize hrg : (ringL size ds).1 = rg at *
    generalize hwy : (ringL size ds).2.1 = wy at *
    have hits : its.size = wy.length := by rw [← Array.length_toList]; exact hS.length
    generalize hkk : 0 + (i : Int) * 1 = kk
    k_steps
    rename_i F₅ N₅
    obtain ⟨ms, hms⟩ := ints_pick hi (some kk) none (some (2 * (size : Int)))
    refine LSm.sum_ints F₅ N₅ rfl ⟨_, (N₅ _ (.head _)).1, rfl, _, rfl⟩ hms fun h₆ tk₆ t₆ F₆ N₆ => ?_
    have N₇ := news_sub N₆ (fun p hp => List.mem_cons_of_mem _ hp)
    clear N₅ N₆
    generalize ms.sum = sm
    k_steps
    rename_i F₈ N₈
    refine StopFor.go (if_join (decide (op < size ∧ (wy = [] ∨ (sm + kk.fdiv 2).fmod 2 = 1))) F₈ N₈ ?_ ?_ ?_)
    · skip
      by_cases hlt : op < size
      · k_steps
        rename_i F₉ N₉ l₉
        refine eq_strs (ns := wy) (ms := []) ⟨_, (N₉ _ (.tail _ (.tail _ (.head _)))).1, rfl, _, rfl⟩ ⟨_, (N₉ _ (.head _)).1, rfl, _, rfl⟩ hS .nil hI3 rfl (by show un + 3 + 64 < cLine; omega) ?_
        have N₉' := news_sub N₉ (fun p hp => List.mem_cons_of_mem _ hp)
        clear N₉
        by_cases hw : wy = []
        · rw [decide_eq_true hw]
          k_steps
          exact ⟨(decide_eq_true ⟨hlt, .inl hw⟩).symm, _, _, rfl, F₉, N₉'⟩
        · rw [decide_eq_false hw]
          k_steps
          · rename_i ho
            exact ⟨(decide_eq_true ⟨hlt, .inr ho⟩).symm, _, _, rfl, F₉, N₉'⟩
          · rename_i ho
            exact ⟨(decide_eq_false fun h => h.2.elim hw ho).symm, _, _, rfl, F₉, N₉'⟩
      · k_steps
        exact ⟨(decide_eq_false fun h => hlt h.1).symm, _, _, rfl, F₈, N₈⟩
    · clear F₈ N₈
      intro hc h₉ tk₉ F₉ N₉
      replace hc := of_decide_eq_true hc
      k_steps
      rename_i F₈ N₈
      refine StopFor.go (stmt_join (Str.ofString "sign") (signF (sm + kk.fdiv 2) kk) F₈ N₈ ?_ ?_)
      · skip
        refine wpAny_If ?_
        k_steps
        · rw [signF_a (sm + kk.fdiv 2) kk (by assumption)]
          exact ⟨rfl, _, _, _, rfl, by assumption, by assumption⟩
        · refine StopFor.go (wpAny_If ?_)
          k_steps
          · rw [signF_b (sm + kk.fdiv 2) kk (by assumption) (by assumption)]
            exact ⟨rfl, _, _, _, rfl, by assumption, by assumption⟩
          · rw [signF_c (sm + kk.fdiv 2) kk (by assumption) (by assumption)]
            exact JoinS.over (by assumption) (by assumption)
      · clear F₈ N₈
        intro t₇ h₇ tk₇ F₇ N₇
        have hs1 := (signF_ok (sm + kk.fdiv 2) kk).1
        k_steps
        rename_i F₉ N₉
        have hst : ringL size (ds ++ [sm + kk.fdiv 2]) = (rg ++ (signF (sm + kk.fdiv 2) kk ++ letter op), wy ++ [letter op ++ signF (sm + kk.fdiv 2) kk], op + 1) := by
          rw [ringL_snoc]; unfold ringStep; rw [hrg, hwy, hop]; simp only [show ((ds.length : Nat) : Int) = kk by rw [hds]; omega]; exact if_pos hc
        have hI' := hI.step hik (by omega) (sm + kk.fdiv 2)
        rw [← hds, ← ringL_snoc] at hI'
        refine ⟨rmap l size t Wd (rg ++ (signF (sm + kk.fdiv 2) kk ++ letter op)) ?rt (op + 1) ?ot ?ok ?od ?ow ?os, _, fr_congr F₉ ?fm, N₉, ?ad, rfl, rfl, rfl, ds ++ [sm + kk.fdiv 2], _, _, ?rt, ?ot, ?ok, ?od, ?ow, ?os, by rw [List.length_append, hds]; rfl, by rw [← hds]; exact hI', rfl, ?ss, by rw [hst]⟩
        case fm =>
          intro y
          unfold rmap
          by_cases e0 : y = Str.ofString "sign"
          · subst e0; rfl
          · by_cases e1 : y = Str.ofString "what"
            · subst e1; rfl
            · by_cases e2 : y = Str.ofString "drawn"
              · subst e2; rfl
              · by_cases e3 : y = Str.ofString "k"
                · subst e3; rfl
                · by_cases e4 : y = Str.ofString "opened"
                  · subst e4; rfl
                  · by_cases e5 : y = Str.ofString "ways"
                    · subst e5; rfl
                    · by_cases e6 : y = Str.ofString "ring"
                      · subst e6; rfl
                      · simp only [e0, e1, e2, e3, e4, e5, e6, if_false]
        case ad =>
          intro p hp
          rcases List.mem_cons.mp hp with rfl | hp
          · exact Ne.symm hWi
          · exact hri p hp
        case ss => rw [hst]; rw [Array.toList_push]; exact kct_snoc hS
    · clear F₈ N₈
      intro hc h₉ tk₉ F₉ N₉
      replace hc := of_decide_eq_false hc
      k_steps
      have hwn : wy ≠ [] := by
        rintro rfl
        exact hc ⟨by have := hI2; simp at this; omega, .inl rfl⟩
      have hl2 : (wy.getLastD ⟨#[]⟩).length = 2 := hI5 _ (by rw [List.getLastD_eq_getLast?, List.getLast?_eq_some_getLast hwn]; exact List.getLast_mem hwn)
      refine nw_lpop F₉ N₉ (by k_updF) hS hwn (by omega) fun h₉ its' t₉ S₉ F₈ N₈ => ?_
      (try dsimp only at N₈)
      clear F₉ N₉
      k_steps
      rename_i F₉ N₉
      have hst : ringL size (ds ++ [sm + kk.fdiv 2]) = (rg ++ wy.getLastD ⟨#[]⟩, wy.dropLast, op) := by
        rw [ringL_snoc]; unfold ringStep; rw [hrg, hwy, hop]; simp only [show ((ds.length : Nat) : Int) = kk by rw [hds]; omega]; exact if_neg hc
      have hI' := hI.step hik (by omega) (sm + kk.fdiv 2)
      rw [← hds, ← ringL_snoc] at hI'
      refine ⟨rmap l size t Wd (rg ++ wy.getLastD ⟨#[]⟩) ?rt2 op ?ot2 ?ok2 ?od2 ?ow2 ?os2, _, fr_congr F₉ ?fm, N₉, ?ad, rfl, rfl, rfl, ds ++ [sm + kk.fdiv 2], _, _, ?rt2, ?ot2, ?ok2, ?od2, ?ow2, ?os2, by rw [List.length_append, hds]; rfl, by rw [← hds]; exact hI', rfl, ?ss, by rw [hst]⟩
      case fm =>
        intro y
        unfold rmap
        by_cases e0 : y = Str.ofString "sign"
        · subst e0; rfl
        · by_cases e1 : y = Str.ofString "what"
          · subst e1; rfl
          · by_cases e2 : y = Str.ofString "drawn"
            · subst e2; rfl
            · by_cases e3 : y = Str.ofString "k"
              · subst e3; rfl
              · by_cases e4 : y = Str.ofString "opened"
                · subst e4; rfl
                · by_cases e5 : y = Str.ofString "ways"
                  · subst e5; rfl
                  · by_cases e6 : y = Str.ofString "ring"
                    · subst e6; rfl
                    · simp only [e0, e1, e2, e3, e4, e5, e6, if_false]
      case ad =>
        intro p hp
        rcases List.mem_cons.mp hp with rfl | hp
        · exact Ne.symm hWi
        · exact hri p hp
      case ss => rw [hst]; exact S₉
end

open Builtin Builtin._codecs in
theorem enc_tree (x : Str) (t u : Tok) : «str.encode» ⟨[.str x t, .str (Str.ofString "ascii") u], []⟩ = (do ret (← encodeRoad "str.encode" (.str x t) x (Str.ofString "ascii") none)) := by kernel_rfl
open Builtin Builtin._codecs in
theorem encodeRoad_ascii (id : String) (self : Value) (x : Str) (errors : Option Str) : encodeRoad id self x (Str.ofString "ascii") errors = (do mkBytes (← encodeNarrow id asciiCodec errors self x)) := by
  first | rfl | (unfold encodeRoad; rfl) | (unfold encodeRoad; simp only []; rfl)
open Builtin Builtin._codecs in
theorem road_ascii {id : String} {b : Array UInt8} : decodeRoad id b (Str.ofString "ascii") none [] = (runDecoder id asciiDecoder none true b 0 [] >>= fun r => mkStr ⟨r.1⟩) := by kernel_rfl
open Builtin Builtin._codecs in
theorem run_ascii2 {id : String} {a b : UInt8} (ha : a.toNat < 128) (hb : b.toNat < 128) : runDecoder id asciiDecoder none true #[a, b] 0 [] = pure (#[a.toNat, b.toNat], 2) := by
  unfold runDecoder
  have e1 : asciiDecoder.find true #[a, b] 0 = .text [a.toNat] 1 := by
    show (if a.toNat < 128 then _ else _) = _
    rw [if_pos ha]; rfl
  have e2 : asciiDecoder.find true #[a, b] 1 = .text [b.toNat] 2 := by
    show (if b.toNat < 128 then _ else _) = _
    rw [if_pos hb]; rfl
  simp [List.range', e1, e2, sizeLine_eq]
theorem loop2 {β : Type} {f : Nat → β → Sem (ForInStep β)} {a b : β} (h0 : ∀ k, f k a = pure (.yield b)) (h1 : ∀ k, f k b = pure (.done b)) : ∀ l : List Nat, l ≠ [] → (forIn l a f : Sem β) = pure b
  | [], h => absurd rfl h
  | [k], _ => by rw [List.forIn_cons, h0]; rfl
  | k :: k' :: r, _ => by
    rw [List.forIn_cons, h0]
    show (forIn (k' :: r) b f : Sem β) = _
    rw [List.forIn_cons, h1]; rfl
theorem fold_u8 (f : Nat → List UInt8) (g : Nat → UInt8) (hf : ∀ c, f c = [g c]) : ∀ (l : List Nat) (acc : Array UInt8), l.foldl (fun acc y => acc ++ (f y).toArray) acc = acc ++ (l.map g).toArray
  | [], acc => by simp
  | c :: r, acc => by
    rw [List.foldl_cons, fold_u8 f g hf r, hf]
    simp
open Builtin Builtin._codecs in
theorem narrow_ascii {id : String} {self : Value} {x : Str} (hx : ∀ c ∈ x.cps.toList, c < 128) (hl : x.length ≤ 1000) (hne : 0 < x.length) : encodeNarrow id asciiCodec none self x = pure ((x.cps.toList.map fun c => c.toUInt8).toArray) := by
  unfold encodeNarrow
  obtain ⟨⟨l⟩⟩ := x
  have hbad : l.findIdx? asciiCodec.bad = none := by
    rw [List.findIdx?_eq_none_iff]
    intro c hc
    have := hx c hc
    show decide (c ≥ 128) = false
    exact decide_eq_false (by omega)
  have hl' : l.length ≤ 1000 := hl
  have hne' : 0 < l.length := hne
  dsimp only
  rw [Std.Legacy.Range.forIn_eq_forIn_range']
  rw [loop2 (b := (l.length, (l.map fun c => c.toUInt8).toArray, ({} : Faults))) ?h0 ?h1 _ ?ne]
  · rfl
  case h0 =>
    intro k
    obtain ⟨c, r, rfl⟩ : ∃ c r, l = c :: r := by cases l with | nil => exact absurd hne' (by simp) | cons c r => exact ⟨c, r, rfl⟩
    have hc : asciiCodec.bad c = false := decide_eq_false (by have := hx c (.head _); omega)
    have hf := fold_u8 (fun y => asciiCodec.bytesOf y) (fun c => c.toUInt8) (fun _ => rfl) (c :: r) #[]
    simp only [sizeLine_eq]
    simp [hc]
    rw [hbad, Option.getD_none, List.take_of_length_le (by simp)]
    rw [show List.foldl (fun acc y => acc ++ (asciiCodec.bytesOf y).toArray) #[] (c :: r) = _ from hf]
    simp
  case h1 =>
    intro k
    simp [sizeLine_eq]
    intro h
    exact absurd h (by omega)
  case ne =>
    simp [Std.Legacy.Range.size]
    exact Nat.ne_of_gt hne
open Builtin Builtin._codecs in
theorem meets_enc {x : Str} {t u : Tok} (hx : ∀ c ∈ x.cps.toList, c < 128) (hl : x.length ≤ 1000) (hne : 0 < x.length) :
    Meets («str.encode» ⟨[.str x t, .str (Str.ofString "ascii") u], []⟩) (fun _ R s => R (.ok (.ret (.bytes (x.cps.toList.map fun c => c.toUInt8).toArray s.toks))) { s with toks := s.toks + 1 }) := by
  refine .of_wp fun prog w A R s hS => ?_
  rw [enc_tree, encodeRoad_ascii, narrow_ascii hx hl hne]
  refine wpAny_bind (wpAny_bind (wpAny_pure ?_))
  exact wpAny_mkBytes (wpAny_pure ⟨_, rfl, hS⟩) (by rw [sizeLine_eq]; simp; have : x.cps.size ≤ 1000 := hl; omega)
section
variable {prog : Program} {w : World} {A : Around} {E : Value → Shared → Prop} {s : Shared} {x : Str} {t u : Tok}
theorem encode_ascii {Q : Value → Shared → Prop} (hx : ∀ c ∈ x.cps.toList, c < 128) (hl : x.length ≤ 1000) (hne : 0 < x.length) (h : Q (.bytes (x.cps.toList.map fun c => c.toUInt8).toArray s.toks) { s with toks := s.toks + 1 }) :
    wpAny (model prog w) A (call (.builtin "str.encode") [.str x t, .str (Str.ofString "ascii") u]) Q E s :=
  call_meets F.slot_str_encode (typeIs_str _ _ _) F.entry_str_encode (F.args_str_encode_2 _ _) (meets_enc hx hl hne) h
end
open Builtin in
theorem dec_tree {a b : UInt8} {t u : Tok} : «bytes.decode» ⟨[.bytes #[a, b] t, .str (Str.ofString "ascii") u], []⟩ = (mkStr (Str.ofString "utf-8") >>= fun _ => mkStr (Str.ofString "ascii") >>= fun e => mkStr (Str.ofString "bytes.decode") >>= fun d =>
    call (.builtin "_codecs.decode.text") [.bytes #[a, b] t, e, .none, d] >>= fun v => ret v) := by kernel_rfl
section
open Builtin
theorem meets_text_ascii {a b : UInt8} (ha : a.toNat < 128) (hb : b.toNat < 128) {t t1 t2 : Tok} {d : Str} :
    Meets («_codecs.decode.text» ⟨[.bytes #[a, b] t, .str (Str.ofString "ascii") t1, .none, .str d t2], []⟩) (fun _ R s => R (.ok (.ret (.str ⟨#[a.toNat, b.toNat]⟩ s.toks))) { s with toks := s.toks + 1 }) := by
  refine .of_wp fun prog w A R s h => ?_
  show wpAny _ _ (Bytes.bytesLike _ (.bytes _ t) >>= fun r => _) _ _ s
  refine wpAny_bind (wpAny_of_eq KBd.like_eq ?_)
  refine wpAny_bind (wpAny_of_eq KBd.held_eq ?_)
  show wpAny _ _ (_codecs.decodeRoad _ _ (Str.ofString "ascii") none [] >>= fun v => _) _ _ s
  rw [road_ascii, run_ascii2 ha hb]
  refine wpAny_bind (wpAny_bind (wpAny_pure ?_))
  exact wpAny_mkStr (wpAny_pure ⟨_, rfl, h⟩) (by rw [sizeLine_eq]; show 2 ≤ _; omega)
theorem args_dec2 (a b : Value) : argsOk "bytes.decode" ⟨[a, b], []⟩ := by unfold argsOk; kernel_rfl
theorem meets_dec {a b : UInt8} (ha : a.toNat < 128) (hb : b.toNat < 128) {t u : Tok} :
    Meets («bytes.decode» ⟨[.bytes #[a, b] t, .str (Str.ofString "ascii") u], []⟩) (fun _ R s => ∀ t' k, R (.ok (.ret (.str ⟨#[a.toNat, b.toNat]⟩ t'))) { s with toks := k }) := by
  refine .of_wp fun prog w A R s h => ?_
  rw [dec_tree]
  refine wpAny_bind (wpAny_mkStr ?_ (by decide))
  refine wpAny_bind (wpAny_mkStr ?_ (by decide))
  refine wpAny_bind (wpAny_mkStr ?_ (by decide))
  exact wpAny_bind (call_function_meets KBd.kind_text KBd.plain_text KBd.entry_text (KBd.args_text _ _ _ _) (meets_text_ascii ha hb) (wpAny_pure ⟨_, rfl, h _ _⟩))
end
section
variable {prog : Program} {w : World} {A : Around} {E : Value → Shared → Prop} {s : Shared} {a b : UInt8} {t u : Tok}
theorem decode_ascii {Q : Value → Shared → Prop} (ha : a.toNat < 128) (hb : b.toNat < 128) (h : ∀ t' k, Q (.str ⟨#[a.toNat, b.toNat]⟩ t') { s with toks := k }) :
    wpAny (model prog w) A (call (.builtin "bytes.decode") [.bytes #[a, b] t, .str (Str.ofString "ascii") u]) Q E s :=
  call_meets FB.slot_bytes_decode (typeIs_bytes _ _ _) FB.entry_bytes_decode (args_dec2 _ _) (meets_dec ha hb) h
end

noncomputable def pileT (l : List Str) : Str := catS (l.map (Str.ofString "." ++ ·))
noncomputable def sepW (k : Nat) : Str := if k % 2 = 1 then Str.ofString "\n." else Str.ofString ":."
structure WalkIn (q : Nat) (S : Nat → List Str) (here back : Nat → Str) : Prop where
  start : S 0 = []
  done : S q = []
  turn : ∀ k, k < q → if stripF (pileT (S k) ++ sepW k ++ here k ++ Str.ofString ":") = back k then S k = S (k + 1) ++ [back k] else S (k + 1) = S k ++ [here k]
  short' : ∀ k, k < q → (here k).length ≤ 20 ∧ (back k).length ≤ 20 ∧ PyData.strOk (back k) = true
noncomputable def pairAt (r : List UInt8) (k : Nat) : Str := ⟨#[(r.getD (2 * k) 0).toNat, (r.getD (2 * k + 1) 0).toNat]⟩
theorem WalkIn.short {q : Nat} {S : Nat → List Str} {here back : Nat → Str} (W : WalkIn q S here back) : ∀ k, k ≤ q → (S k).length ≤ k ∧ ∀ y ∈ S k, y.length ≤ 20
  | 0, _ => by rw [W.start]; exact ⟨Nat.le_refl _, fun _ h => nomatch h⟩
  | k + 1, h => by
    obtain ⟨h1, h2⟩ := W.short k (by omega)
    have h3 := W.turn k h
    split at h3
    · rw [h3] at h1 h2
      rw [List.length_append] at h1
      exact ⟨by simp at h1; omega, fun y hy => h2 y (List.mem_append_left _ hy)⟩
    · rw [h3]
      refine ⟨by rw [List.length_append]; simp; omega, fun y hy => ?_⟩
      rcases List.mem_append.mp hy with hy | hy
      · exact h2 y hy
      · rw [List.mem_singleton.mp hy]; exact (W.short' k h).1
theorem catS_length (l : List Str) : (catS l).length = (l.map (·.length)).sum := by
  show (l.flatMap fun x => x.cps.toList).length = _
  rw [List.length_flatMap]; rfl
theorem pileT_len : ∀ {l : List Str}, (∀ y ∈ l, y.length ≤ 20) → (pileT l).length ≤ 21 * l.length := by
  intro l h
  unfold pileT
  rw [catS_length]
  induction l with
  | nil => exact Nat.le_refl _
  | cons y l ih =>
    have h1 := ih fun z hz => h z (.tail _ hz)
    have h2 := h y (.head _)
    have h3 : (Str.ofString "." ++ y).length = 1 + y.length := by
      show ((Str.ofString "." ++ y).cps).size = _
      rw [Str.cps_append, Array.size_append]; rfl
    simp only [List.map_cons, List.sum_cons, List.length_cons, h3]
    omega
theorem sepW_len (i : Nat) : (sepW i).length = 2 := by unfold sepW; split <;> rfl
theorem range_getD {α β : Type} (f : α → β) (d : α) (l : List α) : (List.range l.length).map (fun i => f (l.getD i d)) = l.map f := by
  apply List.ext_getElem?
  intro k
  by_cases h : k < l.length
  · simp [h]
  · simp [h]

@[reducible] noncomputable def wkMap (r : List UInt8) (t tb : Tok) (D x tl ct : Addr) (pth : Str) (tp : Tok) (ok oh ob : Option Value) : Str → Option Value := fun y =>
  if y = Str.ofString "back" then ob else if y = Str.ofString "here" then oh else if y = Str.ofString "k" then ok else if y = Str.ofString "path" then some (.str pth tp) else if y = Str.ofString "counts" then some (.ref ct) else
  if y = Str.ofString "told" then some (.ref tl) else if y = Str.ofString "twisted" then some (.bytes (bswF r 2).toArray tb) else if y = Str.ofString "pile" then some (.ref x) else List.lookup y [(Str.ofString "row", .bytes r.toArray t), (Str.ofString "written", .ref D)].reverse
theorem lt_of_allLt {d : Nat} : ∀ {l : List (Addr × Obj)}, AllLt d l → ∀ p ∈ l, @LT.lt Nat _ p.1 d
  | [], _, _, h => nomatch h
  | _ :: _, x, p, h => by
    rcases List.mem_cons.mp h with rfl | h
    · exact x.1
    · exact lt_of_allLt x.2 p h
noncomputable abbrev WJ (q : Nat) (S : Nat → List Str) (rest : List (Addr × Obj)) (r : List UInt8) (t tkb : Tok) (D x dx tl ct it : Addr) (hs : Int) (t1 t2 : Tok) (o₀ : OsState) (i : Nat) (ps : Array Value) (tups : List (Addr × Obj)) (items told counts : Array Value) (n nt nc : Nat) (Ts : Nat → Addr) (ta tb : Nat → Tok) (tp : Tok) (ok oh ob : Option Value) (m : Str → Option Value) (news : List (Addr × Obj)) (g : Array GenState) (o : OsState) : Prop :=
  (o = o₀) ∧
  (AllBare g) ∧
  (TabOk ps) ∧
  (items.size = (S i).length) ∧
  (∀ j, j < items.size → items[j]? = some (.ref (Ts j)) ∧ (Ts j, tupO (Str.ofString ".") ((S i).getD j ⟨#[]⟩) (ta j) (tb j)) ∈ tups) ∧
  (∀ p ∈ tups, it < p.1) ∧
  (StrsAre told.toList ((List.range i).map fun k => pileT (S (k + 1)))) ∧
  (IntsAre counts.toList ((List.range i).map fun k => ((S (k + 1)).length : Int))) ∧
  (news = (x, accObj dx items n) :: (dx, accDict hs t1 t2) :: (91, tabObj ps) :: (ct, listOf counts nc) :: (tl, listOf told nt) :: (tups ++ rest)) ∧
  (m = wkMap r t tkb D x tl ct (pileT (S i)) tp ok oh ob)
theorem ne_tup2 {prog : Program} {w : World} {A : Around} {E : Value → Shared → Prop} {s : Shared} {h₀ : Heap} {L : Addr} {news : List (Addr × Obj)} {a b : Addr} {x y : Str} {t u t' u' : Tok} {Q : Value → Shared → Prop} (N : News h₀ L s.heap news)
    (ha : (a, tupO x y t u) ∈ news) (hb : (b, tupO x y t' u') ∈ news) (ox : PyData.strOk x = true) (oy : PyData.strOk y = true) (hu : A.units + 64 < cLine) (h : Q (.bool false) s) :
    wpAny (model prog w) A (compareOp .NotEq (.ref a) (.ref b)) Q E s := by
  have hs : SeqAt.shaped (.tuple [.str x, .str y]) = true := by simp [SeqAt.shaped, PyData.canLay0, PyData.canLayAll0, PyData.depth, PyData.depthAll, ox, oy]
  refine ne_dataH (reads_tuple_at (N.get ha) rfl rfl (.cons (.str _ _) (.cons (.str _ _) .nil))) (reads_tuple_at (N.get hb) rfl rfl (.cons (.str _ _) (.cons (.str _ _) .nil))) hs hs hu ?_
  have e : PyData.eqv (.tuple [.str x, .str y]) (.tuple [.str x, .str y]) = true := by simp [PyData.eqv, PyData.eqvAll]
  rw [e]
  exact h
theorem ints_snoc : ∀ {vs : List Value} {ns : List Int} {n : Int} {t : Tok}, IntsAre vs ns → IntsAre (vs ++ [.int n t]) (ns ++ [n])
  | _, _, _, _, .nil => .cons _ _ .nil
  | _, _, _, _, .cons n t r => .cons n t (ints_snoc r)
theorem arr_last {items : Array Value} {v : Value} (h0 : 0 < items.size) (h : items[items.size - 1]? = some v) : items = items.pop.push v := by
  obtain ⟨l⟩ := items
  apply Array.ext'
  have h1 : l ≠ [] := List.length_pos_iff.mp h0
  have h2 : l[l.length - 1]? = some v := by simpa using h
  rw [Array.toList_push, Array.toList_pop]
  show l = l.dropLast ++ [v]
  rw [← List.getLast?_eq_getElem?, List.getLast?_eq_some_getLast h1] at h2
  rw [← Option.some.inj h2, List.dropLast_concat_getLast h1]
structure WMid (q : Nat) (S : Nat → List Str) (rest : List (Addr × Obj)) (x dx tl ct it : Addr) (hs : Int) (t1 t2 : Tok) (i : Nat) (ps : Array Value) (told counts : Array Value) (nt nc : Nat) (oi : Obj) (g' : Heap) (L' : Addr) (m : Str → Option Value) (s : Shared) (f : Flow) (s' : Shared) : Prop where
  next : f = .next
  here : ∃ (h : Heap) (tk : Nat) (tups : List (Addr × Obj)) (items : Array Value) (n : Nat) (Ts : Nat → Addr) (ta tb : Nat → Tok), s' = { s with heap := h, toks := tk } ∧ Fr g' L' h m ∧
    News g' L' h ((it, oi) :: (x, accObj dx items n) :: (dx, accDict hs t1 t2) :: (91, tabObj ps) :: (ct, listOf counts nc) :: (tl, listOf told nt) :: (tups ++ rest)) ∧ items.size = (S (i + 1)).length ∧
    (∀ j, j < items.size → items[j]? = some (.ref (Ts j)) ∧ (Ts j, tupO (Str.ofString ".") ((S (i + 1)).getD j ⟨#[]⟩) (ta j) (tb j)) ∈ tups) ∧ (∀ p ∈ tups, it < p.1)
section
local macro_rules | `(tactic| walk_at "exec If") => `(tactic| apply StopFor.out)
local macro_rules | `(tactic| walk_at "call ref") => `(tactic| apply StopFor.out)
local macro_rules | `(tactic| walk_at "call type:str") => `(tactic| apply StopFor.out)
local macro_rules | `(tactic| walk_at "eval IfExp") => `(tactic| apply StopFor.out)
set_option maxHeartbeats 8000000 in
theorem walk_spec (w : World) (mean : ExcName → Option Value) (mg mb : Str → Option Value) (p : Program) (ls : List PySem.Str) (rest : List (Addr × Obj)) (r : List UInt8) (t : Tok) (q : Nat) (D : Addr) (oD : Obj) (kvs : List (Str × Value)) (ps : Array Value)
    (S : Nat → List Str) (names : List Str) :
  ∀ (dp un : Nat) (gd : Option (List Code)) (cn : Str) (cs : Scope) (a : Addr) (ccd : Value) (cl : List (Str × Addr)) (outer : List Env) (A₀ : Around) (base h₀ : Heap) (L : Addr) (m : Str → Option Value) (s : Shared) (Q E : Value → Shared → Prop),
    Below A₀ base outer h₀ → Fr h₀ L s.heap m → (hd.heap_39 w.params).In h₀ → News h₀ L s.heap ((91, tabObj ps) :: rest) → Top p ls mean mg mb h₀ → cs.kind = .function →
    TabOk ps → AllBare s.gens → r.length = 2 * q → q ≤ 8 → 1 ≤ q → (∀ c ∈ r, c.toNat < 128) → (D, oD) ∈ rest → (∀ p ∈ rest, p.1 ≠ 91) →
    Obj.IsDictOf (strKind PR w) oD kvs → WOk names kvs → (∀ k, k < q → pairAt r k ∈ names ∧ pairAt (bswF r 2) k ∈ names) →
    WalkIn q S (fun k => escF (pairAt r k)) (fun k => escF (pairAt (bswF r 2) k)) → dp + 20 < recursionLimit → un + 120 < cLine →
    (∀ T tl ct told counts n₁ n₂ ps' s', Fr h₀ L s'.heap m → News h₀ L s'.heap ((T, { cls := .type "tuple", data := .seq #[.ref tl, .ref ct] }) :: (tl, listOf told n₁) :: (ct, listOf counts n₂) :: (91, tabObj ps') :: rest) →
      StrsAre told.toList ((List.range q).map fun k => pileT (S (k + 1))) → IntsAre counts.toList ((List.range q).map fun k => ((S (k + 1)).length : Int)) → TabOk ps' → AllBare s'.gens → s'.os = s.os → (∀ p ∈ rest, p.1 ≠ tl ∧ p.1 ≠ ct) → Q (.ref T) s') →
      wpC (model PySem.Challenge.rw_xp0004_01.row.prog w) (ktrTop dp un gd cn cs L a ccd cl outer) (call (.ref 157) [.bytes r.toArray t, .ref D]) Q E s := by
  w_top off
  k_fill
  intro dp un gd cn cs a ccd cl outer A₀ base h₀ L m s Q E B F X N T hcs hps hg hr hq hq1 hasc hD hr91 hoD hW hnm hwk hdp hun hret
  refine wpC_call ?_
  refine' codeC_def (binds := [(Str.ofString "row", .bytes r.toArray t), (Str.ofString "written", .ref D)]) ?k1 ?k2 ?k3 ?k4 ?k5 ?kA ?kF ?kK ?k6 ?k7 ?k8 ?k9 ?kB ?_ ?c1 ?c2 ?c3 ?c4
  case kA => exact rfl
  case kF => exact rfl
  case kK => assumption
  case k1 => k_asm
  case k2 => k_asm
  case k3 => k_asm
  case k4 => k_asm
  case k5 => k_asm
  case k6 => k_is
  case k7 => k_is
  case k8 => ktr_room
  case k9 => exact BindsTo.of_eq rfl
  case kB => exact locs rfl
  case c4 => decide
  case c1 => exact rfl
  case c2 => exact rfl
  case c3 => exact rfl
  k_whole
  intro g' L' h₁ FG' F₁ N₁ B' X' T' l1
  refine wpC_execs_cons (wpC_any ?_)
  k_steps
  refine StopFor.go ?_
  refine' make_spec w mean mg mb p ls ((91, tabObj ps) :: rest) _ _ _ _ _ _ _ _ _ _ _ g' L' _ _ _ _ ?b1 ?b2 ?b3 ?b4 ?b5 ?b6 ?b7 ?b9 ?b10 ?b11
  case b1 => exact B'
  case b2 => k_asm
  case b3 => k_asm
  case b4 => k_asm
  case b5 => k_asm
  case b6 => exact rfl
  case b7 => trivial
  case b9 => exact room_d hdp
  case b10 => exact room_u hun
  intro x dx n hs t1 t2 h₂ tk₂ F₂ N₂ l₂ l₃
  k_whole
  k_steps
  try dsimp only
  refine wpC_execs_cons (wpC_Assign_Name (wpC_Call_Name ?_))
  k_steps
  refine callC_K (K := hd.heap_39 w.params) (by k_is) ?_
  k_steps
  refine' bsw_spec w mean mg mb p ls ((x, accObj dx #[] n) :: (dx, accDict hs t1 t2) :: (91, tabObj ps) :: rest) r 2 q t _ _ _ _ _ _ _ _ _ _ _ _ g' L' _ _ _ _ ?c1 ?c2 ?c3 ?c4 ?c5 ?c6 ?c7 ?c9 ?c10 ?c11
  case c1 => exact B'
  case c2 => k_asm
  case c3 => k_asm
  case c4 => k_asm
  case c5 => k_asm
  case c6 => exact rfl
  case c7 => exact ⟨by omega, by decide, hq1, by omega⟩
  case c9 => exact room_d hdp
  case c10 => exact room_u hun
  intro tkb h₃ tk₃ F₃ N₃
  k_whole
  k_steps
  try dsimp only
  refine wpC_any ?_
  k_steps
  refine StopFor.go (wpAny_For ?_)
  k_steps
  rename_i tl _ lT _ _ ct _ lC _ _ _ _ _ _ _ _ hR F₄ N₄ _
  have hrs : r.toArray.size = r.length := rfl
  have hnb : Builtin.Range.rangeSize 0 (r.toArray.size : Int) 2 = ((q : Nat) : Int) := rsize_up (k := q) (by decide) (by omega)
  have hS0 := hwk.short
  refine range_start hR (range_small (by decide) (by decide) (by omega) (by omega) (by decide) (by decide) hnb (by omega)) hnb F₄ N₄ fun it h₅ F₅ N₅ l₅ => ?_
  have hitx : x < it := l₅ _ (.tail _ (.tail _ (.head _)))
  have hitd : dx < it := l₅ _ (.tail _ (.tail _ (.tail _ (.head _))))
  have hit91 : 91 < it := l₅ _ (.tail _ (.tail _ (.tail _ (.tail _ (.head _)))))
  have hitr : ∀ p ∈ rest, p.1 < it := fun p hp => l₅ p (.tail _ (.tail _ (.tail _ (.tail _ (.tail _ hp)))))
  have hitc : ct < it := l₅ _ (.head _)
  have hitt : tl < it := l₅ _ (.tail _ (.head _))
  have hrx : ∀ p ∈ rest, p.1 < dx := fun p hp => lt_of_allLt l₂.2 p hp
  have h91x : 91 < dx := l₂.1
  have hp0 : pileT [] = Str.ofString "" := Str.ext' (show #[] = _ from emp_cps.symm)
  have F₅' : ∃ tp₀, Fr g' L' h₅ (wkMap r t tkb D x tl ct (pileT []) tp₀ none none none) := by
    refine ⟨?tpX, fr_congr (m' := wkMap r t tkb D x tl ct (pileT []) ?tpX none none none) F₅ (fun y => ?hfX)⟩
    rotate_left
    rw [hp0]
    unfold wkMap
    by_cases e0 : y = Str.ofString "path"
    · subst e0; rfl
    · by_cases e1 : y = Str.ofString "back"
      · subst e1; rfl
      · by_cases e2 : y = Str.ofString "here"
        · subst e2; rfl
        · by_cases e3 : y = Str.ofString "k"
          · subst e3; rfl
          · simp only [if_neg e0, if_neg e1, if_neg e2, if_neg e3]
  obtain ⟨tp₀, F₅'⟩ := F₅'
  clear F₄ N₄ F₅ hR
  have N₅' := news_sub (news' := (it, rIt 0 2 q 0) :: (x, accObj dx #[] n) :: (dx, accDict hs t1 t2) :: (91, tabObj ps) :: (ct, listOf #[] 0) :: (tl, listOf #[] 0) :: ([] ++ rest)) N₅ (fun p hp => by
    revert p hp
    repeat refine List.forall_mem_cons.mpr ⟨by k_mem, ?_⟩
    exact fun p hp => by repeat (first | exact hp | exact List.mem_append_right _ hp | apply List.Mem.tail))
  refine for_iter (m₀ := wkMap r t tkb D x tl ct (pileT []) tp₀ none none none) (iter_range rfl) (fun i m nw g dd o => ∃ ps tups items told counts n nt nc Ts ta tb tp ok oh ob, WJ q S rest r t tkb D x dx tl ct it hs t1 t2 s.os i ps tups items told counts n nt nc Ts ta tb tp ok oh ob m nw g o)
    F₅' rfl N₅' (fun p hp => Nat.ne_of_lt (l₅ p (by
      revert p hp
      repeat refine List.forall_mem_cons.mpr ⟨by k_mem, ?_⟩
      exact fun p hp => by repeat (first | exact hp | exact List.mem_append_right _ hp | apply List.Mem.tail)))) (fun _ _ _ _ _ _ _ => trivial) ?_ ?_ ?_
  · exact ⟨ps, [], #[], #[], #[], n, 0, 0, fun _ => 0, fun _ => 0, fun _ => 0, tp₀, none, none, none, ⟨rfl, hg, hps, by rw [hwk.start]; rfl, (fun j hj => by simp at hj), (fun _ h => nomatch h), .nil, .nil, rfl, by rw [hwk.start]⟩⟩
  · rintro h₆ g₆ d₆ tk₆ o₆ m₆ news₆ ⟨ps, tups, items, told, counts, n, nt, nc, Ts, ta, tb, tp, ok, oh, ob, J⟩ F₆ N₆
    obtain ⟨rfl, jG, jT, jz, ji, ja, jt, jc, rfl, rfl⟩ := J
    rw [hwk.done] at jz
    obtain rfl : items = #[] := Array.eq_empty_of_size_eq_zero jz
    delta wkMap at F₆; (try dsimp only at F₆)
    clear l₅ N₅ N₅' F₅'
    k_steps
    refine StopFor.go (wpAny_If ?_)
    k_steps
    refine StopFor.go ?_
    refine' pope_spec w mean mg mb p ls ((91, tabObj ps) :: (ct, listOf counts nc) :: (tl, listOf told nt) :: (tups ++ rest)) x dx n hs t1 t2 _ _ _ _ _ _ _ _ _ _ _ g' L' _ _ _ _ ?cc1b ?cc1f ?cc1x ?cc1n ?cc1t ?cc1s ?cc1p ?cc1r ?cc1u ?cc1e
    case cc1b => exact B'
    case cc1f => k_asm
    case cc1x => k_asm
    case cc1n => first | k_asm | assumption
    case cc1t => k_asm
    case cc1s => exact rfl
    case cc1p => trivial
    case cc1r => first | exact room_d hdp | (show dp + 1 + 10 < recursionLimit; omega)
    case cc1u => first | exact room_u hun | (show un + 3 + 80 < cLine; omega)
    intro T₇ t3 t4 h₇ tk₇ F₇ N₇
    k_whole
    k_steps
    rename_i kF kN _ _
    refine hret _ tl ct told counts nt nc ps _ kF (news_sub kN fun p hp => ?_) jt jc jT jG rfl ?_
    · revert p hp
      repeat refine List.forall_mem_cons.mpr ⟨by k_mem, ?_⟩
      exact fun p hp => by repeat (first | exact hp | exact List.mem_append_right _ hp | apply List.Mem.tail)
    · exact fun p hp => ⟨Nat.ne_of_lt (Nat.lt_trans (hrx p hp) lT.2.1), Nat.ne_of_lt (Nat.lt_trans (hrx p hp) lC.2.2.1)⟩
  · rintro i u₅ h₆ g₆ d₆ tk₆ o₆ m₆ news₆ oi₆ hiq ⟨ps, tups, items, told, counts, n, nt, nc, Ts, ta, tb, tp, ok, oh, ob, J⟩ F₆ N₆ D₆
    obtain ⟨rfl, jG, jT, jz, ji, ja, jt, jc, rfl, rfl⟩ := J
    delta wkMap at F₆; (try dsimp only at F₆)
    clear l₅ N₅ N₅' F₅'
    obtain ⟨hsn, hsy⟩ := hS0 i (Nat.le_of_lt hiq)
    obtain ⟨hs2, hs3⟩ := hS0 (i + 1) hiq
    have hturn := hwk.turn i hiq
    obtain ⟨hhl, hbl, hbo⟩ := hwk.short' i hiq
    have hbl2 : (bswF r 2).length = r.length := by simp [bswF]
    have hasc' : ∀ k, (r.getD k 0).toNat < 128 := fun k => by
      rw [List.getD_eq_getElem?_getD]
      cases h : r[k]? with
      | none => decide
      | some c => exact hasc c (List.mem_of_getElem? h)
    have hasc2 : ∀ k, ((bswF r 2).getD k 0).toNat < 128 := fun k => by
      rw [List.getD_eq_getElem?_getD]
      cases h : (bswF r 2)[k]? with
      | none => decide
      | some c =>
        obtain ⟨j, _, e⟩ := List.mem_map.mp (List.mem_of_getElem? h)
        rw [← e]
        exact hasc' _
    k_steps
    rename_i F₇ N₇
    have hcut : (r.drop (2 * i)).take 2 = [r.getD (2 * i) 0, r.getD (2 * i + 1) 0] := cut2 (cutA hr hiq)
    refine bytes_cut (s := ⟨_, _, _, _, _⟩) (c := [r.getD (2 * i) 0, r.getD (2 * i + 1) 0]) F₇ N₇ (by constructor) (by constructor) (by omega) ?_ fun h₈ t₈ k₈ F₈ N₈ => ?_
    · rw [← hcut, castA, castB]
      simp only [Option.elim, clipAt_nat]
      rw [cutB hr hiq, cutC hr hiq]
    clear F₇ N₇ hcut
    k_steps
    refine decode_ascii (hasc' _) (hasc' _) fun t₉ k₉ => ?_
    rw [show (⟨#[(r.getD (2 * i) 0).toNat, (r.getD (2 * i + 1) 0).toNat]⟩ : Str) = pairAt r i from rfl]
    obtain ⟨tv, hval⟩ := hW _ (hnm i hiq).1
    refine kda_item (k := pairAt r i) N₈ (by simp only [List.mem_cons, List.mem_append, hD, or_true]) hoD (strKind_is _ _ _ _) hval ?_
    generalize escF (pairAt r i) = here at *
    k_steps
    rename_i F₇ N₇
    have hcut : ((bswF r 2).drop (2 * i)).take 2 = [(bswF r 2).getD (2 * i) 0, (bswF r 2).getD (2 * i + 1) 0] := cut2 (cutA (hbl2.trans hr) hiq)
    refine bytes_cut (s := ⟨_, _, _, _, _⟩) (c := [(bswF r 2).getD (2 * i) 0, (bswF r 2).getD (2 * i + 1) 0]) F₇ N₇ (by constructor) (by constructor) (by omega) ?_ fun h₈ t₈ k₈ F₈ N₈ => ?_
    · rw [← hcut, castA, castB]
      simp only [Option.elim, clipAt_nat]
      rw [cutB (hbl2.trans hr) hiq, cutC (hbl2.trans hr) hiq]
    clear F₇ N₇ hcut
    k_steps
    refine decode_ascii (hasc2 _) (hasc2 _) fun t₉ k₉ => ?_
    rw [show (⟨#[((bswF r 2).getD (2 * i) 0).toNat, ((bswF r 2).getD (2 * i + 1) 0).toNat]⟩ : Str) = pairAt (bswF r 2) i from rfl]
    obtain ⟨tw, hval2⟩ := hW _ (hnm i hiq).2
    refine kda_item (k := pairAt (bswF r 2) i) N₈ (by simp only [List.mem_cons, List.mem_append, hD, or_true]) hoD (strKind_is _ _ _ _) hval2 ?_
    generalize escF (pairAt (bswF r 2) i) = back at *
    k_steps
    rename_i F₇ N₇
    have F₉ := fr_congr (m' := wkMap r t tkb D x tl ct (pileT (S i)) tp (some (.int (0 + (i : Int) * 2) u₅)) (some (.str here tv)) (some (.str back tw))) F₇ (fun y => by
      unfold wkMap
      by_cases e1 : y = Str.ofString "back"
      · subst e1; rfl
      · by_cases e2 : y = Str.ofString "here"
        · subst e2; rfl
        · by_cases e3 : y = Str.ofString "k"
          · subst e3; rfl
          · simp only [if_neg e1, if_neg e2, if_neg e3])
    have hpl : (pileT (S i)).length ≤ 200 := by have := pileT_len hsy; omega
    have hsl := sepW_len i
    generalize hpp : pileT (S i) = pth at hpl hturn F₇ F₉
    refine StopFor.go (wpAny_mono (?hmid : wpAny _ _ _ (WMid q S rest x dx tl ct it hs t1 t2 i ps told counts nt nc oi₆ g' L' (wkMap r t tkb D x tl ct pth tp (some (.int (0 + (i : Int) * 2) u₅)) (some (.str here tv)) (some (.str back tw))) ⟨h₆, g₆, d₆, tk₆, s.os⟩) _ _) ?hnext fun _ _ x => x)
    case hmid =>
      refine wpAny_If ?_
      k_steps
      refine StopFor.go (val_join (fun u => .str (sepW i) u) (h₀ := g') (L := L') (m := wkMap r t tkb D x tl ct (pth) tp (some (.int (0 + (i : Int) * 2) u₅)) (some (.str here tv)) (some (.str back tw))) (news := (it, oi₆) :: (x, accObj dx items n) :: (dx, accDict hs t1 t2) :: (91, tabObj ps) :: (ct, listOf counts nc) :: (tl, listOf told nt) :: (tups ++ rest)) ?hsep ?hgo)
      case hsep =>
        refine IfExp_ ?_
        k_steps
        · rename_i hodd
          rw [Int.fmod_eq_emod_of_nonneg _ (by decide)] at hodd
          rw [show sepW i = Str.ofString "\n." from if_pos (by omega)]
          exact ⟨_, _, _, rfl, rfl, F₉, N₇⟩
        · rename_i hodd
          rw [Int.fmod_eq_emod_of_nonneg _ (by decide)] at hodd
          rw [show sepW i = Str.ofString ":." from if_neg (by omega)]
          exact ⟨_, _, _, rfl, rfl, F₉, N₇⟩
      case hgo =>
        clear F₇ N₇ F₉
        intro us h₇ tk₇ F₇ N₇
        delta wkMap at F₇; (try dsimp only at F₇)
        k_steps
        refine StopFor.go ?_
        refine' strip_spec w mean mg mb p ls ((it, oi₆) :: (x, accObj dx items n) :: (dx, accDict hs t1 t2) :: (91, tabObj ps) :: (ct, listOf counts nc) :: (tl, listOf told nt) :: (tups ++ rest)) (pth ++ sepW i ++ here ++ Str.ofString ":") _ _ _ _ _ _ _ _ _ _ _ _ g' L' _ _ _ _ ?cc2b ?cc2f ?cc2x ?cc2n ?cc2t ?cc2s ?cc2p ?cc2r ?cc2u ?cc2e
        case cc2b => exact B'
        case cc2f => k_asm
        case cc2x => k_asm
        case cc2n => first | k_asm | assumption
        case cc2t => k_asm
        case cc2s => exact rfl
        case cc2p => (simp only [Str.length_append, show (Str.ofString ":").length = 1 from rfl]; exact room_s hpl hsl hhl)
        case cc2r => first | exact room_d hdp | (show dp + 1 + 10 < recursionLimit; omega)
        case cc2u => first | exact room_u hun | (show un + 3 + 80 < cLine; omega)
        intro tkS h₈ tk₈ F₈ N₈
        k_whole
        k_steps
        all_goals rename_i heq
        all_goals
          have hxs : ∀ p ∈ (it, oi₆) :: (91, tabObj ps) :: (ct, listOf counts nc) :: (tl, listOf told nt) :: (tups ++ rest), p.1 ≠ x := by
            intro p hp
            simp only [List.mem_cons, List.mem_append] at hp
            rcases hp with rfl | rfl | rfl | rfl | hp | hp
            · exact Nat.ne_of_gt hitx
            · exact Nat.ne_of_lt (Nat.lt_trans h91x l₃)
            · exact Nat.ne_of_gt lC.2.1
            · exact Nat.ne_of_gt lT.1
            · exact Nat.ne_of_gt (Nat.lt_trans hitx (ja p hp))
            · exact Nat.ne_of_lt (Nat.lt_trans (hrx p hp) l₃)
        · rw [if_pos (by simpa using heq)] at hturn
          have hsz : items.size = (S (i + 1)).length + 1 := by rw [jz, hturn, List.length_append]; rfl
          obtain ⟨hi1, hi2⟩ := ji (items.size - 1) (by omega)
          obtain ⟨T₁, hT₁⟩ : ∃ T₁, T₁ = Ts (items.size - 1) := ⟨_, rfl⟩
          rw [← hT₁] at hi1 hi2
          obtain ⟨its, rfl⟩ : ∃ its : Array Value, items = its.push (.ref T₁) := ⟨_, arr_last (by omega) hi1⟩
          have hisz : its.size = (S (i + 1)).length := by rw [Array.size_push] at hsz; omega
          have htop : (S i).getD ((its.push (Value.ref T₁)).size - 1) ⟨#[]⟩ = back := by
            rw [hturn, Array.size_push, Nat.add_sub_cancel, hisz, List.getD_eq_getElem?_getD, List.getElem?_append_right (Nat.le_refl _)]; simp
          rw [htop] at hi2
          have N₉ := news_sub (news' := (x, accObj dx (its.push (.ref T₁)) n) :: (dx, accDict hs t1 t2) :: (it, oi₆) :: (91, tabObj ps) :: (ct, listOf counts nc) :: (tl, listOf told nt) :: (tups ++ rest)) N₈ (fun p hp => by
            revert p hp
            repeat refine List.forall_mem_cons.mpr ⟨by k_mem, ?_⟩
            exact fun p hp => by repeat (first | exact hp | exact List.mem_append_right _ hp | apply List.Mem.tail))
          clear N₈
          refine StopFor.go (wpAny_If ?_)
          k_steps
          refine StopFor.go ?_
          refine' pop_spec w mean mg mb p ls ((it, oi₆) :: (91, tabObj ps) :: (ct, listOf counts nc) :: (tl, listOf told nt) :: (tups ++ rest)) x dx its (.ref T₁) n hs t1 t2 _ _ _ _ _ _ _ _ _ _ _ g' L' _ _ _ _ ?cc3b ?cc3f ?cc3x ?cc3n ?cc3t ?cc3s ?cc3p ?cc3r ?cc3u ?cc3e
          case cc3b => exact B'
          case cc3f => k_asm
          case cc3x => k_asm
          case cc3n => first | k_asm | assumption
          case cc3t => k_asm
          case cc3s => exact rfl
          case cc3p => exact ⟨by omega, Nat.ne_of_lt l₃, hxs⟩
          case cc3r => first | exact room_d hdp | (show dp + 1 + 10 < recursionLimit; omega)
          case cc3u => first | exact room_u hun | (show un + 3 + 80 < cLine; omega)
          intro h₉ tk₉ F₉ N₁₀
          have N₁₁ := news_sub (news' := (T₁, tupO (Str.ofString ".") back (ta ((its.push (Value.ref T₁)).size - 1)) (tb ((its.push (Value.ref T₁)).size - 1))) :: (x, accObj dx its (n + 1)) :: (dx, accDict hs t1 t2) :: (it, oi₆) :: (91, tabObj ps) :: (ct, listOf counts nc) :: (tl, listOf told nt) :: (tups ++ rest)) N₁₀ (fun p hp => by
            rcases List.mem_cons.mp hp with h | h
            · rw [h]; simp only [List.mem_cons, List.mem_append, hi2, true_or, or_true]
            · exact h)
          clear N₁₀
          k_whole
          k_steps
          rename_i F₁₀ N₁₂ _
          refine ne_tup2 N₁₂ (.tail _ (.head _)) (.head _) (by decide +kernel) hbo (by show un + 3 + 64 < cLine; omega) ?_
          k_steps
          refine ⟨rfl, _, _, tups, its, n + 1, Ts, ta, tb, rfl, F₁₀, news_sub N₁₂ (fun p hp => ?_), hisz, fun j hj => ?_, ja⟩
          · revert p hp
            repeat refine List.forall_mem_cons.mpr ⟨by k_mem, ?_⟩
            exact fun p hp => by repeat (first | exact hp | exact List.mem_append_right _ hp | apply List.Mem.tail)
          · obtain ⟨g1, g2⟩ := ji j (by rw [Array.size_push]; omega)
            rw [Array.getElem?_push, if_neg (by omega)] at g1
            rw [hturn, List.getD_eq_getElem?_getD, List.getElem?_append_left (by omega), ← List.getD_eq_getElem?_getD] at g2
            exact ⟨g1, g2⟩
        · rw [if_neg (by simpa using heq)] at hturn
          have N₉ := news_sub (news' := (x, accObj dx items n) :: (dx, accDict hs t1 t2) :: (it, oi₆) :: (91, tabObj ps) :: (ct, listOf counts nc) :: (tl, listOf told nt) :: (tups ++ rest)) N₈ (fun p hp => by
            revert p hp
            repeat refine List.forall_mem_cons.mpr ⟨by k_mem, ?_⟩
            exact fun p hp => by repeat (first | exact hp | exact List.mem_append_right _ hp | apply List.Mem.tail))
          clear N₈
          refine StopFor.go ?_
          refine' push_spec w mean mg mb p ls ((it, oi₆) :: (91, tabObj ps) :: (ct, listOf counts nc) :: (tl, listOf told nt) :: (tups ++ rest)) x dx n hs t1 t2 items (.str (Str.ofString ".") tk₈) (.str here tv) _ _ _ _ _ _ _ _ _ _ _ g' L' _ _ _ _ ?cc4b ?cc4f ?cc4x ?cc4n ?cc4t ?cc4s ?cc4p ?cc4r ?cc4u ?cc4e
          case cc4b => exact B'
          case cc4f => k_asm
          case cc4x => k_asm
          case cc4n => first | k_asm | assumption
          case cc4t => k_asm
          case cc4s => exact rfl
          case cc4p => exact ⟨by omega, Nat.ne_of_lt l₃, hxs⟩
          case cc4r => first | exact room_d hdp | (show dp + 1 + 10 < recursionLimit; omega)
          case cc4u => first | exact room_u hun | (show un + 3 + 80 < cLine; omega)
          intro T₁ h₉ tk₉ F₉ N₁₀ lT₁
          k_whole
          k_steps
          refine ⟨rfl, h₉, tk₉, (T₁, tupO (Str.ofString ".") here tk₈ tv) :: tups, items.push (.ref T₁), n + 1, (fun j => if j = items.size then T₁ else Ts j), (fun j => if j = items.size then tk₈ else ta j), (fun j => if j = items.size then tv else tb j), rfl, F₉, news_sub N₁₀ (fun p hp => ?_), ?_, fun j hj => ?_, fun p hp => ?_⟩
          · simp only [List.mem_cons, List.mem_append] at hp ⊢
            rcases hp with h | h | h | h | h | h | (h | h) | h <;> simp only [h, true_or, or_true]
          · rw [Array.size_push, jz, hturn, List.length_append]; rfl
          · by_cases e : j = items.size
            · subst e
              simp only [if_true]
              refine ⟨by simp, ?_⟩
              rw [hturn, jz, List.getD_eq_getElem?_getD, List.getElem?_append_right (Nat.le_refl _)]
              simp
            · have hj' : j < items.size := by rw [Array.size_push] at hj; omega
              obtain ⟨g1, g2⟩ := ji j hj'
              simp only [if_neg e]
              refine ⟨by rw [Array.getElem?_push, if_neg e]; exact g1, ?_⟩
              rw [hturn, List.getD_eq_getElem?_getD, List.getElem?_append_left (by omega), ← List.getD_eq_getElem?_getD]
              exact .tail _ g2
          · rcases List.mem_cons.mp hp with rfl | hp
            · exact lT₁.2.2.1
            · exact ja p hp
    case hnext =>
      clear F₇ N₇ F₉ ji ja jz hturn
      intro f s₉ hm
      obtain ⟨rfl, h₉, tk₉, tups', items', n', Ts', ta', tb', rfl, F₉, N₉, kz, ki, ka⟩ := hm
      have N₈ := news_sub (news' := (x, accObj dx items' n') :: (dx, accDict hs t1 t2) :: (91, tabObj ps) :: (it, oi₆) :: (ct, listOf counts nc) :: (tl, listOf told nt) :: (tups' ++ rest)) N₉ (fun p hp => by
        revert p hp
        repeat refine List.forall_mem_cons.mpr ⟨by k_mem, ?_⟩
        exact fun p hp => by repeat (first | exact hp | exact List.mem_append_right _ hp | apply List.Mem.tail))
      clear N₉
      delta wkMap at F₉; (try dsimp only at F₉)
      try dsimp only
      k_steps
      have hxit : @LT.lt Nat _ x it := hitx
      have hdit : @LT.lt Nat _ dx it := hitd
      have h9it : @LT.lt Nat _ 91 it := hit91
      have hcit : @LT.lt Nat _ ct it := hitc
      have htit : @LT.lt Nat _ tl it := hitt
      have hdx : @LT.lt Nat _ dx x := l₃
      have h9d : @LT.lt Nat _ 91 dx := h91x
      have hqt : ∀ p ∈ tups' ++ rest, p.1 ≠ tl := fun p hp => by
        rcases List.mem_append.mp hp with hp | hp
        · exact Nat.ne_of_gt (Nat.lt_trans hitt (ka p hp))
        · exact Nat.ne_of_lt (Nat.lt_trans (hrx p hp) lT.2.1)
      have hqc : ∀ p ∈ tups' ++ rest, p.1 ≠ ct := fun p hp => by
        rcases List.mem_append.mp hp with hp | hp
        · exact Nat.ne_of_gt (Nat.lt_trans hitc (ka p hp))
        · exact Nat.ne_of_lt (Nat.lt_trans (hrx p hp) lC.2.2.1)
      have hq9 : ∀ p ∈ (it, oi₆) :: (ct, listOf counts nc) :: (tl, listOf told nt) :: (tups' ++ rest), p.1 ≠ 91 := by
        intro p hp
        simp only [List.mem_cons, List.mem_append] at hp
        rcases hp with rfl | rfl | rfl | hp | hp
        · exact Nat.ne_of_gt hit91
        · exact Nat.ne_of_gt lC.2.2.2.1
        · exact Nat.ne_of_gt lT.2.2.1
        · exact Nat.ne_of_gt (Nat.lt_trans hit91 (ka p hp))
        · exact hr91 p hp
      refine StopFor.go ?_
      refine' str_spec w mean mg mb p ls ((it, oi₆) :: (ct, listOf counts nc) :: (tl, listOf told nt) :: (tups' ++ rest)) x dx n' hs t1 t2 items' ps Ts' (fun _ => Str.ofString ".") (fun j => (S (i + 1)).getD j ⟨#[]⟩) ta' tb' _ _ _ _ _ _ _ _ _ _ _ g' L' _ _ _ _ ?sb ?sf ?sx ?sn ?st ?ss jT jG ?sz ?si ?sl ?su (Nat.lt_trans h91x l₃) h91x hq9 ?sd ?sc ?se
      case sb => exact B'
      case sf => k_asm
      case sx => k_asm
      case sn => first | k_asm | assumption
      case st => k_asm
      case ss => exact rfl
      case sz => omega
      case si => exact fun j hj => ⟨(ki j hj).1, .tail _ (.tail _ (.tail _ (List.mem_append_left _ (ki j hj).2)))⟩
      case sl =>
        refine fun j hj => ⟨by decide, ?_⟩
        have hj' : j < (S (i + 1)).length := by omega
        rw [List.getD_eq_getElem?_getD, List.getElem?_eq_getElem hj']
        exact Nat.le_trans (hs3 _ (List.getElem_mem hj')) (by decide)
      case su =>
        rw [kz, range_getD (fun y : Str => (Str.ofString "." ++ y).length) ⟨#[]⟩ (S (i + 1))]
        have := pileT_len hs3
        unfold pileT at this
        rw [catS_length, List.map_map] at this
        have e : ((S (i + 1)).map fun y : Str => (Str.ofString "." ++ y).length) = (S (i + 1)).map ((fun x => x.length) ∘ fun x => Str.ofString "." ++ x) := rfl
        rw [e]
        omega
      case sd => exact room_d hdp
      case sc => exact room_u hun
      clear N₈ F₉
      intro tps ⟨h₁₀, g₁₀, d₁₀, tk₁₀, o₁₀⟩ ps' F₉ N₈ jT' jG' ho
      obtain rfl : o₁₀ = s.os := ho
      rw [kz, show ((List.range (S (i + 1)).length).map fun i_1 => Str.ofString "." ++ (S (i + 1)).getD i_1 ⟨#[]⟩) = (S (i + 1)).map (Str.ofString "." ++ ·) from range_getD _ _ _]
      rw [show catS ((S (i + 1)).map (Str.ofString "." ++ ·)) = pileT (S (i + 1)) from rfl]
      have htz : told.size = i := by have := jt.length; rw [Array.length_toList, List.length_map, List.length_range] at this; exact this
      have hcz : counts.size = i := by have := jc.length; rw [Array.length_toList, List.length_map, List.length_range] at this; exact this
      k_whole
      k_steps
      refine StopFor.go ?_
      refine' count_spec w mean mg mb p ls ((91, tabObj ps') :: (it, oi₆) :: (ct, listOf counts nc) :: (tl, listOf (told.push (.str (pileT (S (i + 1))) tps)) (nt + 1)) :: (tups' ++ rest)) x dx n' hs t1 t2 items' _ _ _ _ _ _ _ _ _ _ _ g' L' _ _ _ _ ?cc5b ?cc5f ?cc5x ?cc5n ?cc5t ?cc5s ?cc5p ?cc5r ?cc5u ?cc5e
      case cc5b => exact B'
      case cc5f => k_asm
      case cc5x => k_asm
      case cc5n => first | k_asm | assumption
      case cc5t => k_asm
      case cc5s => exact rfl
      case cc5p => omega
      case cc5r => first | exact room_d hdp | (show dp + 1 + 10 < recursionLimit; omega)
      case cc5u => first | exact room_u hun | (show un + 3 + 80 < cLine; omega)
      intro tkc h₁₁ tk₁₁ F₁₁ N₁₁
      k_whole
      k_steps
      rename_i F₁₂ N₁₂
      refine ⟨wkMap r t tkb D x tl ct (pileT (S (i + 1))) tps (some (.int (0 + (i : Int) * 2) u₅)) (some (.str here tv)) (some (.str back tw)), (x, accObj dx items' n') :: (dx, accDict hs t1 t2) :: (91, tabObj ps') :: (ct, listOf (counts.push (.int items'.size tkc)) (nc + 1)) :: (tl, listOf (told.push (.str (pileT (S (i + 1))) tps)) (nt + 1)) :: (tups' ++ rest), fr_congr F₁₂ fun y => ?_, news_sub N₁₂ fun p hp => ?_, fun p hp => ?_, ps', tups', items', _, _, n', nt + 1, nc + 1, Ts', ta', tb', tps, _, _, _, ⟨rfl, jG', jT', kz, ki, ka, ?_, ?_, rfl, rfl⟩⟩
      · unfold wkMap
        by_cases e0 : y = Str.ofString "path"
        · subst e0; rfl
        · simp only [if_neg e0]
      · revert p hp
        repeat refine List.forall_mem_cons.mpr ⟨by k_mem, ?_⟩
        exact fun p hp => by repeat (first | exact hp | exact List.mem_append_right _ hp | apply List.Mem.tail)
      · simp only [List.mem_cons, List.mem_append] at hp
        rcases hp with rfl | rfl | rfl | rfl | rfl | hp | hp
        · exact Nat.ne_of_lt hitx
        · exact Nat.ne_of_lt hitd
        · exact Nat.ne_of_lt hit91
        · exact Nat.ne_of_lt hitc
        · exact Nat.ne_of_lt hitt
        · exact Nat.ne_of_gt (ka p hp)
        · exact Nat.ne_of_lt (hitr p hp)
      · rw [Array.toList_push, List.range_succ, List.map_append]
        exact kct_snoc jt
      · rw [Array.toList_push, List.range_succ, List.map_append, kz]
        exact ints_snoc jc
end

noncomputable def lrep (c : Nat) (z l : List Nat) : List Nat := l.flatMap fun a => if a = c then z else [a]
theorem lrep_not {c : Nat} {z : List Nat} : ∀ {l : List Nat}, c ∉ l → lrep c z l = l
  | [], _ => rfl
  | a :: l, h => by
    have h1 : ¬ a = c := fun e => h (e ▸ .head _)
    have h2 := lrep_not (z := z) (l := l) fun hm => h (.tail _ hm)
    unfold lrep at h2 ⊢
    rw [List.flatMap_cons, if_neg h1, h2]; rfl
theorem lrep_append (c : Nat) (z a b : List Nat) : lrep c z (a ++ b) = lrep c z a ++ lrep c z b := List.flatMap_append
theorem join_lrep (c : Nat) (r : Str) : ∀ parts : List Str, (∀ p ∈ parts, c ∉ p.cps.toList) → (Str.join r parts).cps.toList = lrep c r.cps.toList (Str.join ⟨#[c]⟩ parts).cps.toList
  | [], _ => rfl
  | [p], h => (lrep_not (h p (.head _))).symm
  | p :: q :: t, h => by
    have ih := join_lrep c r (q :: t) fun y hy => h y (.tail _ hy)
    have e : ∀ z : Str, Str.join z (p :: q :: t) = p ++ z ++ Str.join z (q :: t) := fun _ => rfl
    rw [e, e, Str.cps_append, Str.cps_append, Array.toList_append, Array.toList_append, ih, Str.cps_append, Str.cps_append, Array.toList_append, Array.toList_append, lrep_append, lrep_append, lrep_not (h p (.head _))]
    congr 2
    simp [lrep]
theorem repl_list (c : Nat) (r x : Str) : (repl ⟨#[c]⟩ r x).cps.toList = lrep c r.cps.toList x.cps.toList := by
  unfold repl
  have hf := StrLaws.found_one x c
  by_cases h : (Builtin.Str.occurrences x ⟨#[c]⟩ 0 x.length 1).isEmpty = true
  · rw [if_pos h]
    rw [h] at hf
    exact (lrep_not (of_decide_eq_false hf.symm)).symm
  · rw [if_neg h, StrLaws.replace_one, join_lrep c r _ (StrLaws.split_free x c), StrLaws.join_split]
noncomputable def chain6 (l : List Nat) : List Nat := lrep 13 [38, 35, 120, 68, 59] (lrep 10 [38, 35, 120, 65, 59] (lrep 9 [38, 35, 120, 57, 59] (lrep 34 [38, 113, 117, 111, 116, 59] (lrep 60 [38, 108, 116, 59] (lrep 38 [38, 97, 109, 112, 59] l)))))
theorem chain6_append (a b : List Nat) : chain6 (a ++ b) = chain6 a ++ chain6 b := by simp only [chain6, lrep_append]
theorem chain6_one (c : Nat) : chain6 [c] = (esc1 c).cps.toList := by
  unfold esc1
  by_cases h1 : c = 38
  · subst h1; decide +kernel
  by_cases h2 : c = 60
  · subst h2; decide +kernel
  by_cases h3 : c = 34
  · subst h3; decide +kernel
  by_cases h4 : c = 9
  · subst h4; decide +kernel
  by_cases h5 : c = 10
  · subst h5; decide +kernel
  by_cases h6 : c = 13
  · subst h6; decide +kernel
  simp [h1, h2, h3, h4, h5, h6, chain6, lrep]
theorem chain6_eq : ∀ l : List Nat, chain6 l = l.flatMap fun c => (esc1 c).cps.toList
  | [] => rfl
  | c :: l => by
    rw [show c :: l = [c] ++ l from rfl, chain6_append, chain6_one, chain6_eq l]; rfl
theorem escF_list (x : Str) : (escF x).cps.toList = x.cps.toList.flatMap fun c => (esc1 c).cps.toList := by
  rw [← chain6_eq]
  show (repl ⟨#[13]⟩ (Str.ofString "&#xD;") (repl ⟨#[10]⟩ (Str.ofString "&#xA;") (repl ⟨#[9]⟩ (Str.ofString "&#x9;") (repl ⟨#[34]⟩ (Str.ofString "&quot;") (repl ⟨#[60]⟩ (Str.ofString "&lt;") (repl ⟨#[38]⟩ (Str.ofString "&amp;") x)))))).cps.toList = _
  simp only [repl_list]
  rfl
theorem spelled_list (x : Str) : (spelled x).cps.toList = x.cps.toList.flatMap fun c => (esc1 c).cps.toList := by
  unfold spelled catS
  simp [List.flatMap_map]
theorem escF_spelled (x : Str) : escF x = spelled x := Str.ext' (Array.toList_inj.mp ((escF_list x).trans (spelled_list x).symm))
theorem lrep_le {c : Nat} {z : List Nat} (hz : z.length ≤ 6) : ∀ l : List Nat, (lrep c z l).length ≤ 6 * l.length
  | [] => Nat.le_refl _
  | a :: l => by
    have h1 := lrep_le (c := c) hz l
    have h2 : (if a = c then z else [a]).length ≤ 6 := by
      by_cases e : a = c
      · rw [if_pos e]; exact hz
      · rw [if_neg e, List.length_singleton]; decide
    unfold lrep at h1 ⊢
    rw [List.flatMap_cons, List.length_append, List.length_cons]
    omega
theorem repl_le {c : Nat} {r x : Str} (hr : r.length ≤ 6) : (repl ⟨#[c]⟩ r x).length ≤ 6 * x.length := by
  show (repl ⟨#[c]⟩ r x).cps.toList.length ≤ 6 * x.cps.toList.length
  rw [repl_list]
  exact lrep_le hr _
theorem escOk_of {x : Str} (hx : x.length ≤ 100) : EscOk x := by
  have e1 : (repl (Str.ofString "&") (Str.ofString "&amp;") x).length ≤ 6 * x.length := repl_le (c := 38) (by decide)
  unfold EscOk
  generalize repl (Str.ofString "&") (Str.ofString "&amp;") x = x1 at e1 ⊢
  have e2 : (repl (Str.ofString "<") (Str.ofString "&lt;") x1).length ≤ 6 * x1.length := repl_le (c := 60) (by decide)
  generalize repl (Str.ofString "<") (Str.ofString "&lt;") x1 = x2 at e2 ⊢
  have e3 : (repl (Str.ofString "\"") (Str.ofString "&quot;") x2).length ≤ 6 * x2.length := repl_le (c := 34) (by decide)
  generalize repl (Str.ofString "\"") (Str.ofString "&quot;") x2 = x3 at e3 ⊢
  have e4 : (repl (Str.ofString "\t") (Str.ofString "&#x9;") x3).length ≤ 6 * x3.length := repl_le (c := 9) (by decide)
  generalize repl (Str.ofString "\t") (Str.ofString "&#x9;") x3 = x4 at e4 ⊢
  have e5 : (repl (Str.ofString "\n") (Str.ofString "&#xA;") x4).length ≤ 6 * x4.length := repl_le (c := 10) (by decide)
  generalize repl (Str.ofString "\n") (Str.ofString "&#xA;") x4 = x5 at e5 ⊢
  intro y hy
  simp only [List.mem_cons, List.not_mem_nil, or_false] at hy
  rcases hy with rfl | rfl | rfl | rfl | rfl | rfl <;> omega

section
open Builtin Builtin.Str StrLaws
theorem at_one {x : Str} {c hi i : Nat} (hh : hi ≤ x.length) : At x ⟨#[c]⟩ hi i ↔ i < hi ∧ x.cps.toList[i]? = some c := by
  have h := subAt_one x c i
  have e : (⟨#[c]⟩ : Str).length = 1 := rfl
  rw [e] at h
  unfold At
  rw [e]
  constructor
  · rintro ⟨a, b⟩; exact ⟨a, h.mp ⟨by omega, b⟩⟩
  · rintro ⟨a, b⟩; exact ⟨a, (h.mpr b).2⟩
theorem occ_one {x : Str} {c hi : Nat} (hh : hi ≤ x.length) :
    (occurrences x ⟨#[c]⟩ 0 hi 1 = [] ∧ ∀ i, i < hi → x.cps.toList[i]? ≠ some c) ∨ ∃ i r, occurrences x ⟨#[c]⟩ 0 hi 1 = i :: r ∧ i < hi ∧ x.cps.toList[i]? = some c ∧ ∀ k, k < i → x.cps.toList[k]? ≠ some c := by
  rw [occ_eq]
  rcases occ_first x ⟨#[c]⟩ hi 1 (Nat.le_refl 1) (List.range' 0 (hi + 1 - 0)) 0 (fun _ _ => Nat.zero_le _) with ⟨a, b⟩ | ⟨pre, a, post, e, f, g, b⟩
  · refine .inl ⟨by rw [a], fun i hi' hx => b i (List.mem_range'_1.mpr ⟨Nat.zero_le _, by omega⟩) ((at_one hh).mpr ⟨hi', hx⟩)⟩
  · obtain ⟨g1, g2⟩ := (at_one hh).mp g
    have g3 : ∀ k, k < a → x.cps.toList[k]? ≠ some c := fun k hk hx => b k (range'_split e k hk) ((at_one hh).mpr ⟨by omega, hx⟩)
    generalize (forIn (List.range' 0 (hi + 1 - 0)) ((#[] : Array Nat), 0) (occBody x ⟨#[c]⟩ hi 1)).run.fst = z at f
    obtain ⟨l⟩ := z
    cases l with
    | nil => simp at f
    | cons b t =>
      simp at f
      subst f
      exact .inr ⟨b, t, rfl, g1, g2, g3⟩
theorem occ_first_at {x : Str} {c hi k : Nat} (hh : hi ≤ x.length) (hk : k < hi) (hx : x.cps.toList[k]? = some c) (hn : ∀ j, j < k → x.cps.toList[j]? ≠ some c) : ∃ r, occurrences x ⟨#[c]⟩ 0 hi 1 = k :: r := by
  rcases occ_one (c := c) hh with ⟨_, b⟩ | ⟨i, r, e, h1, h2, h3⟩
  · exact absurd hx (b k hk)
  · have : i = k := by
      rcases Nat.lt_trichotomy i k with h | h | h
      · exact absurd h2 (hn i h)
      · exact h
      · exact absurd hx (h3 k h)
    exact ⟨r, this ▸ e⟩
theorem occ_no {x : Str} {c hi : Nat} (hh : hi ≤ x.length) (hn : ∀ j, j < hi → x.cps.toList[j]? ≠ some c) : occurrences x ⟨#[c]⟩ 0 hi 1 = [] := by
  rcases occ_one (c := c) hh with ⟨a, _⟩ | ⟨i, r, e, h1, h2, h3⟩
  · exact a
  · exact absurd h2 (hn i h1)
theorem last_one {x : Str} {c hi : Nat} (hh : hi ≤ x.length) : LastOk x ⟨#[c]⟩ hi (List.range' 0 (hi + 1)) (lastOccurrence x ⟨#[c]⟩ 0 hi) := by
  rw [last_eq]
  have := last_run x ⟨#[c]⟩ hi (List.range' 0 (hi + 1 - 0)) [] none (fun _ h => nomatch h) (fun _ h => nomatch h) (by simpa using List.pairwise_lt_range' (s := 0) (n := hi + 1 - 0))
  simpa using this
theorem last_at {x : Str} {c hi k : Nat} (hh : hi ≤ x.length) (hk : k < hi) (hx : x.cps.toList[k]? = some c) (hn : ∀ j, k < j → j < hi → x.cps.toList[j]? ≠ some c) : lastOccurrence x ⟨#[c]⟩ 0 hi = some k := by
  have h := last_one (c := c) hh
  have hm : k ∈ List.range' 0 (hi + 1) := List.mem_range'_1.mpr ⟨Nat.zero_le _, by omega⟩
  cases e : lastOccurrence x ⟨#[c]⟩ 0 hi with
  | none => rw [e] at h; exact absurd ((at_one hh).mpr ⟨hk, hx⟩) (h k hm)
  | some a =>
    rw [e] at h
    obtain ⟨h1, h2⟩ := h
    obtain ⟨h3, h4⟩ := (at_one hh).mp h1
    rcases Nat.lt_trichotomy a k with h | h | h
    · exact absurd ((at_one hh).mpr ⟨hk, hx⟩) (h2 k hm h)
    · rw [h]
    · exact absurd h4 (hn a h h3)
theorem last_no {x : Str} {c hi : Nat} (hh : hi ≤ x.length) (hn : ∀ j, j < hi → x.cps.toList[j]? ≠ some c) : lastOccurrence x ⟨#[c]⟩ 0 hi = none := by
  have h := last_one (c := c) hh
  cases e : lastOccurrence x ⟨#[c]⟩ 0 hi with
  | none => rfl
  | some a =>
    rw [e] at h
    obtain ⟨h3, h4⟩ := (at_one hh).mp h.1
    exact absurd h4 (hn a h3)
theorem from_nat (n k : Nat) : fromIndex n (k : Int) = k := by
  unfold fromIndex
  rw [if_neg (by omega)]
  omega
theorem stripF_at {x : Str} {P s H : List Nat} (hx : x.cps.toList = P ++ (s ++ H)) (hs : (∃ t, s = 10 :: t) ∨ ((∃ t, s = 58 :: t) ∧ 10 ∉ s ++ H)) (h10 : 10 ∉ P) (h58 : 58 ∉ P) :
    (46 ∉ P → stripF x = ⟨P.toArray⟩) ∧ ∀ A B, P = A ++ 46 :: B → 46 ∉ B → stripF x = ⟨B.toArray⟩ := by
  have hlen : x.length = P.length + (s ++ H).length := by
    show x.cps.size = _
    rw [← Array.length_toList, hx, List.length_append]
  have hsl : 0 < s.length := by rcases hs with ⟨t, rfl⟩ | ⟨⟨t, rfl⟩, _⟩ <;> simp
  have hPl : P.length < x.length := by rw [hlen, List.length_append]; omega
  have inP : ∀ {c : Nat}, c ∉ P → ∀ j, j < P.length → x.cps.toList[j]? ≠ some c := fun hc j hj e => by
    rw [hx, List.getElem?_append_left hj] at e
    exact hc (List.mem_of_getElem? e)
  have atS : ∀ {c : Nat} {t : List Nat}, s = c :: t → x.cps.toList[P.length]? = some c := fun e => by
    rw [hx, List.getElem?_append_right (Nat.le_refl _), e]; simp
  -- the end
  have hend : (if 0 ≤ find4 x (Str.ofString ":") 0 (if 0 ≤ Txt.find x (Str.ofString "\n") then Txt.find x (Str.ofString "\n") else x.length) then find4 x (Str.ofString ":") 0 (if 0 ≤ Txt.find x (Str.ofString "\n") then Txt.find x (Str.ofString "\n") else x.length) else (if 0 ≤ Txt.find x (Str.ofString "\n") then Txt.find x (Str.ofString "\n") else x.length)) = (P.length : Int) := by
    rcases hs with ⟨t, ht⟩ | ⟨⟨t, ht⟩, hno⟩
    · have h1 : Txt.find x (Str.ofString "\n") = (P.length : Int) := by
        obtain ⟨r, hr⟩ := occ_first_at (Nat.le_refl _) hPl (atS ht) (inP h10)
        show (match occurrences x ⟨#[10]⟩ 0 x.length 1 with | i :: _ => (i : Int) | [] => -1) = _
        rw [hr]
      have e1 : (if 0 ≤ Txt.find x (Str.ofString "\n") then Txt.find x (Str.ofString "\n") else (x.length : Int)) = (P.length : Int) := by rw [h1, if_pos (by omega)]
      rw [e1]
      have h2 : find4 x (Str.ofString ":") 0 (P.length : Int) = -1 := by
        show (match occurrences x ⟨#[58]⟩ (fromIndex x.length ((0 : Nat) : Int)) (min (fromIndex x.length (P.length : Int)) x.length) 1 with | i :: _ => (i : Int) | [] => -1) = _
        rw [from_nat, from_nat, Nat.min_eq_left (by omega), occ_no (by omega) (inP h58)]
      rw [h2, if_neg (by omega)]
    · have h1 : Txt.find x (Str.ofString "\n") = -1 := by
        show (match occurrences x ⟨#[10]⟩ 0 x.length 1 with | i :: _ => (i : Int) | [] => -1) = _
        rw [occ_no (Nat.le_refl _) fun j _ e => ?_]
        have hm := List.mem_of_getElem? e
        rw [hx] at hm
        rcases List.mem_append.mp hm with h | h
        · exact h10 h
        · exact hno h
      have e1 : (if 0 ≤ Txt.find x (Str.ofString "\n") then Txt.find x (Str.ofString "\n") else (x.length : Int)) = (x.length : Int) := by rw [h1, if_neg (by omega)]
      rw [e1]
      have h2 : find4 x (Str.ofString ":") 0 (x.length : Int) = (P.length : Int) := by
        obtain ⟨r, hr⟩ := occ_first_at (Nat.le_refl _) hPl (atS ht) (inP h58)
        show (match occurrences x ⟨#[58]⟩ (fromIndex x.length ((0 : Nat) : Int)) (min (fromIndex x.length (x.length : Int)) x.length) 1 with | i :: _ => (i : Int) | [] => -1) = _
        rw [from_nat, from_nat, Nat.min_self, hr]
      rw [h2, if_pos (by omega)]
  have hcut : ∀ a, a ≤ P.length → Txt.slice x (some (a : Int)) (some (P.length : Int)) = ⟨((P.drop a)).toArray⟩ := fun a ha => by
    refine (sliceText_nat x ha (by omega)).trans ?_
    rw [hx, List.drop_append_of_le_length ha, List.take_append_of_le_length (by rw [List.length_drop]; omega), List.take_of_length_le (by rw [List.length_drop]; omega)]
  unfold stripF
  dsimp only
  rw [hend]
  refine ⟨fun h46 => ?_, fun A B hP hB => ?_⟩
  · have h3 : rfind4 x (Str.ofString ".") 0 (P.length : Int) = -1 := by
      show (match lastOccurrence x ⟨#[46]⟩ (fromIndex x.length ((0 : Nat) : Int)) (min (fromIndex x.length (P.length : Int)) x.length) with | some k => (k : Int) | none => -1) = _
      rw [from_nat, from_nat, Nat.min_eq_left (by omega), last_no (by omega) (inP h46)]
    rw [h3, if_neg (by omega)]
    exact hcut 0 (Nat.zero_le _)
  · have hAl : A.length < P.length := by rw [hP, List.length_append, List.length_cons]; omega
    have h3 : rfind4 x (Str.ofString ".") 0 (P.length : Int) = (A.length : Int) := by
      show (match lastOccurrence x ⟨#[46]⟩ (fromIndex x.length ((0 : Nat) : Int)) (min (fromIndex x.length (P.length : Int)) x.length) with | some k => (k : Int) | none => -1) = _
      rw [from_nat, from_nat, Nat.min_eq_left (by omega), last_at (k := A.length) (by omega) hAl ?_ fun j h1 h2 e => ?_]
      · rw [hx, List.getElem?_append_left hAl, hP, List.getElem?_append_right (Nat.le_refl _)]; simp
      · rw [hx, List.getElem?_append_left h2, hP, List.getElem?_append_right (by omega)] at e
        obtain ⟨d, hd⟩ : ∃ d, j - A.length = d + 1 := ⟨j - A.length - 1, (Nat.sub_add_cancel (Nat.sub_pos_of_lt h1)).symm⟩
        rw [hd, List.getElem?_cons_succ] at e
        exact hB (List.mem_of_getElem? e)
    rw [h3, if_pos (by omega)]
    have := hcut (A.length + 1) (by omega)
    rw [show ((A.length : Int) + 1) = ((A.length + 1 : Nat) : Int) by omega, this, hP]
    simp
end

noncomputable abbrev Stp := Nat × Bool
noncomputable def flp (p : Stp) : Stp := (p.1, !p.2)
noncomputable def aStep (n : Nat) (st : List Stp × List Nat × Nat) (b : Bool) : List Stp × List Nat × Nat :=
  if st.2.2 < n ∧ (st.2.1 = [] ∨ b = true) then (st.1 ++ [(st.2.2, true)], st.2.1 ++ [st.2.2], st.2.2 + 1) else (st.1 ++ [(st.2.1.getLastD 0, false)], st.2.1.dropLast, st.2.2)
noncomputable def aRing (n : Nat) (bs : List Bool) : List Stp × List Nat × Nat := bs.foldl (aStep n) ([], [], 0)
noncomputable def sStep (st : List Stp) (p : Stp) : List Stp := if st.getLast? = some (flp p) then st.dropLast else st ++ [p]
noncomputable def wStep (st : List Stp) (p : Stp) : List Stp := if flp p ∈ st then st.erase (flp p) else st ++ [p]
noncomputable def sAt (A : List Stp) (k : Nat) : List Stp := (A.take k).foldl sStep []
noncomputable def wAt (A : List Stp) (k : Nat) : List Stp := (A.take k).foldl wStep []
noncomputable def rot (A : List Stp) (c : Nat) : List Stp := A.drop c ++ A.take c
noncomputable def bak (A : List Stp) : List Stp := A.reverse.map flp
noncomputable def hts (A : List Stp) : List Int := (List.range A.length).map fun k => ((sAt A (k + 1)).length : Int)
noncomputable def mts (A : List Stp) : Nat := (List.range A.length).findIdx fun k => (sAt A (k + 1)).isEmpty
noncomputable def okA (n : Nat) (A : List Stp) : Bool :=
  decide (A.length = 2 * n) && A.all (fun p => decide (p.1 < n)) &&
  (List.range (2 * n)).all (fun c => decide (sAt (rot A c) (2 * n) = []) && (List.range (2 * n + 1)).all (fun k => decide (wAt (rot A c) k = sAt (rot A c) k))) &&
  decide (sAt (bak A) (2 * n) = []) && (List.range (2 * n - 1)).all (fun k => decide (sAt (bak A) (k + 1) = sAt A (2 * n - 1 - k))) &&
  (List.range (2 * n - 1)).all (fun c => decide (hts (rot A (c + 1)) = (((hts (rot A c)).drop 1).take (mts (rot A c) - 1)).map (· - 1) ++ ((hts (rot A c)).drop (mts (rot A c))).map (· + 1) ++ [0]) && decide (0 < mts (rot A c) ∧ mts (rot A c) < 2 * n)) && A.all (fun p => decide (flp p ∈ A))
noncomputable def lists : Nat → List (List Bool)
  | 0 => [[]]
  | k + 1 => (lists k).flatMap fun l => [false :: l, true :: l]
theorem mem_lists : ∀ l : List Bool, l ∈ lists l.length
  | [] => .head _
  | b :: l => List.mem_flatMap.mpr ⟨l, mem_lists l, by cases b <;> simp⟩
noncomputable def down : List Nat → List Stp := List.map fun c => (c / 2, c % 2 == 1)
noncomputable def rings3 : List (List Stp) := [[1, 0, 3, 2, 5, 4], [1, 3, 2, 0, 5, 4], [1, 3, 5, 4, 2, 0], [1, 0, 3, 5, 4, 2], [1, 3, 2, 5, 4, 0]].map down
noncomputable def rings4 : List (List Stp) := [[1, 0, 3, 2, 5, 4, 7, 6], [1, 3, 2, 0, 5, 4, 7, 6], [1, 3, 5, 4, 2, 0, 7, 6], [1, 0, 3, 5, 4, 2, 7, 6], [1, 3, 2, 5, 4, 0, 7, 6], [1, 3, 5, 7, 6, 4, 2, 0], [1, 3, 5, 4, 7, 6, 2, 0], [1, 0, 3, 5, 7, 6, 4, 2], [1, 3, 2, 5, 7, 6, 4, 0],
  [1, 0, 3, 2, 5, 7, 6, 4], [1, 3, 2, 0, 5, 7, 6, 4], [1, 3, 5, 4, 2, 7, 6, 0], [1, 0, 3, 5, 4, 7, 6, 2], [1, 3, 2, 5, 4, 7, 6, 0]].map down
theorem all3 : ((lists 6).all fun b => decide ((aRing 3 b).1 ∈ rings3)) = true := by decide +kernel
theorem all4 : ((lists 8).all fun b => decide ((aRing 4 b).1 ∈ rings4)) = true := by decide +kernel
theorem ok3 : rings3.all (okA 3) = true := by decide +kernel
theorem ok4 : rings4.all (okA 4) = true := by decide +kernel
theorem ring_ok {n : Nat} (hn : n = 3 ∨ n = 4) {b : List Bool} (hb : b.length = 2 * n) : okA n (aRing n b).1 = true := by
  rcases hn with rfl | rfl
  · have := of_decide_eq_true (List.all_eq_true.mp all3 b (by have := mem_lists b; rwa [hb] at this))
    exact List.all_eq_true.mp ok3 _ this
  · have := of_decide_eq_true (List.all_eq_true.mp all4 b (by have := mem_lists b; rwa [hb] at this))
    exact List.all_eq_true.mp ok4 _ this
structure RingOk (n : Nat) (A : List Stp) : Prop where
  len : A.length = 2 * n
  lt : ∀ p ∈ A, p.1 < n
  ends : ∀ c, c < 2 * n → sAt (rot A c) (2 * n) = []
  same : ∀ c, c < 2 * n → ∀ k, k ≤ 2 * n → wAt (rot A c) k = sAt (rot A c) k
  bend : sAt (bak A) (2 * n) = []
  bsame : ∀ k, k < 2 * n - 1 → sAt (bak A) (k + 1) = sAt A (2 * n - 1 - k)
  cnt : ∀ c, c < 2 * n - 1 → hts (rot A (c + 1)) = (((hts (rot A c)).drop 1).take (mts (rot A c) - 1)).map (· - 1) ++ ((hts (rot A c)).drop (mts (rot A c))).map (· + 1) ++ [0]
  mate : ∀ c, c < 2 * n - 1 → 0 < mts (rot A c) ∧ mts (rot A c) < 2 * n
  flip : ∀ p ∈ A, flp p ∈ A
theorem ringOk_of {n : Nat} {A : List Stp} (h : okA n A = true) : RingOk n A := by
  unfold okA at h
  simp only [Bool.and_eq_true, decide_eq_true_eq, List.all_eq_true, List.mem_range] at h
  obtain ⟨⟨⟨⟨⟨⟨h1, h2⟩, h3⟩, h4⟩, h5⟩, h6⟩, h7⟩ := h
  exact ⟨h1, h2, fun c hc => (h3 c hc).1, fun c hc k hk => (h3 c hc).2 k (Nat.lt_succ_of_le hk), h4, h5, fun c hc => (h6 c hc).1, fun c hc => (h6 c hc).2, h7⟩
theorem rot_length (A : List Stp) (c : Nat) : (rot A c).length = A.length := by
  unfold rot
  rw [List.length_append, List.length_drop, List.length_take, Nat.min_comm]
  exact Nat.sub_add_min_cancel _ _
theorem sAt_succ {A : List Stp} {k : Nat} {p : Stp} (h : A[k]? = some p) : sAt A (k + 1) = sStep (sAt A k) p := by
  unfold sAt
  rw [List.take_add_one, h, List.foldl_append]; rfl
theorem wAt_succ {A : List Stp} {k : Nat} {p : Stp} (h : A[k]? = some p) : wAt A (k + 1) = wStep (wAt A k) p := by
  unfold wAt
  rw [List.take_add_one, h, List.foldl_append]; rfl

/-- A sign that a name may bear. -/
structure Sign (c : Nat) : Prop where
  lt : c < 128
  dot : c ≠ 46
  colon : c ≠ 58
  letter : ¬ (97 ≤ c ∧ c ≤ 100)
theorem signF_code (d k : Int) : ∃ c, signF d k = ⟨#[c]⟩ ∧ Sign c := by
  unfold signF
  generalize hc : (d.fdiv 2 + k).fmod 9 = c
  have h0 : 0 ≤ c := by rw [← hc]; exact Int.fmod_nonneg_of_pos _ (by decide)
  by_cases h7 : c < 7
  · rw [if_pos h7]
    rcases seven h0 h7 with rfl | rfl | rfl | rfl | rfl | rfl | rfl
    · exact ⟨9, by decide +kernel, ⟨by decide, by decide, by decide, by decide⟩⟩
    · exact ⟨10, by decide +kernel, ⟨by decide, by decide, by decide, by decide⟩⟩
    · exact ⟨13, by decide +kernel, ⟨by decide, by decide, by decide, by decide⟩⟩
    · exact ⟨38, by decide +kernel, ⟨by decide, by decide, by decide, by decide⟩⟩
    · exact ⟨60, by decide +kernel, ⟨by decide, by decide, by decide, by decide⟩⟩
    · exact ⟨62, by decide +kernel, ⟨by decide, by decide, by decide, by decide⟩⟩
    · exact ⟨34, by decide +kernel, ⟨by decide, by decide, by decide, by decide⟩⟩
  · rw [if_neg h7]
    generalize he : (d.fdiv 18).fmod 128 = e
    have e0 : 0 ≤ e := by rw [← he]; exact Int.fmod_nonneg_of_pos _ (by decide)
    have e1 : e < 128 := by rw [← he]; exact Int.fmod_lt_of_pos _ (by decide)
    have hf := StrLaws.found_one (Str.ofString ".:abcd") e.toNat
    rw [show (Str.ofString ".:abcd").cps.toList = [46, 58, 97, 98, 99, 100] by decide +kernel] at hf
    split
    · rename_i hi
      rw [hi] at hf
      have hn := of_decide_eq_false hf.symm
      simp only [List.mem_cons, List.not_mem_nil, or_false, not_or] at hn
      exact ⟨e.toNat, rfl, ⟨(Int.toNat_lt e0).mpr e1, hn.1, hn.2.1, fun ⟨a, b⟩ => Nat.not_lt.mpr b (Nat.lt_of_le_of_ne (Nat.lt_of_le_of_ne (Nat.lt_of_le_of_ne (Nat.lt_of_le_of_ne a (Ne.symm hn.2.2.1)) (Ne.symm hn.2.2.2.1)) (Ne.symm hn.2.2.2.2.1)) (Ne.symm hn.2.2.2.2.2))⟩⟩
    · exact ⟨45, by decide +kernel, ⟨by decide, by decide, by decide, by decide⟩⟩
theorem letter_code {i : Nat} (h : i < 4) : letter i = ⟨#[97 + i]⟩ := by
  rcases four h with rfl | rfl | rfl | rfl <;> decide +kernel
/-- The name of a step: the edge's sign and letter on the way down, turned about on the way up. -/
noncomputable def nm (σ : List Nat) (p : Stp) : Str := if p.2 then ⟨#[σ.getD p.1 0, 97 + p.1]⟩ else ⟨#[97 + p.1, σ.getD p.1 0]⟩
theorem nm_more {σ : List Nat} {c : Nat} {p : Stp} (h : p.1 < σ.length) : nm (σ ++ [c]) p = nm σ p := by
  unfold nm
  rw [List.getD_eq_getElem?_getD, List.getD_eq_getElem?_getD, List.getElem?_append_left h]
theorem catS_append (a b : List Str) : catS (a ++ b) = catS a ++ catS b := by
  unfold catS
  apply Str.ext'
  rw [Str.cps_append]; apply Array.ext'; simp
theorem catS_one (a : Str) : catS [a] = a := by
  unfold catS
  apply Str.ext'
  apply Array.ext'; simp
structure Sim (n : Nat) (st : Str × List Str × Nat) (a : List Stp × List Nat × Nat) (σ : List Nat) (i : Nat) : Prop where
  len : σ.length = a.2.2
  good : ∀ c ∈ σ, Sign c
  ring : st.1 = catS (a.1.map (nm σ))
  ways : st.2.1 = a.2.1.map fun e => nm σ (e, false)
  op : st.2.2 = a.2.2
  out : ∀ p ∈ a.1, p.1 < a.2.2
  stk : ∀ e ∈ a.2.1, e < a.2.2
  le : a.2.2 ≤ n
  num : a.2.1.length + i = 2 * a.2.2
theorem map_more {σ : List Nat} {c : Nat} {l : List Stp} (h : ∀ p ∈ l, p.1 < σ.length) : l.map (nm (σ ++ [c])) = l.map (nm σ) := List.map_congr_left fun p hp => nm_more (h p hp)
theorem Sim.step {n : Nat} {st : Str × List Str × Nat} {a : List Stp × List Nat × Nat} {σ : List Nat} {i : Nat} (h : Sim n st a σ i) (hi : i < 2 * n) (hn : n ≤ 4) (d : Int) :
    ∃ σ', Sim n (ringStep n st (i, d)) (aStep n a (decide (d.fmod 2 = 1))) σ' (i + 1) := by
  obtain ⟨st1, st2, st3⟩ := st
  obtain ⟨a1, a2, a3⟩ := a
  obtain ⟨h1, h2, h3, h4, h5, h6, h7, h8, h9⟩ := h
  dsimp only at h1 h3 h4 h5 h6 h7 h8 h9
  subst h5
  have hem : st2 = [] ↔ a2 = [] := by rw [h4]; exact List.map_eq_nil_iff
  unfold ringStep aStep
  dsimp only
  by_cases hc : st3 < n ∧ (st2 = [] ∨ d.fmod 2 = 1)
  · rw [if_pos hc, if_pos ⟨hc.1, hc.2.imp hem.mp decide_eq_true⟩]
    obtain ⟨c, e1, e2⟩ := signF_code d (i : Nat)
    have e3 := letter_code (i := st3) (by omega)
    have hg : (σ ++ [c]).getD st3 0 = c := by
      rw [List.getD_eq_getElem?_getD, List.getElem?_append_right (by omega), ← h1]; simp
    refine ⟨σ ++ [c], ⟨by dsimp only; rw [List.length_append, h1]; rfl, ?_, ?_, ?_, rfl, ?_, ?_, ?_, ?_⟩⟩
    · intro x hx
      rcases List.mem_append.mp hx with hx | hx
      · exact h2 x hx
      · rw [List.mem_singleton.mp hx]; exact e2
    · dsimp only
      rw [List.map_append, catS_append, map_more (fun p hp => by rw [h1]; exact h6 p hp), ← h3, e1, e3]
      congr 1
      show _ = catS [nm (σ ++ [c]) (st3, true)]
      rw [catS_one]
      unfold nm
      dsimp only
      rw [hg, if_pos rfl]; rfl
    · dsimp only
      rw [List.map_append, h4, e1, e3]
      congr 1
      · exact List.map_congr_left fun e he => (nm_more (p := (e, false)) (by rw [h1]; exact h7 e he)).symm
      · show [_] = [nm (σ ++ [c]) (st3, false)]
        unfold nm
        dsimp only
        rw [hg, if_neg (by decide)]; rfl
    · intro p hp
      dsimp only at hp ⊢
      rcases List.mem_append.mp hp with hp | hp
      · exact Nat.lt_succ_of_lt (h6 p hp)
      · rw [List.mem_singleton.mp hp]; exact Nat.lt_succ_self _
    · intro e he
      dsimp only at he ⊢
      rcases List.mem_append.mp he with he | he
      · exact Nat.lt_succ_of_lt (h7 e he)
      · rw [List.mem_singleton.mp he]; exact Nat.lt_succ_self _
    · exact hc.1
    · dsimp only
      rw [List.length_append, List.length_singleton]
      omega
  · have hne : a2 ≠ [] := by
      intro e
      refine hc ⟨?_, .inl (hem.mpr e)⟩
      rw [e] at h9
      simp only [List.length_nil] at h9
      omega
    have hl := List.length_pos_iff.mpr hne
    have hlast : a2.getLastD 0 ∈ a2 := by
      rw [List.getLastD_eq_getLast?, List.getLast?_eq_some_getLast hne]; exact List.getLast_mem hne
    rw [if_neg hc, if_neg (fun q => hc ⟨q.1, q.2.imp hem.mpr of_decide_eq_true⟩)]
    refine ⟨σ, ⟨h1, h2, ?_, ?_, rfl, ?_, fun e he => h7 e (List.dropLast_subset _ he), h8, ?_⟩⟩
    · dsimp only
      rw [List.map_append, catS_append, ← h3]
      congr 1
      show _ = catS [nm σ (a2.getLastD 0, false)]
      rw [catS_one, h4, List.getLastD_eq_getLast?, List.getLastD_eq_getLast?, List.getLast?_map, List.getLast?_eq_some_getLast hne]
      rfl
    · dsimp only
      rw [h4, List.map_dropLast]
    · intro p hp
      dsimp only at hp ⊢
      rcases List.mem_append.mp hp with hp | hp
      · exact h6 p hp
      · rw [List.mem_singleton.mp hp]; exact h7 _ hlast
    · dsimp only
      rw [List.length_dropLast]
      omega
theorem ring_sim {n : Nat} (hn : n ≤ 4) : ∀ (l : List Int), l.length ≤ 2 * n → ∃ σ, Sim n (ringL n l.reverse) (aRing n (l.reverse.map fun d => decide (d.fmod 2 = 1))) σ l.length
  | [], _ => ⟨[], ⟨rfl, (fun _ h => nomatch h), rfl, rfl, rfl, (fun _ h => nomatch h), (fun _ h => nomatch h), Nat.zero_le _, rfl⟩⟩
  | d :: l, hl => by
    rw [List.length_cons] at hl
    obtain ⟨σ, h⟩ := ring_sim hn l (by omega)
    rw [List.reverse_cons, ringL_snoc, List.map_append, List.length_reverse]
    have e : aRing n (l.reverse.map (fun d => decide (d.fmod 2 = 1)) ++ [d].map (fun d => decide (d.fmod 2 = 1))) = aStep n (aRing n (l.reverse.map fun d => decide (d.fmod 2 = 1))) (decide (d.fmod 2 = 1)) := by
      unfold aRing
      rw [List.foldl_append]; rfl
    rw [e]
    exact h.step (by omega) hn d
/-- What a script's ring is: the names of a walk round a plane tree. -/
theorem ring_is {n : Nat} (hn : n = 3 ∨ n = 4) {ds : List Int} (hd : ds.length = 2 * n) : ∃ A σ, RingOk n A ∧ σ.length = n ∧ (∀ c ∈ σ, Sign c) ∧ (ringL n ds).1 = catS (A.map (nm σ)) := by
  obtain ⟨σ, h⟩ := ring_sim (n := n) (by omega) ds.reverse (by rw [List.length_reverse]; omega)
  rw [List.reverse_reverse, List.length_reverse] at h
  have hlen := h.len
  have hnum := h.num
  have hle := h.le
  rw [hd] at hnum
  exact ⟨_, σ, ringOk_of (ring_ok hn (by rw [List.length_map, hd])), by omega, h.good, h.ring⟩

theorem esc1_sign {c : Nat} (h : Sign c) : ∃ a t, (esc1 c).cps.toList = a :: t ∧ ¬ (97 ≤ a ∧ a ≤ 100) ∧ t.length ≤ 5 ∧ ∀ x ∈ a :: t, x ≠ 10 ∧ x ≠ 58 ∧ x ≠ 46 ∧ x < 128 := by
  obtain ⟨h1, h2, h3, h4⟩ := h
  unfold esc1
  by_cases e1 : c = 38
  · rw [if_pos e1]; exact ⟨38, [97, 109, 112, 59], by decide +kernel, by decide, by decide, by decide⟩
  by_cases e2 : c = 60
  · rw [if_neg e1, if_pos e2]; exact ⟨38, [108, 116, 59], by decide +kernel, by decide, by decide, by decide⟩
  by_cases e3 : c = 34
  · rw [if_neg e1, if_neg e2, if_pos e3]; exact ⟨38, [113, 117, 111, 116, 59], by decide +kernel, by decide, by decide, by decide⟩
  by_cases e4 : c = 9
  · rw [if_neg e1, if_neg e2, if_neg e3, if_pos e4]; exact ⟨38, [35, 120, 57, 59], by decide +kernel, by decide, by decide, by decide⟩
  by_cases e5 : c = 10
  · rw [if_neg e1, if_neg e2, if_neg e3, if_neg e4, if_pos e5]; exact ⟨38, [35, 120, 65, 59], by decide +kernel, by decide, by decide, by decide⟩
  by_cases e6 : c = 13
  · rw [if_neg e1, if_neg e2, if_neg e3, if_neg e4, if_neg e5, if_pos e6]; exact ⟨38, [35, 120, 68, 59], by decide +kernel, by decide, by decide, by decide⟩
  rw [if_neg e1, if_neg e2, if_neg e3, if_neg e4, if_neg e5, if_neg e6]
  exact ⟨c, [], rfl, h4, by decide, fun x hx => by rw [List.mem_singleton.mp hx]; exact ⟨e5, h3, h2, h1⟩⟩
theorem esc1_letter {e : Nat} (h : e < 4) : (esc1 (97 + e)).cps.toList = [97 + e] := by
  have : e = 0 ∨ e = 1 ∨ e = 2 ∨ e = 3 := by omega
  rcases this with rfl | rfl | rfl | rfl <;> decide +kernel
structure Signs (n : Nat) (σ : List Nat) : Prop where
  le : n ≤ 4
  len : σ.length = n
  good : ∀ c ∈ σ, Sign c
theorem Signs.at {n : Nat} {σ : List Nat} (h : Signs n σ) {e : Nat} (he : e < n) : Sign (σ.getD e 0) := by
  have : e < σ.length := by rw [h.len]; exact he
  rw [List.getD_eq_getElem?_getD, List.getElem?_eq_getElem this]
  exact h.good _ (List.getElem_mem this)
noncomputable def es (σ : List Nat) (p : Stp) : Str := escF (nm σ p)
theorem es_down {n : Nat} {σ : List Nat} (h : Signs n σ) {e : Nat} (he : e < n) : (es σ (e, true)).cps.toList = (esc1 (σ.getD e 0)).cps.toList ++ [97 + e] := by
  unfold es nm
  rw [escF_list, if_pos rfl]
  show (esc1 _).cps.toList ++ ((esc1 (97 + e)).cps.toList ++ []) = _
  rw [esc1_letter (by have := h.le; omega)]; rfl
theorem es_up {n : Nat} {σ : List Nat} (h : Signs n σ) {e : Nat} (he : e < n) : (es σ (e, false)).cps.toList = (97 + e) :: (esc1 (σ.getD e 0)).cps.toList := by
  unfold es nm
  rw [escF_list, if_neg Bool.false_ne_true]
  show (esc1 (97 + e)).cps.toList ++ ((esc1 _).cps.toList ++ []) = _
  rw [esc1_letter (by have := h.le; omega), List.append_nil]; rfl
theorem es_free {n : Nat} {σ : List Nat} (h : Signs n σ) {p : Stp} (hp : p.1 < n) : ∀ x ∈ (es σ p).cps.toList, x ≠ 10 ∧ x ≠ 58 ∧ x ≠ 46 ∧ x < 128 := by
  obtain ⟨e, d⟩ := p
  obtain ⟨a, t, e1, _, _, e4⟩ := esc1_sign (h.at hp)
  have hle := h.le
  have hp' : e < n := hp
  have hl : ∀ x, x = 97 + e → x ≠ 10 ∧ x ≠ 58 ∧ x ≠ 46 ∧ x < 128 := fun x hx => by omega
  intro x hx
  cases d
  · rw [es_up h hp, e1] at hx
    rcases List.mem_cons.mp hx with hx | hx
    · exact hl x hx
    · exact e4 x hx
  · rw [es_down h hp, e1] at hx
    rcases List.mem_append.mp hx with hx | hx
    · exact e4 x hx
    · exact hl x (List.mem_singleton.mp hx)
theorem es_size {n : Nat} {σ : List Nat} (h : Signs n σ) {p : Stp} (hp : p.1 < n) : 0 < (es σ p).length ∧ (es σ p).length ≤ 20 := by
  obtain ⟨e, d⟩ := p
  obtain ⟨a, t, e1, _, e3, _⟩ := esc1_sign (h.at hp)
  have hz : ∀ l, (es σ (e, d)).cps.toList = l → (es σ (e, d)).length = l.length := fun l hl => by rw [← hl]; rfl
  cases d
  · rw [hz _ (es_up h hp), e1, List.length_cons, List.length_cons]; omega
  · rw [hz _ (es_down h hp), e1, List.length_append, List.length_cons, List.length_singleton]; omega
theorem es_inj {n : Nat} {σ : List Nat} (h : Signs n σ) {p r : Stp} (hp : p.1 < n) (hr : r.1 < n) (e : es σ p = es σ r) : p = r := by
  obtain ⟨i, c⟩ := p
  obtain ⟨j, d⟩ := r
  replace e : (es σ (i, c)).cps.toList = (es σ (j, d)).cps.toList := by rw [e]
  obtain ⟨a, t, e1, e2, _, _⟩ := esc1_sign (h.at hp)
  obtain ⟨b, u, f1, f2, _, _⟩ := esc1_sign (h.at hr)
  have hle := h.le
  have hp' : i < n := hp
  have hr' : j < n := hr
  cases c <;> cases d
  · rw [es_up h hp, es_up h hr] at e
    have := (List.cons.inj e).1
    have : i = j := by omega
    rw [this]
  · rw [es_up h hp, es_down h hr, f1] at e
    have := (List.cons.inj e).1
    omega
  · rw [es_down h hp, es_up h hr, e1] at e
    have := (List.cons.inj e).1
    omega
  · rw [es_down h hp, es_down h hr] at e
    have := (List.append_inj' e rfl).2
    have := (List.cons.inj this).1
    have : i = j := by omega
    rw [this]
theorem catS_list (l : List Str) : (catS l).cps.toList = l.flatMap fun x => x.cps.toList := by unfold catS; simp
theorem pileT_list (l : List Str) : (pileT l).cps.toList = l.flatMap fun y => 46 :: y.cps.toList := by
  unfold pileT
  rw [catS_list, List.flatMap_map]
  congr 1
  funext y
  rw [Str.cps_append, Array.toList_append, show (Str.ofString ".").cps.toList = [46] by decide +kernel]; rfl
theorem pile_free {l : List Str} {c : Nat} (hc : c ≠ 46) (h : ∀ y ∈ l, c ∉ y.cps.toList) : c ∉ (pileT l).cps.toList := by
  rw [pileT_list]
  intro hm
  obtain ⟨y, hy, hx⟩ := List.mem_flatMap.mp hm
  rcases List.mem_cons.mp hx with e | hx
  · exact hc e
  · exact h y hy hx
theorem strip_last {l : List Str} {here : Str} {k : Nat} (h10 : ∀ y ∈ l, 10 ∉ y.cps.toList) (h58 : ∀ y ∈ l, 58 ∉ y.cps.toList) (h46 : ∀ y ∈ l, 46 ∉ y.cps.toList) (hh : 10 ∉ here.cps.toList) :
    stripF (pileT l ++ sepW k ++ here ++ Str.ofString ":") = l.getLastD ⟨#[]⟩ := by
  have hx : (pileT l ++ sepW k ++ here ++ Str.ofString ":").cps.toList = (pileT l).cps.toList ++ ((sepW k).cps.toList ++ (here.cps.toList ++ [58])) := by
    simp only [Str.cps_append, Array.toList_append, List.append_assoc]
    rfl
  have hs : (∃ t, (sepW k).cps.toList = 10 :: t) ∨ ((∃ t, (sepW k).cps.toList = 58 :: t) ∧ 10 ∉ (sepW k).cps.toList ++ (here.cps.toList ++ [58])) := by
    unfold sepW
    split
    · exact .inl ⟨[46], by decide +kernel⟩
    · refine .inr ⟨⟨[46], by decide +kernel⟩, fun hm => ?_⟩
      rw [show (Str.ofString ":.").cps.toList = [58, 46] by decide +kernel] at hm
      simp only [List.mem_append, List.mem_cons, List.not_mem_nil, or_false] at hm
      rcases hm with (e | e) | e | e
      · omega
      · omega
      · exact hh e
      · omega
  obtain ⟨k1, k2⟩ := stripF_at hx hs (pile_free (by decide) h10) (pile_free (by decide) h58)
  rcases List.eq_nil_or_concat l with rfl | ⟨l', y, rfl⟩
  · exact k1 (by rw [pileT_list]; simp)
  · rw [k2 (pileT l').cps.toList y.cps.toList (by rw [pileT_list, pileT_list, List.concat_eq_append, List.flatMap_append]; simp) (h46 y (by simp))]
    rw [List.concat_eq_append, List.getLastD_eq_getLast?, List.getLast?_append]
    rfl
theorem pileT_nil : pileT [] = Str.ofString "" := Str.ext' emp_cps.symm
theorem pileT_empty {l : List Str} (h : pileT l = Str.ofString "") : l = [] := by
  cases l with
  | nil => rfl
  | cons y l =>
    have := congrArg (fun z : Str => z.cps.toList) h
    simp only [pileT_list, emp_cps, List.flatMap_cons] at this
    exact absurd this (by simp)
/-- A row of names, as octets. -/
noncomputable def nmA (σ : List Nat) (p : Stp) : Nat := if p.2 then σ.getD p.1 0 else 97 + p.1
noncomputable def nmB (σ : List Nat) (p : Stp) : Nat := if p.2 then 97 + p.1 else σ.getD p.1 0
theorem nm_eq (σ : List Nat) (p : Stp) : nm σ p = ⟨#[nmA σ p, nmB σ p]⟩ := by
  obtain ⟨e, d⟩ := p
  cases d <;> rfl
theorem nmA_flp (σ : List Nat) (p : Stp) : nmA σ (flp p) = nmB σ p := by
  obtain ⟨e, d⟩ := p
  cases d <;> rfl
theorem nmB_flp (σ : List Nat) (p : Stp) : nmB σ (flp p) = nmA σ p := by
  obtain ⟨e, d⟩ := p
  cases d <;> rfl
theorem nm_low {n : Nat} {σ : List Nat} (h : Signs n σ) {p : Stp} (hp : p.1 < n) : nmA σ p < 128 ∧ nmB σ p < 128 := by
  have h1 := (h.at hp).lt
  have h2 := h.le
  unfold nmA nmB
  cases p.2 <;> simp only [if_true, Bool.false_eq_true, if_false] <;> omega
noncomputable def rowOf (σ : List Nat) (B : List Stp) : List UInt8 := B.flatMap fun p => [(nmA σ p).toUInt8, (nmB σ p).toUInt8]
theorem rowOf_cons (σ : List Nat) (p : Stp) (B : List Stp) : rowOf σ (p :: B) = (nmA σ p).toUInt8 :: (nmB σ p).toUInt8 :: rowOf σ B := rfl
theorem rowOf_append (σ : List Nat) (a b : List Stp) : rowOf σ (a ++ b) = rowOf σ a ++ rowOf σ b := List.flatMap_append
theorem rowOf_length (σ : List Nat) : ∀ B : List Stp, (rowOf σ B).length = 2 * B.length
  | [] => rfl
  | p :: B => by rw [rowOf_cons, List.length_cons, List.length_cons, rowOf_length σ B, List.length_cons]; omega
theorem rowOf_at (σ : List Nat) : ∀ (B : List Stp) (k : Nat) (p : Stp), B[k]? = some p → (rowOf σ B).getD (2 * k) 0 = (nmA σ p).toUInt8 ∧ (rowOf σ B).getD (2 * k + 1) 0 = (nmB σ p).toUInt8
  | [], k, p, h => by simp at h
  | q :: B, 0, p, h => by
    obtain rfl : q = p := by simpa using h
    exact ⟨rfl, rfl⟩
  | q :: B, k + 1, p, h => by
    have := rowOf_at σ B k p (by simpa using h)
    rw [rowOf_cons, show 2 * (k + 1) = 2 * k + 1 + 1 by omega, List.getD_cons_succ, List.getD_cons_succ, List.getD_cons_succ, List.getD_cons_succ]
    exact this
theorem u8_low {c : Nat} (h : c < 128) : c.toUInt8.toNat = c := by
  show (UInt8.ofNat c).toNat = c
  rw [UInt8.toNat_ofNat']
  omega
theorem rowOf_low {n : Nat} {σ : List Nat} (h : Signs n σ) {B : List Stp} (hB : ∀ p ∈ B, p.1 < n) : ∀ c ∈ rowOf σ B, c.toNat < 128 := by
  intro c hc
  obtain ⟨p, hp, hx⟩ := List.mem_flatMap.mp hc
  obtain ⟨h1, h2⟩ := nm_low h (hB p hp)
  rcases List.mem_cons.mp hx with rfl | hx
  · rw [u8_low h1]; exact h1
  · rw [List.mem_singleton.mp hx, u8_low h2]; exact h2
theorem pairAt_row {n : Nat} {σ : List Nat} (h : Signs n σ) {B : List Stp} {k : Nat} {p : Stp} (hp : p.1 < n) (hk : B[k]? = some p) : pairAt (rowOf σ B) k = nm σ p := by
  obtain ⟨h1, h2⟩ := nm_low h hp
  obtain ⟨r1, r2⟩ := rowOf_at σ B k p hk
  unfold pairAt
  rw [r1, r2, u8_low h1, u8_low h2, nm_eq]
theorem bsw_getD {d : List UInt8} {w k : Nat} (hk : k < d.length) : (bswF d w).getD k 0 = bswAt d w k := by
  unfold bswF
  rw [List.getD_eq_getElem?_getD, List.getElem?_map, List.getElem?_range hk]; rfl
theorem pairAt_swap {n : Nat} {σ : List Nat} (h : Signs n σ) {B : List Stp} {k : Nat} {p : Stp} (hp : p.1 < n) (hk : B[k]? = some p) : pairAt (bswF (rowOf σ B) 2) k = nm σ (flp p) := by
  obtain ⟨h1, h2⟩ := nm_low h hp
  obtain ⟨r1, r2⟩ := rowOf_at σ B k p hk
  have hl := rowOf_length σ B
  have hkl : k < B.length := by
    rcases Nat.lt_or_ge k B.length with q | q
    · exact q
    · rw [List.getElem?_eq_none q] at hk; cases hk
  unfold pairAt
  rw [bsw_getD (by omega), bsw_getD (by omega)]
  unfold bswAt
  rw [show 2 * k / 2 * 2 + (2 - 1 - 2 * k % 2) = 2 * k + 1 by rw [Nat.mul_div_cancel_left k (by decide), Nat.mul_mod_right, Nat.mul_comm], show (2 * k + 1) / 2 * 2 + (2 - 1 - (2 * k + 1) % 2) = 2 * k by rw [Nat.mul_add_div (by decide), Nat.mul_add_mod, Nat.mul_comm]; rfl, r1, r2, u8_low h1, u8_low h2, nm_eq, nmA_flp, nmB_flp]
theorem bsw_whole (d : List UInt8) : bswF d d.length = d.reverse := by
  apply List.ext_getElem?
  intro k
  unfold bswF
  by_cases hk : k < d.length
  · rw [List.getElem?_map, List.getElem?_range hk, List.getElem?_reverse hk]
    show some (bswAt d d.length k) = _
    unfold bswAt
    rw [Nat.div_eq_of_lt hk, Nat.mod_eq_of_lt hk, Nat.zero_mul, Nat.zero_add, List.getD_eq_getElem?_getD, List.getElem?_eq_getElem (show d.length - 1 - k < d.length by omega)]; rfl
  · rw [List.getElem?_eq_none (by simpa using Nat.le_of_not_lt hk), List.getElem?_eq_none (by simpa using Nat.le_of_not_lt hk)]
theorem row_bak (σ : List Nat) : ∀ B : List Stp, (rowOf σ B).reverse = rowOf σ (bak B)
  | [] => rfl
  | p :: B => by
    unfold bak
    rw [rowOf_cons, List.reverse_cons, List.reverse_cons, row_bak σ B, List.reverse_cons, List.map_append, rowOf_append, List.append_assoc]
    congr 1
    show [_, _] = [_, _]
    rw [nmA_flp, nmB_flp]

theorem foldS_mem {n : Nat} : ∀ (l st : List Stp), (∀ p ∈ st, p.1 < n) → (∀ p ∈ l, p.1 < n) → ∀ p ∈ l.foldl sStep st, p.1 < n
  | [], _, h, _ => h
  | q :: l, st, h, hl => foldS_mem l _ (fun p hp => by
      unfold sStep at hp
      split at hp
      · exact h p (List.dropLast_subset _ hp)
      · rcases List.mem_append.mp hp with hp | hp
        · exact h p hp
        · rw [List.mem_singleton.mp hp]; exact hl q (.head _)) fun p hp => hl p (.tail _ hp)
theorem sAt_mem {n : Nat} {B : List Stp} (hB : ∀ p ∈ B, p.1 < n) (k : Nat) : ∀ p ∈ sAt B k, p.1 < n :=
  foldS_mem _ _ (fun _ h => nomatch h) fun p hp => hB p (List.mem_of_mem_take hp)
theorem foldW_mem {n : Nat} : ∀ (l st : List Stp), (∀ p ∈ st, p.1 < n) → (∀ p ∈ l, p.1 < n) → ∀ p ∈ l.foldl wStep st, p.1 < n
  | [], _, h, _ => h
  | q :: l, st, h, hl => foldW_mem l _ (fun p hp => by
      unfold wStep at hp
      split at hp
      · exact h p (List.mem_of_mem_erase hp)
      · rcases List.mem_append.mp hp with hp | hp
        · exact h p hp
        · rw [List.mem_singleton.mp hp]; exact hl q (.head _)) fun p hp => hl p (.tail _ hp)
theorem wAt_mem {n : Nat} {B : List Stp} (hB : ∀ p ∈ B, p.1 < n) (k : Nat) : ∀ p ∈ wAt B k, p.1 < n :=
  foldW_mem _ _ (fun _ h => nomatch h) fun p hp => hB p (List.mem_of_mem_take hp)
noncomputable def stk (σ : List Nat) (B : List Stp) (k : Nat) : List Str := (sAt B k).map (es σ)
theorem es_strOk {n : Nat} {σ : List Nat} (h : Signs n σ) {p : Stp} (hp : p.1 < n) : PyData.strOk (es σ p) = true := by
  refine strOk_of (List.all_eq_true.mpr fun x hx => decide_eq_true ?_)
  have := (es_free h hp x hx).2.2.2
  omega
theorem walk_in {n : Nat} {σ : List Nat} {B : List Stp} (h : Signs n σ) (hB : ∀ p ∈ B, p.1 < n) (hend : sAt B B.length = []) :
    WalkIn B.length (stk σ B) (fun k => escF (pairAt (rowOf σ B) k)) (fun k => escF (pairAt (bswF (rowOf σ B) 2) k)) := by
  refine ⟨rfl, by unfold stk; rw [hend]; rfl, fun k hk => ?_, fun k hk => ?_⟩
  all_goals
    obtain ⟨p, hp⟩ : ∃ p, B[k]? = some p := ⟨_, List.getElem?_eq_getElem hk⟩
    have hpn := hB p (List.mem_of_getElem? hp)
    have hfn : (flp p).1 < n := hpn
    try dsimp only
    rw [pairAt_row h hpn hp, pairAt_swap h hpn hp]
    rw [show escF (nm σ p) = es σ p from rfl, show escF (nm σ (flp p)) = es σ (flp p) from rfl]
  · have hm := sAt_mem hB k
    have fr : ∀ y ∈ stk σ B k, 10 ∉ y.cps.toList ∧ 58 ∉ y.cps.toList ∧ 46 ∉ y.cps.toList := fun y hy => by
      obtain ⟨r, hr, rfl⟩ := List.mem_map.mp hy
      have := es_free h (hm r hr)
      exact ⟨fun q => (this _ q).1 rfl, fun q => (this _ q).2.1 rfl, fun q => (this _ q).2.2.1 rfl⟩
    rw [strip_last (fun y hy => (fr y hy).1) (fun y hy => (fr y hy).2.1) (fun y hy => (fr y hy).2.2) (fun q => (es_free h hpn _ q).1 rfl)]
    have hnext : stk σ B (k + 1) = (sStep (sAt B k) p).map (es σ) := by unfold stk; rw [sAt_succ hp]
    rw [hnext]
    unfold sStep
    by_cases hl : (sAt B k).getLast? = some (flp p)
    · have hne : sAt B k ≠ [] := fun e => by rw [e] at hl; cases hl
      have hlast : (sAt B k).getLast hne = flp p := by rw [List.getLast?_eq_some_getLast hne] at hl; exact Option.some.inj hl
      have e1 : (stk σ B k).getLastD ⟨#[]⟩ = es σ (flp p) := by
        unfold stk
        rw [List.getLastD_eq_getLast?, List.getLast?_map, hl]; rfl
      rw [if_pos e1, if_pos hl]
      unfold stk
      rw [← hlast]
      show _ = _ ++ [_].map (es σ)
      rw [← List.map_append, List.dropLast_concat_getLast]
    · have e1 : ¬ (stk σ B k).getLastD ⟨#[]⟩ = es σ (flp p) := by
        unfold stk
        rw [List.getLastD_eq_getLast?, List.getLast?_map]
        cases hq : (sAt B k).getLast? with
        | none =>
          intro e
          have := (es_size h hfn).1
          rw [← e] at this
          exact absurd this (Nat.lt_irrefl 0)
        | some r =>
          intro e
          have hr : r ∈ sAt B k := List.mem_of_getLast? hq
          exact hl (by rw [hq, es_inj h (hm r hr) hfn e])
      rw [if_neg e1, if_neg hl, List.map_append]
      rfl
  · exact ⟨(es_size h hpn).2, (es_size h hfn).2, es_strOk h hfn⟩
theorem erase_map {α β : Type} [BEq α] [LawfulBEq α] [BEq β] [LawfulBEq β] {f : α → β} {P : α → Prop} (hf : ∀ a b, P a → P b → f a = f b → a = b) {a : α} (ha : P a) : ∀ l : List α, (∀ x ∈ l, P x) → (l.erase a).map f = (l.map f).erase (f a)
  | [], _ => rfl
  | b :: l, h => by
    rw [List.erase_cons, List.map_cons, List.erase_cons]
    by_cases e : b = a
    · subst e
      simp
    · have e2 : ¬ f b = f a := fun q => e (hf b a (h b (.head _)) ha q)
      rw [if_neg (by simpa using e), if_neg (by simpa using e2), List.map_cons, erase_map hf ha l fun x hx => h x (.tail _ hx)]
noncomputable def prs (σ : List Nat) (B : List Stp) : List (Str × Str) := B.map fun p => (es σ p, es σ (flp p))
theorem once_is {n : Nat} {σ : List Nat} {B : List Stp} (h : Signs n σ) (hB : ∀ p ∈ B, p.1 < n) : ∀ k, k ≤ B.length → onceAt (prs σ B) k = (wAt B k).map (es σ)
  | 0, _ => rfl
  | k + 1, hk => by
    obtain ⟨p, hp⟩ : ∃ p, B[k]? = some p := ⟨_, List.getElem?_eq_getElem hk⟩
    have hpn := hB p (List.mem_of_getElem? hp)
    have hm := wAt_mem hB k
    rw [once_succ (p := (es σ p, es σ (flp p))) (by unfold prs; rw [List.getElem?_map, hp]; rfl), once_is h hB k (by omega), wAt_succ hp]
    unfold waysStep wStep
    dsimp only
    by_cases hc : flp p ∈ wAt B k
    · rw [if_pos (List.mem_map.mpr ⟨_, hc, rfl⟩), if_pos hc]
      exact (erase_map (P := fun r : Stp => r.1 < n) (fun a b ha hb e => es_inj h ha hb e) (show (flp p).1 < n from hpn) _ hm).symm
    · have : ¬ es σ (flp p) ∈ (wAt B k).map (es σ) := fun q => by
        obtain ⟨r, hr, e⟩ := List.mem_map.mp q
        exact hc (es_inj h (hm r hr) (show (flp p).1 < n from hpn) e ▸ hr)
      rw [if_neg this, if_neg hc, List.map_append]; rfl
theorem ways_is {n : Nat} {σ : List Nat} {B : List Stp} (h : Signs n σ) (hB : ∀ p ∈ B, p.1 < n) (hsame : ∀ k, k ≤ B.length → wAt B k = sAt B k) :
    waysF (prs σ B) = (List.range B.length).map fun k => pileT (stk σ B (k + 1)) := by
  unfold waysF
  rw [show (prs σ B).length = B.length by simp [prs]]
  refine List.map_congr_left fun k hk => ?_
  have hk' := List.mem_range.mp hk
  rw [once_is h hB (k + 1) hk', hsame (k + 1) hk']
  rfl
theorem cat_cons (σ : List Nat) (p : Stp) (B : List Stp) : (catS ((p :: B).map (nm σ))).cps.toList = nmA σ p :: nmB σ p :: (catS (B.map (nm σ))).cps.toList := by
  rw [catS_list, catS_list, List.map_cons, List.flatMap_cons, nm_eq]; rfl
theorem cat_length (σ : List Nat) : ∀ B : List Stp, (catS (B.map (nm σ))).cps.toList.length = 2 * B.length
  | [] => rfl
  | p :: B => by rw [cat_cons, List.length_cons, List.length_cons, cat_length σ B, List.length_cons]; omega
theorem cat_cut (σ : List Nat) : ∀ (B : List Stp) (k : Nat) (p : Stp), B[k]? = some p → ((catS (B.map (nm σ))).cps.toList.drop (2 * k)).take 2 = [nmA σ p, nmB σ p]
  | [], k, p, h => by simp at h
  | q :: B, 0, p, h => by
    obtain rfl : q = p := by simpa using h
    rw [cat_cons]; rfl
  | q :: B, k + 1, p, h => by
    have := cat_cut σ B k p (by simpa using h)
    rw [cat_cons, show 2 * (k + 1) = 2 * k + 1 + 1 by omega, List.drop_succ_cons, List.drop_succ_cons]
    exact this
theorem slice_name {σ : List Nat} {B : List Stp} {k : Nat} {p : Stp} (h : B[k]? = some p) : Txt.slice (catS (B.map (nm σ))) (some ((2 * k : Nat) : Int)) (some ((2 * k + 2 : Nat) : Int)) = nm σ p := by
  have hk : k < B.length := by
    rcases Nat.lt_or_ge k B.length with q | q
    · exact q
    · rw [List.getElem?_eq_none q] at h; cases h
  have hl := cat_length σ B
  refine (StrLaws.sliceText_nat _ (by omega) (by show _ ≤ (catS (B.map (nm σ))).cps.size; rw [← Array.length_toList]; omega)).trans ?_
  rw [show 2 * k + 2 - 2 * k = 2 by omega, cat_cut σ B k p h, nm_eq]
theorem cat_row (σ : List Nat) : ∀ B : List Stp, (catS (B.map (nm σ))).cps.toList.map (fun c => c.toUInt8) = rowOf σ B
  | [] => rfl
  | p :: B => by rw [cat_cons, List.map_cons, List.map_cons, cat_row σ B]; rfl
theorem cat_low {n : Nat} {σ : List Nat} (h : Signs n σ) : ∀ {B : List Stp}, (∀ p ∈ B, p.1 < n) → ∀ c ∈ (catS (B.map (nm σ))).cps.toList, c < 128
  | [], _, c, hc => by rw [catS_list] at hc; simp at hc
  | p :: B, hB, c, hc => by
    obtain ⟨h1, h2⟩ := nm_low h (hB p (.head _))
    rw [cat_cons] at hc
    rcases List.mem_cons.mp hc with rfl | hc
    · exact h1
    · rcases List.mem_cons.mp hc with rfl | hc
      · exact h2
      · exact cat_low h (fun q hq => hB q (.tail _ hq)) c hc
theorem turned_name (σ : List Nat) (p : Stp) : Txt.item (nm σ p) 1 ++ Txt.item (nm σ p) 0 = nm σ (flp p) := by
  rw [nm_eq, nm_eq, nmA_flp, nmB_flp]; rfl
theorem nm_len (σ : List Nat) (p : Stp) : (nm σ p).length = 2 := by rw [nm_eq]; rfl
theorem spelled_es (σ : List Nat) (p : Stp) : spelled (nm σ p) = es σ p := (escF_spelled _).symm
/-- The ring, written as one text, is its names one behind another. -/
theorem esc_ring (σ : List Nat) (B : List Stp) : escF (catS (B.map (nm σ))) = catS (B.map (es σ)) := by
  apply Str.ext'
  apply Array.ext'
  rw [escF_list, catS_list, catS_list, List.flatMap_map, List.flatMap_map, List.flatMap_assoc]
  congr 1
  funext p
  exact (escF_list _).symm

noncomputable def lastF (A : List Stp) (i : Nat) : List Int := if i = 0 then [] else hts (rot A (i - 1))
noncomputable def mateF (A : List Stp) (i : Nat) : Nat := if i = 0 then 0 else mts (rot A (i - 1))
theorem rot_zero (A : List Stp) : rot A 0 = A := by unfold rot; simp
theorem rot_full (A : List Stp) : rot A A.length = A := by unfold rot; simp
theorem rot_mem {A : List Stp} {c : Nat} {p : Stp} (h : p ∈ rot A c) : p ∈ A := by
  unfold rot at h
  rcases List.mem_append.mp h with h | h
  · exact List.mem_of_mem_drop h
  · exact List.mem_of_mem_take h
theorem bak_mem {n : Nat} {A : List Stp} (hA : RingOk n A) {p : Stp} (h : p ∈ bak A) : p ∈ A := by
  unfold bak at h
  obtain ⟨q, hq, rfl⟩ := List.mem_map.mp h
  exact hA.flip q (List.mem_reverse.mp hq)
theorem bak_length (A : List Stp) : (bak A).length = A.length := by unfold bak; rw [List.length_map, List.length_reverse]
structure WalkOf (n : Nat) (A : List Stp) (σ : List Nat) (B : List Stp) : Prop where
  len : (rowOf σ B).length = 2 * (2 * n)
  low : ∀ c ∈ rowOf σ B, c.toNat < 128
  names : ∀ k, k < 2 * n → pairAt (rowOf σ B) k ∈ A.map (nm σ) ∧ pairAt (bswF (rowOf σ B) 2) k ∈ A.map (nm σ)
  walk : WalkIn (2 * n) (stk σ B) (fun k => escF (pairAt (rowOf σ B) k)) (fun k => escF (pairAt (bswF (rowOf σ B) 2) k))
  ok : ((List.range (2 * n)).map fun k => pileT (stk σ B (k + 1))).all PyData.strOk = true
theorem pile_ok {l : List Str} (h : ∀ y ∈ l, PyData.strOk y = true) : PyData.strOk (pileT l) = true := by
  refine strOk_of (List.all_eq_true.mpr fun x hx => decide_eq_true ?_)
  rw [pileT_list] at hx
  obtain ⟨y, hy, hxy⟩ := List.mem_flatMap.mp hx
  rcases List.mem_cons.mp hxy with rfl | hxy
  · decide
  · have := h y hy
    unfold PyData.strOk at this
    rw [← Array.all_toList] at this
    exact of_decide_eq_true (List.all_eq_true.mp this x hxy)
theorem walk_of {n : Nat} {A : List Stp} {σ : List Nat} {B : List Stp} (hA : RingOk n A) (hS : Signs n σ) (hl : B.length = 2 * n) (hB : ∀ p ∈ B, p ∈ A) (he : sAt B (2 * n) = []) : WalkOf n A σ B := by
  have hBn : ∀ p ∈ B, p.1 < n := fun p hp => hA.lt p (hB p hp)
  refine ⟨by rw [rowOf_length, hl], rowOf_low hS hBn, fun k hk => ?_, ?_, List.all_eq_true.mpr fun x hx => ?_⟩
  · obtain ⟨p, hp⟩ : ∃ p, B[k]? = some p := ⟨_, List.getElem?_eq_getElem (by omega)⟩
    have hm := List.mem_of_getElem? hp
    rw [pairAt_row hS (hBn p hm) hp, pairAt_swap hS (hBn p hm) hp]
    exact ⟨List.mem_map.mpr ⟨p, hB p hm, rfl⟩, List.mem_map.mpr ⟨flp p, hA.flip p (hB p hm), rfl⟩⟩
  · have := walk_in (B := B) hS hBn (by rw [hl]; exact he)
    rwa [hl] at this
  · obtain ⟨k, _, rfl⟩ := List.mem_map.mp hx
    refine pile_ok fun y hy => ?_
    obtain ⟨q, hq, rfl⟩ := List.mem_map.mp hy
    exact es_strOk hS (sAt_mem hBn _ q hq)
theorem walk_rot {n : Nat} {A : List Stp} {σ : List Nat} (hA : RingOk n A) (hS : Signs n σ) {i : Nat} (hi : i < 2 * n) : WalkOf n A σ (rot A i) :=
  walk_of hA hS (by rw [rot_length, hA.len]) (fun _ h => rot_mem h) (hA.ends i hi)
theorem walk_bak {n : Nat} {A : List Stp} {σ : List Nat} (hA : RingOk n A) (hS : Signs n σ) : WalkOf n A σ (bak A) :=
  walk_of hA hS (by rw [bak_length, hA.len]) (fun _ h => bak_mem hA h) hA.bend
theorem counts_hts {n : Nat} {σ : List Nat} {B : List Stp} (hl : B.length = 2 * n) : ((List.range (2 * n)).map fun k => ((stk σ B (k + 1)).length : Int)) = hts B := by
  unfold hts
  rw [hl]
  refine List.map_congr_left fun k _ => ?_
  unfold stk
  rw [List.length_map]
theorem prs_rot (σ : List Nat) (A : List Stp) (i : Nat) : prs σ (rot A i) = (prs σ A).drop i ++ (prs σ A).take i := by
  unfold prs rot
  rw [List.map_append, List.map_drop, List.map_take]
theorem ways_rot {n : Nat} {A : List Stp} {σ : List Nat} (hA : RingOk n A) (hS : Signs n σ) {i : Nat} (hi : i < 2 * n) : waysF (prs σ (rot A i)) = (List.range (2 * n)).map fun k => pileT (stk σ (rot A i) (k + 1)) := by
  have hl : (rot A i).length = 2 * n := by rw [rot_length, hA.len]
  rw [ways_is hS (fun p hp => hA.lt p (rot_mem hp)) (fun k hk => hA.same i hi k (by omega)), hl]
theorem stk_nil {σ : List Nat} {B : List Stp} {k : Nat} : pileT (stk σ B k) = Str.ofString "" ↔ sAt B k = [] := by
  constructor
  · intro h
    have := pileT_empty h
    unfold stk at this
    exact List.map_eq_nil_iff.mp this
  · intro h
    unfold stk
    rw [h, List.map_nil, pileT_nil]
theorem mate_is {n : Nat} {σ : List Nat} {B : List Stp} (hl : B.length = 2 * n) : ((List.range (2 * n)).map fun k => pileT (stk σ B (k + 1))).idxOf (Str.ofString "") = mts B := by
  unfold List.idxOf mts
  rw [List.findIdx_map, hl]
  congr 1
  funext k
  show (pileT (stk σ B (k + 1)) == Str.ofString "") = (sAt B (k + 1)).isEmpty
  by_cases h : sAt B (k + 1) = []
  · rw [stk_nil.mpr h, h]
    exact beq_self_eq_true _
  · have h2 : ¬ pileT (stk σ B (k + 1)) = Str.ofString "" := fun e => h (stk_nil.mp e)
    rw [beq_eq_false_iff_ne.mpr h2]
    exact (List.isEmpty_eq_false_iff.mpr h).symm
theorem mate_mem {n : Nat} {σ : List Nat} {B : List Stp} (hn : 0 < n) (he : sAt B (2 * n) = []) : Str.ofString "" ∈ (List.range (2 * n)).map fun k => pileT (stk σ B (k + 1)) :=
  List.mem_map.mpr ⟨2 * n - 1, List.mem_range.mpr (by omega), by rw [show 2 * n - 1 + 1 = 2 * n by omega]; exact stk_nil.mpr he⟩
theorem other_is {n : Nat} {A : List Stp} {σ : List Nat} (hA : RingOk n A) (hn : 0 < n) : ((List.range (2 * n - 1)).map fun j => pileT (stk σ A (2 * n - 2 - j + 1))) ++ [Str.ofString ""] = (List.range (2 * n)).map fun k => pileT (stk σ (bak A) (k + 1)) := by
  obtain ⟨q, hq⟩ : ∃ q, 2 * n = q + 1 := ⟨2 * n - 1, by omega⟩
  rw [hq, List.range_succ, List.map_append]
  congr 1
  · refine List.map_congr_left fun j hj => ?_
    have hj' := List.mem_range.mp hj
    have := hA.bsame j (by omega)
    rw [hq] at this
    unfold stk
    rw [this, castE (q := q) hj']
  · have := hA.bend
    rw [hq] at this
    show _ = [pileT (stk σ (bak A) (q + 1))]
    rw [stk_nil.mpr this]
theorem counts_is {n : Nat} {A : List Stp} (hA : RingOk n A) {i : Nat} (hi : i < 2 * n) (h0 : i ≠ 0) :
    hts (rot A i) = (((lastF A i).drop 1).take (mateF A i - 1)).map (· - 1) ++ ((lastF A i).drop (mateF A i)).map (· + 1) ++ [0] ∧ 0 < mateF A i ∧ mateF A i < 2 * n ∧ (lastF A i).length = 2 * n := by
  have h1 := hA.cnt (i - 1) (by omega)
  have h2 := hA.mate (i - 1) (by omega)
  rw [show i - 1 + 1 = i by omega] at h1
  unfold lastF mateF
  rw [if_neg h0, if_neg h0]
  refine ⟨h1, h2.1, h2.2, ?_⟩
  unfold hts
  rw [List.length_map, List.length_range, rot_length, hA.len]
theorem last_next {A : List Stp} (i : Nat) : lastF A (i + 1) = hts (rot A i) := rfl
theorem mate_next {A : List Stp} (i : Nat) : mateF A (i + 1) = mts (rot A i) := rfl
theorem rot_next {A : List Stp} {i : Nat} (h : i < A.length) : ∃ q, rot A i = q :: (A.drop (i + 1) ++ A.take i) ∧ rot A (i + 1) = (A.drop (i + 1) ++ A.take i) ++ [q] := by
  refine ⟨A[i], ?_, ?_⟩
  · unfold rot
    rw [List.drop_eq_getElem_cons h]; rfl
  · unfold rot
    rw [List.append_assoc, List.take_add_one, List.getElem?_eq_getElem h]; rfl
/-- The row moved on by one name. -/
theorem row_next {A : List Stp} {σ : List Nat} {i : Nat} (h : i < A.length) :
    bswF ((bswF (rowOf σ (rot A i)) (rowOf σ (rot A i)).length).take ((rowOf σ (rot A i)).length - 2)) ((rowOf σ (rot A i)).length - 2) ++ bswF ((bswF (rowOf σ (rot A i)) (rowOf σ (rot A i)).length).drop ((rowOf σ (rot A i)).length - 2)) 2 = rowOf σ (rot A (i + 1)) := by
  obtain ⟨q, h1, h2⟩ := rot_next h
  rw [h1, h2, rowOf_append]
  generalize A.drop (i + 1) ++ A.take i = B
  rw [rowOf_cons]
  have e0 : rowOf σ [q] = [(nmA σ q).toUInt8, (nmB σ q).toUInt8] := rfl
  rw [e0]
  generalize (nmA σ q).toUInt8 = a
  generalize (nmB σ q).toUInt8 = b
  generalize rowOf σ B = r
  rw [bsw_whole]
  have hl : (a :: b :: r).length - 2 = r.length := rfl
  rw [hl, show (a :: b :: r).reverse = r.reverse ++ [b, a] by simp]
  have hr : r.reverse.length = r.length := List.length_reverse
  rw [List.take_append_of_le_length (by omega), List.take_of_length_le (by omega), List.drop_append_of_le_length (by omega), List.drop_of_length_le (by omega), List.nil_append]
  have h3 := bsw_whole r.reverse
  rw [hr, List.reverse_reverse] at h3
  have h4 := bsw_whole [b, a]
  rw [h3, show (2 : Nat) = [b, a].length from rfl, h4]
  rfl

section
variable {prog : Program} {w : World} {A : Around} {R : Result → Shared → Prop} {s : Shared}
/-- A def with cells, called where no view lies on the stack. -/
theorem codeC_cells {name qual : Str} {params : Arguments} {body : List Stmt} {scope : Scope} {dV kV doc pm cdv ct oc : Value} {an od : Option Addr} {osl : Array (Option Value)} {f : Addr} {args : Args} {binds : List (Str × Value)} {K : Frag} {h₀ : Heap} {news : List (Addr × Obj)}
    (X₀ : K.In h₀) (up : ∀ b o, h₀.get? b = some o → s.heap.get? b = some o) (hz : h₀.objs.size ≤ s.heap.objs.size) (hlim : s.heap.NoLimit) (N : ∀ p ∈ news, s.heap.get? p.1 = some p.2 ∧ h₀.get? p.1 = none)
    (ho : K.lookup f = some ⟨oc, od, .func (fnOf name qual params body scope dV kV doc pm an cdv ct), osl⟩) (hcd : codeIn K cdv qual = true) (hroom : A.depth < recursionLimit)
    (hbind : BindsTo s (fnOf name qual params body scope dV kV doc pm an cdv ct) args binds) (hkind : (binds.all fun y => scope.names.lookup y.1 == some .local || scope.names.lookup y.1 == some .cell) = true)
    (hnd : ((cellsFrom 0 scope.names []).map (·.1)).Nodup)
    (h : ∀ L h₁ tk cells, L = s.heap.objs.size → Fr h₀ L h₁ (bindL (envOfC qual scope L f cdv).kindOf binds fun _ => none) → News h₀ L h₁ (cells ++ news) →
      CellsAre (bindC (envOfC qual scope L f cdv).kindOf binds fun _ => none) (cellsFrom (L + 1) scope.names []) cells → (∀ p ∈ news, p.1 < L) →
      wpC (model prog w) (A.deeper (envOfC qual scope L f cdv)) (execs body (envOfC qual scope L f cdv))
        (fun fl s' => R (.ok (.ret (match fl with | .ret v => v | _ => .none))) s')
        (fun e s' => wpAny (model prog w) (A.deeper (envOfC qual scope L f cdv)) (leaving (envOfC qual scope L f cdv) e) (fun _ s'' => R (.error e) s'') (fun e' s'' => R (.error e') s'') s')
        { s with heap := h₁, toks := tk })
    (hco : scope.isCoroutine = false) (hgen : scope.isGenerator = false) (hk : scope.kind = .function) : codeC (model prog w) A (.call (.ref f) args) R s := by
  have XS := X₀.keeps up
  refine codeC_call_function hroom (XS _ _ ho) rfl hco hgen rfl (codeRec_of XS hcd) (hbind _ _ _ _ ?_)
  refine wpAny_newFunctionEnv_cells hk (kindsX hkind _) fun env' he s' x => ?_
  subst he
  refine ⟨hlim.keeps x.toInCall.keep, codeC_func ?_⟩
  obtain ⟨h₁, tk, rfl, _⟩ := x.done
  have hk₁ := x.toInCall.keep
  obtain ⟨cells, NC, Y⟩ := Cl.news (h₀ := s.heap) (Nat.le_refl _) fun n c hm => ⟨x.cell n c (lookup_of_mem_nodup (cellsFrom_names scope.names 0 (s.heap.objs.size + 1) [] [] rfl ▸ hnd) hm), x.above n c hm⟩
  have old : ∀ b, s.heap.get? b = none → h₀.get? b = none := fun b e => by
    cases q : h₀.get? b with
    | none => rfl
    | some o => rw [up b o q] at e; cases e
  refine h _ h₁ tk cells rfl ⟨x.toInCall.ns, fun b o e => hk₁ b o (up b o e), hz⟩ (fun p hp => ?_) Y fun p hp => Heap.lt_size (N p hp).1
  rcases List.mem_append.mp hp with hp | hp
  · exact ⟨(NC p hp).1, (NC p hp).2.1, old _ (NC p hp).2.2⟩
  · exact ⟨hk₁ _ _ (N p hp).1, Nat.ne_of_lt (Heap.lt_size (N p hp).1), (N p hp).2⟩
end
section
variable {M : Model} {A : Around} {E : Value → Shared → Prop} {s : Shared} {h₀ : Heap} {L : Addr} {m : PySem.Str → Option Value} {news : List (Addr × Obj)} {env : Env}
theorem execsT {st : Stmt} {rest : List Stmt} {Q : Flow → Shared → Prop} (ht : 1 ≤ s.toks)
    (h : wpAny M A (exec st env) (fun f s' => 1 ≤ s'.toks → match f with | .next => wpC M A (execs rest env) Q E s' | f => Q f s') (fun e s' => 1 ≤ s'.toks → E e s') s) : wpC M A (execs (st :: rest) env) Q E s :=
  wpC_execs_cons (wpC_any (wpAny_with_toks ht h))
structure ValT (V : Tok → Value) (h₀ : Heap) (L : Addr) (m : PySem.Str → Option Value) (news : List (Addr × Obj)) (s : Shared) (v : Value) (s' : Shared) : Prop where
  here : ∃ u h tk, v = V u ∧ s' = { s with heap := h, toks := tk } ∧ Fr h₀ L h m ∧ News h₀ L h news ∧ 1 ≤ tk
theorem val_joinT {t : Sem Value} {Q : Value → Shared → Prop} {hF : Heap} (V : Tok → Value) (_F : Fr h₀ L hF m) (_N : News h₀ L hF news) (hc : wpAny M A t (ValT V h₀ L m news s) E s)
    (hk : ∀ u h tk, Fr h₀ L h m → News h₀ L h news → 1 ≤ tk → Q (V u) { s with heap := h, toks := tk }) : wpAny M A t Q E s := by
  refine wpAny_mono hc (fun v s' hv => ?_) fun _ _ x => x
  obtain ⟨u, h, tk, rfl, rfl, F, N, ht⟩ := hv
  exact hk u h tk F N ht
end
theorem mv31 {a b c d : Addr × Obj} {l : List (Addr × Obj)} : ∀ p ∈ b :: c :: d :: a :: l, p ∈ a :: b :: c :: d :: l := by
  intro p hp
  revert p hp
  repeat refine List.forall_mem_cons.mpr ⟨by k_mem, ?_⟩
  exact fun p hp => by repeat (first | exact hp | exact List.mem_append_right _ hp | apply List.Mem.tail)
theorem mvfx {a b c d e f : Addr × Obj} {l : List (Addr × Obj)} : ∀ p ∈ a :: b :: c :: d :: (l ++ [e, f]), p ∈ d :: (l ++ e :: f :: a :: c :: [b]) := by
  intro p hp
  simp only [List.mem_cons, List.mem_append, List.not_mem_nil, or_false] at hp ⊢
  rcases hp with h | h | h | h | h | h | h <;> simp only [h, true_or, or_true]
section
open LCg LCp
variable {prog : Program} {w : World} {A : Around} {E : Value → Shared → Prop} {s : Shared} {h₀ : Heap} {L : Addr} {m : Str → Option Value} {env : Env} {elt : Expr} {x x₂ : Str} {scope : Scope} {cl : List (Str × Addr)}
/-- A comprehension over pairs, by what holds between the turns. -/
theorem compP_fix {S : List (Addr × Obj) → Prop} {P : Nat → Value → Prop} {Fin : List Value → List (Addr × Obj) → Prop} {n : Nat} {news : List (Addr × Obj)} (J : Nat → List Value → Prop) (start : J 0 [])
    (done : ∀ ys, J n ys → Fin ys news)
    (turn : ∀ i v ys, i < n → J i ys → P i v → ∃ (t : Addr) (ot : Obj) (v₁ v₂ : Value) (nt : Nat), v = .ref t ∧ (t, ot) ∈ news ∧ ot.cls = .type "tuple" ∧ ot.data = .seq #[v₁, v₂] nt ∧
      ∀ I oI C oC D m₂ h tk (E' : Value → Shared → Prop), NsObj oC m₂ → m₂ x = some v₁ → m₂ x₂ = some v₂ → Fr h₀ L h m → News h₀ L h ((I, oI) :: (C, oC) :: (D, lst ys) :: news) → Off3 I C D news → ((@Ne Nat I C) ∧ (@Ne Nat I D) ∧ (@Ne Nat C D)) →
        wpAny (model prog w) A (eval elt (compEnvC scope cl C env)) (CompEnd h₀ L m { s with heap := h, toks := tk } I oI C oC D (lst ys) S (fun y news' => news' = news ∧ J (i + 1) (ys ++ [y]))) E' { s with heap := h, toks := tk }) :
    CompRestP prog w A h₀ L m env elt x x₂ scope cl s S P Fin n 0 [] news := by
  have key : ∀ (j i : Nat) (ys : List Value), i + j = n → J i ys → CompRestP prog w A h₀ L m env elt x x₂ scope cl s S P Fin j i ys news := by
    intro j
    induction j with
    | zero =>
      intro i ys hi hy
      have e : i = n := by omega
      subst e
      exact CompRestP.zero (done ys hy)
    | succ j ih =>
      intro i ys hi hy
      refine CompRestP.succ fun v hv => ?_
      obtain ⟨t, ot, v₁, v₂, nt, e1, e2, e3, e4, H⟩ := turn i v ys (by omega) hy hv
      refine ⟨t, ot, v₁, v₂, nt, e1, e2, e3, e4, fun I oI C oC D m₂ h tk E' hC hx hx₂ F N off ne => ?_⟩
      refine wpAny_mono (H I oI C oC D m₂ h tk E' hC hx hx₂ F N off ne) (fun y s₂ hq => ?_) fun _ _ e => e
      obtain ⟨h', tk', nw, e, F', N', off', hS, rfl, hn⟩ := hq
      exact ⟨h', tk', _, e, F', N', off', hS, ih (i + 1) _ (by omega) hn⟩
  exact key n 0 [] (by omega) start
end
theorem strs_sum {k : Nat} : ∀ {l : List Str}, (∀ y ∈ l, y.length ≤ k) → (l.map (·.length)).sum ≤ k * l.length
  | [], _ => Nat.zero_le _
  | y :: l, h => by
    have h1 := strs_sum fun z hz => h z (.tail _ hz)
    have h2 := h y (.head _)
    simp only [List.map_cons, List.sum_cons, List.length_cons, Nat.mul_add, Nat.mul_one]
    omega
theorem enc_method {A : Around} {E : Value → Shared → Prop} {s : Shared} {t : Tok} {pl : Sem Bool} {x : Str} {Q : Value × List Value → Shared → Prop} {M : Model} (h : Q (.builtin "str.encode", [.str x t]) s) : wpAny M A (getMethod (.str x t) "encode" pl) Q E s := by
  with_reducible exact GM.of (.str x t) (typeIs_str _ _ _) F.slot_str_encode F.type_str_encode GM.noRef h
theorem news_ne {h₀ h : Heap} {L a b : Addr} {o o' : Obj} {news : List (Addr × Obj)} (N : News h₀ L h news) (ha : (a, o) ∈ news) (hb : (b, o') ∈ news) (hne : o.data ≠ o'.data) : @Ne Nat a b := fun e => by
  have e' : a = b := e
  subst e'
  have h1 := (N _ ha).1
  have h2 := (N _ hb).1
  rw [h1] at h2
  exact hne (congrArg Obj.data (Option.some.inj h2))
theorem news_nc {h₀ h : Heap} {L a b : Addr} {o o' : Obj} {news : List (Addr × Obj)} (N : News h₀ L h news) (ha : (a, o) ∈ news) (hb : (b, o') ∈ news) (hne : o.cls ≠ o'.cls) : @Ne Nat a b := fun e => by
  have e' : a = b := e
  subst e'
  have h1 := (N _ ha).1
  have h2 := (N _ hb).1
  rw [h1] at h2
  exact hne (congrArg Obj.cls (Option.some.inj h2))
theorem assignAll_tup {M : Model} {A : Around} {elts : List Expr} {k : Nat} {pos : Pos} {env : Env} {v : Value} {Q : Unit → Shared → Prop} {E : Value → Shared → Prop} {s : Shared} (h : wpAny M A (assign (.Tuple elts k pos) env v) Q E s) : wpAny M A (assignAll v ((assignEach [.Tuple elts k pos] env).map (·.2))) Q E s := h
theorem pick_run {l : List Value} {a b : Nat} (ha : a ≤ l.length) (hb : b ≤ l.length) : kms_pick l (some (a : Int)) (some (b : Int)) = (l.drop a).take (b - a) := by
  unfold kms_pick kms_lo kms_hi
  dsimp only
  rw [if_neg (by omega), if_neg (by omega), Int.toNat_natCast, Int.toNat_natCast, Nat.min_eq_left ha, Nat.min_eq_left hb]
theorem pick_from {l : List Value} {a : Nat} (ha : a ≤ l.length) : kms_pick l (some (a : Int)) none = l.drop a := by
  unfold kms_pick kms_lo kms_hi
  dsimp only
  rw [if_neg (by omega), Int.toNat_natCast, Nat.min_eq_left ha]
  exact List.take_of_length_le (by rw [List.length_drop]; exact Nat.le_refl _)
theorem pick_upto {l : List Value} {b : Nat} (hb : b ≤ l.length) : kms_pick l none (some (b : Int)) = l.take b := by
  unfold kms_pick kms_lo kms_hi
  dsimp only
  rw [if_neg (by omega), Int.toNat_natCast, Nat.min_eq_left hb]
  rfl
theorem ints_drop : ∀ (k : Nat) {vs : List Value} {ns : List Int}, IntsAre vs ns → IntsAre (vs.drop k) (ns.drop k)
  | 0, _, _, h => h
  | _ + 1, _, _, .nil => .nil
  | k + 1, _, _, .cons _ _ r => ints_drop k r
theorem ints_take : ∀ (k : Nat) {vs : List Value} {ns : List Int}, IntsAre vs ns → IntsAre (vs.take k) (ns.take k)
  | 0, _, _, _ => .nil
  | _ + 1, _, _, .nil => .nil
  | k + 1, _, _, .cons n t r => .cons n t (ints_take k r)
theorem ints_append : ∀ {vs us : List Value} {ns ms : List Int}, IntsAre vs ns → IntsAre us ms → IntsAre (vs ++ us) (ns ++ ms)
  | _, _, _, _, .nil, h => h
  | _, _, _, _, .cons n t r, h => .cons n t (ints_append r h)

@[reducible] noncomputable def lwMap (l : Addr) (n : Nat) (us : Tok) (nl D pl : Addr) (ow ol om oc ok oo ot oe : Option Value) : Str → Option Value := fun y =>
  if y = Str.ofString "rest" then oe else if y = Str.ofString "turned" then ot else if y = Str.ofString "other" then oo else if y = Str.ofString "counts" then ok else if y = Str.ofString "corner" then oc else
  if y = Str.ofString "mate" then om else if y = Str.ofString "last" then ol else if y = Str.ofString "row" then ow else if y = Str.ofString "pairs" then some (.ref pl) else if y = Str.ofString "written" then some (.ref D) else
  if y = Str.ofString "names" then some (.ref nl) else if y = Str.ofString "size" then some (.int (n : Int) us) else if y = Str.ofString "script" then some (.ref l) else none
noncomputable def lawFn (P : Params) : List Stmt × Scope := match (hd.heap_39 P).lookup 167 with
  | some ⟨_, _, .func fd, _⟩ => (match fd.body with | .stmts b => b | _ => [], fd.scope)
  | _ => ([], (default : FuncData).scope)
theorem law_at {P : Params} {name qual : Str} {params : Arguments} {body : List Stmt} {scope : Scope} {dV kV doc pm cdv ct oc : Value} {an od : Option Addr} {osl : Array (Option Value)}
    (ho : (hd.heap_39 P).lookup 167 = some ⟨oc, od, .func (fnOf name qual params body scope dV kV doc pm an cdv ct), osl⟩) : lawFn P = (body, scope) := by
  unfold lawFn
  rw [ho]
noncomputable abbrev lawEnv (P : Params) (L' : Addr) : Env := envOfC (Str.ofString "law") (lawFn P).2 L' 167 (.ref 166)
noncomputable def lawFor (P : Params) : Expr × List Stmt := match (lawFn P).1.drop 9 with
  | .For t _ b _ _ :: _ => (t, b)
  | _ => (.Name (Str.ofString "") default, [])
noncomputable abbrev LJ (σ : List Nat) (A : List Stp) (l : Addr) (n : Nat) (us : Tok) (nl D pl L' : Addr) (fx : List (Addr × Obj)) (o₀ : OsState) (i : Nat) (ps : Array Value) (oT : Obj) (cv : Option Value) (la : Addr) (lits : Array Value) (lk : Nat) (tr um : Tok) (oc ok oo ot oe : Option Value)
    (m : Str → Option Value) (news : List (Addr × Obj)) (g : Array GenState) (o : OsState) : Prop :=
  (o = o₀) ∧
  (AllBare g) ∧
  (TabOk ps) ∧
  (oT.data = .cell cv) ∧
  (IntsAre lits.toList (lastF A i)) ∧
  (news = (L' + 1 + 1, oT) :: (91, tabObj ps) :: (la, listOf lits lk) :: fx) ∧
  (m = lwMap l n us nl D pl (some (.bytes (rowOf σ (rot A i)).toArray tr)) (some (.ref la)) (some (.int (mateF A i : Nat) um)) oc ok oo ot oe)
noncomputable abbrev LJE (σ : List Nat) (A : List Stp) (l : Addr) (n : Nat) (us : Tok) (nl D pl L' : Addr) (fx : List (Addr × Obj)) (o₀ : OsState) (i : Nat) (m : Str → Option Value) (news : List (Addr × Obj)) (g : Array GenState) (_dd : Drawn) (o : OsState) : Prop :=
  ∃ ps oT cv la lits lk tr um oc ok oo ot oe, LJ σ A l n us nl D pl L' fx o₀ i ps oT cv la lits lk tr um oc ok oo ot oe m news g o

section
local macro_rules | `(tactic| walk_at "eval ListComp") => `(tactic| apply StopFor.out)
local macro_rules | `(tactic| walk_at "call ref") => `(tactic| apply StopFor.out)
set_option maxHeartbeats 8000000 in
/-- The turn's first statement: the walk from the corner. -/
theorem turn_a (w : World) (mean : ExcName → Option Value) (mg mb : Str → Option Value) (p : Program) (ls : List PySem.Str) (l : Addr) (n : Nat) (us : Tok) (A : List Stp) (σ : List Nat) (g' : Heap) (L' nl D pl : Addr) (oD : Obj) (kvs : List (Str × Value))
    (fx : List (Addr × Obj)) (it : Addr) (oi : Obj) (i : Nat) (u : Tok) (s : Shared) (R : Flow → Shared → Prop) (E : Value → Shared → Prop)
    (ps : Array Value) (oT : Obj) (cv : Option Value) (la : Addr) (lits : Array Value) (lk : Nat) (tr um : Tok) (oc ok oo ot oe : Option Value)
    (X : (hd.heap_39 w.params).In g') (T : Top p ls mean mg mb g') (hA : RingOk n A) (hS : Signs n σ) (hn34 : n = 3 ∨ n = 4) (hi : i < 2 * n)
    (F : Fr g' L' s.heap (lwMap l n us nl D pl (some (.bytes (rowOf σ (rot A i)).toArray tr)) (some (.ref la)) (some (.int (mateF A i : Nat) um)) oc ok oo ot oe))
    (N : News g' L' s.heap ((it, oi) :: (L' + 1 + 1, oT) :: (91, tabObj ps) :: (la, listOf lits lk) :: fx)) (dT : oT.data = .cell cv) (jG : AllBare s.gens) (jT : TabOk ps) (hit9 : it ≠ 91) (hitT : it ≠ L' + 1 + 1) (hfi : ∀ p ∈ fx, p.1 ≠ it)
    (hDf : (D, oD) ∈ fx) (hoD : Obj.IsDictOf (strKind PR w) oD kvs) (hW : WOk (A.map (nm σ)) kvs) (hf9 : ∀ p ∈ fx, p.1 ≠ 91) (hfT : ∀ p ∈ fx, p.1 ≠ L' + 1 + 1) (h91 : 91 < L')
    (hR : ∀ s' tl ct told counts n₁ n₂ ps' oT' uc, Fr g' L' s'.heap (lwMap l n us nl D pl (some (.bytes (rowOf σ (rot A i)).toArray tr)) (some (.ref la)) (some (.int (mateF A i : Nat) um)) (some (.int (i : Int) uc)) (some (.ref ct)) oo ot oe) →
      News g' L' s'.heap ((it, oi) :: (L' + 1 + 1, oT') :: (91, tabObj ps') :: (tl, listOf told n₁) :: (ct, listOf counts n₂) :: (la, listOf lits lk) :: fx) → oT'.data = .cell (some (.ref tl)) → AllBare s'.gens → TabOk ps' → s'.os = s.os → ct ≠ it → tl ≠ it →
      StrsAre told.toList ((List.range (2 * n)).map fun k => pileT (stk σ (rot A i) (k + 1))) → IntsAre counts.toList (hts (rot A i)) →
      wpC (model PySem.Challenge.rw_xp0004_01.row.prog w) (callerA.deeper (lawEnv w.params L')) (execs ((lawFor w.params).2.drop 1) (lawEnv w.params L')) R E s') :
    wpAny (model PySem.Challenge.rw_xp0004_01.row.prog w) (callerA.deeper (lawEnv w.params L')) (assign (lawFor w.params).1 (lawEnv w.params L') (.int (0 + (i : Int) * 1) u))
      (fun _ s₂ => wpC (model PySem.Challenge.rw_xp0004_01.row.prog w) (callerA.deeper (lawEnv w.params L')) (execs (lawFor w.params).2 (lawEnv w.params L')) R E s₂) E s := by
  revert hR h91 hfT hf9 hW hoD hDf hfi hitT hit9 jT jG dT N F hi hn34 hS hA T X
  w_top off
  k_fill
  intro X T hA hS hn34 hi F N dT jG jT hit9 hitT hfi hDf hoD hW hf9 hfT h91 hR
  have hn3 : 3 ≤ n := by omega
  have hn4 : n ≤ 4 := by omega
  have e := law_at (P := w.params) (by k_is)
  unfold lawEnv lawFor at hR ⊢
  rw [e] at hR ⊢
  dsimp only [List.drop] at hR ⊢
  rw [show (0 : Int) + (i : Int) * 1 = (i : Int) by omega]
  have B' : Below callerA g' [] g' := below_caller g'
  delta lwMap at F; (try dsimp only at F)
  k_steps
  rename_i h₁ F N
  refine wpC_execs_cons (wpC_Assign_stores (wpC_Call_Name ?_) (by with_unfolding_all rfl) (by with_unfolding_all rfl))
  k_steps
  refine callC_K (K := hd.heap_39 w.params) (by k_is) ?_
  k_steps
  have W := walk_rot hA hS hi
  refine' walk_spec w mean mg mb p ls ((it, oi) :: (L' + 1 + 1, oT) :: (la, listOf lits lk) :: fx) (rowOf σ (rot A i)) tr (2 * n) D oD kvs ps (stk σ (rot A i)) (A.map (nm σ)) _ _ _ _ _ _ _ _ _ _ _ g' L' _ _ _ _ ?b1 ?b2 ?b3 ?b4 ?b5 ?b6 jT jG W.len ?b7 ?b8 W.low ?b9 ?b10 hoD hW W.names W.walk ?b11 ?b12 ?b13
  case b1 => exact B'
  case b2 => k_asm
  case b3 => k_asm
  case b4 => exact news_sub N (fun p hp => by
    revert p hp
    repeat refine List.forall_mem_cons.mpr ⟨by k_mem, ?_⟩
    exact fun p hp => by repeat (first | exact hp | exact List.mem_append_right _ hp | apply List.Mem.tail))
  case b5 => k_asm
  case b6 => exact rfl
  case b7 => omega
  case b8 => omega
  case b9 => simp only [List.mem_cons, hDf, or_true]
  case b10 =>
    intro p hp
    simp only [List.mem_cons] at hp
    rcases hp with rfl | rfl | rfl | hp
    · exact hit9
    · exact Nat.ne_of_gt (Nat.lt_trans h91 (by omega))
    · exact news_nc N (.tail _ (.tail _ (.tail _ (.head _)))) (.tail _ (.tail _ (.head _))) (show Value.type "list" ≠ Value.none from fun e => nomatch e)
    · exact hf9 p hp
  case b11 => decide
  case b12 => decide
  intro T₁ tl ct told counts n₁ n₂ ps' s₂ F₂ N₂ hTo hCo jT' jG' hos hfr
  clear F N
  have hd1 : @Ne Nat T₁ (L' + 1 + 1) := news_ne N₂ (.head _) (.tail _ (.tail _ (.tail _ (.tail _ (.tail _ (.head _)))))) (by rw [dT]; exact fun e => nomatch e)
  have hd2 : @Ne Nat tl (L' + 1 + 1) := Ne.symm (hfr _ (.tail _ (.head _))).1
  have hd3 : @Ne Nat ct (L' + 1 + 1) := Ne.symm (hfr _ (.tail _ (.head _))).2
  have hd4 : @Ne Nat la (L' + 1 + 1) := news_ne N₂ (.tail _ (.tail _ (.tail _ (.tail _ (.tail _ (.tail _ (.head _))))))) (.tail _ (.tail _ (.tail _ (.tail _ (.tail _ (.head _)))))) (by rw [dT]; exact fun e => nomatch e)
  have hd5 : @Ne Nat 91 (L' + 1 + 1) := Nat.ne_of_lt (Nat.lt_trans h91 (by omega))
  have hd6 : @Ne Nat it (L' + 1 + 1) := hitT
  refine assignAll_tup ?_
  k_steps
  rename_i oT' dT' _ F₃ N₃
  rw [counts_hts (by rw [rot_length, hA.len])] at hCo
  refine hR _ tl ct told counts n₁ n₂ ps' oT' u (fr_congr F₃ fun y => ?_) (news_sub N₃ fun p hp => ?_) dT' jG' jT' hos (Ne.symm (hfr _ (.head _)).2) (Ne.symm (hfr _ (.head _)).1) hTo hCo
  · unfold lwMap
    by_cases e1 : y = Str.ofString "counts"
    · subst e1; rfl
    by_cases e2 : y = Str.ofString "corner"
    · subst e2; rfl
    simp only [if_neg e1, if_neg e2]
  · revert p hp
    repeat refine List.forall_mem_cons.mpr ⟨by k_mem, ?_⟩
    exact fun p hp => by repeat (first | exact hp | exact List.mem_append_right _ hp | apply List.Mem.tail)
end

section
local macro_rules | `(tactic| walk_at "eval ListComp") => `(tactic| apply StopFor.out)
local macro_rules | `(tactic| walk_at "call ref") => `(tactic| apply StopFor.out)
local macro_rules | `(tactic| walk_at "subscriptTail Name Slice ref ref") => `(tactic| apply StopFor.out)
local macro_rules | `(tactic| walk_at "binaryOp Add ref ref") => `(tactic| apply StopFor.out)
local macro_rules | `(tactic| walk_at "compareOp NotEq ref ref") => `(tactic| apply StopFor.out)
set_option maxHeartbeats 8000000 in
/-- The turn's second statement: the ways asked. -/
theorem turn_b (w : World) (mean : ExcName → Option Value) (mg mb : Str → Option Value) (p : Program) (ls : List PySem.Str) (l : Addr) (n : Nat) (us : Tok) (A : List Stp) (σ : List Nat) (g' : Heap) (L' nl D pl : Addr) (pits : Array Value)
    (fx : List (Addr × Obj)) (it : Addr) (oi : Obj) (i : Nat) (s : Shared) (R : Flow → Shared → Prop) (E : Value → Shared → Prop)
    (ps : Array Value) (oT : Obj) (la : Addr) (lits : Array Value) (lk : Nat) (tr um uc : Tok) (oo ot oe : Option Value) (tl ct : Addr) (told counts : Array Value) (n₁ n₂ : Nat)
    (X : (hd.heap_39 w.params).In g') (T : Top p ls mean mg mb g') (hA : RingOk n A) (hS : Signs n σ) (hn34 : n = 3 ∨ n = 4) (hi : i < 2 * n)
    (F : Fr g' L' s.heap (lwMap l n us nl D pl (some (.bytes (rowOf σ (rot A i)).toArray tr)) (some (.ref la)) (some (.int (mateF A i : Nat) um)) (some (.int (i : Int) uc)) (some (.ref ct)) oo ot oe))
    (N : News g' L' s.heap ((it, oi) :: (L' + 1 + 1, oT) :: (91, tabObj ps) :: (tl, listOf told n₁) :: (ct, listOf counts n₂) :: (la, listOf lits lk) :: fx)) (dT : oT.data = .cell (some (.ref tl)))
    (hTo : StrsAre told.toList ((List.range (2 * n)).map fun k => pileT (stk σ (rot A i) (k + 1)))) (hP : PairsAt pl pits (prs σ A) fx)
    (hR : ∀ h tk, Fr g' L' h (lwMap l n us nl D pl (some (.bytes (rowOf σ (rot A i)).toArray tr)) (some (.ref la)) (some (.int (mateF A i : Nat) um)) (some (.int (i : Int) uc)) (some (.ref ct)) oo ot oe) →
      News g' L' h ((it, oi) :: (L' + 1 + 1, oT) :: (91, tabObj ps) :: (tl, listOf told n₁) :: (ct, listOf counts n₂) :: (la, listOf lits lk) :: fx) →
      wpC (model PySem.Challenge.rw_xp0004_01.row.prog w) (callerA.deeper (lawEnv w.params L')) (execs ((lawFor w.params).2.drop 2) (lawEnv w.params L')) R E { s with heap := h, toks := tk }) :
    wpC (model PySem.Challenge.rw_xp0004_01.row.prog w) (callerA.deeper (lawEnv w.params L')) (execs ((lawFor w.params).2.drop 1) (lawEnv w.params L')) R E s := by
  revert hR hP hTo dT N F hi hn34 hS hA T X
  w_top off
  k_fill
  intro X T hA hS hn34 hi F N dT hTo hP hR
  have hn3 : 3 ≤ n := by omega
  have hn4 : n ≤ 4 := by omega
  have e := law_at (P := w.params) (by k_is)
  unfold lawEnv lawFor at hR ⊢
  rw [e] at hR ⊢
  dsimp only [List.drop] at hR ⊢
  have B' : Below callerA g' [] g' := below_caller g'
  have hpz : pits.size = 2 * n := by rw [hP.2.1]; unfold prs; rw [List.length_map]; exact hA.len
  have hPl : HasList pl pits ((it, oi) :: (L' + 1 + 1, oT) :: (91, tabObj ps) :: (tl, listOf told n₁) :: (ct, listOf counts n₂) :: (la, listOf lits lk) :: fx) := hP.1.sub fun p hp => .tail _ (.tail _ (.tail _ (.tail _ (.tail _ (.tail _ hp)))))
  delta lwMap at F; (try dsimp only at F)
  refine wpC_execs_cons (wpC_any ?_)
  refine wpAny_If ?_
  k_steps
  refine StopFor.go (kms_slice_lit F N (hPl.isList N) (.int _ _) .none rfl (fun D₁ h₁ F₁ N₁ lt₁ => ?_) (by with_unfolding_all rfl) (fun _ => by with_unfolding_all rfl) (by rw [sizeLine_eq]; omega))
  have hPl₁ := hPl.sub (news' := (D₁, listOf (kms_pick pits.toList (some (i : Int)) none).toArray 0) :: (it, oi) :: (L' + 1 + 1, oT) :: (91, tabObj ps) :: (tl, listOf told n₁) :: (ct, listOf counts n₂) :: (la, listOf lits lk) :: fx) fun p hp => .tail _ hp
  k_steps
  refine StopFor.go (kms_slice_lit F₁ N₁ (hPl₁.isList N₁) .none (.int _ _) rfl (fun D₂ h₂ F₂ N₂ lt₂ => ?_) (by with_unfolding_all rfl) (fun _ => by with_unfolding_all rfl) (by rw [sizeLine_eq]; omega))
  k_steps
  have hpl : pits.toList.length = 2 * n := by rw [Array.length_toList]; exact hpz
  have e1 := pick_from (l := pits.toList) (a := i) (by omega)
  have e2 := pick_upto (l := pits.toList) (b := i) (by omega)
  rw [e1, e2] at N₂
  clear N N₁ F F₁ hPl hPl₁ lt₁ lt₂
  refine StopFor.go (kmk_add_lit F₂ N₂ (its := (pits.toList.drop i).toArray) (its2 := (pits.toList.take i).toArray) ⟨_, (N₂ _ (.tail _ (.head _))).1, rfl, _, rfl⟩ ⟨_, (N₂ _ (.head _)).1, rfl, _, rfl⟩ rfl (fun D₃ h₃ F₃ N₃ lt₃ => ?_) (by simp only [List.toList_toArray, List.length_drop, List.length_take, hpl, sizeLine_eq]; omega))
  have N₄ := news_sub (news' := (D₃, listOf (pits.toList.drop i ++ pits.toList.take i).toArray 0) :: (it, oi) :: (L' + 1 + 1, oT) :: (91, tabObj ps) :: (tl, listOf told n₁) :: (ct, listOf counts n₂) :: (la, listOf lits lk) :: fx) N₃ fun p hp => by
    rcases List.mem_cons.mp hp with h | h
    · rw [h]; exact .head _
    · exact .tail _ (.tail _ (.tail _ h))
  clear N₂ F₂ N₃ lt₃
  have hPr : PairsAt D₃ (pits.toList.drop i ++ pits.toList.take i).toArray (prs σ (rot A i)) ((D₃, listOf (pits.toList.drop i ++ pits.toList.take i).toArray 0) :: (it, oi) :: (L' + 1 + 1, oT) :: (91, tabObj ps) :: (tl, listOf told n₁) :: (ct, listOf counts n₂) :: (la, listOf lits lk) :: fx) := by
    have hq : (prs σ A).length = 2 * n := by unfold prs; rw [List.length_map]; exact hA.len
    refine ⟨⟨_, _, .head _, rfl, rfl⟩, ?_, fun j h b hj => ?_⟩
    · rw [prs_rot, List.size_toArray, List.length_append, List.length_append, List.length_drop, List.length_drop, List.length_take, List.length_take, hpl, hq]
    · rw [prs_rot] at hj
      have key : ∃ j' : Nat, (prs σ A)[j']? = some (h, b) ∧ (pits.toList.drop i ++ pits.toList.take i)[j]? = pits.toList[j']? := by
        rcases Nat.lt_or_ge j (2 * n - i) with hlt | hge
        · refine ⟨i + j, ?_, ?_⟩
          · rw [List.getElem?_append_left (by rw [List.length_drop, hq]; exact hlt), List.getElem?_drop] at hj; exact hj
          · rw [List.getElem?_append_left (by rw [List.length_drop, hpl]; exact hlt), List.getElem?_drop]
        · rw [List.getElem?_append_right (by rw [List.length_drop, hq]; exact hge), List.length_drop, hq, List.getElem?_take] at hj
          split at hj
          · rename_i hlt
            refine ⟨j - (2 * n - i), hj, ?_⟩
            rw [List.getElem?_append_right (by rw [List.length_drop, hpl]; exact hge), List.length_drop, hpl, List.getElem?_take, if_pos hlt]
          · cases hj
      obtain ⟨j', k1, k2⟩ := key
      obtain ⟨T₁, ta, tb, g1, g2⟩ := hP.2.2 j' h b k1
      exact ⟨T₁, ta, tb, by rw [List.getElem?_toArray, k2, Array.getElem?_toList]; exact g1, .tail _ (.tail _ (.tail _ (.tail _ (.tail _ (.tail _ (.tail _ g2))))))⟩
  k_steps
  refine StopFor.go ?_
  refine' ways_spec w mean mg mb p ls ((D₃, listOf (pits.toList.drop i ++ pits.toList.take i).toArray 0) :: (it, oi) :: (L' + 1 + 1, oT) :: (91, tabObj ps) :: (tl, listOf told n₁) :: (ct, listOf counts n₂) :: (la, listOf lits lk) :: fx) D₃ (pits.toList.drop i ++ pits.toList.take i).toArray (prs σ (rot A i)) _ _ _ _ _ _ _ _ _ _ _ g' L' _ _ _ _ ?cc1b ?cc1f ?cc1x ?cc1n ?cc1t ?cc1s ?cc1p ?cc1r ?cc1u ?cc1e
  case cc1b => exact B'
  case cc1f => k_asm
  case cc1x => k_asm
  case cc1n => first | k_asm | assumption
  case cc1t => k_asm
  case cc1s => exact rfl
  case cc1p => exact ⟨hPr, by unfold prs; rw [List.length_map, rot_length, hA.len]; omega, fun x hx => by obtain ⟨q, hq, rfl⟩ := List.mem_map.mp hx; exact Nat.le_trans (es_size hS (hA.lt q (rot_mem hq))).2 (by decide)⟩
  case cc1r => decide
  case cc1u => decide
  intro D₄ its k h₅ tk₅ F₅ N₅ hits _
  k_whole
  rw [ways_rot hA hS hi] at hits
  have hok := (walk_rot hA hS hi).ok
  refine ne_strs (ns := (List.range (2 * n)).map fun k => pileT (stk σ (rot A i) (k + 1))) (ms := (List.range (2 * n)).map fun k => pileT (stk σ (rot A i) (k + 1))) ⟨_, (N₅ _ (.tail _ (.tail _ (.tail _ (.tail _ (.tail _ (.head _)))))) ).1, rfl, _, rfl⟩ ⟨_, (N₅ _ (.head _)).1, rfl, _, rfl⟩ hTo hits hok hok (Nat.le_of_ble_eq_true rfl) ?_
  rw [decide_eq_true rfl]
  have N₆ := news_sub (news' := (it, oi) :: (L' + 1 + 1, oT) :: (91, tabObj ps) :: (tl, listOf told n₁) :: (ct, listOf counts n₂) :: (la, listOf lits lk) :: fx) N₅ fun p hp => .tail _ (.tail _ hp)
  clear N₅ N₄ F₃ hPr hits
  k_steps
  exact hR _ _ F₅ N₆
end

section
local macro_rules | `(tactic| walk_at "eval ListComp") => `(tactic| apply StopFor.out)
local macro_rules | `(tactic| walk_at "call ref") => `(tactic| apply StopFor.out)
local macro_rules | `(tactic| walk_at "subscriptTail Name Slice ref ref") => `(tactic| apply StopFor.out)
local macro_rules | `(tactic| walk_at "binaryOp Add ref ref") => `(tactic| apply StopFor.out)
local macro_rules | `(tactic| walk_at "compareOp NotEq ref ref") => `(tactic| apply StopFor.out)
set_option maxHeartbeats 8000000 in
/-- The turn's third statement, behind the first corner: the counts asked. -/
theorem turn_c (w : World) (mean : ExcName → Option Value) (mg mb : Str → Option Value) (p : Program) (ls : List PySem.Str) (l : Addr) (n : Nat) (us : Tok) (A : List Stp) (σ : List Nat) (g' : Heap) (L' nl D pl : Addr)
    (fx : List (Addr × Obj)) (it : Addr) (oi : Obj) (i : Nat) (s : Shared) (R : Flow → Shared → Prop) (E : Value → Shared → Prop)
    (ps : Array Value) (oT : Obj) (la : Addr) (lits : Array Value) (lk : Nat) (tr um uc : Tok) (oo ot oe : Option Value) (tl ct : Addr) (told counts : Array Value) (n₁ n₂ : Nat)
    (X : (hd.heap_39 w.params).In g') (T : Top p ls mean mg mb g') (hA : RingOk n A) (hS : Signs n σ) (hn34 : n = 3 ∨ n = 4) (hi : i < 2 * n) (h0 : i ≠ 0)
    (F : Fr g' L' s.heap (lwMap l n us nl D pl (some (.bytes (rowOf σ (rot A i)).toArray tr)) (some (.ref la)) (some (.int (mateF A i : Nat) um)) (some (.int (i : Int) uc)) (some (.ref ct)) oo ot oe))
    (N : News g' L' s.heap ((it, oi) :: (L' + 1 + 1, oT) :: (91, tabObj ps) :: (tl, listOf told n₁) :: (ct, listOf counts n₂) :: (la, listOf lits lk) :: fx)) (dT : oT.data = .cell (some (.ref tl)))
    (hCo : IntsAre counts.toList (hts (rot A i))) (hLa : IntsAre lits.toList (lastF A i))
    (hR : ∀ h tk, Fr g' L' h (lwMap l n us nl D pl (some (.bytes (rowOf σ (rot A i)).toArray tr)) (some (.ref la)) (some (.int (mateF A i : Nat) um)) (some (.int (i : Int) uc)) (some (.ref ct)) oo ot oe) →
      News g' L' h ((it, oi) :: (L' + 1 + 1, oT) :: (91, tabObj ps) :: (tl, listOf told n₁) :: (ct, listOf counts n₂) :: (la, listOf lits lk) :: fx) →
      wpC (model PySem.Challenge.rw_xp0004_01.row.prog w) (callerA.deeper (lawEnv w.params L')) (execs ((lawFor w.params).2.drop 3) (lawEnv w.params L')) R E { s with heap := h, toks := tk }) :
    wpC (model PySem.Challenge.rw_xp0004_01.row.prog w) (callerA.deeper (lawEnv w.params L')) (execs ((lawFor w.params).2.drop 2) (lawEnv w.params L')) R E s := by
  revert hR hLa hCo dT N F h0 hi hn34 hS hA T X
  w_top off
  k_fill
  intro X T hA hS hn34 hi h0 F N dT hCo hLa hR
  have hn3 : 3 ≤ n := by omega
  have hn4 : n ≤ 4 := by omega
  have e := law_at (P := w.params) (by k_is)
  unfold lawEnv lawFor at hR ⊢
  rw [e] at hR ⊢
  dsimp only [List.drop] at hR ⊢
  obtain ⟨hc, hm0, hm1, hll⟩ := counts_is hA hi h0
  have hlz : lits.toList.length = 2 * n := by rw [hLa.length, hll]
  delta lwMap at F; (try dsimp only at F)
  refine wpC_execs_cons (wpC_any ?_)
  refine wpAny_If ?_
  k_steps
  · rename_i hz
    simp at hz
    exact absurd hz h0
  have e1 : kms_pick lits.toList (some 1) (some ((mateF A i : Nat) : Int)) = (lits.toList.drop 1).take (mateF A i - 1) := pick_run (a := 1) (by omega) (by omega)
  have e2 : kms_pick lits.toList (some ((mateF A i : Nat) : Int)) none = lits.toList.drop (mateF A i) := pick_from (by omega)
  have hi1 := ints_take (mateF A i - 1) (ints_drop 1 hLa)
  have hi2 := ints_drop (mateF A i) hLa
  have hz1 : ((lits.toList.drop 1).take (mateF A i - 1)).length ≤ 8 := by rw [List.length_take, List.length_drop, hlz]; omega
  have hz2 : (lits.toList.drop (mateF A i)).length ≤ 8 := by rw [List.length_drop, hlz]; omega
  refine StopFor.go (ListComp_G (cl := []) F ?p1 ?p2 ?p3 ?p4 ?p5 ?p6 (fun _ => rfl))
  case p1 => with_unfolding_all rfl
  case p2 => decide
  case p3 => rfl
  case p4 => decide
  case p5 => rfl
  case p6 =>
  k_steps
  refine StopFor.go (kms_slice_lit F N ⟨_, (N _ (.tail _ (.tail _ (.tail _ (.tail _ (.tail _ (.head _))))))).1, rfl, _, rfl⟩ (.int _ _) (.int _ _) rfl (fun D₁ h₁ F₁ N₁ lt₁ => ?_) (by with_unfolding_all rfl) (fun _ => by with_unfolding_all rfl) (by rw [← Array.length_toList, sizeLine_eq]; omega))
  rw [e1] at N₁
  generalize hys1 : (lits.toList.drop 1).take (mateF A i - 1) = ys1 at N₁ hi1 hz1
  k_steps
  refine src_list (its := ys1.toArray) rfl F₁ N₁ (.inr ⟨_, .head _, rfl, _, rfl⟩) (by rw [List.size_toArray]; omega) fun g => comp_fix (fun j zs => IntsAre zs ((((lastF A i).drop 1).take (mateF A i - 1)).take j |>.map (· - 1))) .nil ?_ ?_
  rotate_left
  · rintro j v I oI C oC D' m₂ h₆ tk₆ zs E' hj hzs hv hC hx F₆ N₆ off ne
    obtain ⟨b, tb, rfl, hb⟩ := IntsAre.at hi1 j v (by simpa using hv)
    k_steps
    refine ⟨h₆, _, _, rfl, F₆, N₆, off, .inr ⟨_, .head _, rfl, _, rfl⟩, rfl, ?_⟩
    rw [List.take_add_one, hb, List.map_append]
    exact ints_snoc hzs
  intro zs hzs
  rw [List.take_of_length_le (by rw [List.size_toArray, hi1.length]; exact Nat.le_refl _)] at hzs
  unfold LCg.FinE
  intro D₂ h₂ tk₂ F₂ N₂ o2
  clear F F₁ N₁ N lt₁
  k_steps
  refine StopFor.go (ListComp_G (cl := []) F₂ ?q1 ?q2 ?q3 ?q4 ?q5 ?q6 (fun _ => rfl))
  case q1 => with_unfolding_all rfl
  case q2 => decide
  case q3 => rfl
  case q4 => decide
  case q5 => rfl
  case q6 =>
  k_steps
  have N₂' := news_sub (news' := (D₂, LCg.lst zs) :: (it, oi) :: (L' + 1 + 1, oT) :: (91, tabObj ps) :: (tl, listOf told n₁) :: (ct, listOf counts n₂) :: (la, listOf lits lk) :: fx) N₂ fun p hp => by
    rcases List.mem_cons.mp hp with h | h
    · rw [h]; exact .head _
    · exact .tail _ (.tail _ h)
  clear N₂
  refine StopFor.go (kms_slice_lit F₂ N₂' ⟨_, (N₂' _ (.tail _ (.tail _ (.tail _ (.tail _ (.tail _ (.tail _ (.head _)))))))).1, rfl, _, rfl⟩ (.int _ _) .none rfl (fun D₃ h₃ F₃ N₃ lt₃ => ?_) (by with_unfolding_all rfl) (fun _ => by with_unfolding_all rfl) (by rw [← Array.length_toList, sizeLine_eq]; omega))
  rw [e2] at N₃
  generalize hys2 : lits.toList.drop (mateF A i) = ys2 at N₃ hi2 hz2
  k_steps
  refine src_list (its := ys2.toArray) rfl F₃ N₃ (.inr ⟨_, .head _, rfl, _, rfl⟩) (by rw [List.size_toArray]; omega) fun g => comp_fix (fun j zs => IntsAre zs (((lastF A i).drop (mateF A i)).take j |>.map (· + 1))) .nil ?_ ?_
  rotate_left
  · rintro j v I oI C oC D' m₂ h₆ tk₆ zs E' hj hzs hv hC hx F₆ N₆ off ne
    obtain ⟨b, tb, rfl, hb⟩ := IntsAre.at hi2 j v (by simpa using hv)
    k_steps
    refine ⟨h₆, _, _, rfl, F₆, N₆, off, .inr ⟨_, .head _, rfl, _, rfl⟩, rfl, ?_⟩
    rw [List.take_add_one, hb, List.map_append]
    exact ints_snoc hzs
  intro zs₂ hzs₂
  rw [List.take_of_length_le (by rw [List.size_toArray, hi2.length]; exact Nat.le_refl _)] at hzs₂
  unfold LCg.FinE
  intro D₄ h₄ tk₄ F₄ N₄ o4
  have hw1 : zs.length ≤ 8 := by rw [hzs.length, List.length_map, ← hi1.length]; exact hz1
  have hw2 : zs₂.length ≤ 8 := by rw [hzs₂.length, List.length_map, ← hi2.length]; exact hz2
  k_steps
  refine StopFor.go (kmk_add_lit F₄ N₄ (its := zs.toArray) (its2 := zs₂.toArray) ⟨_, (N₄ _ (.tail _ (.tail _ (.head _)))).1, rfl, _, rfl⟩ ⟨_, (N₄ _ (.head _)).1, rfl, _, rfl⟩ rfl (fun D₅ h₅ F₅ N₅ lt₅ => ?_) (by simp only [List.toList_toArray, sizeLine_eq]; omega))
  have N₆ := news_sub (news' := (D₅, listOf (zs ++ zs₂).toArray 0) :: (it, oi) :: (L' + 1 + 1, oT) :: (91, tabObj ps) :: (tl, listOf told n₁) :: (ct, listOf counts n₂) :: (la, listOf lits lk) :: fx) N₅ fun p hp => by
    rcases List.mem_cons.mp hp with h | h
    · rw [h]; exact .head _
    · exact .tail _ (.tail _ (.tail _ (.tail _ h)))
  clear F₂ N₂' F₃ N₃ lt₃ o2 o4 N₄ N₅ lt₅ F₄
  k_steps
  rename_i l₆ h₆ F₆' N₆' _
  refine StopFor.go (kmk_add_lit F₆' N₆' (its := (zs ++ zs₂).toArray) (its2 := #[Value.int 0 tk₄]) ⟨_, (N₆' _ (.tail _ (.head _))).1, rfl, _, rfl⟩ ⟨_, (N₆' _ (.head _)).1, rfl, _, rfl⟩ rfl (fun D₇ h₇ F₇ N₇ lt₇ => ?_) (by simp only [List.toList_toArray, List.length_append, sizeLine_eq]; show _ + 1 ≤ _; omega))
  have N₈ := news_sub (news' := (D₇, listOf (zs ++ zs₂ ++ [Value.int 0 tk₄]).toArray 0) :: (it, oi) :: (L' + 1 + 1, oT) :: (91, tabObj ps) :: (tl, listOf told n₁) :: (ct, listOf counts n₂) :: (la, listOf lits lk) :: fx) N₇ fun p hp => by
    rcases List.mem_cons.mp hp with h | h
    · rw [h]; exact .head _
    · exact .tail _ (.tail _ (.tail _ h))
  clear N₆' F₆' N₇ lt₇
  k_whole
  have hall := ints_append (ints_append hzs hzs₂) (IntsAre.cons 0 tk₄ .nil)
  rw [← hc] at hall
  refine ke_ne_ints (xs := counts.toList) (ys := zs ++ zs₂ ++ [Value.int 0 tk₄]) (by rw [Array.toArray_toList]; exact ⟨_, (N₈ _ (.tail _ (.tail _ (.tail _ (.tail _ (.tail _ (.head _))))))).1, rfl, _, rfl⟩) ⟨_, (N₈ _ (.head _)).1, rfl, _, rfl⟩ hCo hall (Nat.le_of_ble_eq_true rfl) ?_
  rw [decide_eq_true rfl]
  have N₉ := news_sub (news' := (it, oi) :: (L' + 1 + 1, oT) :: (91, tabObj ps) :: (tl, listOf told n₁) :: (ct, listOf counts n₂) :: (la, listOf lits lk) :: fx) N₈ fun p hp => .tail _ hp
  clear N₈
  k_steps
  exact hR _ _ F₇ N₉
end

section
local macro_rules | `(tactic| walk_at "eval ListComp") => `(tactic| apply StopFor.out)
local macro_rules | `(tactic| walk_at "call ref") => `(tactic| apply StopFor.out)
local macro_rules | `(tactic| walk_at "binaryOp Add ref ref") => `(tactic| apply StopFor.out)
local macro_rules | `(tactic| walk_at "compareOp NotEq ref ref") => `(tactic| apply StopFor.out)
set_option maxHeartbeats 8000000 in
/-- The turn's third statement at the first corner: the walk the other way round. -/
theorem turn_0 (w : World) (mean : ExcName → Option Value) (mg mb : Str → Option Value) (p : Program) (ls : List PySem.Str) (l : Addr) (n : Nat) (us : Tok) (A : List Stp) (σ : List Nat) (g' : Heap) (L' nl D pl : Addr) (oD : Obj) (kvs : List (Str × Value))
    (fx : List (Addr × Obj)) (it : Addr) (oi : Obj) (i : Nat) (s : Shared) (R : Flow → Shared → Prop) (E : Value → Shared → Prop)
    (ps : Array Value) (oT : Obj) (la : Addr) (lits : Array Value) (lk : Nat) (tr um uc : Tok) (oo ot oe : Option Value) (tl ct : Addr) (told counts : Array Value) (n₁ n₂ : Nat)
    (X : (hd.heap_39 w.params).In g') (T : Top p ls mean mg mb g') (hA : RingOk n A) (hS : Signs n σ) (hn34 : n = 3 ∨ n = 4) (h0 : i = 0)
    (F : Fr g' L' s.heap (lwMap l n us nl D pl (some (.bytes (rowOf σ (rot A i)).toArray tr)) (some (.ref la)) (some (.int (mateF A i : Nat) um)) (some (.int (i : Int) uc)) (some (.ref ct)) oo ot oe))
    (N : News g' L' s.heap ((it, oi) :: (L' + 1 + 1, oT) :: (91, tabObj ps) :: (tl, listOf told n₁) :: (ct, listOf counts n₂) :: (la, listOf lits lk) :: fx)) (dT : oT.data = .cell (some (.ref tl)))
    (hTo : StrsAre told.toList ((List.range (2 * n)).map fun k => pileT (stk σ (rot A i) (k + 1)))) (jG : AllBare s.gens) (jT : TabOk ps) (hit9 : it ≠ 91) (h91 : 91 < L')
    (hDf : (D, oD) ∈ fx) (hoD : Obj.IsDictOf (strKind PR w) oD kvs) (hW : WOk (A.map (nm σ)) kvs) (hf9 : ∀ p ∈ fx, p.1 ≠ 91)
    (hR : ∀ s' ps' oo', Fr g' L' s'.heap (lwMap l n us nl D pl (some (.bytes (rowOf σ (rot A i)).toArray tr)) (some (.ref la)) (some (.int (mateF A i : Nat) um)) (some (.int (i : Int) uc)) (some (.ref ct)) oo' ot oe) →
      News g' L' s'.heap ((it, oi) :: (L' + 1 + 1, oT) :: (91, tabObj ps') :: (tl, listOf told n₁) :: (ct, listOf counts n₂) :: (la, listOf lits lk) :: fx) → AllBare s'.gens → TabOk ps' → s'.os = s.os →
      wpC (model PySem.Challenge.rw_xp0004_01.row.prog w) (callerA.deeper (lawEnv w.params L')) (execs ((lawFor w.params).2.drop 3) (lawEnv w.params L')) R E s') :
    wpC (model PySem.Challenge.rw_xp0004_01.row.prog w) (callerA.deeper (lawEnv w.params L')) (execs ((lawFor w.params).2.drop 2) (lawEnv w.params L')) R E s := by
  revert hR hf9 hW hoD hDf h91 hit9 jT jG hTo dT N F h0 hn34 hS hA T X
  w_top off
  k_fill
  intro X T hA hS hn34 h0 F N dT hTo jG jT hit9 h91 hDf hoD hW hf9 hR
  have hn3 : 3 ≤ n := by omega
  have hn4 : n ≤ 4 := by omega
  have e := law_at (P := w.params) (by k_is)
  unfold lawEnv lawFor at hR ⊢
  rw [e] at hR ⊢
  dsimp only [List.drop] at hR ⊢
  have B' : Below callerA g' [] g' := below_caller g'
  have hA0 : rot A i = A := by rw [h0, rot_zero]
  rw [hA0] at F hTo hR
  have hrl : (rowOf σ A).length = 4 * n := by rw [rowOf_length, hA.len]; omega
  delta lwMap at F; (try dsimp only at F)
  refine wpC_execs_cons ?_
  refine wpC_If ?_
  k_steps
  rotate_left
  · rename_i hz
    exact absurd (by omega : (i : Int) = 0) hz
  refine wpC_execs_cons (wpC_Assign_Name (wpC_Subscript (wpC_Call_Name ?_)))
  k_steps
  refine callC_KC (K := hd.heap_39 w.params) (by k_is) (wpC_Call_Name ?_)
  k_steps
  refine callC_K (K := hd.heap_39 w.params) (by k_is) ?_
  k_steps
  refine' bsw_spec w mean mg mb p ls ((it, oi) :: (L' + 1 + 1, oT) :: (91, tabObj ps) :: (tl, listOf told n₁) :: (ct, listOf counts n₂) :: (la, listOf lits lk) :: fx) (rowOf σ A) (rowOf σ A).length 1 tr _ _ _ _ _ _ _ _ _ _ _ _ g' L' _ _ _ _ ?c1 ?c2 ?c3 ?c4 ?c5 ?c6 ?c7 ?c9 ?c10 ?c11
  case c1 => exact B'
  case c2 => k_asm
  case c3 => k_asm
  case c4 => k_asm
  case c5 => k_asm
  case c6 => exact rfl
  case c7 => exact ⟨by omega, by omega, Nat.le_refl _, by omega⟩
  case c9 => decide
  case c10 => decide
  intro tk₁ h₁ tk₁' F₁ N₁
  rw [bsw_whole, row_bak]
  k_whole
  k_steps
  have W := walk_bak hA hS
  have hLc : Value.type "list" ≠ Value.none := fun e => nomatch e
  refine' walk_spec w mean mg mb p ls ((it, oi) :: (L' + 1 + 1, oT) :: (tl, listOf told n₁) :: (ct, listOf counts n₂) :: (la, listOf lits lk) :: fx) (rowOf σ (bak A)) tk₁ (2 * n) D oD kvs ps (stk σ (bak A)) (A.map (nm σ)) _ _ _ _ _ _ _ _ _ _ _ g' L' _ _ _ _ ?b1 ?b2 ?b3 ?b4 ?b5 ?b6 jT jG W.len ?b7 ?b8 W.low ?b9 ?b10 hoD hW W.names W.walk ?b11 ?b12 ?b13
  case b1 => exact B'
  case b2 => k_asm
  case b3 => k_asm
  case b4 => exact news_sub N₁ (fun p hp => by
    revert p hp
    repeat refine List.forall_mem_cons.mpr ⟨by k_mem, ?_⟩
    exact fun p hp => by repeat (first | exact hp | exact List.mem_append_right _ hp | apply List.Mem.tail))
  case b5 => k_asm
  case b6 => exact rfl
  case b7 => omega
  case b8 => omega
  case b9 => simp only [List.mem_cons, hDf, or_true]
  case b10 =>
    intro p hp
    simp only [List.mem_cons] at hp
    rcases hp with rfl | rfl | rfl | rfl | rfl | hp
    · exact hit9
    · exact Nat.ne_of_gt (Nat.lt_trans h91 (by omega))
    · exact news_nc N₁ (.tail _ (.tail _ (.tail _ (.head _)))) (.tail _ (.tail _ (.head _))) hLc
    · exact news_nc N₁ (.tail _ (.tail _ (.tail _ (.tail _ (.head _))))) (.tail _ (.tail _ (.head _))) hLc
    · exact news_nc N₁ (.tail _ (.tail _ (.tail _ (.tail _ (.tail _ (.head _)))))) (.tail _ (.tail _ (.head _))) hLc
    · exact hf9 p hp
  case b11 => decide
  case b12 => decide
  intro T₁ tl₂ ct₂ told₂ counts₂ m₁ m₂ ps₂ s₂ F₂ N₂ hTo₂ _ jT₂ jG₂ hos₂ _
  clear F₁ N₁
  k_steps
  try dsimp only
  rename_i F₃ N₃
  have N₄ := news_sub (news' := (tl₂, listOf told₂ m₁) :: (it, oi) :: (L' + 1 + 1, oT) :: (91, tabObj ps₂) :: (tl, listOf told n₁) :: (ct, listOf counts n₂) :: (la, listOf lits lk) :: fx) N₃ (fun p hp => by
    revert p hp
    repeat refine List.forall_mem_cons.mpr ⟨by k_mem, ?_⟩
    exact fun p hp => by repeat (first | exact hp | exact List.mem_append_right _ hp | apply List.Mem.tail))
  clear N₃
  refine wpC_execs_cons (wpC_any ?_)
  refine wpAny_If ?_
  k_steps
  refine StopFor.go (ListComp_G (cl := [(Str.ofString "told", L' + 1 + 1)]) F₃ ?p1 ?p2 ?p3 ?p4 ?p5 ?p6 (fun _ => rfl))
  case p1 => with_unfolding_all rfl
  case p2 => decide
  case p3 => rfl
  case p4 => decide
  case p5 => rfl
  case p6 =>
  k_steps
  rename_i hRg F₅ N₅ _
  have hnb : Builtin.Range.rangeSize (2 * (n : Int) - 2) (-1) (-1) = ((2 * n - 1 : Nat) : Int) := by rcases hn34 with h | h <;> subst h <;> decide
  refine src_range rfl F₅ N₅ hRg (range_small (by omega) (by omega) (by omega) (by omega) (by decide) (by decide) hnb (by omega)) hnb (by omega) fun g => comp_fix (fun j ys => StrsAre ys (((List.range (2 * n - 1)).map fun j => pileT (stk σ A (2 * n - 2 - j + 1))).take j)) .nil ?_ ?_
  rotate_left
  · rintro j v I oI C oC D' m₂ h₆ tk₆ ys E' hj hys ⟨_, u, rfl⟩ hC hx F₆ N₆ off ne
    rw [castD hj] at hx
    k_steps
    refine ⟨h₆, _, _, rfl, F₆, N₆, off, trivial, rfl, ?_⟩
    rw [Int.toNat_natCast, List.getD_eq_getElem?_getD, List.getElem?_map, List.getElem?_range (by omega), List.take_add_one, List.getElem?_map, List.getElem?_range (by omega)]
    exact kct_snoc hys
  intro zs hzs
  rw [List.take_of_length_le (by rw [List.length_map, List.length_range]; exact Nat.le_refl _)] at hzs
  unfold LCg.FinE
  intro D₆ h₆ tk₆ F₆ N₆ o6
  k_steps
  rename_i l₇ h₇ F₇ N₇ _
  have hzl : zs.length = 2 * n - 1 := by rw [hzs.length, List.length_map, List.length_range]
  refine StopFor.go (kmk_add_lit F₇ N₇ (its := zs.toArray) (its2 := #[Value.str (Str.ofString "") tk₆]) ⟨_, (N₇ _ (.tail _ (.head _))).1, rfl, _, rfl⟩ ⟨_, (N₇ _ (.head _)).1, rfl, _, rfl⟩ rfl (fun D₈ h₈ F₈ N₈ _ => ?_) (by simp only [List.toList_toArray, sizeLine_eq]; show _ + 1 ≤ _; omega))
  have N₉ := news_sub (news' := (D₈, listOf (zs ++ [Value.str (Str.ofString "") tk₆]).toArray 0) :: (tl₂, listOf told₂ m₁) :: (it, oi) :: (L' + 1 + 1, oT) :: (91, tabObj ps₂) :: (tl, listOf told n₁) :: (ct, listOf counts n₂) :: (la, listOf lits lk) :: fx) N₈ fun p hp => by
    rcases List.mem_cons.mp hp with h | h
    · rw [h]; exact .head _
    · exact .tail _ (.tail _ (.tail _ h))
  clear N₈ N₇ F₇ o6
  try clear F₆
  try clear N₆
  have hzs₂ := kct_snoc (y := Str.ofString "") (t := tk₆) hzs
  rw [other_is hA (by omega)] at hzs₂
  k_whole
  refine ne_strs (xs := told₂) (ys := (zs ++ [Value.str (Str.ofString "") tk₆]).toArray) ⟨_, (N₉ _ (.tail _ (.head _))).1, rfl, _, rfl⟩ ⟨_, (N₉ _ (.head _)).1, rfl, _, rfl⟩ hTo₂ hzs₂ W.ok W.ok (Nat.le_of_ble_eq_true rfl) ?_
  rw [decide_eq_true rfl]
  have N₁₀ := news_sub (news' := (it, oi) :: (L' + 1 + 1, oT) :: (91, tabObj ps₂) :: (tl, listOf told n₁) :: (ct, listOf counts n₂) :: (la, listOf lits lk) :: fx) N₉ fun p hp => .tail _ (.tail _ hp)
  clear N₉
  k_steps
  refine wpC_any (wpAny_execs_nil ?_)
  refine hR _ ps₂ (some (.ref tl₂)) (fr_congr F₈ fun y => ?_) N₁₀ jG₂ jT₂ hos₂
  unfold lwMap
  by_cases e0 : y = Str.ofString "other"
  · subst e0; rfl
  simp only [if_neg e0]
end

section
local macro_rules | `(tactic| walk_at "call ref") => `(tactic| apply StopFor.out)
local macro_rules | `(tactic| walk_at "call builtin:list.index") => `(tactic| apply StopFor.out)
set_option maxHeartbeats 8000000 in
/-- The turn's last statements: the row is moved on by one name. -/
theorem turn_d (w : World) (mean : ExcName → Option Value) (mg mb : Str → Option Value) (p : Program) (ls : List PySem.Str) (l : Addr) (n : Nat) (us : Tok) (A : List Stp) (σ : List Nat) (g' : Heap) (L' nl D pl : Addr)
    (fx : List (Addr × Obj)) (o₀ : OsState) (it : Addr) (oi : Obj) (i : Nat) (s : Shared) (R : Flow → Shared → Prop) (E : Value → Shared → Prop)
    (ps : Array Value) (oT : Obj) (la : Addr) (lits : Array Value) (lk : Nat) (tr um uc : Tok) (oo ot oe : Option Value) (tl ct : Addr) (told counts : Array Value) (n₁ n₂ : Nat)
    (X : (hd.heap_39 w.params).In g') (T : Top p ls mean mg mb g') (hA : RingOk n A) (hS : Signs n σ) (hn34 : n = 3 ∨ n = 4) (hi : i < 2 * n)
    (F : Fr g' L' s.heap (lwMap l n us nl D pl (some (.bytes (rowOf σ (rot A i)).toArray tr)) (some (.ref la)) (some (.int (mateF A i : Nat) um)) (some (.int (i : Int) uc)) (some (.ref ct)) oo ot oe))
    (N : News g' L' s.heap ((it, oi) :: (L' + 1 + 1, oT) :: (91, tabObj ps) :: (tl, listOf told n₁) :: (ct, listOf counts n₂) :: (la, listOf lits lk) :: fx)) (dT : oT.data = .cell (some (.ref tl)))
    (hTo : StrsAre told.toList ((List.range (2 * n)).map fun k => pileT (stk σ (rot A i) (k + 1)))) (hCo : IntsAre counts.toList (hts (rot A i))) (jG : AllBare s.gens) (jT : TabOk ps) (ho : s.os = o₀)
    (hit9 : it ≠ 91) (hitT : it ≠ L' + 1 + 1) (hitc : ct ≠ it) (hfi : ∀ p ∈ fx, p.1 ≠ it)
    (hR : ∀ s', TurnEnd g' L' it oi (LJE σ A l n us nl D pl L' fx o₀ (i + 1)) s' → R .next s') :
    wpC (model PySem.Challenge.rw_xp0004_01.row.prog w) (callerA.deeper (lawEnv w.params L')) (execs ((lawFor w.params).2.drop 3) (lawEnv w.params L')) R E s := by
  revert hR hfi hitc hitT hit9 ho jT jG hCo hTo dT N F hi hn34 hS hA T X
  w_top off
  k_fill
  intro X T hA hS hn34 hi F N dT hTo hCo jG jT ho hit9 hitT hitc hfi hR
  have hn3 : 3 ≤ n := by omega
  have hn4 : n ≤ 4 := by omega
  have e := law_at (P := w.params) (by k_is)
  unfold lawEnv lawFor
  rw [e]
  dsimp only [List.drop]
  have B' : Below callerA g' [] g' := below_caller g'
  have hmi := mate_is (n := n) (σ := σ) (B := rot A i) (by rw [rot_length, hA.len])
  have hmm := mate_mem (σ := σ) (B := rot A i) (n := n) (by omega) (hA.ends i hi)
  have hnext := row_next (σ := σ) (A := A) (i := i) (by rw [hA.len]; exact hi)
  have hrl : (rowOf σ (rot A i)).length = 4 * n := by rw [rowOf_length, rot_length, hA.len]; omega
  have htz : told.size = 2 * n := by have := hTo.length; rw [Array.length_toList, List.length_map, List.length_range] at this; exact this
  generalize rowOf σ (rot A i) = r at F hnext hrl
  delta lwMap at F; (try dsimp only at F)
  refine wpC_execs_cons (wpC_any ?_)
  k_steps
  refine wpC_execs_cons (wpC_any ?_)
  k_steps
  refine StopFor.go (nw_lindex (by assumption) (.tail _ (.tail _ (.tail _ (.head _)))) hTo hmm (by omega) ?_)
  rw [hmi]
  k_steps
  rename_i _ h₁ F₁ N₁
  refine wpC_execs_cons (wpC_Assign_Name (wpC_Call_Name ?_))
  k_steps
  refine callC_K (K := hd.heap_39 w.params) (by k_is) ?_
  k_steps
  refine' bsw_spec w mean mg mb p ls ((it, oi) :: (L' + 1 + 1, oT) :: (91, tabObj ps) :: (tl, listOf told n₁) :: (ct, listOf counts n₂) :: (la, listOf lits lk) :: fx) r r.length 1 tr _ _ _ _ _ _ _ _ _ _ _ _ g' L' _ _ _ _ ?c1 ?c2 ?c3 ?c4 ?c5 ?c6 ?c7 ?c9 ?c10 ?c11
  case c1 => exact B'
  case c2 => k_asm
  case c3 => k_asm
  case c4 => k_asm
  case c5 => k_asm
  case c6 => exact rfl
  case c7 => exact ⟨by omega, by omega, Nat.le_refl _, by omega⟩
  case c9 => decide
  case c10 => decide
  intro tk₂ h₂ tk₂' F₂ N₂
  clear F₁ N₁
  k_whole
  k_steps
  try dsimp only
  rename_i h₃ F₃ N₃
  refine wpC_execs_cons (wpC_any ?_)
  k_steps
  rename_i _ h₄ F₄ N₄
  try clear F₃ N₃
  have hsz : ((r.toArray.size : Nat) : Int) - 2 = ((r.length - 2 : Nat) : Int) := by show ((r.length : Nat) : Int) - 2 = _; omega
  rw [hsz] at F₄
  have hbl : (bswF r r.length).length = r.length := by simp [bswF]
  generalize hbb : bswF r r.length = b at F₄ hnext hbl
  refine wpC_execs_cons (wpC_Assign_Name (wpC_BinOp (wpC_Call_Name ?_)))
  k_steps
  refine callC_K (K := hd.heap_39 w.params) (by k_is) ?_
  k_steps
  refine bytes_cut (s := ⟨_, _, _, _, _⟩) (c := b.take (r.length - 2)) F₄ N₄ (by constructor) (by constructor) (by omega) ?_ fun h₅ t₅ k₅ F₅ N₅ => ?_
  · simp only [Option.elim, clipAt_nat, List.drop_zero, Nat.sub_zero]
    rw [sub_two hbl]
  clear F₄ N₄
  k_steps
  refine' bsw_spec w mean mg mb p ls ((it, oi) :: (L' + 1 + 1, oT) :: (91, tabObj ps) :: (tl, listOf told n₁) :: (ct, listOf counts n₂) :: (la, listOf lits lk) :: fx) (b.take (r.length - 2)) (r.length - 2) 1 t₅ _ _ _ _ _ _ _ _ _ _ _ _ g' L' _ _ _ _ ?d1 ?d2 ?d3 ?d4 ?d5 ?d6 ?d7 ?d9 ?d10 ?d11
  case d1 => exact B'
  case d2 => k_asm
  case d3 => k_asm
  case d4 => k_asm
  case d5 => k_asm
  case d6 => exact rfl
  case d7 => exact ⟨by rw [List.length_take]; omega, by omega, Nat.le_refl _, by rw [List.length_take]; omega⟩
  case d9 => decide
  case d10 => decide
  intro tk₆ h₆ tk₆' F₆ N₆
  clear F₅ N₅
  k_whole
  refine wpC_Call_Name ?_
  k_steps
  refine callC_K (K := hd.heap_39 w.params) (by k_is) ?_
  k_steps
  refine bytes_cut (s := ⟨_, _, _, _, _⟩) (c := b.drop (r.length - 2)) F₆ N₆ (by constructor) (by constructor) (by omega) ?_ fun h₇ t₇ k₇ F₇ N₇ => ?_
  · simp only [Option.elim, clipAt_nat]
    rw [sub_two hbl]
    exact List.take_of_length_le (by rw [List.length_drop]; exact Nat.le_refl _)
  clear F₆ N₆
  k_steps
  refine' bsw_spec w mean mg mb p ls ((it, oi) :: (L' + 1 + 1, oT) :: (91, tabObj ps) :: (tl, listOf told n₁) :: (ct, listOf counts n₂) :: (la, listOf lits lk) :: fx) (b.drop (r.length - 2)) 2 1 t₇ _ _ _ _ _ _ _ _ _ _ _ _ g' L' _ _ _ _ ?e1 ?e2 ?e3 ?e4 ?e5 ?e6 ?e7 ?e9 ?e10 ?e11
  case e1 => exact B'
  case e2 => k_asm
  case e3 => k_asm
  case e4 => k_asm
  case e5 => k_asm
  case e6 => exact rfl
  case e7 => exact ⟨by rw [List.length_drop]; omega, by decide, Nat.le_refl _, by rw [List.length_drop]; omega⟩
  case e9 => decide
  case e10 => decide
  intro tk₈ h₈ tk₈' F₈ N₈
  clear F₇ N₇
  k_whole
  k_steps
  refine KBy.add_bytes ?_ fun t₉ k₉ => ?_
  · rw [List.size_toArray, List.size_toArray]
    unfold bswF
    rw [List.length_map, List.length_map, List.length_range, List.length_range, List.length_take, List.length_drop]
    omega
  rw [show (bswF (b.take (r.length - 2)) (r.length - 2)).toArray ++ (bswF (b.drop (r.length - 2)) 2).toArray = (bswF (b.take (r.length - 2)) (r.length - 2) ++ bswF (b.drop (r.length - 2)) 2).toArray by simp, hnext]
  k_steps
  rename_i _ h₉ F₉ N₉
  obtain ⟨um', er, F₉'⟩ : ∃ um' er, Fr g' L' h₉ (lwMap l n us nl D pl (some (.bytes (rowOf σ (rot A (i + 1))).toArray t₉)) (some (.ref ct)) (some (.int (mateF A (i + 1) : Nat) um')) (some (.int (i : Int) uc)) (some (.ref ct)) oo (some (.bytes b.toArray tk₂)) (some (.int ((r.length - 2 : Nat) : Int) er))) := by
    rw [mate_next]
    exact ⟨_, _, fr_congr F₉ fun y => by
      unfold lwMap
      by_cases e0 : y = Str.ofString "row"
      · subst e0; rfl
      by_cases e1 : y = Str.ofString "rest"
      · subst e1; rfl
      by_cases e2 : y = Str.ofString "turned"
      · subst e2; rfl
      by_cases e3 : y = Str.ofString "mate"
      · subst e3; rfl
      by_cases e4 : y = Str.ofString "last"
      · subst e4; rfl
      simp only [if_neg e0, if_neg e1, if_neg e2, if_neg e3, if_neg e4]⟩
  refine wpC_any (wpAny_execs_nil (hR _ ⟨_, (L' + 1 + 1, oT) :: (91, tabObj ps) :: (ct, listOf counts n₂) :: fx, F₉', news_sub N₉ fun p hp => ?_, fun p hp => ?_, ps, oT, some (.ref tl), ct, counts, n₂, t₉, um', _, _, _, _, _, ⟨ho, jG, jT, dT, by rw [last_next]; exact hCo, rfl, rfl⟩⟩))
  · revert p hp
    repeat refine List.forall_mem_cons.mpr ⟨by k_mem, ?_⟩
    exact fun p hp => by repeat (first | exact hp | exact List.mem_append_right _ hp | apply List.Mem.tail)
  · simp only [List.mem_cons] at hp
    rcases hp with rfl | rfl | rfl | hp
    · exact Ne.symm hitT
    · exact Ne.symm hit9
    · exact hitc
    · exact hfi p hp
end

theorem law_turn (w : World) (mean : ExcName → Option Value) (mg mb : Str → Option Value) (p : Program) (ls : List PySem.Str) (l : Addr) (n : Nat) (us : Tok) (A : List Stp) (σ : List Nat) (g' : Heap) (L' nl D pl : Addr) (oD : Obj) (kvs : List (Str × Value)) (pits : Array Value)
    (fx : List (Addr × Obj)) (o₀ : OsState) (it : Addr) (oi : Obj) (i : Nat) (u : Tok) (m : Str → Option Value) (news : List (Addr × Obj)) (s : Shared) (R : Flow → Shared → Prop) (E : Value → Shared → Prop)
    (X : (hd.heap_39 w.params).In g') (T : Top p ls mean mg mb g') (hA : RingOk n A) (hS : Signs n σ) (hn34 : n = 3 ∨ n = 4) (hi : i < 2 * n)
    (F : Fr g' L' s.heap m) (N : News g' L' s.heap ((it, oi) :: news)) (hne : ∀ p ∈ news, p.1 ≠ it) (J : LJE σ A l n us nl D pl L' fx o₀ i m news s.gens s.drawn s.os)
    (hDf : (D, oD) ∈ fx) (hoD : Obj.IsDictOf (strKind PR w) oD kvs) (hW : WOk (A.map (nm σ)) kvs) (hP : PairsAt pl pits (prs σ A) fx) (hf9 : ∀ p ∈ fx, p.1 ≠ 91) (hfT : ∀ p ∈ fx, p.1 ≠ L' + 1 + 1) (h91 : 91 < L')
    (hR : ∀ s', TurnEnd g' L' it oi (LJE σ A l n us nl D pl L' fx o₀ (i + 1)) s' → R .next s') :
    wpAny (model PySem.Challenge.rw_xp0004_01.row.prog w) (callerA.deeper (lawEnv w.params L')) (assign (lawFor w.params).1 (lawEnv w.params L') (.int (0 + (i : Int) * 1) u))
      (fun _ s₂ => wpC (model PySem.Challenge.rw_xp0004_01.row.prog w) (callerA.deeper (lawEnv w.params L')) (execs (lawFor w.params).2 (lawEnv w.params L')) R E s₂) E s := by
  obtain ⟨ps, oT, cv, la, lits, lk, tr, um, oc, ok, oo, ot, oe, J⟩ := J
  obtain ⟨ho, jG, jT, dT, jl, rfl, rfl⟩ := J
  have hit9 : it ≠ 91 := Ne.symm (hne _ (.tail _ (.head _)))
  have hitT : it ≠ L' + 1 + 1 := Ne.symm (hne _ (.head _))
  have hfi : ∀ p ∈ fx, p.1 ≠ it := fun p hp => hne p (.tail _ (.tail _ (.tail _ hp)))
  refine turn_a w mean mg mb p ls l n us A σ g' L' nl D pl oD kvs fx it oi i u s R E ps oT cv la lits lk tr um oc ok oo ot oe X T hA hS hn34 hi F N dT jG jT hit9 hitT hfi hDf hoD hW hf9 hfT h91 ?_
  intro s₁ tl ct told counts n₁ n₂ ps₁ oT₁ uc F₁ N₁ dT₁ jG₁ jT₁ ho₁ hc1 hc2 hTo hCo
  refine turn_b w mean mg mb p ls l n us A σ g' L' nl D pl pits fx it oi i s₁ R E ps₁ oT₁ la lits lk tr um uc oo ot oe tl ct told counts n₁ n₂ X T hA hS hn34 hi F₁ N₁ dT₁ hTo hP fun h₂ tk₂ F₂ N₂ => ?_
  by_cases h0 : i = 0
  · refine turn_0 w mean mg mb p ls l n us A σ g' L' nl D pl oD kvs fx it oi i _ R E ps₁ oT₁ la lits lk tr um uc oo ot oe tl ct told counts n₁ n₂ X T hA hS hn34 h0 F₂ N₂ dT₁ hTo jG₁ jT₁ hit9 h91 hDf hoD hW hf9 fun s₃ ps₃ oo₃ F₃ N₃ jG₃ jT₃ ho₃ => ?_
    exact turn_d w mean mg mb p ls l n us A σ g' L' nl D pl fx o₀ it oi i s₃ R E ps₃ oT₁ la lits lk tr um uc oo₃ ot oe tl ct told counts n₁ n₂ X T hA hS hn34 hi F₃ N₃ dT₁ hTo hCo jG₃ jT₃ (ho₃.trans (ho₁.trans ho)) hit9 hitT hc1 hfi hR
  · refine turn_c w mean mg mb p ls l n us A σ g' L' nl D pl fx it oi i _ R E ps₁ oT₁ la lits lk tr um uc oo ot oe tl ct told counts n₁ n₂ X T hA hS hn34 hi h0 F₂ N₂ dT₁ hCo jl fun h₃ tk₃ F₃ N₃ => ?_
    exact turn_d w mean mg mb p ls l n us A σ g' L' nl D pl fx o₀ it oi i _ R E ps₁ oT₁ la lits lk tr um uc oo ot oe tl ct told counts n₁ n₂ X T hA hS hn34 hi F₃ N₃ dT₁ hTo hCo jG₁ jT₁ (ho₁.trans ho) hit9 hitT hc1 hfi hR

section
local macro_rules | `(tactic| walk_at "eval ListComp") => `(tactic| apply StopFor.out)
local macro_rules | `(tactic| walk_at "eval IfExp") => `(tactic| apply StopFor.out)
local macro_rules | `(tactic| walk_at "call ref") => `(tactic| apply StopFor.out)
set_option maxHeartbeats 8000000 in
theorem law_tail (w : World) (mean : ExcName → Option Value) (mg mb : Str → Option Value) (p : Program) (ls : List PySem.Str) (l : Addr) (n : Nat) (us : Tok) (A : List Stp) (σ : List Nat) (g' : Heap) (L' nl D pl : Addr) (oT oR oD : Obj) (tkr : Tok) (kvs : List (Str × Value)) (pits : Array Value)
    (fx : List (Addr × Obj)) (cv : Option Value) (s : Shared) (Q : Flow → Shared → Prop) (E : Value → Shared → Prop)
    (X : (hd.heap_39 w.params).In g') (T : Top p ls mean mg mb g') (hA : RingOk n A) (hS : Signs n σ) (hn34 : n = 3 ∨ n = 4)
    (F : Fr g' L' s.heap (lwMap l n us nl D pl none none none none none none none none)) (N : News g' L' s.heap ((L' + 1 + 1, oT) :: (91, tabObj #[]) :: fx)) (dT : oT.data = .cell cv) (dR : oR.data = .cell (some (.str (catS (A.map (nm σ))) tkr)))
    (hRc : (L' + 1, oR) ∈ fx) (hDf : (D, oD) ∈ fx) (hoD : Obj.IsDictOf (strKind PR w) oD kvs) (hW : WOk (A.map (nm σ)) kvs) (hP : PairsAt pl pits (prs σ A) fx) (hf9 : ∀ p ∈ fx, p.1 ≠ 91) (hfT : ∀ p ∈ fx, p.1 ≠ L' + 1 + 1) (h91 : 91 < L') (ht : 1 ≤ s.toks) (hg : AllBare s.gens)
    (hret : ∀ s' ps, (∀ b o, g'.get? b = some o → s'.heap.get? b = some o) → s'.heap.get? 91 = some (tabObj ps) → TabOk ps → s'.os = s.os → AllBare s'.gens → Q (.ret (.bool true)) s') :
    wpC (model PySem.Challenge.rw_xp0004_01.row.prog w) (callerA.deeper (lawEnv w.params L')) (execs ((lawFn w.params).1.drop 5) (lawEnv w.params L')) Q E s := by
  revert hret hg ht h91 hfT hf9 hP hW hoD hDf hRc dR dT N F hn34 hS hA T X
  w_top off
  k_fill
  intro X T hA hS hn34 F N dT dR hRc hDf hoD hW hP hf9 hfT h91 ht hg hret
  have hn3 : 3 ≤ n := by omega
  have hn4 : n ≤ 4 := by omega
  have e := law_at (P := w.params) (by k_is)
  unfold lawEnv
  rw [e]
  dsimp only [List.drop]
  have N₀ := news_sub (news' := (L' + 1, oR) :: (L' + 1 + 1, oT) :: (91, tabObj #[]) :: fx) N (fun p hp => by
    rcases List.mem_cons.mp hp with h | h
    · rw [h]; exact .tail _ (.tail _ hRc)
    · exact h)
  clear N
  delta lwMap at F; (try dsimp only at F)
  have B' : Below callerA g' [] g' := below_caller g'
  have hAl := hA.len
  have hring : (catS (A.map (nm σ))).length = 4 * n := by
    have := cat_length σ A
    show (catS (A.map (nm σ))).cps.toList.length = _
    omega
  refine execsT ht ?_
  refine wpAny_If ?_
  k_steps
  refine StopFor.go ?_
  refine' esc_spec w mean mg mb p ls _ _ tkr _ _ _ _ _ _ _ _ _ _ _ g' L' _ _ _ _ ?b1 ?b2 ?b3 ?b4 ?b5 ?b6 ?b7 ?b8 ?b9 ?b10 ?b11
  case b1 => exact B'
  case b2 => k_asm
  case b3 => k_asm
  case b4 => k_asm
  case b5 => k_asm
  case b6 => exact rfl
  case b7 => exact escOk_of (by omega)
  case b8 => exact ht
  case b9 => decide
  case b10 => decide
  clear F N₀
  intro tk₁ h₁ tk₂ F N₀
  rw [esc_ring]
  k_whole
  k_steps
  refine StopFor.go (LCp.ListComp_P (cl := []) F ?p1 ?p2 ?p3 ?p4 ?p5 ?p6 ?p7 ?p8 (fun _ => rfl))
  case p1 => with_unfolding_all rfl
  case p2 => decide
  case p3 => rfl
  case p4 => decide
  case p5 => rfl
  case p6 => rfl
  case p7 => decide +kernel
  case p8 =>
  k_steps
  have hpz : pits.size = 2 * n := by rw [hP.2.1]; unfold prs; rw [List.length_map]; exact hAl
  have hP0 : PairsAt pl pits (prs σ A) ((L' + 1, oR) :: (L' + 1 + 1, oT) :: (91, tabObj #[]) :: fx) := ⟨hP.1.sub fun p hp => .tail _ (.tail _ (.tail _ hp)), hP.2.1, fun i h b e => by obtain ⟨T, ta, tb, g1, g2⟩ := hP.2.2 i h b e; exact ⟨T, ta, tb, g1, .tail _ (.tail _ (.tail _ g2))⟩⟩
  refine ⟨pl, pits, _, rfl, rfl, F, N₀, hP0.1.src, by rw [sizeLine_eq]; omega, fun s₂ ⟨h, e⟩ => ?_⟩
  subst e
  refine compP_fix (fun i ys => StrsAre ys ((A.take i).map (es σ))) .nil ?_ ?_
  rotate_left
  · intro i v ys hi hys hv
    obtain ⟨q, hq⟩ : ∃ q, A[i]? = some q := ⟨_, List.getElem?_eq_getElem (by omega)⟩
    obtain ⟨T, ta, tb, g1, g2⟩ := hP0.2.2 i (es σ q) (es σ (flp q)) (by unfold prs; rw [List.getElem?_map, hq]; rfl)
    obtain rfl : Value.ref T = v := by rw [g1] at hv; exact Option.some.inj hv
    refine ⟨T, _, _, _, _, rfl, g2, rfl, rfl, ?_⟩
    intro I oI C oC D₂ m₂ h₃ tk₃ E' hC hx hx₂ F₃ N₃ off ne
    k_steps
    refine ⟨h₃, _, _, rfl, F₃, N₃, off, hP0.1.src, rfl, ?_⟩
    rw [List.take_add_one, hq, List.map_append]
    exact kct_snoc hys
  · intro ys hys
    rw [List.take_of_length_le (by omega)] at hys
    unfold LCg.FinE
    intro D₂ h₃ tk₃ F₃ N₃ o3
    k_steps
    refine join_list ⟨_, (N₃ _ (.head _)).1, rfl, _, rfl⟩ hys ?_ fun t₈ k₈ => ?_
    · rw [show (Str.ofString "").length = 0 from rfl, Nat.mul_zero, Nat.add_zero]
      have := strs_sum (k := 20) (l := A.map (es σ)) fun y hy => by obtain ⟨q, hq, rfl⟩ := List.mem_map.mp hy; exact (es_size hS (hA.lt q hq)).2
      rw [List.length_map] at this
      omega
    rw [join_emp]
    k_steps
    · rename_i ha _
      simp at ha
    rename_i ht₃
    have N₄ := news_sub (news' := (L' + 1, oR) :: (L' + 1 + 1, oT) :: (91, tabObj #[]) :: fx) N₃ fun p hp => .tail _ hp
    clear N₃ N₀ F o3
    try dsimp only
    refine wpC_execs_cons (wpC_any ?_)
    k_steps
    refine enc_method ?_
    k_steps
    refine encode_ascii (cat_low hS hA.lt) (by omega) (by omega) ?_
    rw [cat_row]
    k_steps
    refine wpC_execs_cons (wpC_any ?_)
    k_steps
    refine wpC_execs_cons (wpC_any ?_)
    k_steps
    refine wpC_execs_cons (wpC_For ?_)
    k_steps
    rename_i la _ hl1 _ _ _ _ _ _ _ _ _ hR F₅ N₅ _
    have hnb : Builtin.Range.rangeSize 0 (2 * (n : Int)) 1 = ((2 * n : Nat) : Int) := rsize_up (k := 2 * n) (by decide) (by omega)
    refine range_start hR (range_small (by decide) (by decide) (by omega) (by omega) (by decide) (by decide) hnb (by omega)) hnb F₅ N₅ fun it h₆ F₆ N₆ l₆ => ?_
    obtain ⟨tr, um, F₆'⟩ : ∃ tr um, Fr g' L' h₆ (lwMap l n us nl D pl (some (.bytes (rowOf σ (rot A 0)).toArray tr)) (some (.ref la)) (some (.int (mateF A 0 : Nat) um)) none none none none none) := by
      rw [rot_zero]
      exact ⟨_, _, fr_congr F₆ fun y => by
        unfold lwMap
        by_cases e0 : y = Str.ofString "mate"
        · subst e0; rfl
        by_cases e1 : y = Str.ofString "last"
        · subst e1; rfl
        by_cases e2 : y = Str.ofString "row"
        · subst e2; rfl
        simp only [if_neg e0, if_neg e1, if_neg e2]⟩
    have N₆' := news_sub (news' := (it, rIt 0 1 (2 * n) 0) :: (L' + 1 + 1, oT) :: (91, tabObj #[]) :: (la, listOf #[] 0) :: fx) N₆ (fun p hp => by
      revert p hp
      repeat refine List.forall_mem_cons.mpr ⟨by k_mem, ?_⟩
      exact fun p hp => by repeat (first | exact hp | exact List.mem_append_right _ hp | apply List.Mem.tail))
    clear F₅ N₅ F₆ N₆
    refine forC_iter (m₀ := lwMap l n us nl D pl (some (.bytes (rowOf σ (rot A 0)).toArray tr)) (some (.ref la)) (some (.int (mateF A 0 : Nat) um)) none none none none none) (iter_range rfl)
      (fun i m nw g dd o => LJE σ A l n us nl D pl L' fx s.os i m nw g dd o) F₆' rfl N₆' (fun p hp => Nat.ne_of_lt (l₆ p (by
        simp only [List.mem_cons] at hp ⊢
        rcases hp with h | h | h | h <;> simp only [h, true_or, or_true]))) (fun _ _ _ _ _ _ _ => trivial) ?_ ?_ ?_
    · exact ⟨#[], oT, cv, la, #[], 0, tr, um, none, none, none, none, none, ⟨rfl, hg, ⟨trivial, .inl rfl⟩, dT, .nil, rfl, rfl⟩⟩
    · rintro h₇ g₇ d₇ tk₇ o₇ m₇ news₇ ⟨ps, oT₂, cv₂, la₂, lits, lk, tr₂, um₂, oc, ok, oo, ot, oe, J⟩ F₇ N₇
      obtain ⟨rfl, jG, jT, jc, jl, rfl, rfl⟩ := J
      delta lwMap at F₇; (try dsimp only at F₇)
      try dsimp only
      rw [show 2 * n = A.length from hAl.symm, rot_full] at F₇
      have N₈ := news_sub (news' := (L' + 1, oR) :: (L' + 1 + 1, oT₂) :: (91, tabObj ps) :: fx) N₇ (fun p hp => by
        rcases List.mem_cons.mp hp with h | h
        · rw [h]; exact .tail _ (.tail _ (.tail _ hRc))
        · simp only [List.mem_cons] at h ⊢
          rcases h with h | h | h <;> simp only [h, true_or, or_true])
      clear N₇
      refine wpC_execs_cons (wpC_any ?_)
      k_steps
      refine enc_method ?_
      k_steps
      refine encode_ascii (cat_low hS hA.lt) (by omega) (by omega) ?_
      rw [cat_row]
      k_steps
      rw [show ((rowOf σ A).toArray.toList == (rowOf σ A).toArray.toList) = true from beq_self_eq_true _]
      exact hret _ ps F₇.keep (N₈ _ (.tail _ (.tail _ (.head _)))).1 jT rfl jG
    · intro i u h₇ g₇ d₇ tk₇ o₇ m₇ news₇ oi hi J F₇ N₇ hne
      have H := law_turn w mean mg mb p ls l n us A σ g' L' nl D pl oD kvs pits fx s.os it oi i u m₇ news₇ ⟨h₇, g₇, d₇, tk₇, o₇⟩
      unfold lawEnv lawFor at H
      rw [e] at H
      exact H _ _ X T hA hS hn34 hi F₇ N₇ hne J hDf hoD hW hP hf9 hfT h91 fun s' x => x
end

structure PJ (σ : List Nat) (A : List Stp) (L' : Addr) (base : List (Addr × Obj)) (i : Nat) (zs : List Value) (tups nw : List (Addr × Obj)) : Prop where
  nw : nw = tups ++ base
  len : zs.length = i
  apart : ∀ p ∈ tups, p.1 ≠ 91 ∧ p.1 ≠ L' + 1 + 1
  at_ : ∀ j q, A[j]? = some q → j < i → ∃ T ta tb, zs[j]? = some (Value.ref T) ∧ (T, tupO (es σ q) (es σ (flp q)) ta tb) ∈ tups
section
local macro_rules | `(tactic| walk_at "eval IfExp") => `(tactic| apply StopFor.out)
local macro_rules | `(tactic| walk_at "call ref") => `(tactic| apply StopFor.out)
set_option maxHeartbeats 8000000 in
theorem law_spec (w : World) (mean : ExcName → Option Value) (mg mb : Str → Option Value) (p : Program) (ls : List PySem.Str) (l : Addr) (vs : List Value) (ns : List Int) (g' : Heap) (s : Shared) (Q E : Value → Shared → Prop)
    (X : (hd.heap_39 w.params).In g') (T : Top p ls mean mg mb g') (up : ∀ b o, g'.get? b = some o → s.heap.get? b = some o) (hz : g'.objs.size ≤ s.heap.objs.size) (h91 : s.heap.get? 91 = some (tabObj #[])) (h91' : g'.get? 91 = none)
    (hl : g'.IsList l vs.toArray) (hi : IntsAre vs ns) (hn : ns.length ≤ 63) (hg : AllBare s.gens)
    (hret : ∀ s' ps, (∀ b o, g'.get? b = some o → s'.heap.get? b = some o) → s'.heap.get? 91 = some (tabObj ps) → TabOk ps → s'.os = s.os → AllBare s'.gens → Q (.bool true) s') :
    wpC (model PySem.Challenge.rw_xp0004_01.row.prog w) callerA (call (.ref 167) [.ref l]) Q E s := by
  revert hret hg hn hi hl h91' h91 hz up T X
  w_top off
  k_fill
  intro X T up hz h91 h91' hl hi hn hg hret
  refine wpC_call ?_
  refine' codeC_cells (K := hd.heap_39 w.params) (news := [(91, tabObj #[])]) (binds := [(Str.ofString "script", .ref l)]) X up hz (T.nolimit.keeps up) ?kN ?k6 ?k7 ?k8 ?k9 ?kB ?kD ?_ ?c2 ?c3 ?c4
  case kN => exact fun p hp => by rw [List.mem_singleton.mp hp]; exact ⟨h91, h91'⟩
  case k6 => k_is
  case k7 => k_is
  case k8 => decide
  case k9 => exact BindsTo.of_eq rfl
  case kB => exact rfl
  case kD => decide +kernel
  case c2 => exact rfl
  case c3 => exact rfl
  case c4 => exact rfl
  intro L' h₁ tk₁ cells hL F₁ N₁ Y₁ l1
  have B' : Below callerA g' [] g' := below_caller g'
  k_cells Y₁
  rename_i oT oR₀ dT dR₀
  simp only [List.cons_append, List.nil_append] at N₁
  (try dsimp only)
  obtain ⟨n, hn34, hnv⟩ : ∃ n : Nat, (n = 3 ∨ n = 4) ∧ n = if ns.length < 8 then 3 else 4 := ⟨_, by split <;> simp, rfl⟩
  have hn3 : 3 ≤ n := by omega
  have hn4 : n ≤ 4 := by omega
  refine wpC_execs_cons (wpC_any ?_)
  k_steps
  refine StopFor.go (val_joinT (fun u => .int (n : Int) u) F₁ N₁ ?j1 ?j2)
  case j1 =>
    refine IfExp_ ?_
    k_steps
    · rename_i hlt
      rw [hnv, if_pos (by omega)]
      exact ⟨_, _, _, rfl, rfl, by assumption, by assumption, by show 1 ≤ _ + 1; omega⟩
    · rename_i hlt
      rw [hnv, if_neg (by omega)]
      exact ⟨_, _, _, rfl, rfl, by assumption, by assumption, by show 1 ≤ _ + 1; omega⟩
  case j2 =>
  clear F₁ N₁
  intro us h₂ tk₂ F₁ N₁ ht₂
  k_steps
  try dsimp only
  refine execsT (Nat.le_succ_of_le ht₂) ?_
  k_steps
  refine StopFor.go ?_
  refine' ring_spec w mean mg mb p ls [(L' + 1 + 1, _), (L' + 1, _), (91, tabObj #[])] l vs ns n us _ _ _ _ _ _ _ _ _ _ _ g' L' _ _ _ _ ?rb ?rf ?rx ?rn ?rt ?rs ?rl hi hn hn34 ?rd ?ru ?re
  case rb => exact B'
  case rf => k_asm
  case rx => k_asm
  case rn => k_asm
  case rt => k_asm
  case rs => exact rfl
  case rl => exact hl
  case rd => decide
  case ru => decide
  intro ds tkr h₃ tk₃ hds F₃ N₃
  obtain ⟨A, σ, hA, hσl, hσg, hr⟩ := ring_is hn34 hds
  rw [hr]
  k_whole
  k_steps
  rename_i h₄ oR F₄ N₄ dR ht₃
  simp only [List.cons_append, List.nil_append] at N₄
  have hS : Signs n σ := ⟨by omega, hσl, hσg⟩
  have hAl := hA.len
  have hring : (catS (A.map (nm σ))).length = 4 * n := by
    have := cat_length σ A
    show (catS (A.map (nm σ))).cps.toList.length = _
    omega
  try dsimp only
  refine execsT ht₃ ?_
  k_steps
  rename_i hR F₅ N₅ _
  have hnb : Builtin.Range.rangeSize 0 (4 * (n : Int)) 2 = ((2 * n : Nat) : Int) := rsize_up (k := 2 * n) (by decide) (by omega)
  refine src_range rfl F₅ N₅ hR (range_small (by decide) (by decide) (by omega) (by omega) (by decide) (by decide) hnb (by omega)) hnb (by omega) fun g => comp_fix (fun i ys => StrsAre ys ((A.map (nm σ)).take i)) .nil ?_ ?_
  rotate_left
  · rintro i v I oI C oC D m₂ h₆ tk₆ ys E' hi hys ⟨_, u, rfl⟩ hC hx F₆ N₆ off ne
    k_steps
    rename_i F₇ N₇ _
    obtain ⟨q, hq⟩ : ∃ q, A[i]? = some q := ⟨_, List.getElem?_eq_getElem (by omega)⟩
    rw [show (0 : Int) + (i : Int) * 2 + 2 = ((2 * i + 2 : Nat) : Int) by omega, show (0 : Int) + (i : Int) * 2 = ((2 * i : Nat) : Int) by omega, slice_name hq]
    refine ⟨_, _, _, rfl, F₇, N₇, off, trivial, rfl, ?_⟩
    rw [List.take_add_one, List.getElem?_map, hq]
    exact kct_snoc hys
  · intro ys hys
    unfold LCg.FinA
    intro nl h₆ tk₆ F₆ N₆ o6
    rw [List.take_of_length_le (by rw [List.length_map]; omega)] at hys
    k_steps
    rename_i ht₆
    try dsimp only
    refine execsT ht₆ ?_
    k_steps
    refine StopFor.go ?_
    have hnm : ∀ x ∈ A.map (nm σ), EscOk x := fun x hx => by
      obtain ⟨q, _, rfl⟩ := List.mem_map.mp hx
      exact escOk_of (by rw [nm_len]; decide)
    have hyl : ys.length = 2 * n := by rw [hys.length, List.length_map]; omega
    refine' wri_spec w mean mg mb p ls ((nl, LCg.lst ys) :: (L' + 1 + 1, oT) :: (L' + 1, oR) :: [(91, tabObj #[])]) nl ys.toArray (A.map (nm σ)) _ _ _ _ _ _ _ _ _ _ _ g' L' _ _ _ _ ?wb ?wf ?wx ?wn ?wt rfl ⟨_, _, .head _, rfl, rfl⟩ ?wz hys hnm ht₆ ?wd ?wu ?we
    case wb => exact B'
    case wf => k_asm
    case wx => k_asm
    case wn => k_asm
    case wt => k_asm
    case wz => rw [List.size_toArray]; omega
    case wd => decide
    case wu => decide
    intro D oD kvs h₇ tk₇ F₇ N₇ hoD hWk hDne
    k_whole
    k_steps
    rename_i ht₇
    try dsimp only
    refine execsT ht₇ ?_
    k_steps
    rename_i F₈ N₈
    refine src_list (its := ys.toArray) rfl F₈ N₈ (.inr ⟨_, .tail _ (.head _), rfl, _, rfl⟩) (by rw [List.size_toArray]; omega) fun g => comp_inv (fun i zs nw => ∃ tups, PJ σ A L' ((D, oD) :: (nl, LCg.lst ys) :: (L' + 1 + 1, oT) :: (L' + 1, oR) :: [(91, tabObj #[])]) i zs tups nw) ⟨[], rfl, rfl, (fun _ h => nomatch h), fun _ _ _ h => by omega⟩ ?_ ?_
    rotate_left
    · rintro i v I oI C oC D₂ m₂ h₉ tk₉ zs nw E' hi ⟨tups, rfl, hzl, hza, hz⟩ hv hC hx F₉ N₉ off ne
      have hi' : i < 2 * n := by rw [List.size_toArray] at hi; omega
      obtain ⟨q, hq⟩ : ∃ q, A[i]? = some q := ⟨_, List.getElem?_eq_getElem (by omega)⟩
      obtain ⟨y, ty, hy, rfl⟩ := strs_at hys (i := i) (v := v) (by simpa using hv)
      obtain rfl : nm σ q = y := by rw [List.getElem?_map, hq] at hy; exact Option.some.inj hy
      have hlq := nm_len σ q
      k_steps
      refine StopFor.go ?_
      refine' spl_spec w mean mg mb p ls ((I, oI) :: (C, oC) :: (D₂, LCg.lst zs) :: (tups ++ (D, oD) :: (nl, LCg.lst ys) :: (L' + 1 + 1, oT) :: (L' + 1, oR) :: [(91, tabObj #[])])) (nm σ q) _ _ _ _ _ _ _ _ _ _ _ _ g' L' _ _ _ _ ?cc1b ?cc1f ?cc1x ?cc1n ?cc1t ?cc1s ?cc1p ?cc1r ?cc1u ?cc1e
      case cc1b => exact B'
      case cc1f => k_asm
      case cc1x => k_asm
      case cc1n => first | k_asm | assumption
      case cc1t => k_asm
      case cc1s => exact rfl
      case cc1p => (rw [hlq]; decide)
      case cc1r => decide
      case cc1u => decide
      intro tk₁₀ h₁₀ tk₁₁ F₁₀ N₁₀
      rw [spelled_es]
      k_whole
      k_steps
      refine StopFor.go ?_
      rw [turned_name]
      refine' spl_spec w mean mg mb p ls ((I, oI) :: (C, oC) :: (D₂, LCg.lst zs) :: (tups ++ (D, oD) :: (nl, LCg.lst ys) :: (L' + 1 + 1, oT) :: (L' + 1, oR) :: [(91, tabObj #[])])) (nm σ (flp q)) _ _ _ _ _ _ _ _ _ _ _ _ g' L' _ _ _ _ ?cc2b ?cc2f ?cc2x ?cc2n ?cc2t ?cc2s ?cc2p ?cc2r ?cc2u ?cc2e
      case cc2b => exact B'
      case cc2f => k_asm
      case cc2x => k_asm
      case cc2n => first | k_asm | assumption
      case cc2t => k_asm
      case cc2s => exact rfl
      case cc2p => (rw [nm_len]; decide)
      case cc2r => decide
      case cc2u => decide
      intro tk₁₂ h₁₂ tk₁₃ F₁₂ N₁₂
      rw [spelled_es]
      k_whole
      k_steps
      rename_i T₁ h₁₄ F₁₄ N₁₄ lT₁
      refine ⟨h₁₄, _, (T₁, tupO (es σ q) (es σ (flp q)) tk₁₀ tk₁₂) :: (tups ++ (D, oD) :: (nl, LCg.lst ys) :: (L' + 1 + 1, oT) :: (L' + 1, oR) :: [(91, tabObj #[])]), rfl, F₁₄, news_sub N₁₄ mv31, ⟨⟨Nat.ne_of_gt lT₁.1, Nat.ne_of_gt lT₁.2.1, Nat.ne_of_gt lT₁.2.2.1⟩, off⟩,
        .inr ⟨_, .tail _ (List.mem_append_right _ (.tail _ (.head _))), rfl, _, rfl⟩, (T₁, tupO (es σ q) (es σ (flp q)) tk₁₀ tk₁₂) :: tups, rfl, by rw [List.length_append, hzl]; rfl, fun p hp => ?_, fun j r hr hj => ?_⟩
      · rcases List.mem_cons.mp hp with rfl | hp
        · exact ⟨Nat.ne_of_gt (lt_of_allLt lT₁.2.2.2 _ (List.mem_append_right _ (.tail _ (.tail _ (.tail _ (.tail _ (.head _))))))), Nat.ne_of_gt (lt_of_allLt lT₁.2.2.2 _ (List.mem_append_right _ (.tail _ (.tail _ (.head _)))))⟩
        · exact hza p hp
      rcases Nat.lt_or_ge j i with hji | hji
      · obtain ⟨T₂, ta, tb, g1, g2⟩ := hz j r hr hji
        exact ⟨T₂, ta, tb, by rw [List.getElem?_append_left (by omega)]; exact g1, .tail _ g2⟩
      · obtain rfl : j = i := by omega
        obtain rfl : q = r := by rw [hq] at hr; exact Option.some.inj hr
        exact ⟨T₁, _, _, by rw [List.getElem?_append_right (by omega), hzl, Nat.sub_self]; rfl, .head _⟩
    · rintro zs nw ⟨tups, rfl, hzl, hza, hz⟩
      rw [List.size_toArray, hyl] at hzl hz
      unfold LCg.FinA
      intro pl h₉ tk₉ F₉ N₉ o9
      k_steps
      rename_i ht₉
      try dsimp only
      have h91L : 91 < L' := hL ▸ Heap.lt_size h91
      obtain ⟨fx, hfx, hRc, hDf, hPf, hf9, hfT⟩ : ∃ fx, News g' L' h₉ ((L' + 1 + 1, oT) :: (91, tabObj #[]) :: fx) ∧ (L' + 1, oR) ∈ fx ∧ (D, oD) ∈ fx ∧ PairsAt pl zs.toArray (prs σ A) fx ∧ (∀ p ∈ fx, p.1 ≠ 91) ∧ ∀ p ∈ fx, p.1 ≠ L' + 1 + 1 := by
        refine ⟨(L' + 1, oR) :: (pl, LCg.lst zs) :: (tups ++ [(D, oD), (nl, LCg.lst ys)]), news_sub N₉ mvfx, .head _, .tail _ (.tail _ (List.mem_append_right _ (.head _))), ⟨⟨_, _, .tail _ (.head _), rfl, rfl⟩, by rw [List.size_toArray, hzl]; unfold prs; rw [List.length_map, hAl], fun j a b hab => ?_⟩, fun p hp => ?_, fun p hp => ?_⟩
        · obtain ⟨q, hq, e⟩ : ∃ q, A[j]? = some q ∧ (es σ q, es σ (flp q)) = (a, b) := by
            unfold prs at hab
            rw [List.getElem?_map] at hab
            cases hq : A[j]? with
            | none => rw [hq] at hab; cases hab
            | some q => rw [hq] at hab; exact ⟨q, rfl, Option.some.inj hab⟩
          cases e
          obtain ⟨T, ta, tb, g1, g2⟩ := hz j q hq (by have := (List.getElem?_eq_some_iff.mp hq).1; omega)
          exact ⟨T, ta, tb, by rw [List.getElem?_toArray]; exact g1, .tail _ (.tail _ (List.mem_append_left _ g2))⟩
        · rcases List.mem_cons.mp hp with rfl | hp
          · exact Nat.ne_of_gt (Nat.lt_succ_of_lt h91L)
          rcases List.mem_cons.mp hp with rfl | hp
          · exact Ne.symm (off1_ne o9 (91, tabObj #[]) (List.mem_append_right _ (.tail _ (.tail _ (.tail _ (.tail _ (.head _)))))))
          rcases List.mem_append.mp hp with hp | hp
          · exact (hza p hp).1
          rcases List.mem_cons.mp hp with rfl | hp
          · exact Ne.symm (hDne (91, tabObj #[]) (.tail _ (.tail _ (.tail _ (.head _)))))
          rw [List.mem_singleton.mp hp]
          exact Ne.symm (off1_ne o6 (91, tabObj #[]) (.tail _ (.tail _ (.head _))))
        · rcases List.mem_cons.mp hp with rfl | hp
          · exact Nat.ne_of_lt (Nat.lt_succ_self _)
          rcases List.mem_cons.mp hp with rfl | hp
          · exact Ne.symm (off1_ne o9 (L' + 1 + 1, oT) (List.mem_append_right _ (.tail _ (.tail _ (.head _)))))
          rcases List.mem_append.mp hp with hp | hp
          · exact (hza p hp).2
          rcases List.mem_cons.mp hp with rfl | hp
          · exact Ne.symm (hDne (L' + 1 + 1, oT) (.tail _ (.head _)))
          rw [List.mem_singleton.mp hp]
          exact Ne.symm (off1_ne o6 (L' + 1 + 1, oT) (.head _))
      have H := law_tail w mean mg mb p ls l n us A σ g' L' nl D pl oT oR oD tkr kvs zs.toArray fx none ⟨h₉, s.gens, s.drawn, tk₉, s.os⟩
      have e := law_at (P := w.params) (by k_is)
      unfold lawEnv at H
      rw [e] at H
      dsimp only [List.drop] at H
      refine H _ _ X T hA hS hn34 (fr_congr F₉ fun y => ?_) hfx dT dR hRc hDf hoD hWk hPf hf9 hfT h91L ht₉ hg fun s' ps k1 k2 k3 k4 k5 => hret s' ps k1 k2 k3 k4 k5
      unfold lwMap
      by_cases e1 : y = Str.ofString "pairs"
      · subst e1; rfl
      by_cases e2 : y = Str.ofString "written"
      · subst e2; rfl
      by_cases e3 : y = Str.ofString "names"
      · subst e3; rfl
      by_cases e4 : y = Str.ofString "size"
      · subst e4; rfl
      by_cases e5 : y = Str.ofString "script"
      · subst e5; rfl
      simp only [if_neg e1, if_neg e2, if_neg e3, if_neg e4, if_neg e5, ite_self]
      exact if_neg e5
end

theorem law_good {c : ClaimW} {cl : Str → Option Addr} {mean : ExcName → Option Value} {args : List WData} {s₁ s' : Shared} {ps : Array Value} (hT : TabsAt [(95, 91)] s₁.heap) (hn : ∀ cls, c.raises args cls = false) (hp : c.post args (.bool true) args = true)
    (hk : ∀ b o, (ghostOf s₁.heap [(95, 91)]).get? b = some o → s'.heap.get? b = some o) (hP : s'.heap.get? 91 = some (tabObj ps)) (hos : s'.os = s₁.os) (hg : AllBare s'.gens) : GoodWG c cl mean args s₁ (.ok (.ret (.bool true))) s' := by
  refine ⟨.inl ⟨_, .bool true, [], rfl, hn, .bool true, hp, fun _ => ⟨.nil, fun _ h => nomatch h⟩⟩, ⟨fun b o e => ?_, fun b o e => ?_⟩, hos, hg⟩
  · by_cases hb : b = 91
    · subst hb
      have e2 := (hT _ (.head _)).2
      rw [e2] at e
      obtain rfl := Option.some.inj e
      exact .inr (.inl ⟨((hT _ (.head _)).1.tab e2).isCodeTable, rfl, #[], ps, rfl, by rw [Array.empty_append]; exact hP⟩)
    · exact .inl (hk b o (ghost_ne e fun q => hb (by simpa using q)))
  · by_cases hb : b = 91
    · subst hb; exact ⟨_, hP⟩
    · exact ⟨o, hk b o (ghost_ne e fun q => hb (by simpa using q))⟩

end Mine
set_option maxHeartbeats 8000000 in
theorem PySem.Challenge.cw_xp0004_01_holds : PySem.Challenge.rw_xp0004_01.Holds := by
  refine Mine.hd ?_
  w_top off
  k_fill
  intro w s₀ s₁ mg mb G Y fa o pm cd doc dV kV ho hd hcd hD hmg hg args vals as hpre hlay hrd hwl hlo
  have KX := kIn_of Y.1
  have h91 := Y.2 91 (.head _)
  have hT : TabsAt [(95, 91)] s₁.heap := List.forall_mem_cons.mpr ⟨⟨codeHd_of_K (c := 95) (P := 91) KX (by kernel_rfl), h91⟩, fun _ h => nomatch h⟩
  refine Ground.open G ?_
  intro T B D TE TW
  have hfa := mg_of (n := Str.ofString "law") (v := .ref 167) KX T.g (by kernel_rfl)
  have e167 : fa = 167 := Value.ref.inj (Option.some.inj (hmg.symm.trans hfa))
  subst e167
  wrow_args hpre hlay hrd hwl hlo
  rename IntsAre _ _ => hI
  rename Heap.IsList _ _ _ => hL
  refine Mine.law_spec w _ mg mb _ _ _ _ _ (ghostOf s₁.heap [(95, 91)]) s₁ _ _ (ghost_K hT KX (by kernel_rfl)) (ghost_top hT T) (fun b o e => of_hideAll _ e) (Nat.le_of_eq (hideAll_size _ _)) h91 (hideAll_none _ (.head _)) (ghost_list hT hL) hI (by omega) (.of_eq hg) fun s' ps k1 k2 k3 k4 k5 => ?_
  exact Mine.law_good hT (fun _ => rfl) (by kernel_rfl) k1 k2 k4 k5
