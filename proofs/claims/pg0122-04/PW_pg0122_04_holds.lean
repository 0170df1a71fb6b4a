import PyProof.Rows.All
import Wide.All
import OpenK.AllK
import Wide.FinOn
import PySem.Challenge.RW_pg0122_04
section
open PySem PySem.W PySem.Calls PyProof.Rows
set_option Elab.async false
set_option maxRecDepth 100000
set_option linter.unusedVariables false
namespace Mine
open Sem (wp)

/-! ### the same logic, over stacks on which no decoder holds a buffer -/
noncomputable def holders : List String := Builtin.Bytes.decodersThatHold ++ ["bytearray.__contains__", "bytearray.__mod__", "bytearray.__rmod__", "_struct.pack_into.held", "bytearray.find.held"]
noncomputable def decoder : Code → Bool
  | .builtin id _ => holders.contains id
  | _ => false

structure OkC (Γ : Ctx) : Prop where
  code : decoder Γ.code = false
  below : ∀ x ∈ Γ.below, decoder x.1 = false
theorem OkC.enter {Γ : Ctx} (h : OkC Γ) {c : Code} (hc : decoder c = false) (hd : Option Value) (p : Pos) : OkC (Γ.enter c hd p) := ⟨hc, fun x hx => by
  rcases List.mem_cons.mp hx with rfl | hx
  · exact h.code
  · exact h.below x hx⟩
theorem OkC.goto {Γ : Ctx} (h : OkC Γ) {c : Code} (hc : decoder c = false) : OkC (Γ.goto c) := ⟨hc, h.below⟩

noncomputable def wpC {α : Type} (M : Model) (A : Around) (t : Sem α) (Q : α → Shared → Prop) (E : Value → Shared → Prop) (s : Shared) : Prop :=
  ∀ Γ p, Γ.In A → OkC Γ → wp M Γ t (fun a _ s' => Q a s') (fun e _ s' => E e s') p s
noncomputable def codeC (M : Model) (A : Around) (c : Code) (R : Result → Shared → Prop) (s : Shared) : Prop :=
  ∀ Γ p, Γ.code = c → Γ.Below A → OkC Γ → wpCode M Γ R p s

section
variable {α β : Type} {M : Model} {A : Around} {E : Value → Shared → Prop} {s : Shared} {env : Env}

theorem up {t : Sem α} {Q : α → Shared → Prop} (h : wpAny M A t Q E s) : wpC M A t Q E s := fun Γ p hΓ _ => h Γ p hΓ
theorem upCode {c : Code} {R : Result → Shared → Prop} (h : codeAny M A c R s) : codeC M A c R s := fun Γ p hc hΓ _ => h Γ p hc hΓ
theorem c_mono {t : Sem α} {Q Q' : α → Shared → Prop} {E' : Value → Shared → Prop} (h : wpC M A t Q E s) (hQ : ∀ a s, Q a s → Q' a s) (hE : ∀ e s, E e s → E' e s) : wpC M A t Q' E' s :=
  fun Γ p hΓ ok => Sem.wp_mono M Γ t (fun a _ s => hQ a s) (fun e _ s => hE e s) p s (h Γ p hΓ ok)
theorem c_pure {a : α} {Q : α → Shared → Prop} (h : Q a s) : wpC M A (pure a) Q E s := fun _ _ _ _ => h
theorem c_bind {m : Sem α} {f : α → Sem β} {Q : β → Shared → Prop} (h : wpC M A m (fun a s' => wpC M A (f a) Q E s') E s) : wpC M A (m >>= f) Q E s := fun Γ p hΓ ok => by
  rw [Sem.wp_bind']
  exact Sem.wp_mono M Γ m (fun a p' s' h' => h' Γ p' hΓ ok) (fun _ _ _ h' => h') p s (h Γ p hΓ ok)
theorem c_holding {vs : List Value} {m : Sem α} {Q : α → Shared → Prop} (h : wpC M A m Q E s) : wpC M A (holding vs m) Q E s :=
  fun Γ p hΓ ok => by rw [Sem.wp_holding]; exact h Γ p hΓ ok
theorem c_keep {vs : List Value} {m : Sem α} {Q : α → Shared → Prop} (h : wpC M A m Q E s) : wpC M A (m.keep vs) Q E s :=
  fun Γ p hΓ ok => by rw [Sem.wp_keep]; exact h Γ p hΓ ok
theorem c_operate {vs : List Value} {m : Sem Value} {Q : Value → Shared → Prop} (h : wpC M A m Q E s) : wpC M A (operate vs m) Q E s :=
  fun Γ p hΓ ok => by rw [Sem.wp_operate]; exact h Γ p hΓ ok
theorem c_bindName {x : Str} {v : Value} {Q : Unit → Shared → Prop} (h : wpC M A (storeName env x v) Q E s) : wpC M A (bindName env x v) Q E s :=
  fun Γ p hΓ ok => by rw [Sem.wp_bindName]; exact h Γ p hΓ ok
theorem c_onRaise {m : Sem α} {k : Value → Sem Unit} {Q : α → Shared → Prop} (h : wpC M A m Q (fun _ _ => False) s) : wpC M A (m.onRaise k) Q E s := fun Γ p hΓ ok => by
  rw [Sem.wp_onRaise]
  exact Sem.wp_mono M Γ m (fun _ _ _ h' => h') (fun e p' s' h' => h'.elim) p s (h Γ p hΓ ok)
theorem c_stand {pos : Pos} {Q : Unit → Shared → Prop} (h : Q () s) : wpC M A (standAt pos) Q E s := up (wpAny_standAt h)
/-! expressions -/
theorem c_BinOp {l r : Expr} {op : Operator} {pos : Pos} {Q : Value → Shared → Prop}
    (h : wpC M A (eval l env) (fun a s₁ => wpC M A (eval r env) (fun b s₂ => wpC M A (binaryOp op a b) Q E s₂) E s₁) E s) : wpC M A (eval (.BinOp l op r pos) env) Q E s := by
  rw [eval_BinOp]
  exact c_bind (c_mono h (fun a s₁ h₁ => c_bind (c_holding (c_mono h₁ (fun b s₂ h₂ => c_bind (c_stand (c_operate h₂))) fun _ _ x => x))) fun _ _ x => x)
theorem c_UnaryOp {op : UnaryOp} {x : Expr} {pos : Pos} {Q : Value → Shared → Prop} (h : wpC M A (eval x env) (fun v s₁ => wpC M A (unaryOp op v) Q E s₁) E s) : wpC M A (eval (.UnaryOp op x pos) env) Q E s := by
  rw [arm_eval_UnaryOp]
  exact c_bind (c_mono h (fun v s₁ h₁ => c_bind (c_stand (c_holding h₁))) fun _ _ x => x)
theorem c_Compare1 {l r : Expr} {op : CmpOp} {pos : Pos} {Q : Value → Shared → Prop}
    (h : wpC M A (eval l env) (fun a s₁ => wpC M A (eval r env) (fun b s₂ => wpC M A (compareOp op a b) Q E s₂) E s₁) E s)
    (hm : behindInMarks op r = false) : wpC M A (eval (.Compare l [op] [r] pos) env) Q E s := by
  rw [eval_Compare1, markedBehindIn_of_false hm]
  exact c_bind (c_mono h (fun a s₁ h₁ => c_bind (c_holding (c_mono h₁ (fun b s₂ h₂ => c_bind (c_stand (c_operate h₂))) fun _ _ x => x))) fun _ _ x => x)
theorem c_isTrue_Compare1 {l r : Expr} {op : CmpOp} {pos : Pos} {whole : Sem Value} {Q : Bool → Shared → Prop}
    (h : wpC M A (eval l env) (fun a s₁ => wpC M A (eval r env) (fun b s₂ => wpC M A (compareOp op a b) (fun c s₃ => wpC M A (truthy c) Q E s₃) E s₂) E s₁) E s)
    (hm : behindInMarks op r = false) : wpC M A (isTrue (.Compare l [op] [r] pos) env whole) Q E s := by
  rw [isTrue_Compare1, markedBehindIn_of_false hm]
  exact c_bind (c_mono h (fun a s₁ h₁ => c_bind (c_holding (c_mono h₁ (fun b s₂ h₂ => c_bind (c_stand (c_bind (c_operate (c_mono h₂ (fun c s₃ h₃ => c_holding h₃) fun _ _ x => x))))) fun _ _ x => x))) fun _ _ x => x)
theorem c_isTrue_plain {e : Expr} {whole : Sem Value} {Q : Bool → Shared → Prop} (h : wpC M A whole (fun v s₁ => wpC M A (truthy v) Q E s₁) E s)
    (he : isTrue e env whole = (do let v ← whole; standAt e.pos; holding [v] (truthy v))) : wpC M A (isTrue e env whole) Q E s := by
  rw [he]
  exact c_bind (c_mono h (fun v s₁ h₁ => c_bind (c_stand (c_holding h₁))) fun _ _ x => x)
theorem c_isTrue_or {x : Expr} {rest : List Expr} {pos : Pos} {whole : Sem Value} {Q : Bool → Shared → Prop}
    (h : wpC M A (isTrue x env (eval x env)) (fun c s' => if c then Q true s' else wpC M A (isTrue (.BoolOp .Or rest pos) env whole) Q E s') E s) : wpC M A (isTrue (.BoolOp .Or (x :: rest) pos) env whole) Q E s := by
  show wpC M A (do
    match BoolOp.Or, ← isTrue x env (eval x env) with
    | .And, false => pure false
    | .Or, true => pure true
    | _, _ => allTrue .Or rest env) Q E s
  refine c_bind (c_mono h (fun c s' h' => ?_) fun _ _ x => x)
  cases c with
  | false => exact h'
  | true => exact c_pure h'
theorem c_IfExp {test body orelse : Expr} {pos : Pos} {Q : Value → Shared → Prop}
    (h : wpC M A (isTrue test env (eval test env)) (fun b s₁ => if b then wpC M A (eval body env) Q E s₁ else wpC M A (eval orelse env) Q E s₁) E s) : wpC M A (eval (.IfExp test body orelse pos) env) Q E s := by
  rw [arm_eval_IfExp]
  refine c_bind (c_mono h (fun b s₁ h₁ => ?_) fun _ _ x => x)
  cases b <;> exact h₁
theorem c_args_cons {e : Expr} {rest : List Expr} {pos : Pos} {Q : List Value → Shared → Prop}
    (h : wpC M A (eval e env) (fun v s₁ => wpC M A (spliced (backTo pos (starEach rest env))) (fun vs s₂ => Q (v :: vs) s₂) E s₁) E s)
    (he : starEach (e :: rest) env = (false, eval e env) :: starEach rest env) : wpC M A (spliced (backTo pos (starEach (e :: rest) env))) Q E s := by
  rw [he]
  show wpC M A (spliced ((false, eval e env) :: backTo pos (starEach rest env))) Q E s
  rw [spliced]
  refine c_bind (c_mono h (fun v s₁ h₁ => ?_) fun _ _ x => x)
  simp only [Bool.false_eq_true, if_false]
  exact c_bind (c_pure (c_bind (c_holding (c_mono h₁ (fun vs s₂ h₂ => c_pure h₂) fun _ _ x => x))))
theorem c_evalArgs_plain {f : Value} {x : Sem Value} {rest : List (Bool × Sem Value)} {Q : Args → Shared → Prop}
    (h : wpC M A (spliced ((false, x) :: rest)) (fun vs s' => Q ⟨vs, []⟩ s') E s) : wpC M A (evalArgs f true ((false, x) :: rest) []) Q E s := by
  unfold evalArgs
  show wpC M A (spliced ((false, x) :: rest) >>= _) Q E s
  refine c_bind (c_mono h (fun vs s' h' => ?_) fun _ _ x => x)
  refine c_holding ?_
  exact c_bind (c_pure (c_bind (c_pure (c_pure h'))))
theorem c_callWith {P : Heap → Prop} {f : Value} {first : List Value} {pos : Pos} {args : List (Bool × Sem Value)} {keywords : List (Option Str × Sem Value)} {Q : Value → Shared → Prop} (hplain : (args.any (·.1) || keywords.any (·.1.isNone)) = false)
    (hk : ∀ h, P h → ∃ k, (k = Keeper.frame ∨ k = Keeper.machine ∨ k = Keeper.boundFrame) ∧ Looks M h (keeperOf f) k)
    (h : wpC M A (evalArgs f true args keywords) (fun a s₁ => P s₁.heap ∧ wpC M A (PySem.call f (first ++ a.pos) a.kw) Q E s₁) E s) : wpC M A (callWith pos f first args keywords) Q E s := by
  unfold callWith
  refine c_bind (c_holding (c_mono h (fun a s₁ h₁ => c_bind (c_stand ?_)) fun _ _ x => x))
  obtain ⟨k, hk', L⟩ := hk _ h₁.1
  simp only [hplain]
  refine c_bind (up (L.here ?_))
  have tail : ∀ {t : Sem Value}, wpC M A t Q E s₁ → wpC M A (t >>= fun r => holding [r] point >>= fun _ => pure r) Q E s₁ :=
    fun ht => c_bind (c_mono ht (fun r s₂ hr => c_bind (c_holding (up (wpAny_point (c_pure hr))))) fun _ _ x => x)
  have marked (mk : Value) : wpC M A (callMarked mk f (first ++ a.pos) a.kw) Q E s₁ := by unfold callMarked; exact c_keep h₁.2
  rcases hk' with rfl | rfl | rfl <;> dsimp only <;> first | exact tail h₁.2 | (split <;> first | exact tail h₁.2 | exact tail (marked _))
theorem c_Call {func : Expr} {args : List Expr} {pos : Pos} {Q : Value → Shared → Prop}
    (h : wpC M A (eval func env) (fun f s₁ => wpC M A (callWith pos f [] (backTo pos (starEach args env)) []) Q E s₁) E s)
    (he : eval (.Call func args [] pos) env = (do callWith pos (← eval func env) [] (backTo pos (starEach args env)) (backToKw pos (keywordEach [] env)))) :
    wpC M A (eval (.Call func args [] pos) env) Q E s := by
  rw [he]; exact c_bind h
theorem c_List {elts : List Expr} {pos : Pos} {Q : Value → Shared → Prop}
    (h : wpC M A (spliced (backTo pos (starEach elts env))) (fun vs s₁ => wpC M A (newList vs) Q E s₁) E s) : wpC M A (eval (.List elts pos) env) Q E s := by
  show wpC M A (do standAt pos; newList (← spliced (backTo pos (starEach elts env)))) Q E s
  exact c_bind (c_stand (c_bind h))
theorem c_Tuple {elts : List Expr} {k : Nat} {pos : Pos} {Q : Value → Shared → Prop}
    (h : wpC M A (spliced (backTo pos (starEach elts env))) (fun vs s₁ => wpC M A (newTuple vs) Q E s₁) E s) : wpC M A (eval (.Tuple elts k pos) env) Q E s := by
  show wpC M A (do standAt pos; newTuple (← spliced (backTo pos (starEach elts env)))) Q E s
  exact c_bind (c_stand (c_bind h))
theorem c_Subscript {value slice : Expr} {pos : Pos} {Q : Value → Shared → Prop}
    (h : wpC M A (eval value env) (fun o s₁ => wpC M A (eval slice env) (fun i s₂ => wpC M A (subscriptTail value slice o i) Q E s₂) E s₁) E s) : wpC M A (eval (.Subscript value slice pos) env) Q E s := by
  rw [eval_Subscript]
  exact c_bind (c_mono h (fun o s₁ h₁ => c_bind (c_holding (c_mono h₁ (fun i s₂ h₂ => c_bind (c_stand h₂)) fun _ _ x => x))) fun _ _ x => x)
theorem c_Slice {lower upper step : Option Expr} {p : Pos} {Q : Value → Shared → Prop}
    (h : wpC M A (evalPart lower env) (fun l s₁ => wpC M A (evalPart upper env) (fun u s₂ => wpC M A (evalPart step env) (fun st s₃ =>
      Q (.ref s₃.heap.objs.size) { s₃ with heap := s₃.heap.push { cls := .type "slice", data := .fields #[l, u, st] } }) E s₂) E s₁) E s) : wpC M A (eval (.Slice lower upper step p) env) Q E s := by
  rw [arm_eval_Slice]
  refine c_bind (c_mono h (fun l s₁ h₁ => c_bind (c_holding (c_mono h₁ (fun u s₂ h₂ => c_bind (c_holding (c_mono h₂ (fun st s₃ h₃ => ?_) fun _ _ x => x))) fun _ _ x => x))) fun _ _ x => x)
  exact up (wpAny_newObj_type h₃)

/-! statements -/
theorem c_execs_nil {Q : Flow → Shared → Prop} (h : Q .next s) : wpC M A (execs [] env) Q E s := fun _ _ _ _ => h
theorem c_execs_cons {st : Stmt} {rest : List Stmt} {Q : Flow → Shared → Prop}
    (h : wpC M A (exec st env) (fun f s' => match f with | .next => wpC M A (execs rest env) Q E s' | f => Q f s') E s) : wpC M A (execs (st :: rest) env) Q E s := by
  rw [execs_cons]
  refine c_bind (c_mono h (fun f s' h' => ?_) fun _ _ x => x)
  cases f <;> first | exact h' | exact c_pure h'
theorem c_Return_some {e : Expr} {pos : Pos} {Q : Flow → Shared → Prop} (h : wpC M A (eval e env) (fun v => Q (.ret v)) E s) : wpC M A (exec (.Return (some e) pos) env) Q E s := by
  rw [exec_Return_some]
  exact c_bind (c_stand (c_bind (c_mono h (fun v s' h' => c_pure h') fun _ _ x => x)))
theorem c_If {test : Expr} {body orelse : List Stmt} {pos : Pos} {Q : Flow → Shared → Prop}
    (h : wpC M A (isTrue test env (eval test env)) (fun b s₂ => if b then wpC M A (execs body env) Q E s₂ else wpC M A (execs orelse env) Q E s₂) E s) : wpC M A (exec (.If test body orelse pos) env) Q E s := by
  rw [exec_If]
  refine c_bind (c_stand (c_bind (c_mono h (fun b s₂ h₂ => ?_) fun _ _ x => x)))
  cases b <;> exact h₂
theorem c_Assign_Name {x : Str} {pos' : Pos} {value : Expr} {pos : Pos} {Q : Flow → Shared → Prop}
    (h : wpC M A (eval value env) (fun v s₁ => wpC M A (storeName env x v) (fun _ => Q .next) E s₁) E s)
    (hs : swapsWith value (some (.Name x pos')) pos.line env = pure false) : wpC M A (exec (.Assign [.Name x pos'] value pos) env) Q E s := by
  rw [exec_Assign_Name env x pos' value pos hs]
  exact c_bind (c_stand (c_bind (c_mono h (fun v s₁ h₁ => c_bind (c_stand (c_bind (c_bindName (c_mono h₁ (fun _ _ x => c_pure x) fun _ _ x => x))))) fun _ _ x => x)))
theorem c_AugAssign_Name {x : Str} {pos' : Pos} {op : Operator} {value : Expr} {pos : Pos} {Q : Flow → Shared → Prop}
    (h : wpC M A (loadName env x) (fun old s₁ => wpC M A (eval value env) (fun v s₂ => wpC M A (inplaceOp op old v)
      (fun r s₃ => wpC M A (storeName env x r) (fun _ => Q .next) E s₃) E s₂) E s₁) E s) : wpC M A (exec (.AugAssign (.Name x pos') op value pos) env) Q E s := by
  rw [exec_AugAssign_Name]
  exact c_bind (c_stand (c_bind (c_mono h (fun old s₁ h₁ => c_bind (c_holding (c_mono h₁ (fun v s₂ h₂ => c_bind (c_stand (c_bind (c_operate (c_mono h₂ (fun r s₃ h₃ =>
    c_bind (c_stand (c_bind (c_bindName (c_mono h₃ (fun _ _ x => c_pure x) fun _ _ x => x))))) fun _ _ x => x))))) fun _ _ x => x))) fun _ _ x => x)))
theorem c_assign_Name {x : Str} {pos : Pos} {v : Value} {Q : Unit → Shared → Prop} (h : wpC M A (storeName env x v) Q E s) : wpC M A (assign (.Name x pos) env v) Q E s := by
  rw [PySem.assign_Name]; exact c_bind (c_stand (c_bindName h))
theorem c_Assign_Tuple {elts : List Expr} {k : Nat} {tpos : Pos} {value : Expr} {pos : Pos} {Q : Flow → Shared → Prop}
    (h : wpC M A (eval value env) (fun v s₁ => wpC M A (assign (.Tuple elts k tpos) env v) (fun _ => Q .next) E s₁) E s)
    (hs : swapsWithSole [.Tuple elts k tpos] value pos.line env = pure false) (hw : swappedStores [.Tuple elts k tpos] value env = pure none) :
    wpC M A (exec (.Assign [.Tuple elts k tpos] value pos) env) Q E s := by
  rw [exec_Assign]
  refine c_bind (c_stand ?_)
  rw [hs]
  refine c_bind (c_pure ?_)
  rw [if_neg (by decide)]
  refine c_bind (c_mono h (fun v s₁ h₁ => ?_) fun _ _ x => x)
  rw [hw]
  refine c_bind (c_pure ?_)
  show wpC M A (do assignAll v [assign (.Tuple elts k tpos) env]; pure .next) Q E s₁
  exact c_bind (c_mono h₁ (fun _ _ x => c_pure x) fun _ _ x => x)
theorem c_Assign_Tuple_swapped {elts : List Expr} {k : Nat} {tpos : Pos} {value : Expr} {pos : Pos} {names : List Str} {Q : Flow → Shared → Prop}
    (h : wpC M A (eval value env) (fun v s₁ => wpC M A (unpackItems v names.length none) (fun items s₂ =>
      wpC M A (assignInOrder (names.reverse.map fun n => bindName env n) items.reverse) (fun _ => Q .next) E s₂) E s₁) E s)
    (hs : swapsWithSole [.Tuple elts k tpos] value pos.line env = pure false) (hw : swappedStores [.Tuple elts k tpos] value env = pure (some names)) :
    wpC M A (exec (.Assign [.Tuple elts k tpos] value pos) env) Q E s := by
  rw [exec_Assign]
  refine c_bind (c_stand ?_)
  rw [hs]
  refine c_bind (c_pure ?_)
  rw [if_neg (by decide)]
  refine c_bind (c_mono h (fun v s₁ h₁ => ?_) fun _ _ x => x)
  rw [hw]
  refine c_bind (c_pure ?_)
  show wpC M A (do rule "assign.swapped-stores"; let items ← unpackItems v names.length none; assignInOrder (names.reverse.map fun n => bindName env n) items.reverse; pure .next) Q E s₁
  exact c_bind (up (wpAny_rule (c_bind (c_mono h₁ (fun items s₂ h₂ => c_bind (c_mono h₂ (fun _ _ x => c_pure x) fun _ _ x => x)) fun _ _ x => x))))
theorem c_Expr {e : Expr} {pos : Pos} {Q : Flow → Shared → Prop} (h : wpC M A (eval e env) (fun v s' => match v with | .ref _ => False | _ => Q .next s') E s)
    (hi : interactive env = false) (hs : swapsWith e none pos.line env = pure false) : wpC M A (exec (.Expr e pos) env) Q E s := by
  rw [exec_Expr env e pos hi hs]
  refine c_bind (c_stand (c_bind (c_mono h (fun v s' h' => ?_) fun _ _ x => x)))
  have hv : ∀ a, v ≠ .ref a := fun a hva => by subst hva; exact h'
  rw [dropValue_plain hv]
  refine c_pure ?_
  cases v <;> first | exact h' | exact (hv _ rfl).elim

/-! codes -/
theorem codeC_of_tree {c : Code} {R : Result → Shared → Prop}
    (h : wpC M (A.under c) (M.den c) (fun fin s' => match fin with | .done f => R (.ok f) s' | .again c' => c'.quiet = true ∧ decoder c' = false ∧ codeC M A c' R s')
      (fun e s' => R (.error e) s') s) : codeC M A c R s := fun Γ p hc hΓ ok => by
  rw [wpCode_iff_wp, hc]
  refine Sem.wp_mono M Γ _ (fun fin p' s' h' => ?_) (fun _ _ _ h' => h') p s (h Γ p (hc ▸ hΓ.in) ok)
  cases fin with
  | done f => exact h'
  | again c' => exact ⟨h'.1, h'.2.2 (Γ.goto c') p' rfl (hΓ.goto c') (ok.goto h'.2.1)⟩
theorem c_run {c : Code} {Q : Flow → Shared → Prop} (hd : decoder c = false) (hc : codeC M A c (fun r s' => match r with | .ok f => Q f s' | .error e => E e s') s) : wpC M A (run c) Q E s :=
  fun Γ p hΓ ok => by
    rw [Sem.wp_run]
    exact hc _ p rfl (hΓ.enter c none p (by intro x; cases x)) (ok.enter hd none p)
theorem c_runOwn {c : Code} {Q : Flow → Shared → Prop} (hd : decoder c = false) (hc : codeC M A c (fun r s' => match r with | .ok f => Q f s' | .error e => False) s) : wpC M A (runOwn c env) Q E s := by
  unfold runOwn
  exact c_onRaise (c_run hd hc)
theorem c_call {f : Value} {pos : List Value} {kw : List (Str × Value)} {Q : Value → Shared → Prop}
    (hc : codeC M A (.call f ⟨pos, kw⟩) (fun r s' => match r with | .ok (.ret v) => Q v s' | .ok _ => False | .error e => E e s') s) : wpC M A (PySem.call f pos kw) Q E s := fun Γ p hΓ ok => by
  show wp M Γ (runValue (.call f ⟨pos, kw⟩)) _ _ p s
  rw [Sem.wp_runValue]
  exact hc _ p rfl (hΓ.enter _ none p (by intro x; cases x)) (ok.enter rfl none p)
theorem codeC_loop {c : Code} {R : Result → Shared → Prop} (hq : c.quiet = true) (hd : decoder c = false) (I : Nat → Shared → Prop)
    (turn : ∀ n s, I n s → wpC M (A.under c) (M.den c)
      (fun fin s' => match fin with | .done f => R (.ok f) s' | .again c' => (c' = c ∧ ∃ m, m < n ∧ I m s') ∨ (c'.quiet = true ∧ decoder c' = false ∧ codeC M A c' R s')) (fun e s' => R (.error e) s') s)
    (n : Nat) (h : I n s) : codeC M A c R s := by
  induction n using Nat.strongRecOn generalizing s with
  | ind n ih =>
    refine codeC_of_tree (c_mono (turn n s h) (fun fin s' hf => ?_) fun _ _ h' => h')
    cases fin with
    | done f => exact hf
    | again c' =>
      rcases hf with ⟨rfl, m, hm, hI⟩ | hf
      · exact ⟨hq, hd, ih m hm hI⟩
      · exact hf
end

section
variable {prog : Program} {w : World} {A : Around} {E : Value → Shared → Prop} {R : Result → Shared → Prop} {s : Shared} {env : Env}
theorem codeC_block {stmts : List Stmt} (h : wpC (model prog w) A (execs stmts env) (fun f s' => R (.ok f) s') (fun _ _ => False) s) : codeC (model prog w) A (.block stmts env) R s := by
  refine codeC_of_tree ?_
  show wpC _ A (do return Fin.done (← (execs stmts env).onRaise (fun x => do noteFrame x env; theTreesLotGoes x))) _ _ s
  exact c_bind (c_onRaise (c_mono h (fun f s' h' => c_pure h') fun _ _ x => x))
theorem codeC_for {target : Expr} {it : Value} {body orelse : List Stmt} (I : Nat → Shared → Prop)
    (turn : ∀ n s, I n s → wpC (model prog w) A (pyNext it) (fun r s₁ => match r with
      | none => wpC (model prog w) A (execs orelse env) (fun f s₃ => R (.ok f) s₃) (fun _ _ => False) s₁
      | some v => wpC (model prog w) A (letOwnedTupleGo target it v) (fun _ s₁' => wpC (model prog w) A (assign target env v) (fun _ s₂ => wpC (model prog w) A (execs body env) (fun f s₃ => match f with
          | .next | .cont => ∃ m, m < n ∧ I m s₃
          | .brk => R (.ok .next) s₃
          | .ret v => R (.ok (.ret v)) s₃) (fun _ _ => False) s₂) (fun _ _ => False) s₁') (fun _ _ => False) s₁) (fun _ _ => False) s)
    (n : Nat) (h : I n s) : codeC (model prog w) A (.forLoop target it body orelse env) R s := by
  refine codeC_loop rfl rfl I (fun n s hI => ?_) n h
  show wpC _ A ((forTurn target it body orelse env).onRaise (fun x => do noteFrame x env; theTreesLotGoes x)) _ _ s
  refine c_onRaise ?_
  simp only [forTurn]
  refine c_bind (c_stand (c_bind (c_onRaise (c_mono (turn n s hI) (fun r s₁ h₁ => ?_) fun _ _ h' => h'))))
  cases r with
  | none => exact c_pure (.inr ⟨rfl, rfl, codeC_block h₁⟩)
  | some v =>
    refine c_bind (c_mono h₁ (fun _ s₁' h₁' => c_bind (c_mono h₁' (fun _ s₂ h₂ => c_bind (c_mono h₂ (fun f s₃ h₃ => ?_) fun _ _ h' => h')) fun _ _ h' => h')) fun _ _ h' => h')
    cases f with
    | next => exact c_pure (.inl ⟨rfl, h₃⟩)
    | cont => exact c_pure (.inl ⟨rfl, h₃⟩)
    | brk => exact c_pure h₃
    | ret v => exact c_pure h₃
theorem c_For {target iter : Expr} {body orelse : List Stmt} {pos : Pos} {Q : Flow → Shared → Prop}
    (h : wpC (model prog w) A (eval iter env) (fun x s₁ => wpC (model prog w) A (pyIter x) (fun it s₂ =>
      codeC (model prog w) A (.forLoop target it body orelse env) (fun r s' => match r with | .ok f => Q f s' | .error e => False) s₂) E s₁) E s)
    (hs : ∀ x, foldedSetIterable iter env x = pure x) : wpC (model prog w) A (exec (.For target iter body orelse pos) env) Q E s := by
  rw [exec_For]
  exact c_bind (c_stand (c_bind (c_mono h (fun x s₁ h₁ => c_bind (up (wpAny_of_eq (hs x) (c_bind (c_stand (c_bind (c_holding
    (c_mono h₁ (fun it s₂ h₂ => c_runOwn rfl h₂) fun _ _ h' => h')))))))) fun _ _ h' => h')))
theorem codeC_func {body : List Stmt}
    (h : wpC (model prog w) (A.deeper env) (execs body env) (fun f s' => R (.ok (.ret (match f with | .ret v => v | _ => .none))) s') (fun _ _ => False) s) : codeC (model prog w) A (.func body env) R s := by
  refine codeC_of_tree ?_
  show wpC _ (A.deeper env) (do point; match ← (execs body env).onRaise (leaving env) with | .ret v => ret v | _ => ret .none) _ _ s
  refine c_bind (up (wpAny_point (c_bind (c_onRaise (c_mono h (fun f s' h' => ?_) fun _ _ h' => h')))))
  cases f <;> exact c_pure h'
theorem codeC_call_function {a : Addr} {args : Args} {o : Obj} {fd : FuncData} {body : List Stmt} (hroom : A.depth < recursionLimit)
    (ho : s.heap.get? a = some o) (hd' : o.data = .func fd) (hco : fd.scope.isCoroutine = false) (hgen : fd.scope.isGenerator = false) (hbody : fd.body = .stmts body) (hcd : s.heap.CodeRec fd.code fd.qualname)
    (h : wpC (model prog w) A.in1 (bindArgs fd args) (fun binds s₁ =>
      wpC (model prog w) A.in1 (newFunctionEnv fd.scope fd.globals fd.closure binds (fd.qualname ++ ".<locals>.") (some a) fd.code none fd.builtins)
        (fun env s₂ => s₂.heap.NoLimit ∧ codeC (model prog w) A (.func body env) R s₂) (fun e s' => R (.error e) s') s₁) (fun e s' => R (.error e) s') s) :
    codeC (model prog w) A (.call (.ref a) args) R s := by
  refine codeC_of_tree ?_
  show wpC _ A.in1 (callAny (.ref a) args) _ _ s
  simp only [callAny]
  refine c_bind (up (wpAny_load ho ?_))
  obtain ⟨c, oc, vs, tq, hc, hoc, hdc, hq⟩ := hcd
  simp only [hd', callFunction, hco, hgen, hbody, hc]
  rw [hc] at h
  refine c_bind (m := field (.ref c) 1) (up (wpAny_field hoc hdc hq (c_bind (c_pure ?_))))
  exact c_bind (c_mono h (fun binds s₁ h₁ => c_bind (c_mono h₁ (fun env s₂ h₂ => c_bind (up (wpAny_enterFrame h₂.1 hroom
    (c_pure (And.intro rfl (And.intro rfl h₂.2)))))) fun _ _ h' => h')) fun _ _ h' => h')
theorem codeC_call_cells {a : Addr} {o : Obj} {fd : FuncData} {body : List Stmt} {vals : List Value} {binds : List (Str × Value)}
    (hroom : A.depth < recursionLimit) (ho : s.heap.get? a = some o) (hdata : o.data = .func fd) (hlim : s.heap.NoLimit) (hcd : s.heap.CodeRec fd.code fd.qualname)
    (hbody : fd.body = .stmts body) (hbind : bindArgs fd ⟨vals, []⟩ = pure binds) (hclo : fd.closure = [])
    (hkind : ∀ x ∈ binds, fd.scope.names.lookup x.1 = some .local ∨ (fd.scope.names.lookup x.1 = some .cell ∧ ((cellsFrom (s.heap.objs.size + 1) fd.scope.names []).lookup x.1).isSome = true))
    (h : ∀ s₁, InCallC s (callEnvC fd s.heap.objs.size a).locals (bindL (callEnvC fd s.heap.objs.size a).kindOf binds fun _ => none) (callEnvC fd s.heap.objs.size a).cells
        (bindC (callEnvC fd s.heap.objs.size a).kindOf binds fun _ => none) s₁ →
      wpC (model prog w) (A.deeper (callEnvC fd s.heap.objs.size a)) (execs body (callEnvC fd s.heap.objs.size a)) (fun f s' => R (.ok (.ret (match f with | .ret v => v | _ => .none))) s') (fun _ _ => False) s₁)
    (hco : fd.scope.isCoroutine = false) (hgen : fd.scope.isGenerator = false) (hk : fd.scope.kind = .function) : codeC (model prog w) A (.call (.ref a) ⟨vals, []⟩) R s := by
  refine codeC_call_function hroom ho hdata hco hgen hbody hcd ?_
  rw [hbind, hclo]
  refine c_pure (up (wpAny_newFunctionEnv_cells hk hkind fun env he s' x => ?_))
  subst he
  exact ⟨hlim.keeps x.toInCall.keep, codeC_func (h s' x)⟩
end

section
variable {prog : Program} {w : World} {A : Around} {E : Value → Shared → Prop} {s : Shared} {env : Env}
theorem c_Call_method {o : Expr} {name : Str} {apos pos : Pos} {args : List Expr} {T id : String} {Q : Value → Shared → Prop}
    (hbase : attributeBase o name env (eval o env) = eval o env)
    (hfew : ((backTo pos (starEach args env)).all (fun x => !x.1) && (backToKw pos (keywordEach [] env)).all (fun x => x.1.isSome)
      && decide (args.length + ([] : List Keyword).length + (if ([] : List Keyword).isEmpty then 0 else 1) < 30)) = true)
    (hline : (apos.endLine == pos.line) = true)
    (pa : PlainAttrs T) (slot : Slot T name id) (hty : typeOf (.builtin id) = pure (.type "method_descriptor"))
    (h : wpC (model prog w) A (eval o env) (fun ov s₁ => s₁.TypeIs ov T ∧ (∀ a, ov = .ref a → ∃ ob, s₁.heap.get? a = some ob ∧ ob.dict = none) ∧
      wpC (model prog w) A (callWith pos (.builtin id) [ov] (backTo pos (starEach args env)) []) Q E s₁) E s) :
    wpC (model prog w) A (eval (.Call (.Attribute o name apos) args [] pos) env) Q E s := by
  rw [arm_eval_Call, hbase]
  refine c_bind (c_mono h (fun ov s₁ h₁ => ?_) fun _ _ e => e)
  obtain ⟨hT, hd, hc⟩ := h₁
  refine c_bind (c_stand ?_)
  have hform : methodCallForm (args.length + ([] : List Keyword).length) (backTo pos (starEach args env)) (backToKw pos (keywordEach [] env)) = true := hfew
  have hpos : methodCallPos true o env apos pos = pure pos := by unfold methodCallPos; simp [hline]
  unfold methodCall
  rw [hform]
  refine c_bind (c_holding (up (getMethod_builtin hT pa slot hty hd ?_)))
  exact c_bind (up (wpAny_of_eq hpos hc))
end
end Mine
end
section
open PySem PySem.W PyProof.Rows
set_option Elab.async false
set_option maxRecDepth 100000
namespace Mine

/-! ### plain values and how a heap bears them -/
inductive V where
  | none
  | bool (b : Bool)
  | int (i : Int)
  | bytes (b : Array UInt8)
  | list (xs : List V)
  | tuple (xs : List V)

mutual
inductive Rel (P : Addr → Prop) (h : Heap) : V → Value → Prop
  | none : Rel P h .none .none
  | bool (b : Bool) : Rel P h (.bool b) (.bool b)
  | int (i : Int) (t : Tok) : Rel P h (.int i) (.int i t)
  | bytes (b : Array UInt8) (t : Tok) : Rel P h (.bytes b) (.bytes b t)
  | list {a : Addr} {xs : List V} {vs : List Value} : P a → h.IsList a vs.toArray → RelL P h xs vs → Rel P h (.list xs) (.ref a)
  | tuple {a : Addr} {xs : List V} {vs : List Value} : P a → h.IsTuple a vs.toArray → RelL P h xs vs → Rel P h (.tuple xs) (.ref a)
inductive RelL (P : Addr → Prop) (h : Heap) : List V → List Value → Prop
  | nil : RelL P h [] []
  | cons {v : V} {c : Value} {xs : List V} {vs : List Value} : Rel P h v c → RelL P h xs vs → RelL P h (v :: xs) (c :: vs)
end

/-- an object that the interpreter lays for values: a list or a tuple -/
noncomputable def SeqObj (o : Obj) : Prop := ∃ items n, o.data = .seq items n

theorem isList_seq {h : Heap} {a : Addr} {items : Array Value} (x : h.IsList a items) : ∃ o, h.get? a = some o ∧ SeqObj o :=
  let ⟨o, e, _, n, d⟩ := x; ⟨o, e, items, n, d⟩
theorem Rel.mono {P P' : Addr → Prop} {h h' : Heap} (k : ∀ a o, P a → SeqObj o → h.get? a = some o → h'.get? a = some o ∧ P' a) {v : V} {c : Value} (r : Rel P h v c) : Rel P' h' v c := by
  refine Rel.rec (motive_1 := fun v c _ => Rel P' h' v c) (motive_2 := fun vs cs _ => RelL P' h' vs cs) .none (fun b => .bool b) (fun i t => .int i t) (fun b t => .bytes b t) ?_ ?_ .nil (fun _ _ a b => .cons a b) r
  · rintro a xs vs hP ⟨o, e, c, n, d⟩ _ ih
    have := k a o hP ⟨_, _, d⟩ e
    exact .list this.2 ⟨o, this.1, c, n, d⟩ ih
  · rintro a xs vs hP ⟨o, e, c, n, d⟩ _ ih
    have := k a o hP ⟨_, _, d⟩ e
    exact .tuple this.2 ⟨o, this.1, c, n, d⟩ ih
theorem RelL.mono {P P' : Addr → Prop} {h h' : Heap} (k : ∀ a o, P a → SeqObj o → h.get? a = some o → h'.get? a = some o ∧ P' a) : ∀ {vs : List V} {cs : List Value}, RelL P h vs cs → RelL P' h' vs cs
  | _, _, .nil => .nil
  | _, _, .cons a b => .cons (a.mono k) (b.mono k)
theorem RelL.length {P : Addr → Prop} {h : Heap} : ∀ {vs : List V} {cs : List Value}, RelL P h vs cs → cs.length = vs.length
  | _, _, .nil => rfl
  | _, _, .cons _ b => by simp [b.length]
theorem RelL.get {P : Addr → Prop} {h : Heap} : ∀ {vs : List V} {cs : List Value}, RelL P h vs cs → ∀ {i : Nat} {v : V}, vs[i]? = some v → ∃ c, cs[i]? = some c ∧ Rel P h v c
  | _, _, .nil, i, v, e => by simp at e
  | _, _, .cons a b, 0, v, e => by simp at e; subst e; exact ⟨_, rfl, a⟩
  | _, _, .cons a b, i + 1, v, e => by
    obtain ⟨c, e', r⟩ := b.get (i := i) (v := v) (by simpa using e)
    exact ⟨c, by simpa using e', r⟩
theorem RelL.append {P : Addr → Prop} {h : Heap} : ∀ {vs ws : List V} {cs ds : List Value}, RelL P h vs cs → RelL P h ws ds → RelL P h (vs ++ ws) (cs ++ ds)
  | _, _, _, _, .nil, r => r
  | _, _, _, _, .cons a b, r => .cons a (b.append r)
theorem RelL.reverse {P : Addr → Prop} {h : Heap} : ∀ {vs : List V} {cs : List Value}, RelL P h vs cs → RelL P h vs.reverse cs.reverse
  | _, _, .nil => .nil
  | _, _, .cons a b => by simp only [List.reverse_cons]; exact b.reverse.append (.cons a .nil)

theorem RelL.one {P : Addr → Prop} {h : Heap} {v : V} {cs : List Value} (r : RelL P h [v] cs) : ∃ c, cs = [c] ∧ Rel P h v c := by
  cases r with
  | cons a b => cases b; exact ⟨_, rfl, a⟩
theorem RelL.two {P : Addr → Prop} {h : Heap} {v w : V} {cs : List Value} (r : RelL P h [v, w] cs) : ∃ c d, cs = [c, d] ∧ Rel P h v c ∧ Rel P h w d := by
  cases r with
  | cons a b => obtain ⟨c, rfl, q⟩ := b.one; exact ⟨_, _, rfl, a, q⟩
theorem RelL.three {P : Addr → Prop} {h : Heap} {v w x : V} {cs : List Value} (r : RelL P h [v, w, x] cs) : ∃ c d e, cs = [c, d, e] ∧ Rel P h v c ∧ Rel P h w d ∧ Rel P h x e := by
  cases r with
  | cons a b => obtain ⟨c, d, rfl, q, q'⟩ := b.two; exact ⟨_, _, _, rfl, a, q, q'⟩
theorem Rel.intAt {P : Addr → Prop} {h : Heap} {i : Int} {c : Value} (r : Rel P h (.int i) c) : ∃ t, c = .int i t := by cases r; exact ⟨_, rfl⟩
theorem Rel.bytesAt {P : Addr → Prop} {h : Heap} {b : Array UInt8} {c : Value} (r : Rel P h (.bytes b) c) : ∃ t, c = .bytes b t := by cases r; exact ⟨_, rfl⟩
theorem Rel.listAt {P : Addr → Prop} {h : Heap} {xs : List V} {c : Value} (r : Rel P h (.list xs) c) : ∃ a vs, c = .ref a ∧ P a ∧ h.IsList a vs.toArray ∧ RelL P h xs vs := by
  cases r with
  | list hP hl hr => exact ⟨_, _, rfl, hP, hl, hr⟩

/-- a row of ints as values -/
abbrev vi (ns : List Int) : List V := ns.map V.int
theorem relL_ints {P : Addr → Prop} {h : Heap} {cs : List Value} {ns : List Int} (x : IntsAre cs ns) : RelL P h (vi ns) cs := by
  induction x with
  | nil => exact .nil
  | cons n t _ ih => exact .cons (.int _ _) ih
theorem ints_relL {P : Addr → Prop} {h : Heap} : ∀ {ns : List Int} {cs : List Value}, RelL P h (vi ns) cs → IntsAre cs ns := by
  intro ns
  induction ns with
  | nil => intro cs r; cases r; exact .nil
  | cons n ns ih => intro cs r; cases r with
    | cons a b => obtain ⟨t, rfl⟩ := a.intAt; exact .cons _ _ (ih b)

/-! ### what is known of the world -/
structure Tab where
  c : Addr
  P : Addr
  line : Int
  col : Int
  qual : Str

structure Gb where
  prog : Program
  w : World
  B : Heap
  mg : Str → Option Value
  mb : Str → Option Value
  tabs : List Tab
  gens : Array GenState
  os : OsState

abbrev Gb.M (G : Gb) : Model := model G.prog G.w

/-- a code table: empty, or with the code of the one def that is made there -/
noncomputable def TabOk (t : Tab) (h : Heap) : Prop :=
  h.get? t.P = some (tabObj #[]) ∨ ∃ c', h.get? t.P = some (tabObj #[rawInt t.line, rawInt t.col, .ref c']) ∧ h.CodeRec (.ref c') t.qual

structure GbOk (G : Gb) : Prop where
  g : G.B.Ns mainGlobals G.mg
  b : G.B.Ns builtinsNs G.mb
  builtins : ∀ x : Str, x ≠ "__name__" → G.mb x = bootBuiltins x
  nolimit : G.B.NoLimit
  bmain : ∃ bm ob, G.mg "__builtins__" = some (.ref bm) ∧ bm ≠ builtinsNs ∧ G.B.get? bm = some ob ∧ ob.cls = .type "module" ∧ ob.dict = some builtinsNs ∧ ob.data = .plain
  codes : ∀ t ∈ G.tabs, CodeHd G.B t.c t.P
  hid : ∀ t ∈ G.tabs, G.B.get? t.P = none
  tabsNe : G.tabs.Pairwise fun x y => x.P ≠ y.P

noncomputable def Gb.isTab (G : Gb) (a : Addr) : Prop := ∃ t ∈ G.tabs, t.P = a

/-- the world's state, whatever frame runs -/
structure Gst (G : Gb) (s : Shared) : Prop where
  base : ∀ b o, G.B.get? b = some o → s.heap.get? b = some o
  tabs : ∀ t ∈ G.tabs, TabOk t s.heap
  gens : s.gens = G.gens
  os : s.os = G.os

/-- an object that is no code table and no code -/
noncomputable def Tame (o : Obj) : Prop := ∀ vs, o.data = .fields vs → o.cls ≠ .none ∧ ∀ q t, vs[1]? ≠ some (.str q t)

theorem TabOk.keeps {t : Tab} {h h' : Heap} (x : TabOk t h) (k : ∀ b o, ¬ Tame o → h.get? b = some o → h'.get? b = some o) : TabOk t h' := by
  rcases x with e | ⟨c', e, c, o, vs, tk, e1, e2, e3, e4⟩
  · exact .inl (k _ _ (fun q => (q _ rfl).1 rfl) e)
  · exact .inr ⟨c', k _ _ (fun q => (q _ rfl).1 rfl) e, c, o, vs, tk, e1, k _ _ (fun q => (q vs e3).2 _ _ e4) e2, e3, e4⟩

theorem tabOk_at {t : Tab} {h : Heap} (x : TabOk t h) : ∃ ps, h.get? t.P = some (tabObj ps) := by
  rcases x with e | ⟨_, e, _⟩ <;> exact ⟨_, e⟩

theorem SeqObj.tame {o : Obj} (x : SeqObj o) : Tame o :=
  fun vs e => by obtain ⟨i, n, d⟩ := x; rw [d] at e; cases e

/-- where a name's value lies -/
noncomputable def VarAt (env : Env) (h : Heap) (x : Str) (c : Value) : Prop :=
  (env.kindOf x = some .local ∧ ∃ m, h.Ns env.locals m ∧ m x = some c) ∨
  ((env.kindOf x = some .cell ∨ (env.kindOf x = some .free ∧ (x == ("__classdict__" : Str)) = false)) ∧ ∃ a, env.cells.lookup x = some a ∧ h.IsCell a (some c))

inductive Slot where
  | val (v : V)
  | own (a : Addr) (xs : List Int)
  | ba (a : Addr) (b : Array UInt8)
  | fn (f : Addr) (fd : FuncData)

abbrev Rho := List (Str × Slot)

noncomputable def Slot.addr? : Slot → Option Addr
  | .val _ => none
  | .own a _ => some a
  | .ba a _ => some a
  | .fn _ _ => none

noncomputable def Owned (ρ : Rho) (a : Addr) : Prop := ∃ p ∈ ρ, p.2.addr? = some a

structure Fm where
  env : Env
  wc : List Addr

noncomputable def IsBA (h : Heap) (a : Addr) (b : Array UInt8) : Prop := ∃ o, h.get? a = some o ∧ o.cls = .type "bytearray" ∧ o.data = .bytearray b 0

/-- a def that was made in a body -/
noncomputable def FnOk (h : Heap) (f : Addr) (fd : FuncData) : Prop := (∃ o, h.get? f = some o ∧ o.data = .func fd) ∧ h.CodeRec fd.code fd.qualname
/-- an object that nothing here writes -/
noncomputable def Firm (o : Obj) : Prop := (∃ fd, o.data = .func fd) ∨ ∃ vs q t, o.data = .fields vs ∧ vs[1]? = some (.str q t)
theorem FnOk.keeps {h h' : Heap} {f : Addr} {fd : FuncData} (x : FnOk h f fd) (k : ∀ b o, Firm o → h.get? b = some o → h'.get? b = some o) : FnOk h' f fd := by
  obtain ⟨⟨o, e, d⟩, c, oc, vs, t, e1, e2, e3, e4⟩ := x
  exact ⟨⟨o, k _ _ (.inl ⟨_, d⟩) e, d⟩, c, oc, vs, t, e1, k _ _ (.inr ⟨_, _, _, e3, e4⟩) e2, e3, e4⟩
theorem Firm.notTab {t : Tab} {h : Heap} {o : Obj} (x : TabOk t h) (e : h.get? t.P = some o) (f : Firm o) : False := by
  rcases x with e' | ⟨c', e', _⟩
  · rw [e] at e'; cases e'
    rcases f with ⟨fd, d⟩ | ⟨vs, q, u, d, hv⟩
    · cases d
    · cases d; simp at hv
  · rw [e] at e'; cases e'
    rcases f with ⟨fd, d⟩ | ⟨vs, q, u, d, hv⟩
    · cases d
    · cases d; simp [rawInt] at hv

noncomputable def SlotOk (P : Addr → Prop) (h : Heap) : Slot → Value → Prop
  | .val v, c => Rel P h v c
  | .own a xs, c => c = .ref a ∧ ∃ vs : List Value, h.PlainList a vs.toArray ∧ IntsAre vs xs
  | .ba a b, c => c = .ref a ∧ IsBA h a b
  | .fn f fd, c => c = .ref f ∧ FnOk h f fd

/-- the frame's state: D what must stay as it is, P where values may lie -/
structure St (G : Gb) (D : Addr → Obj → Prop) (P : Addr → Prop) (fm : Fm) (ρ : Rho) (s : Shared) : Prop where
  gst : Gst G s
  kind : fm.env.scope.kind = .function
  glob : fm.env.globals = mainGlobals
  blt : fm.env.builtins = builtinsNs
  baseD : ∀ b o, G.B.get? b = some o → D b o
  keep : ∀ b o, D b o → s.heap.get? b = some o
  tabD : ∀ b o, D b o → ¬ G.isTab b
  locD : ∀ o, ¬ D fm.env.locals o
  wcD : ∀ a ∈ fm.wc, ∀ o, ¬ D a o
  ownD : ∀ a, Owned ρ a → ∀ o, ¬ D a o
  loc : ∃ m, s.heap.Ns fm.env.locals m
  wcs : ∀ a ∈ fm.wc, ∃ v, s.heap.IsCell a v
  apart : fm.env.cells.Pairwise fun x y => x.2 ≠ y.2
  vars : ∀ p ∈ ρ, ∃ c, VarAt fm.env s.heap p.1 c ∧ SlotOk (fun a => P a ∧ ¬ Owned ρ a) s.heap p.2 c
  ownP : ∀ a, Owned ρ a → P a
  ownNe : ∀ p ∈ ρ, ∀ q ∈ ρ, ∀ a, p.2.addr? = some a → q.2.addr? = some a → p.1 = q.1
  top : ∀ a, s.heap.get? a = none → P a

structure AOk (n : Nat) (A : Around) : Prop where
  handled : A.handled = none
  depth : A.depth + n < recursionLimit
  units : A.units + 8 * n + 200 < cLine

theorem AOk.mono {n m : Nat} {A : Around} (x : AOk n A) (h : m ≤ n) : AOk m A := ⟨x.handled, by have := x.depth; lia, by have := x.units; lia⟩
theorem AOk.in1 {n : Nat} {A : Around} (x : AOk (n + 1) A) : AOk n A.in1 := ⟨x.handled, by have := x.depth; show A.depth + n < _; lia, by have := x.units; show A.units + 1 + 8 * n + 200 < _; lia⟩
theorem AOk.deeper {n : Nat} {A : Around} {env : Env} (x : AOk (n + 1) A) : AOk n (A.deeper env) := ⟨x.handled, by have := x.depth; show A.depth + 1 + n < _; lia, by have := x.units; simp only [Around.deeper_units]; lia⟩
theorem AOk.room {n : Nat} {A : Around} (x : AOk n A) : A.depth < recursionLimit := by have := x.depth; lia

end Mine
end
section
open PySem PySem.W PyProof.Rows
set_option Elab.async false
set_option maxRecDepth 100000
namespace Mine

noncomputable def VarObj (o : Obj) : Prop := (∃ es n, o.data = .dict es n) ∨ ∃ v, o.data = .cell v

theorem VarAt.keeps {env : Env} {h h' : Heap} {x : Str} {c : Value} (y : VarAt env h x c) (k : ∀ b o, VarObj o → h.get? b = some o → h'.get? b = some o) : VarAt env h' x c := by
  rcases y with ⟨e, m, ⟨o, es, ep, ho, hd, r⟩, hm⟩ | ⟨e, a, hl, o, ho, hd⟩
  · exact .inl ⟨e, m, ⟨o, es, ep, k _ _ (.inl ⟨es, ep, hd⟩) ho, hd, r⟩, hm⟩
  · exact .inr ⟨e, a, hl, o, k _ _ (.inr ⟨_, hd⟩) ho, hd⟩

theorem none_back {h h' : Heap} (k : ∀ b o, h.get? b = some o → h'.get? b = some o) {a : Addr} (e : h'.get? a = none) : h.get? a = none := by
  cases q : h.get? a with
  | none => rfl
  | some o => rw [k a o q] at e; cases e

theorem ns_uniq {h : Heap} {a : Addr} {m m' : Str → Option Value} (x : h.Ns a m) (y : h.Ns a m') : m = m' := by
  obtain ⟨o, es, ep, e, d, _, f⟩ := x
  obtain ⟨o', es', ep', e', d', _, f'⟩ := y
  rw [e] at e'; cases e'
  rw [d] at d'; cases d'
  funext n; rw [← f, f']

theorem Gst.keeps {G : Gb} {s : Shared} {h' : Heap} {tk : Nat} (x : Gst G s) (k1 : ∀ b o, G.B.get? b = some o → s.heap.get? b = some o → h'.get? b = some o) (k2 : ∀ b o, ¬ Tame o → s.heap.get? b = some o → h'.get? b = some o) :
    Gst G { s with heap := h', toks := tk } :=
  ⟨fun b o e => k1 b o e (x.base b o e), fun t ht => (x.tabs t ht).keeps k2, x.gens, x.os⟩

theorem SlotOk.mono {P P' : Addr → Prop} {h h' : Heap} {sl : Slot} {c : Value} (x : SlotOk P h sl c) (k : ∀ a o, P a → SeqObj o → h.get? a = some o → h'.get? a = some o ∧ P' a)
    (k2 : ∀ a, sl.addr? = some a → ∀ o, h.get? a = some o → h'.get? a = some o) (k3 : ∀ a o, Firm o → h.get? a = some o → h'.get? a = some o) : SlotOk P' h' sl c := by
  cases sl with
  | val v => exact Rel.mono k x
  | own a xs => obtain ⟨e, vs, ⟨n, ho⟩, hi⟩ := x; exact ⟨e, vs, ⟨n, k2 a rfl _ ho⟩, hi⟩
  | ba a b => obtain ⟨e, o, ho, r⟩ := x; exact ⟨e, o, k2 a rfl o ho, r⟩
  | fn f fd => exact ⟨x.1, x.2.keeps k3⟩

section
variable {G : Gb} {D D' : Addr → Obj → Prop} {P P' : Addr → Prop} {fm : Fm} {ρ ρ' : Rho} {s : Shared} {h' : Heap} {tk : Nat}

/-- the heap grows; what is there stays -/
theorem St.grow (S : St G D P fm ρ s) (k : ∀ b o, s.heap.get? b = some o → h'.get? b = some o) : St G D P fm ρ { s with heap := h', toks := tk } where
  gst := S.gst.keeps (fun b o _ e => k b o e) (fun b o _ e => k b o e)
  kind := S.kind
  glob := S.glob
  blt := S.blt
  baseD := S.baseD
  keep := fun b o e => k b o (S.keep b o e)
  tabD := S.tabD
  locD := S.locD
  wcD := S.wcD
  ownD := S.ownD
  loc := let ⟨m, x⟩ := S.loc; ⟨m, x.keeps k⟩
  wcs := fun a ha => let ⟨v, x⟩ := S.wcs a ha; ⟨v, x.keeps k⟩
  apart := S.apart
  vars := fun p hp => let ⟨c, x, y⟩ := S.vars p hp; ⟨c, x.keeps (fun b o _ e => k b o e), y.mono (fun a o hP _ e => ⟨k a o e, hP⟩) (fun a _ o e => k a o e) (fun a o _ e => k a o e)⟩
  ownP := S.ownP
  ownNe := S.ownNe
  top := fun a ha => S.top a (none_back k ha)
theorem St.tok (S : St G D P fm ρ s) : St G D P fm ρ { s with toks := tk } := S.grow (fun _ _ e => e)
theorem St.push (S : St G D P fm ρ s) (o : Obj) : St G D P fm ρ { s with heap := s.heap.push o, toks := tk } := S.grow (fun _ _ e => Heap.get?_push_of_some o e)

theorem St.lessD (S : St G D P fm ρ s) (h1 : ∀ b o, D' b o → D b o) (h2 : ∀ b o, G.B.get? b = some o → D' b o) : St G D' P fm ρ s :=
  { S with baseD := h2, keep := fun b o e => S.keep b o (h1 b o e), tabD := fun b o e => S.tabD b o (h1 b o e), locD := fun o e => S.locD o (h1 _ o e), wcD := fun a ha o e => S.wcD a ha o (h1 _ o e), ownD := fun a ha o e => S.ownD a ha o (h1 _ o e) }

theorem owned_sub (h : ∀ p ∈ ρ', p ∈ ρ) {a : Addr} (x : Owned ρ' a) : Owned ρ a := let ⟨p, hp, e⟩ := x; ⟨p, h p hp, e⟩

theorem St.sub (S : St G D P fm ρ s) (h : ∀ p ∈ ρ', p ∈ ρ) : St G D P fm ρ' s :=
  { S with
    ownD := fun a ha => S.ownD a (owned_sub h ha)
    ownP := fun a ha => S.ownP a (owned_sub h ha)
    vars := fun p hp => let ⟨c, x, y⟩ := S.vars p (h p hp); ⟨c, x, y.mono (fun a o hP _ e => ⟨e, hP.1, fun q => hP.2 (owned_sub h q)⟩) (fun a _ o e => e) (fun a o _ e => e)⟩
    ownNe := fun p hp q hq => S.ownNe p (h p hp) q (h q hq) }

/-- everything that the frame may not write -/
noncomputable def Now (G : Gb) (fm : Fm) (ρ : Rho) (D : Addr → Obj → Prop) (h : Heap) (b : Addr) (o : Obj) : Prop :=
  D b o ∨ (h.get? b = some o ∧ b ≠ fm.env.locals ∧ b ∉ fm.wc ∧ ¬ Owned ρ b ∧ ¬ G.isTab b)
theorem St.now (S : St G D P fm ρ s) : St G (Now G fm ρ D s.heap) P fm ρ s :=
  { S with
    baseD := fun b o e => .inl (S.baseD b o e)
    keep := fun b o e => e.elim (S.keep b o) fun q => q.1
    tabD := fun b o e => e.elim (S.tabD b o) fun q => q.2.2.2.2
    locD := fun o e => e.elim (S.locD o) fun q => q.2.1 rfl
    wcD := fun a ha o e => e.elim (S.wcD a ha o) fun q => q.2.2.1 ha
    ownD := fun a ha o e => e.elim (S.ownD a ha o) fun q => q.2.2.2.1 ha }
theorem St.unNow {s' : Shared} (S : St G D P fm ρ s) (S' : St G (Now G fm ρ D s.heap) P fm ρ s') : St G D P fm ρ s' :=
  S'.lessD (fun _ _ e => .inl e) S.baseD

theorem St.seqApart (S : St G D P fm ρ s) {a : Addr} {o : Obj} (e : s.heap.get? a = some o) (x : SeqObj o) : a ≠ fm.env.locals ∧ a ∉ fm.wc ∧ ¬ G.isTab a := by
  obtain ⟨i, n, d⟩ := x
  refine ⟨fun q => ?_, fun q => ?_, fun q => ?_⟩
  · obtain ⟨m, o', es, ep, e', d', _⟩ := S.loc
    rw [← q, e] at e'; cases e'; rw [d] at d'; cases d'
  · obtain ⟨v, o', e', d'⟩ := S.wcs a q
    rw [e] at e'; cases e'; rw [d] at d'; cases d'
  · obtain ⟨t, ht, rfl⟩ := q
    obtain ⟨ps, e'⟩ := tabOk_at (S.gst.tabs t ht)
    rw [e] at e'; cases e'; cases d

theorem St.relNow {s' : Shared} (S : St G D P fm ρ s) (S' : St G (Now G fm ρ D s.heap) P fm ρ s') {v : V} {c : Value} (r : Rel (fun a => P a ∧ ¬ Owned ρ a) s.heap v c) : Rel (fun a => P a ∧ ¬ Owned ρ a) s'.heap v c :=
  r.mono fun a o hP hs e => ⟨S'.keep a o (.inr ⟨e, (S.seqApart e hs).1, (S.seqApart e hs).2.1, hP.2, (S.seqApart e hs).2.2⟩), hP⟩
end
end Mine
end
section
open PySem PySem.W PySem.Calls PyProof.Rows
set_option Elab.async false
set_option maxRecDepth 100000
set_option linter.unusedVariables false
namespace Mine

abbrev Cln (P : Addr → Prop) (ρ : Rho) : Addr → Prop := fun a => P a ∧ ¬ Owned ρ a

/-- a tree that gives a value and leaves the frame as it is -/
abbrev Gives (G : Gb) (A : Around) (D : Addr → Obj → Prop) (P : Addr → Prop) (fm : Fm) (ρ : Rho) (t : Sem Value) (v : V) (s : Shared) : Prop :=
  wpC G.M A t (fun c s' => St G D P fm ρ s' ∧ Rel (Cln P ρ) s'.heap v c) (fun _ _ => False) s

noncomputable def Ev (G : Gb) (n : Nat) (fm : Fm) (ρ : Rho) (e : Expr) (v : V) : Prop :=
  ∀ A s D P, AOk n A → St G D P fm ρ s → Gives G A D P fm ρ (eval e fm.env) v s

noncomputable def EvL (G : Gb) (n : Nat) (fm : Fm) (ρ : Rho) (es : List Expr) (vs : List V) : Prop :=
  ∀ A s D P pos, AOk n A → St G D P fm ρ s → wpC G.M A (spliced (backTo pos (starEach es fm.env))) (fun cs s' => St G D P fm ρ s' ∧ RelL (Cln P ρ) s'.heap vs cs) (fun _ _ => False) s

noncomputable def Tst (G : Gb) (n : Nat) (fm : Fm) (ρ : Rho) (e : Expr) (b : Bool) : Prop :=
  ∀ A s D P whole, whole = eval e fm.env → AOk n A → St G D P fm ρ s → wpC G.M A (isTrue e fm.env whole) (fun c s' => c = b ∧ St G D P fm ρ s') (fun _ _ => False) s

noncomputable def Op1 (G : Gb) (n : Nat) (f : Value → Sem Value) (v1 v : V) : Prop :=
  ∀ A s D P fm ρ c1, AOk n A → St G D P fm ρ s → Rel (Cln P ρ) s.heap v1 c1 → Gives G A D P fm ρ (f c1) v s
noncomputable def Op2 (G : Gb) (n : Nat) (f : Value → Value → Sem Value) (v1 v2 v : V) : Prop :=
  ∀ A s D P fm ρ c1 c2, AOk n A → St G D P fm ρ s → Rel (Cln P ρ) s.heap v1 c1 → Rel (Cln P ρ) s.heap v2 c2 → Gives G A D P fm ρ (f c1 c2) v s
noncomputable def OpL (G : Gb) (n : Nat) (f : List Value → Sem Value) (vs : List V) (v : V) : Prop :=
  ∀ A s D P fm ρ cs, AOk n A → St G D P fm ρ s → RelL (Cln P ρ) s.heap vs cs → Gives G A D P fm ρ (f cs) v s
noncomputable def Tru (G : Gb) (n : Nat) (v : V) (b : Bool) : Prop :=
  ∀ A s D P fm ρ c, AOk n A → St G D P fm ρ s → Rel (Cln P ρ) s.heap v c → wpC G.M A (truthy c) (fun c s' => c = b ∧ St G D P fm ρ s') (fun _ _ => False) s

section
variable {G : Gb} {n : Nat} {fm : Fm} {ρ : Rho}

theorem no {E : Value → Shared → Prop} : ∀ (e : Value) (s : Shared), False → E e s := fun _ _ x => x.elim

theorem Ev.int {i : Int} {k : Nat} {pos : Pos} : Ev G n fm ρ (.Constant (.int i) k pos) (.int i) := fun A s D P _ S =>
  up (wpAny_Constant_int ⟨S.tok, .int _ _⟩)
theorem Ev.bool {b : Bool} {k : Nat} {pos : Pos} : Ev G n fm ρ (.Constant (.bool b) k pos) (.bool b) := fun A s D P _ S => by
  show wpC G.M A (pure (Value.bool b)) _ _ _
  exact c_pure ⟨S, .bool _⟩

theorem loadName_var {A : Around} {E : Value → Shared → Prop} {s : Shared} {env : Env} {x : Str} {c : Value} {Q : Value → Shared → Prop} (hk : env.scope.kind = .function) (v : VarAt env s.heap x c) (h : Q c s) : wpAny G.M A (loadName env x) Q E s := by
  rcases v with ⟨e, m, hn, hm⟩ | ⟨e | ⟨e, hc⟩, a, hl, hv⟩
  · exact wpAny_loadName_local hk e hn hm h
  · exact wpAny_loadName_cell hk e hl hv h
  · exact wpAny_loadName_free hk e hl hv h hc

theorem Ev.name {x : Str} {pos : Pos} {v : V} (hm : (x, Slot.val v) ∈ ρ) (hd : (x == ("__debug__" : Str)) = false := by decide) : Ev G n fm ρ (.Name x pos) v := fun A s D P _ S => by
  obtain ⟨c, hv, hr⟩ := S.vars _ hm
  exact up (wpAny_Name (loadName_var S.kind hv ⟨S, hr⟩) hd)

theorem hold1 {α : Type} {D : Addr → Obj → Prop} {P : Addr → Prop} {s : Shared} {A : Around} {E : Value → Shared → Prop} {t : Sem α} {Q : α → Shared → Prop} {v : V} {c : Value} (S : St G D P fm ρ s) (r : Rel (Cln P ρ) s.heap v c)
    (h : ∀ D', St G D' P fm ρ s → wpC G.M A t (fun c s' => St G D' P fm ρ s' ∧ Q c s') E s) :
    wpC G.M A t (fun c' s' => St G D P fm ρ s' ∧ Rel (Cln P ρ) s'.heap v c ∧ Q c' s') E s :=
  c_mono (h _ S.now) (fun c s' x => ⟨S.unNow x.1, S.relNow x.1 r, x.2⟩) fun _ _ x => x

theorem Ev.binop {l r : Expr} {op : Operator} {pos : Pos} {v1 v2 v : V} (h1 : Ev G n fm ρ l v1) (h2 : Ev G n fm ρ r v2) (h : Op2 G n (binaryOp op) v1 v2 v) : Ev G n fm ρ (.BinOp l op r pos) v := fun A s D P hA S =>
  c_BinOp (c_mono (h1 A s D P hA S) (fun c1 s1 x1 => c_mono (hold1 x1.1 x1.2 fun D' S' => h2 A s1 D' P hA S') (fun c2 s2 x2 => h A s2 D P fm ρ c1 c2 hA x2.1 x2.2.1 x2.2.2) fun _ _ x => x) fun _ _ x => x)

theorem Ev.unary {l : Expr} {op : UnaryOp} {pos : Pos} {v1 v : V} (h1 : Ev G n fm ρ l v1) (h : Op1 G n (unaryOp op) v1 v) : Ev G n fm ρ (.UnaryOp op l pos) v := fun A s D P hA S =>
  c_UnaryOp (c_mono (h1 A s D P hA S) (fun c1 s1 x1 => h A s1 D P fm ρ c1 hA x1.1 x1.2) fun _ _ x => x)

theorem Ev.cmp {l r : Expr} {op : CmpOp} {pos : Pos} {v1 v2 v : V} (h1 : Ev G n fm ρ l v1) (h2 : Ev G n fm ρ r v2) (h : Op2 G n (compareOp op) v1 v2 v) (hm : behindInMarks op r = false := by with_unfolding_all rfl) : Ev G n fm ρ (.Compare l [op] [r] pos) v := fun A s D P hA S =>
  c_Compare1 (c_mono (h1 A s D P hA S) (fun c1 s1 x1 => c_mono (hold1 x1.1 x1.2 fun D' S' => h2 A s1 D' P hA S') (fun c2 s2 x2 => h A s2 D P fm ρ c1 c2 hA x2.1 x2.2.1 x2.2.2) fun _ _ x => x) fun _ _ x => x) hm

theorem Tru.bool {b : Bool} : Tru G n (.bool b) b := fun A s D P fm ρ c _ S r => by cases r; exact up (wpAny_truthy_bool ⟨rfl, S⟩)

theorem Tst.cmp {l r : Expr} {op : CmpOp} {pos : Pos} {v1 v2 : V} {b : Bool} (h1 : Ev G n fm ρ l v1) (h2 : Ev G n fm ρ r v2) (h : Op2 G n (compareOp op) v1 v2 (.bool b)) (hm : behindInMarks op r = false := by with_unfolding_all rfl) : Tst G n fm ρ (.Compare l [op] [r] pos) b := fun A s D P whole _ hA S =>
  c_isTrue_Compare1 (c_mono (h1 A s D P hA S) (fun c1 s1 x1 => c_mono (hold1 x1.1 x1.2 fun D' S' => h2 A s1 D' P hA S') (fun c2 s2 x2 =>
    c_mono (h A s2 D P fm ρ c1 c2 hA x2.1 x2.2.1 x2.2.2) (fun c s3 x3 => Tru.bool (n := n) A s3 D P fm ρ c hA x3.1 x3.2) no) no) no) hm

theorem Tst.plain {e : Expr} {v : V} {b : Bool} (h1 : Ev G n fm ρ e v) (h : Tru G n v b) (he : ∀ whole, isTrue e fm.env whole = (do let v ← whole; standAt e.pos; holding [v] (truthy v)) := by intro _; rfl) : Tst G n fm ρ e b := fun A s D P whole hw hA S => by
  subst hw
  exact c_isTrue_plain (c_mono (h1 A s D P hA S) (fun c s1 x1 => h A s1 D P fm ρ c hA x1.1 x1.2) no) (he _)

/-- and, or: a row of tests, each asked only where it counts -/
inductive TstAll (G : Gb) (n : Nat) (fm : Fm) (ρ : Rho) : List Expr → Bool → Prop
  | nil : TstAll G n fm ρ [] true
  | ff {e : Expr} {es : List Expr} : Tst G n fm ρ e false → TstAll G n fm ρ (e :: es) false
  | tt {e : Expr} {es : List Expr} {b : Bool} : Tst G n fm ρ e true → TstAll G n fm ρ es b → TstAll G n fm ρ (e :: es) b
inductive TstAny (G : Gb) (n : Nat) (fm : Fm) (ρ : Rho) : List Expr → Bool → Prop
  | nil : TstAny G n fm ρ [] false
  | tt {e : Expr} {es : List Expr} : Tst G n fm ρ e true → TstAny G n fm ρ (e :: es) true
  | ff {e : Expr} {es : List Expr} {b : Bool} : Tst G n fm ρ e false → TstAny G n fm ρ es b → TstAny G n fm ρ (e :: es) b
theorem Tst.or {es : List Expr} {pos : Pos} {b : Bool} (h : TstAny G n fm ρ es b) : Tst G n fm ρ (.BoolOp .Or es pos) b := fun A s D P whole hw hA S => by
  clear hw
  induction h generalizing s with
  | nil => exact up (isTrue_or_nil ⟨rfl, S⟩)
  | tt h => exact c_isTrue_or (c_mono (h A s D P _ rfl hA S) (fun c s1 x => by rw [x.1]; exact ⟨rfl, x.2⟩) no)
  | ff h _ ih => exact c_isTrue_or (c_mono (h A s D P _ rfl hA S) (fun c s1 x => by rw [x.1]; exact ih s1 x.2) no)

theorem Ev.ite {t b o : Expr} {pos : Pos} {c : Bool} {v : V} (ht : Tst G n fm ρ t c) (h1 : c = true → Ev G n fm ρ b v) (h2 : c = false → Ev G n fm ρ o v) : Ev G n fm ρ (.IfExp t b o pos) v := fun A s D P hA S =>
  c_IfExp (c_mono (ht A s D P _ rfl hA S) (fun c' s1 x => by
    rw [x.1]
    cases c with
    | true => exact h1 rfl A s1 D P hA x.2
    | false => exact h2 rfl A s1 D P hA x.2) no)

theorem EvL.nil : EvL G n fm ρ [] [] := fun A s D P pos _ S => up (args_nil ⟨S, .nil⟩)
theorem EvL.cons {e : Expr} {es : List Expr} {v : V} {vs : List V} (h : Ev G n fm ρ e v) (hs : EvL G n fm ρ es vs) (he : starEach (e :: es) fm.env = (false, eval e fm.env) :: starEach es fm.env := by rfl) : EvL G n fm ρ (e :: es) (v :: vs) := fun A s D P pos hA S =>
  c_args_cons (c_mono (h A s D P hA S) (fun c s1 x1 => c_mono (hold1 x1.1 x1.2 fun D' S' => hs A s1 D' P pos hA S') (fun cs s2 x2 => ⟨x2.1, .cons x2.2.1 x2.2.2⟩) no) no) he

/-- which values may be called as they stand -/
noncomputable def Callee (G : Gb) (f : Value) : Prop := (∃ id, f = .builtin id) ∨ (∃ t, f = .type t) ∨ ∃ a o fd, f = .ref a ∧ G.B.get? a = some o ∧ o.data = .func fd

theorem Callee.keeper {f : Value} (h : Callee G f) {hp : Heap} (k : ∀ b o, G.B.get? b = some o → hp.get? b = some o) : ∃ q, (q = Keeper.frame ∨ q = Keeper.machine ∨ q = Keeper.boundFrame) ∧ Looks G.M hp (keeperOf f) q := by
  rcases h with ⟨id, rfl⟩ | ⟨t, rfl⟩ | ⟨a, o, fd, rfl, ho, hd⟩
  · exact ⟨.machine, .inr (.inl rfl), .of_pure rfl⟩
  · exact ⟨.machine, .inr (.inl rfl), .of_pure rfl⟩
  · obtain ⟨oc, od, dt, sl⟩ := o
    cases hd
    exact ⟨.frame, .inl rfl, (Looks.ld (part := none) (k _ _ ho)).andThen .now⟩

theorem callWith_vals {A : Around} {s : Shared} {D : Addr → Obj → Prop} {P : Addr → Prop} {f : Value} {es : List Expr} {vs : List V} {v : V} {pos : Pos} (hf : Callee G f) (hA : AOk n A) (S : St G D P fm ρ s)
    (hs : EvL G n fm ρ es vs) (h : OpL G n (fun cs => PySem.call f cs) vs v) (hplain : (backTo pos (starEach es fm.env)).any (·.1) = false)
    (hne : es ≠ []) :
    Gives G A D P fm ρ (callWith pos f [] (backTo pos (starEach es fm.env)) []) v s := by
  refine c_callWith (P := fun hp => ∀ b o, G.B.get? b = some o → hp.get? b = some o) (by rw [hplain]; rfl) (fun hp k => hf.keeper k) ?_
  cases es with
  | nil => exact absurd rfl hne
  | cons e r =>
    have key := hs A s D P pos hA S
    cases q : starEach (e :: r) fm.env with
    | nil => cases e <;> cases q
    | cons y ys =>
      rw [q] at key hplain
      obtain ⟨st, x⟩ := y
      cases st with
      | true => simp [backTo] at hplain
      | false =>
        exact c_evalArgs_plain (c_mono key (fun cs s1 x1 => ⟨x1.1.gst.base, h A s1 D P fm ρ cs hA x1.1 x1.2⟩) no)

theorem Ev.callG {x : Str} {npos pos : Pos} {es : List Expr} {f : Value} {vs : List V} {v : V} (hG : GbOk G) (hm : G.mg x = some f) (hf : Callee G f) (hs : EvL G n fm ρ es vs) (h : OpL G n (fun cs => PySem.call f cs) vs v)
    (hx : fm.env.kindOf x = some .globalImplicit := by rfl) (hd : (x == ("__debug__" : Str)) = false := by decide)
    (hplain : (backTo pos (starEach es fm.env)).any (·.1) = false := by rfl) (hne : es ≠ [] := by simp)
    (he : eval (.Call (.Name x npos) es [] pos) fm.env = (do callWith pos (← eval (.Name x npos) fm.env) [] (backTo pos (starEach es fm.env)) (backToKw pos (keywordEach [] fm.env))) := by rfl) :
    Ev G n fm ρ (.Call (.Name x npos) es [] pos) v := fun A s D P hA S =>
  c_Call (up (Name_function_global S.kind hx (loadGlobal_global (S.glob ▸ hG.g.keeps S.gst.base) hm (callWith_vals hf hA S hs h hplain hne)) hd)) he

theorem Ev.callB {x : Str} {npos pos : Pos} {es : List Expr} {f : Value} {vs : List V} {v : V} (hG : GbOk G) (hm : G.mg x = none) (hb : bootBuiltins x = some f) (hf : Callee G f) (hs : EvL G n fm ρ es vs) (h : OpL G n (fun cs => PySem.call f cs) vs v)
    (hn : x ≠ "__name__" := by decide) (hx : fm.env.kindOf x = some .globalImplicit := by rfl) (hd : (x == ("__debug__" : Str)) = false := by decide)
    (hplain : (backTo pos (starEach es fm.env)).any (·.1) = false := by rfl) (hne : es ≠ [] := by simp)
    (he : eval (.Call (.Name x npos) es [] pos) fm.env = (do callWith pos (← eval (.Name x npos) fm.env) [] (backTo pos (starEach es fm.env)) (backToKw pos (keywordEach [] fm.env))) := by rfl) :
    Ev G n fm ρ (.Call (.Name x npos) es [] pos) v := fun A s D P hA S =>
  c_Call (up (Name_function_global S.kind hx (loadGlobal_builtin (S.glob ▸ hG.g.keeps S.gst.base) hm (S.blt ▸ hG.b.keeps S.gst.base) ((hG.builtins x hn).trans hb) (callWith_vals hf hA S hs h hplain hne)) hd)) he
end

end Mine
end
section
open PySem PySem.W PySem.Calls PyProof.Rows
set_option Elab.async false
set_option maxRecDepth 100000
set_option linter.unusedVariables false
namespace Mine

noncomputable def put (ρ : Rho) (x : Str) (sl : Slot) : Rho := (x, sl) :: ρ.filter (fun p => !(p.1 == x))

theorem mem_put {ρ : Rho} {x : Str} {sl : Slot} {p : Str × Slot} (h : p ∈ put ρ x sl) : p = (x, sl) ∨ (p ∈ ρ ∧ p.1 ≠ x) := by
  rcases List.mem_cons.mp h with h | h
  · exact .inl h
  · obtain ⟨h1, h2⟩ := List.mem_filter.mp h
    exact .inr ⟨h1, fun q => by rw [q] at h2; simp at h2⟩

noncomputable def Wrt (fm : Fm) (x : Str) : Prop := fm.env.kindOf x = some .local ∨ (fm.env.kindOf x = some .cell ∧ ∃ a ∈ fm.wc, fm.env.cells.lookup x = some a)

/-- the value that is stored: a plain one, or an object just made that nothing else knows -/
noncomputable def SlotFit (P : Addr → Prop) (ρ : Rho) (s : Shared) (h' : Heap) : Slot → Value → Prop
  | .val v, c => Rel (Cln P ρ) h' v c
  | .own a xs, c => c = .ref a ∧ s.heap.get? a = none ∧ ∃ vs : List Value, h'.PlainList a vs.toArray ∧ IntsAre vs xs
  | .ba a b, c => c = .ref a ∧ s.heap.get? a = none ∧ IsBA h' a b
  | .fn f fd, c => c = .ref f ∧ FnOk h' f fd

section
variable {G : Gb} {D : Addr → Obj → Prop} {P : Addr → Prop} {fm : Fm} {ρ : Rho} {s : Shared}

/-- an object that a slot owns -/
noncomputable def OwnObj (o : Obj) : Prop := SeqObj o ∨ ∃ b n, o.data = .bytearray b n
theorem OwnObj.tame {o : Obj} (x : OwnObj o) : Tame o := fun vs e => by
  rcases x with ⟨i, n, d⟩ | ⟨b, n, d⟩ <;> (rw [d] at e; cases e)

theorem St.ownAt (S : St G D P fm ρ s) {a : Addr} (x : Owned ρ a) : ∃ o, s.heap.get? a = some o ∧ OwnObj o := by
  obtain ⟨⟨y, sl⟩, hp, e⟩ := x
  obtain ⟨c, _, hs⟩ := S.vars _ hp
  cases sl with
  | val v => cases e
  | own b xs => cases e; obtain ⟨_, vs, ⟨n, ho⟩, _⟩ := hs; exact ⟨_, ho, .inl ⟨_, n, rfl⟩⟩
  | ba b bs => cases e; obtain ⟨_, o, ho, _, d⟩ := hs; exact ⟨o, ho, .inr ⟨_, _, d⟩⟩
  | fn f fd => cases e
theorem owned_put {x : Str} {sl : Slot} {a : Addr} (h : Owned (put ρ x sl) a) : sl.addr? = some a ∨ Owned ρ a := by
  obtain ⟨p, hp, e⟩ := h
  rcases mem_put hp with rfl | ⟨h1, _⟩
  · exact .inl e
  · exact .inr ⟨p, h1, e⟩

theorem fit_new {h' : Heap} {sl : Slot} {c : Value} (f : SlotFit P ρ s h' sl c) {a : Addr} (e : sl.addr? = some a) : s.heap.get? a = none := by
  cases sl with
  | val v => cases e
  | own b xs => cases e; exact f.2.1
  | ba b bs => cases e; exact f.2.1
  | fn g fd => cases e

/-- one place of the frame is written; the rest of the heap stays -/
theorem St.stored {h' h'' : Heap} {tk : Nat} {x : Str} {sl : Slot} {c : Value} {b : Addr} (S : St G D P fm ρ s) (k : ∀ b o, s.heap.get? b = some o → h'.get? b = some o)
    (f : SlotFit P ρ s h' sl c) (hs : Heap.SameBut b h' h'') (hbD : ∀ o, ¬ D b o) (ob : ∀ o, h'.get? b = some o → VarObj o) (hloc : ∃ m, h''.Ns fm.env.locals m) (hwc : ∀ a ∈ fm.wc, ∃ v, h''.IsCell a v)
    (live : ∀ o, h'.get? b = some o → h''.get? b ≠ none) (hx : VarAt fm.env h'' x c) (hy : ∀ y c', y ≠ x → VarAt fm.env h' y c' → VarAt fm.env h'' y c') : St G D P fm (put ρ x sl) { s with heap := h'', toks := tk } := by
  have vt : ∀ o, VarObj o → Tame o := fun o q vs e => by rcases q with ⟨es, n, d⟩ | ⟨v, d⟩ <;> (rw [d] at e; cases e)
  have vo : ∀ o, VarObj o → ¬ OwnObj o := fun o q r => by rcases q with ⟨es, n, d⟩ | ⟨v, d⟩ <;> rcases r with ⟨i, n, d'⟩ | ⟨b, n, d'⟩ <;> (rw [d] at d'; cases d')
  have fv : ∀ o, Firm o → ¬ VarObj o := fun o q r => by rcases q with ⟨fd, d⟩ | ⟨vs, _, _, d, _⟩ <;> rcases r with ⟨es, n, d'⟩ | ⟨v, d'⟩ <;> (rw [d] at d'; cases d')
  have kk : ∀ a o, ¬ VarObj o → s.heap.get? a = some o → h''.get? a = some o := fun a o q e => (hs.2 a fun z => q (ob o (z ▸ k a o e))).trans (k a o e)
  have kk' : ∀ a o, ¬ VarObj o → h'.get? a = some o → h''.get? a = some o := fun a o q e => (hs.2 a fun z => q (ob o (z ▸ e))).trans e
  have kD : ∀ a o, D a o → h''.get? a = some o := fun a o e => (hs.2 a fun z => hbD o (z ▸ e)).trans (k a o (S.keep a o e))
  have ownNew : ∀ {a o}, s.heap.get? a = some o → sl.addr? ≠ some a := fun e q => by rw [fit_new f q] at e; cases e
  exact {
    gst := ⟨fun a o e => kD a o (S.baseD a o e), fun t ht => (S.gst.tabs t ht).keeps (fun a o q e => kk a o (fun z => q (vt o z)) e), S.gst.gens, S.gst.os⟩
    kind := S.kind
    glob := S.glob
    blt := S.blt
    baseD := S.baseD
    keep := kD
    tabD := S.tabD
    locD := S.locD
    wcD := S.wcD
    ownD := fun a ha o e => (owned_put ha).elim (fun q => ownNew (S.keep a o e) q) fun q => S.ownD a q o e
    loc := hloc
    wcs := hwc
    apart := S.apart
    vars := fun p hp => by
      rcases mem_put hp with rfl | ⟨h1, h2⟩
      · refine ⟨c, hx, ?_⟩
        cases sl with
        | val v =>
          refine Rel.mono (P := Cln P ρ) (fun a o hP hq e => ⟨kk' a o (fun z => vo o z (.inl hq)) e, hP.1, fun q => ?_⟩) f
          exact (owned_put q).elim (fun q => by cases q) hP.2
        | own a xs => obtain ⟨e, _, vs, ⟨n, ho⟩, hi⟩ := f; exact ⟨e, vs, ⟨n, kk' a _ (fun z => vo _ z (.inl ⟨_, n, rfl⟩)) ho⟩, hi⟩
        | ba a bs => obtain ⟨e, _, o, ho, hc, d⟩ := f; exact ⟨e, o, kk' a o (fun z => vo o z (.inr ⟨_, _, d⟩)) ho, hc, d⟩
        | fn g fd => exact ⟨f.1, f.2.keeps fun a o q e => kk' a o (fv o q) e⟩
      · obtain ⟨c', hv, hs'⟩ := S.vars p h1
        refine ⟨c', hy _ _ h2 (hv.keeps fun a o _ e => k a o e), hs'.mono (fun a o hP hq e => ⟨kk a o (fun z => vo o z (.inl hq)) e, hP.1, fun q => ?_⟩) (fun a ha o e => ?_) fun a o q e => kk a o (fv o q) e⟩
        · exact (owned_put q).elim (ownNew e) hP.2
        · obtain ⟨o', e', h'⟩ := S.ownAt ⟨p, h1, ha⟩
          rw [e] at e'; cases e'
          exact kk a o (fun z => vo o z h') e
    ownP := fun a ha => (owned_put ha).elim (fun q => S.top a (fit_new f q)) (S.ownP a)
    ownNe := fun p hp q hq a ha hb => by
      rcases mem_put hp with rfl | ⟨h1, h2⟩ <;> rcases mem_put hq with rfl | ⟨h3, h4⟩
      · rfl
      · obtain ⟨o, e, _⟩ := S.ownAt ⟨q, h3, hb⟩; rw [fit_new f ha] at e; cases e
      · obtain ⟨o, e, _⟩ := S.ownAt ⟨p, h1, ha⟩; rw [fit_new f hb] at e; cases e
      · exact S.ownNe p h1 q h3 a ha hb
    top := fun a ha => S.top a (none_back k (by
      by_cases z : a = b
      · subst z
        cases q : h'.get? a with
        | none => rfl
        | some o => exact absurd ha (live o q)
      · rw [← hs.2 a z]; exact ha)) }

theorem St.store {A : Around} {h' : Heap} {tk : Nat} {x : Str} {sl : Slot} {c : Value} (S : St G D P fm ρ s) (hw : Wrt fm x) (k : ∀ b o, s.heap.get? b = some o → h'.get? b = some o) (f : SlotFit P ρ s h' sl c) :
    wpC G.M A (storeName fm.env x c) (fun _ s' => St G D P fm (put ρ x sl) s') (fun _ _ => False) { s with heap := h', toks := tk } := by
  rcases hw with hl | ⟨hl, a, ha, hc⟩
  · obtain ⟨m, hn⟩ := S.loc
    refine up (wpAny_storeName_local hl (hn.keeps k) (fun h'' hn'' hs => ?_) (by rw [S.kind]; rfl))
    refine S.stored k f hs S.locD (fun o e => ?_) ⟨_, hn''⟩ (fun a ha => ?_) (fun _ _ => by obtain ⟨o, es, ep, e, _⟩ := hn''; rw [e]; nofun) (.inl ⟨hl, _, hn'', by simp⟩) fun y c' hy hv => ?_
    · obtain ⟨o', es, ep, e', d, _⟩ := hn.keeps k; rw [e] at e'; cases e'; exact .inl ⟨_, _, d⟩
    · obtain ⟨v, o, e, d⟩ := S.wcs a ha
      refine ⟨v, o, (hs.2 a fun z => ?_).trans (k _ _ e), d⟩
      obtain ⟨o', es, ep, e', d', _⟩ := hn; rw [← z, e] at e'; cases e'; rw [d] at d'; cases d'
    · rcases hv with ⟨e, m', hm', hq⟩ | ⟨e, a, hl', o, ho, hd⟩
      · refine .inl ⟨e, _, hn'', ?_⟩
        rw [if_neg hy, ns_uniq (hn.keeps k) hm']; exact hq
      · refine .inr ⟨e, a, hl', o, (hs.2 a fun z => ?_).trans ho, hd⟩
        obtain ⟨o', es, ep, e', d', _⟩ := hn.keeps k; rw [← z, ho] at e'; cases e'; rw [hd] at d'; cases d'
  · obtain ⟨v₀, hv₀⟩ := S.wcs a ha
    refine up (wpAny_storeName_cell S.kind hl hc (hv₀.keeps k) fun h'' hv'' hs => ?_)
    have := S.stored (tk := tk) k f hs (S.wcD a ha) (fun o e => by obtain ⟨o', e', d⟩ := hv₀.keeps k; rw [e] at e'; cases e'; exact .inr ⟨_, d⟩)
      (by
        obtain ⟨m, o, es, ep, e, d, r⟩ := S.loc
        refine ⟨m, o, es, ep, (hs.2 _ fun z => ?_).trans (k _ _ e), d, r⟩
        obtain ⟨o', e', d'⟩ := hv₀; rw [← z, e] at e'; cases e'; rw [d] at d'; cases d')
      (fun b hb => by
        by_cases z : b = a
        · subst z; exact ⟨_, hv''⟩
        · obtain ⟨v, o, e, d⟩ := S.wcs b hb; exact ⟨v, o, (hs.2 b z).trans (k _ _ e), d⟩)
      (fun _ _ => by obtain ⟨o, e, _⟩ := hv''; rw [e]; nofun) (.inr ⟨.inl hl, a, hc, hv''⟩) fun y c' hy hv => by
        rcases hv with ⟨e, m', ⟨o, es, ep, e1, d, r⟩, hq⟩ | ⟨e, b, hl', o, ho, hd⟩
        · refine .inl ⟨e, m', ⟨o, es, ep, (hs.2 _ fun z => ?_).trans e1, d, r⟩, hq⟩
          obtain ⟨o', e', d'⟩ := hv₀.keeps k; rw [← z, e1] at e'; cases e'; rw [d] at d'; cases d'
        · refine .inr ⟨e, b, hl', o, (hs.2 b fun z => hy ?_).trans ho, hd⟩
          exact name_of_addr S.apart (mem_of_lookup hl') (z ▸ mem_of_lookup hc)
    exact this

theorem St.storeV {A : Around} {x : Str} {v : V} {c : Value} (S : St G D P fm ρ s) (hw : Wrt fm x) (r : Rel (Cln P ρ) s.heap v c) :
    wpC G.M A (storeName fm.env x c) (fun _ s' => St G D P fm (put ρ x (.val v)) s') (fun _ _ => False) s :=
  S.store (tk := s.toks) hw (fun _ _ e => e) r
end
end Mine
end
section
open PySem PySem.W PySem.Calls PyProof.Rows
set_option Elab.async false
set_option maxRecDepth 100000
set_option linter.unusedVariables false
namespace Mine

theorem c_assign_Tuple {prog : Program} {w : World} {A : Around} {E : Value → Shared → Prop} {s : Shared} {env : Env} {elts : List Expr} {x1 : Nat} {pos : Pos} {t : Addr} {items : Array Value} {Q : Unit → Shared → Prop} (hh : A.handled = none) (ht : s.heap.IsTuple t items)
    (hn : (assignEach elts env).length = items.size) (hstar : (assignEach elts env).findIdx? (·.1) = none)
    (h : ∀ h', Heap.ExtBut s.heap.objs.size s.heap h' → wpC (model prog w) A (assignInOrder ((assignEach elts env).map (·.2)) items.toList) Q E { s with heap := h' }) :
    wpC (model prog w) A (assign (.Tuple elts x1 pos) env (.ref t)) Q E s := by
  rw [arm_assign_Tuple]
  refine c_bind (c_stand ?_)
  unfold unpack
  rw [hn, hstar]
  exact c_bind (c_holding (up (wpAny_unpackItems_tuple hh ht h)))

structure Post where
  next : Rho → Prop
  ret : Rho → V → Prop
  brk : Rho → Prop

noncomputable def POk (G : Gb) (D : Addr → Obj → Prop) (P : Addr → Prop) (fm : Fm) (φ : Post) : Flow → Shared → Prop
  | .next, s => ∃ ρ, φ.next ρ ∧ St G D P fm ρ s
  | .ret c, s => ∃ ρ v, φ.ret ρ v ∧ St G D P fm ρ s ∧ Rel (Cln P ρ) s.heap v c
  | .brk, s => ∃ ρ, φ.brk ρ ∧ St G D P fm ρ s
  | .cont, _ => False

noncomputable def Run (G : Gb) (n : Nat) (fm : Fm) (ρ : Rho) (body : List Stmt) (φ : Post) : Prop :=
  ∀ A s D P, AOk n A → St G D P fm ρ s → wpC G.M A (execs body fm.env) (POk G D P fm φ) (fun _ _ => False) s
noncomputable def Ex (G : Gb) (n : Nat) (fm : Fm) (ρ : Rho) (st : Stmt) (φ : Post) : Prop :=
  ∀ A s D P, AOk n A → St G D P fm ρ s → wpC G.M A (exec st fm.env) (POk G D P fm φ) (fun _ _ => False) s

section
variable {G : Gb} {n : Nat} {fm : Fm} {ρ ρ' : Rho} {φ : Post}

theorem Run.nil (h : φ.next ρ) : Run G n fm ρ [] φ := fun A s D P _ S => c_execs_nil ⟨ρ, h, S⟩
theorem Run.cons {st : Stmt} {rest : List Stmt} (h : Ex G n fm ρ st ⟨fun ρ' => Run G n fm ρ' rest φ, φ.ret, φ.brk⟩) : Run G n fm ρ (st :: rest) φ := fun A s D P hA S =>
  c_execs_cons (c_mono (h A s D P hA S) (fun f s' x => by
    cases f with
    | next => obtain ⟨ρ', h', S'⟩ := x; exact h' A s' D P hA S'
    | ret c => exact x
    | brk => exact x
    | cont => exact x.elim) no)
theorem Run.weak {body : List Stmt} (hs : ∀ p ∈ ρ', p ∈ ρ) (h : Run G n fm ρ' body φ) : Run G n fm ρ body φ := fun A s D P hA S => h A s D P hA (S.sub hs)
theorem Ex.ret {e : Expr} {pos : Pos} {v : V} (h : Ev G n fm ρ e v) (hv : φ.ret ρ v) : Ex G n fm ρ (.Return (some e) pos) φ := fun A s D P hA S =>
  c_Return_some (c_mono (h A s D P hA S) (fun c s' x => ⟨ρ, v, hv, x.1, x.2⟩) no)
theorem Ex.retNone {pos : Pos} (hv : φ.ret ρ .none) : Ex G n fm ρ (.Return none pos) φ := fun A s D P hA S => up (wpAny_Return_none ⟨ρ, .none, hv, S, .none⟩)
theorem Ex.ite {t : Expr} {b o : List Stmt} {pos : Pos} {c : Bool} (ht : Tst G n fm ρ t c) (h1 : c = true → Run G n fm ρ b φ) (h2 : c = false → Run G n fm ρ o φ) : Ex G n fm ρ (.If t b o pos) φ := fun A s D P hA S =>
  c_If (c_mono (ht A s D P _ rfl hA S) (fun c' s1 x => by
    rw [x.1]
    cases c with
    | true => exact h1 rfl A s1 D P hA x.2
    | false => exact h2 rfl A s1 D P hA x.2) no)

theorem Ex.asg {x : Str} {e : Expr} {pos' pos : Pos} {v : V} (h : Ev G n fm ρ e v) (hw : Wrt fm x) (hn : φ.next (put ρ x (.val v))) (hs : swapsWith e (some (.Name x pos')) pos.line fm.env = pure false := by rfl) :
    Ex G n fm ρ (.Assign [.Name x pos'] e pos) φ := fun A s D P hA S =>
  c_Assign_Name (c_mono (h A s D P hA S) (fun c s' x => c_mono (x.1.storeV hw x.2) (fun _ s'' S'' => ⟨_, hn, S''⟩) no) no) hs

theorem Ex.aug {x : Str} {e : Expr} {op : Operator} {pos' pos : Pos} {v1 v2 v : V} (hm : (x, Slot.val v1) ∈ ρ) (h : Ev G n fm ρ e v2) (ho : Op2 G n (inplaceOp op) v1 v2 v) (hw : Wrt fm x) (hn : φ.next (put ρ x (.val v))) :
    Ex G n fm ρ (.AugAssign (.Name x pos') op e pos) φ := fun A s D P hA S => by
  obtain ⟨c, hv, hr⟩ := S.vars _ hm
  refine c_AugAssign_Name (up (loadName_var S.kind hv (c_mono (hold1 S hr fun D' S' => h A s D' P hA S') (fun c2 s2 x2 => c_mono (ho A s2 D P fm ρ c c2 hA x2.1 x2.2.1 x2.2.2) (fun r s3 x3 => c_mono (x3.1.storeV hw x3.2) (fun _ s4 S4 => ⟨_, hn, S4⟩) no) no) no)))

/-! targets of a tuple -/
inductive Nms (fm : Fm) : List Expr → List Str → Prop
  | nil : Nms fm [] []
  | cons {x : Str} {p : Pos} {es : List Expr} {xs : List Str} : Wrt fm x → Nms fm es xs → Nms fm (.Name x p :: es) (x :: xs)
noncomputable def putAll : Rho → List Str → List V → Rho
  | ρ, x :: xs, v :: vs => putAll (put ρ x (.val v)) xs vs
  | ρ, _, _ => ρ

theorem cln_put {P : Addr → Prop} {x : Str} {v : V} {a : Addr} (h : Cln P ρ a) : Cln P (put ρ x (.val v)) a := ⟨h.1, fun q => (owned_put q).elim (fun q => by cases q) h.2⟩

theorem asgNames {A : Around} {D : Addr → Obj → Prop} {P : Addr → Prop} : ∀ {xs : List Str} {ts : List (Value → Sem Unit)} {vs : List V} {cs : List Value} {ρ : Rho} {s : Shared}, xs.length = vs.length → ts.length = xs.length →
    (∀ (i : Nat) x t, xs[i]? = some x → ts[i]? = some t → Wrt fm x ∧ ∀ (c : Value) (Q : Unit → Shared → Prop) (E : Value → Shared → Prop) (s : Shared), wpC G.M A (storeName fm.env x c) Q E s → wpC G.M A (t c) Q E s) →
    St G D P fm ρ s → RelL (Cln P ρ) s.heap vs cs → wpC G.M A (assignInOrder ts cs) (fun _ s' => St G D P fm (putAll ρ xs vs) s') (fun _ _ => False) s := by
  intro xs
  induction xs with
  | nil =>
    intro ts vs cs ρ s h1 h2 _ S r
    cases vs with
    | cons v vs => cases h1
    | nil => cases ts with
      | cons t ts => cases h2
      | nil => cases r; exact c_pure S
  | cons x xs ih =>
    intro ts vs cs ρ s h1 h2 h S r
    cases vs with
    | nil => cases h1
    | cons v vs => cases ts with
      | nil => cases h2
      | cons t ts => cases r with
        | @cons _ c _ cs r1 r2 =>
          show wpC G.M A (do holding cs (t c); assignInOrder ts cs) _ _ s
          obtain ⟨hw, ht⟩ := h 0 x t rfl rfl
          refine c_bind (c_holding (ht _ _ _ _ (c_mono (S.now.storeV hw r1) (fun _ s' S' => ?_) no)))
          have hb : ∀ b o, G.B.get? b = some o → D b o := S.baseD
          refine ih (by simpa using h1) (by simpa using h2) (fun i y u e1 e2 => h (i + 1) y u (by simpa using e1) (by simpa using e2)) (S'.lessD (fun _ _ e => .inl e) hb) ?_
          exact r2.mono fun a o hP hs e => ⟨S'.keep a o (.inr ⟨e, (S.seqApart e hs).1, (S.seqApart e hs).2.1, hP.2, (S.seqApart e hs).2.2⟩), cln_put hP⟩

theorem nms_each {es : List Expr} {xs : List Str} (h : Nms fm es xs) : ∃ ts : List (Value → Sem Unit), assignEach es fm.env = ts.map (fun t => (false, t)) ∧ ts.length = xs.length ∧
    ∀ A (i : Nat) x t, xs[i]? = some x → ts[i]? = some t → Wrt fm x ∧ ∀ (c : Value) (Q : Unit → Shared → Prop) (E : Value → Shared → Prop) (s : Shared), wpC G.M A (storeName fm.env x c) Q E s → wpC G.M A (t c) Q E s := by
  induction h with
  | nil => exact ⟨[], rfl, rfl, fun A i x t e => by simp at e⟩
  | @cons x p es xs hw _ ih =>
    obtain ⟨ts, e1, e2, e3⟩ := ih
    refine ⟨(fun v => assign (.Name x p) fm.env v) :: ts, ?_, by simp [e2], fun A i y t h1 h2 => ?_⟩
    · show (false, fun v => assign (.Name x p) fm.env v) :: assignEach es fm.env = _
      rw [e1]; rfl
    · cases i with
      | zero => simp at h1 h2; subst h1; subst h2; exact ⟨hw, fun c Q E s q => c_assign_Name q⟩
      | succ i => exact e3 A i y t (by simpa using h1) (by simpa using h2)

theorem asgTuple {A : Around} {D : Addr → Obj → Prop} {P : Addr → Prop} {s : Shared} {es : List Expr} {xs : List Str} {vs : List V} {c : Value} {k : Nat} {pos : Pos} (hA : AOk n A) (hx : Nms fm es xs) (hl : xs.length = vs.length) (S : St G D P fm ρ s) (r : Rel (Cln P ρ) s.heap (.tuple vs) c) :
    wpC G.M A (assign (.Tuple es k pos) fm.env c) (fun _ s' => St G D P fm (putAll ρ xs vs) s') (fun _ _ => False) s := by
  cases r with
  | @tuple a _ cs hP ht hr =>
    obtain ⟨ts, e1, e2, e3⟩ := nms_each (G := G) hx
    have hlen := hr.length
    refine c_assign_Tuple hA.handled ht (by rw [e1]; simp [e2, hl, hlen]) (by rw [e1]; rw [List.findIdx?_eq_none_iff]; intro y hy; obtain ⟨t, _, rfl⟩ := List.mem_map.mp hy; rfl) fun h' hk => ?_
    have kk : ∀ b o, s.heap.get? b = some o → h'.get? b = some o := fun b o e => hk b o (Nat.ne_of_lt (Heap.lt_size e)) e
    rw [e1, List.map_map]
    have : (List.map ((fun x => x.2) ∘ fun t => (false, t)) ts) = ts := by simp [Function.comp_def]
    rw [this]
    exact asgNames (xs := xs) hl e2 (e3 A) (S.grow (tk := s.toks) kk) (hr.mono fun a o hP _ e => ⟨kk a o e, hP⟩)

theorem Ex.asgT {es : List Expr} {xs : List Str} {vs : List V} {e : Expr} {k : Nat} {tpos pos : Pos} (h : Ev G n fm ρ e (.tuple vs)) (hx : Nms fm es xs) (hl : xs.length = vs.length) (hn : φ.next (putAll ρ xs vs))
    (hs : swapsWithSole [.Tuple es k tpos] e pos.line fm.env = pure false := by rfl) (hw : swappedStores [.Tuple es k tpos] e fm.env = pure none := by rfl) : Ex G n fm ρ (.Assign [.Tuple es k tpos] e pos) φ := fun A s D P hA S =>
  c_Assign_Tuple (c_mono (h A s D P hA S) (fun c s' x => c_mono (asgTuple hA hx hl x.1 x.2) (fun _ s'' S'' => ⟨_, hn, S''⟩) no) no) hs hw

theorem Ex.asgS {es : List Expr} {xs : List Str} {vs : List V} {e : Expr} {k : Nat} {tpos pos : Pos} (h : Ev G n fm ρ e (.tuple vs)) (hx : ∀ x ∈ xs, Wrt fm x) (hl : xs.length = vs.length) (hn : φ.next (putAll ρ xs.reverse vs.reverse))
    (hs : swapsWithSole [.Tuple es k tpos] e pos.line fm.env = pure false := by rfl) (hw : swappedStores [.Tuple es k tpos] e fm.env = pure (some xs) := by rfl) : Ex G n fm ρ (.Assign [.Tuple es k tpos] e pos) φ := fun A s D P hA S =>
  c_Assign_Tuple_swapped (c_mono (h A s D P hA S) (fun c s' x => by
    obtain ⟨S', r⟩ := x
    cases r with
    | @tuple a _ cs hP ht hr =>
      have hlen := hr.length
      rw [show xs.length = cs.toArray.size by simp [hl, hlen]]
      refine up (wpAny_unpackItems_tuple hA.handled ht fun h' hk => ?_)
      have kk : ∀ b o, s'.heap.get? b = some o → h'.get? b = some o := fun b o e => hk b o (Nat.ne_of_lt (Heap.lt_size e)) e
      refine c_mono (asgNames (xs := xs.reverse) (vs := vs.reverse) (cs := cs.reverse) (by simp [hl]) (by simp) (fun i x t e1 e2 => ?_) (S'.grow (tk := s'.toks) kk) (RelL.reverse (hr.mono fun a o hP _ e => ⟨kk a o e, hP⟩))) (fun _ s'' S'' => ⟨_, hn, S''⟩) no
      rw [List.getElem?_map, e1] at e2
      cases e2
      exact ⟨hx x (List.mem_reverse.mp (List.mem_of_getElem? e1)), fun c Q E s q => c_bindName q⟩) no) hs hw
end
end Mine
end
section
open PySem PySem.W PySem.Calls PyProof.Rows
set_option Elab.async false
set_option maxRecDepth 100000
set_option linter.unusedVariables false
namespace Mine

/-- an object of the interpreter's own that walks along something -/
noncomputable def IterObj (o : Obj) : Prop := Tame o ∧ ∃ vs, o.data = .fields vs
theorem IterObj.notVar {o : Obj} (x : IterObj o) : ¬ VarObj o := fun q => by
  obtain ⟨_, vs, d⟩ := x
  rcases q with ⟨es, n, d'⟩ | ⟨v, d'⟩ <;> (rw [d] at d'; cases d')
theorem IterObj.notOwn {o : Obj} (x : IterObj o) : ¬ OwnObj o := fun q => by
  obtain ⟨_, vs, d⟩ := x
  rcases q with ⟨es, n, d'⟩ | ⟨v, n, d'⟩ <;> (rw [d] at d'; cases d')

section
variable {G : Gb} {D : Addr → Obj → Prop} {P : Addr → Prop} {fm : Fm} {ρ : Rho} {s : Shared} {n : Nat} {φ : Post}

theorem St.iter {h' : Heap} {tk : Nat} {wr : List Addr} (S : St G D P fm ρ s) (k : ∀ b o, b ∉ wr → s.heap.get? b = some o → h'.get? b = some o)
    (hw : ∀ b ∈ wr, (∀ o, ¬ D b o) ∧ P b ∧ ∃ o, s.heap.get? b = some o ∧ IterObj o) : St G D P fm ρ { s with heap := h', toks := tk } := by
  have kk : ∀ b o, ¬ IterObj o → s.heap.get? b = some o → h'.get? b = some o := fun b o q e => k b o (fun z => by
    obtain ⟨_, _, o', e', h'⟩ := hw b z; rw [e] at e'; cases e'; exact q h') e
  have kD : ∀ b o, D b o → h'.get? b = some o := fun b o e => k b o (fun z => (hw b z).1 o e) (S.keep b o e)
  exact {
    gst := ⟨fun b o e => kD b o (S.baseD b o e), fun t ht => (S.gst.tabs t ht).keeps (fun b o q e => kk b o (fun z => q z.1) e), S.gst.gens, S.gst.os⟩
    kind := S.kind
    glob := S.glob
    blt := S.blt
    baseD := S.baseD
    keep := kD
    tabD := S.tabD
    locD := S.locD
    wcD := S.wcD
    ownD := S.ownD
    loc := let ⟨m, o, es, ep, e, d, r⟩ := S.loc; ⟨m, o, es, ep, kk _ _ (fun z => z.notVar (.inl ⟨_, _, d⟩)) e, d, r⟩
    wcs := fun a ha => let ⟨v, o, e, d⟩ := S.wcs a ha; ⟨v, o, kk _ _ (fun z => z.notVar (.inr ⟨_, d⟩)) e, d⟩
    apart := S.apart
    vars := fun p hp => let ⟨c, x, y⟩ := S.vars p hp; ⟨c, x.keeps (fun b o q e => kk b o (fun z => z.notVar q) e), y.mono (fun a o hP q e => ⟨kk a o (fun z => z.notOwn (.inl q)) e, hP⟩) (fun a ha o e => by
      obtain ⟨o', e', h'⟩ := S.ownAt ⟨p, hp, ha⟩
      rw [e] at e'; cases e'
      exact kk a o (fun z => z.notOwn h') e) (fun a o q e => kk a o (fun z => by obtain ⟨zt, vs, d⟩ := z; rcases q with ⟨fd, d'⟩ | ⟨vs', q, t, d', hv⟩ <;> (first | (rw [d] at d'; cases d'; done) | exact (zt vs' d').2 q t hv)) e)⟩
    ownP := S.ownP
    ownNe := S.ownNe
    top := fun a ha => by
      by_cases z : a ∈ wr
      · exact (hw a z).2.1
      · refine S.top a ?_
        cases q : s.heap.get? a with
        | none => rfl
        | some o => rw [k a o z q] at ha; cases ha }

/-- an iterator at hand, still to give all of xs -/
noncomputable def IterAt (G : Gb) (n : Nat) (D : Addr → Obj → Prop) (P : Addr → Prop) (fm : Fm) (ρ : Rho) (xs : List V) (it : Value) (s : Shared) : Prop :=
  ∃ I fp wr Pv St', it = .ref I ∧ (∀ A, AOk n A → Walks G.prog G.w A I fp wr xs.length Pv St') ∧ St' 0 s.heap ∧
    (∀ b ∈ fp, b ≠ fm.env.locals ∧ b ∉ fm.wc ∧ ¬ Owned ρ b ∧ ¬ G.isTab b) ∧ (∀ b ∈ wr, (∀ o, ¬ D b o) ∧ P b) ∧ (∀ i h, St' i h → ∀ b ∈ wr, ∃ o, h.get? b = some o ∧ IterObj o) ∧
    (∀ i v x, xs[i]? = some x → Pv i v → ∀ h, (∀ b o, Cln P ρ b → SeqObj o → s.heap.get? b = some o → h.get? b = some o) → Rel (Cln P ρ) h x v) ∧ (∀ b ∈ fp, b < s.heap.objs.size)

noncomputable def EvIt (G : Gb) (n : Nat) (fm : Fm) (ρ : Rho) (e : Expr) (xs : List V) : Prop :=
  ∀ A s D P, AOk n A → St G D P fm ρ s → wpC G.M A (eval e fm.env) (fun x s1 => wpC G.M A (pyIter x) (fun it s2 => St G D P fm ρ s2 ∧ IterAt G n D P fm ρ xs it s2) (fun _ _ => False) s1) (fun _ _ => False) s

theorem SeqObj.notIter {o : Obj} (x : SeqObj o) : ¬ IterObj o := fun z => z.notOwn (.inl x)

theorem Ex.for_ {x : Str} {px pos : Pos} {iter : Expr} {body : List Stmt} {xs : List V} (hit : EvIt G n fm ρ iter xs) (I : Nat → Rho) (h0 : ∀ p ∈ I 0, p ∈ ρ) (hown : ∀ i a, Owned (I i) a → Owned ρ a) (hw : Wrt fm x)
    (hstep : ∀ i v, xs[i]? = some v → Run G n fm (put (I i) x (.val v)) body ⟨fun ρ' => ∀ p ∈ I (i + 1), p ∈ ρ', φ.ret, φ.next⟩)
    (hend : φ.next (I xs.length)) (hs : ∀ x, foldedSetIterable iter fm.env x = pure x := by intro _; rfl) : Ex G n fm ρ (.For (.Name x px) iter body [] pos) φ := fun A s D P hA S => by
  refine c_For (c_mono (hit A s D P hA S) (fun c s1 h1 => c_mono h1 (fun it s2 h2 => ?_) no) no) hs
  obtain ⟨S2, It, fp, wr, Pv, St', rfl, W, st0, hfp, hwr, hob, hval, _⟩ := h2
  have hD0 : ∀ b o, G.B.get? b = some o → D b o := S2.baseD
  -- what the loop keeps
  let D0 : Addr → Obj → Prop := fun b o => D b o ∨ (s2.heap.get? b = some o ∧ b ≠ fm.env.locals ∧ b ∉ fm.wc ∧ ¬ Owned ρ b ∧ ¬ G.isTab b ∧ b ∉ wr)
  have SD0 : ∀ {ρ' : Rho} {s' : Shared}, (∀ a, Owned ρ' a → Owned ρ a) → St G D P fm ρ' s' → (∀ b o, D0 b o → s'.heap.get? b = some o) → St G D0 P fm ρ' s' := fun ho S' hk =>
    { S' with
      baseD := fun b o e => .inl (hD0 b o e)
      keep := hk
      tabD := fun b o e => e.elim (S'.tabD b o) fun q => q.2.2.2.2.1
      locD := fun o e => e.elim (S'.locD o) fun q => q.2.1 rfl
      wcD := fun a ha o e => e.elim (S'.wcD a ha o) fun q => q.2.2.1 ha
      ownD := fun a ha o e => e.elim (S'.ownD a ha o) fun q => q.2.2.2.1 (ho a ha) }
  have hwr0 : ∀ b ∈ wr, ∀ o, ¬ D0 b o := fun b hb o e => e.elim ((hwr b hb).1 o) fun q => q.2.2.2.2.2 hb
  refine codeC_for (fun k s' => ∃ i, i ≤ xs.length ∧ k = xs.length - i ∧ St G D0 P fm (I i) s' ∧ St' i s'.heap) (fun k s' hI => ?_) xs.length
    ⟨0, Nat.zero_le _, rfl, SD0 (hown 0) (S2.sub h0) (fun b o e => e.elim (S2.keep b o) fun q => q.1), st0⟩
  obtain ⟨i, hi, rfl, Si, sti⟩ := hI
  have W' := W A hA
  by_cases hlt : i < xs.length
  · refine up (W'.item i s' _ _ hlt sti fun v h' tk hPv st' hk => ?_)
    have S' : St G D0 P fm (I i) { s' with heap := h', toks := tk } := Si.iter hk fun b hb => ⟨hwr0 b hb, (hwr b hb).2, hob i _ sti b hb⟩
    have hx : xs[i]? = some xs[i] := List.getElem?_eq_getElem hlt
    have hrel : Rel (Cln P ρ) h' xs[i] v := hval i v _ hx hPv h' fun b o hP q e => S'.keep b o (.inr ⟨e, (S2.seqApart e q).1, (S2.seqApart e q).2.1, hP.2, (S2.seqApart e q).2.2, fun z => by
      obtain ⟨o', e', h''⟩ := hob 0 _ st0 b z; rw [e] at e'; cases e'; exact q.notIter h''⟩)
    have hrel' : Rel (Cln P (I i)) h' xs[i] v := hrel.mono fun b o hP _ e => ⟨e, hP.1, fun q => hP.2 (hown i b q)⟩
    -- the body keeps the iterator too
    let D1 : Addr → Obj → Prop := fun b o => D0 b o ∨ (b ∈ fp ∧ h'.get? b = some o)
    have S1 : St G D1 P fm (I i) { s' with heap := h', toks := tk } :=
      { S' with
        baseD := fun b o e => .inl (S'.baseD b o e)
        keep := fun b o e => e.elim (S'.keep b o) fun q => q.2
        tabD := fun b o e => e.elim (S'.tabD b o) fun q => (hfp b q.1).2.2.2
        locD := fun o e => e.elim (S'.locD o) fun q => (hfp _ q.1).1 rfl
        wcD := fun a ha o e => e.elim (S'.wcD a ha o) fun q => (hfp a q.1).2.1 ha
        ownD := fun a ha o e => e.elim (S'.ownD a ha o) fun q => (hfp a q.1).2.2.1 (hown i a ha) }
    refine c_pure (c_assign_Name (c_mono (S1.storeV hw hrel') (fun _ s3 S3 => ?_) no))
    refine c_mono (hstep i _ hx A s3 D1 P hA S3) (fun f s4 x4 => ?_) no
    have back : ∀ {ρ' : Rho} {s4 : Shared}, St G D1 P fm ρ' s4 → St G D P fm ρ' s4 := fun S4 => S4.lessD (fun _ _ e => .inl (.inl e)) hD0
    cases f with
    | next =>
      obtain ⟨ρ', hsub, S4⟩ := x4
      refine ⟨_, by lia, i + 1, hlt, rfl, (S4.sub hsub).lessD (fun _ _ e => .inl e) S'.baseD, ?_⟩
      exact W'.frame _ _ _ st' fun b hb o e => S4.keep b o (.inr ⟨hb, e⟩)
    | ret c => obtain ⟨ρ', v', h1, S4, r⟩ := x4; exact ⟨ρ', v', h1, back S4, r⟩
    | brk => obtain ⟨ρ', h1, S4⟩ := x4; exact ⟨ρ', h1, back S4⟩
    | cont => exact x4.elim
  · have hie : i = xs.length := by lia
    subst hie
    refine up (W'.done s' _ _ sti fun h' tk hk => ?_)
    have S' : St G D0 P fm (I xs.length) { s' with heap := h', toks := tk } := Si.iter hk fun b hb => ⟨hwr0 b hb, (hwr b hb).2, hob _ _ sti b hb⟩
    exact c_execs_nil ⟨_, hend, S'.lessD (fun _ _ e => .inl e) hD0⟩

end
end Mine
end
section
open PySem PySem.W PySem.Calls PyProof.Rows
set_option Elab.async false
set_option maxRecDepth 100000
set_option linter.unusedVariables false
namespace Mine

section
variable {G : Gb} {D : Addr → Obj → Prop} {P : Addr → Prop} {fm : Fm} {ρ : Rho} {s s' : Shared} {n : Nat} {φ : Post}

/-- behind a call: all that was there is as it was, but the code tables -/
theorem St.call (S : St G D P fm ρ s) (g : Gst G s') (k : ∀ b o, ¬ G.isTab b → s.heap.get? b = some o → s'.heap.get? b = some o) : St G D P fm ρ s' := by
  have tabObjAt : ∀ {b o}, G.isTab b → s.heap.get? b = some o → ∃ ps, o = tabObj ps := fun q e => by
    obtain ⟨t, ht, rfl⟩ := q
    obtain ⟨ps, e'⟩ := tabOk_at (S.gst.tabs t ht)
    rw [e] at e'; cases e'; exact ⟨ps, rfl⟩
  have kv : ∀ b o, VarObj o → s.heap.get? b = some o → s'.heap.get? b = some o := fun b o v e => k b o (fun q => by
    obtain ⟨ps, rfl⟩ := tabObjAt q e; rcases v with ⟨_, _, d⟩ | ⟨_, d⟩ <;> cases d) e
  have ko : ∀ b o, OwnObj o → s.heap.get? b = some o → s'.heap.get? b = some o := fun b o v e => k b o (fun q => by
    obtain ⟨ps, rfl⟩ := tabObjAt q e; rcases v with ⟨_, _, d⟩ | ⟨_, _, d⟩ <;> cases d) e
  exact {
    gst := g
    kind := S.kind
    glob := S.glob
    blt := S.blt
    baseD := S.baseD
    keep := fun b o e => k b o (S.tabD b o e) (S.keep b o e)
    tabD := S.tabD
    locD := S.locD
    wcD := S.wcD
    ownD := S.ownD
    loc := let ⟨m, o, es, ep, e, d, r⟩ := S.loc; ⟨m, o, es, ep, kv _ _ (.inl ⟨_, _, d⟩) e, d, r⟩
    wcs := fun a ha => let ⟨v, o, e, d⟩ := S.wcs a ha; ⟨v, o, kv _ _ (.inr ⟨_, d⟩) e, d⟩
    apart := S.apart
    vars := fun p hp => let ⟨c, x, y⟩ := S.vars p hp; ⟨c, x.keeps kv, y.mono (fun a o hP q e => ⟨ko a o (.inl q) e, hP⟩) (fun a ha o e => by
      obtain ⟨o', e', h'⟩ := S.ownAt ⟨p, hp, ha⟩
      rw [e] at e'; cases e'
      exact ko a o h' e) (fun a o q e => k a o (fun z => by obtain ⟨t, ht, rfl⟩ := z; exact q.notTab (S.gst.tabs t ht) e) e)⟩
    ownP := S.ownP
    ownNe := S.ownNe
    top := fun a ha => S.top a (by
      cases q : s.heap.get? a with
      | none => rfl
      | some o =>
        by_cases z : G.isTab a
        · obtain ⟨t, ht, rfl⟩ := z
          obtain ⟨ps, e'⟩ := tabOk_at (g.tabs t ht)
          rw [ha] at e'; cases e'
        · rw [k a o z q] at ha; cases ha) }

/-- a def of the text: what a call of it gives -/
noncomputable def Fn (G : Gb) (n : Nat) (f : Addr) (args : List V) (r : V) : Prop :=
  ∀ A s P cs, AOk n A → Gst G s → (∀ a, s.heap.get? a = none → P a) → RelL P s.heap args cs →
    wpC G.M A (PySem.call (.ref f) cs) (fun c s' => Gst G s' ∧ (∀ b o, ¬ G.isTab b → s.heap.get? b = some o → s'.heap.get? b = some o) ∧ Rel P s'.heap r c) (fun _ _ => False) s

theorem St.topCln (S : St G D P fm ρ s) : ∀ a, s.heap.get? a = none → Cln P ρ a := fun a e => ⟨S.top a e, fun q => by obtain ⟨o, e', _⟩ := S.ownAt q; rw [e] at e'; cases e'⟩

theorem Fn.op {f : Addr} {args : List V} {r : V} {m : Nat} (h : Fn G m f args r) (hm : m ≤ n) : OpL G n (fun cs => PySem.call (.ref f) cs) args r := fun A s D P fm ρ cs hA S hr =>
  c_mono (h A s (Cln P ρ) cs (hA.mono hm) S.gst S.topCln hr) (fun c s' x => ⟨S.call x.1 x.2.1, x.2.2⟩) no

/-! a def's own call -/
theorem bindL_not {k : Str → Option NameKind} : ∀ {bs : List (Str × Value)} {m : Str → Option Value} {x : Str}, x ∉ bs.map (·.1) → bindL k bs m x = m x
  | [], _, _, _ => rfl
  | (y, v) :: r, m, x, h => by
    simp only [List.map_cons, List.mem_cons, not_or] at h
    unfold bindL
    rw [bindL_not h.2]
    split
    · exact if_neg h.1
    · rfl
theorem bindC_not {k : Str → Option NameKind} : ∀ {bs : List (Str × Value)} {m : Str → Option Value} {x : Str}, x ∉ bs.map (·.1) → bindC k bs m x = m x
  | [], _, _, _ => rfl
  | (y, v) :: r, m, x, h => by
    simp only [List.map_cons, List.mem_cons, not_or] at h
    unfold bindC
    rw [bindC_not h.2]
    split
    · rfl
    · exact if_neg h.1
theorem bindL_get {k : Str → Option NameKind} : ∀ {bs : List (Str × Value)} {m : Str → Option Value} {x : Str} {v : Value}, (bs.map (·.1)).Nodup → (x, v) ∈ bs → k x = some .local → bindL k bs m x = some v
  | (y, w) :: r, m, x, v, hn, hm, hk => by
    simp only [List.map_cons, List.nodup_cons] at hn
    unfold bindL
    rcases List.mem_cons.mp hm with e | hm
    · cases e
      rw [bindL_not hn.1, if_pos hk]; exact if_pos rfl
    · exact bindL_get hn.2 hm hk
theorem bindC_get {k : Str → Option NameKind} : ∀ {bs : List (Str × Value)} {m : Str → Option Value} {x : Str} {v : Value}, (bs.map (·.1)).Nodup → (x, v) ∈ bs → k x ≠ some .local → bindC k bs m x = some v
  | (y, w) :: r, m, x, v, hn, hm, hk => by
    simp only [List.map_cons, List.nodup_cons] at hn
    unfold bindC
    rcases List.mem_cons.mp hm with e | hm
    · cases e
      rw [bindC_not hn.1, if_neg hk]; exact if_pos rfl
    · exact bindC_get hn.2 hm hk

noncomputable def cellAddrs (L : Addr) (sc : Scope) : List Addr := (cellsFrom (L + 1) sc.names []).map (·.2)
noncomputable def frameOf (fd : FuncData) (L f : Addr) : Fm := ⟨callEnvC fd L f, cellAddrs L fd.scope⟩

theorem mem_zip_of : ∀ {xs : List Str} {vs : List V} {cs : List Value} {P : Addr → Prop} {h : Heap}, RelL P h vs cs → ∀ {x : Str} {sl : Slot}, (x, sl) ∈ xs.zip (vs.map Slot.val) → ∃ c v, (x, c) ∈ xs.zip cs ∧ sl = .val v ∧ Rel P h v c
  | [], _, _, _, _, _, x, sl, hm => by simp at hm
  | _ :: _, _, _, _, _, .nil, x, sl, hm => by simp at hm
  | y :: xs, _, _, _, _, .cons (v := v) (c := c) a b, x, sl, hm => by
    simp only [List.map_cons, List.zip_cons_cons, List.mem_cons] at hm
    rcases hm with e | hm
    · cases e; exact ⟨c, v, by simp, rfl, a⟩
    · obtain ⟨c', v', h1, h2, h3⟩ := mem_zip_of b hm
      exact ⟨c', v', by simp [h1], h2, h3⟩

theorem owned_vals {xs : List Str} {vs : List V} {a : Addr} (h : Owned (xs.zip (vs.map Slot.val)) a) : False := by
  obtain ⟨⟨x, sl⟩, hp, e⟩ := h
  have := (List.of_mem_zip hp).2
  obtain ⟨v, _, rfl⟩ := List.mem_map.mp this
  cases e

theorem Fn.body {f : Addr} {o : Obj} {fd : FuncData} {body : List Stmt} {xs : List Str} {args : List V} {r : V} (hG : GbOk G) (hf : G.B.get? f = some o) (hd : o.data = .func fd) (hb : fd.body = .stmts body) (hcd : G.B.CodeRec fd.code fd.qualname)
    (hgl : fd.globals = mainGlobals) (hbl : fd.builtins = builtinsNs) (hcl : fd.closure = [])
    (hbind : ∀ cs : List Value, cs.length = args.length → bindArgs fd ⟨cs, []⟩ = pure (xs.zip cs)) (hxs : xs.length = args.length) (hnd : xs.Nodup) (hcn : ((cellsFrom 0 fd.scope.names []).map (·.1)).Nodup)
    (hkind : ∀ L, ∀ x ∈ xs, fd.scope.names.lookup x = some .local ∨ (fd.scope.names.lookup x = some .cell ∧ ((cellsFrom (L + 1) fd.scope.names []).lookup x).isSome = true))
    (h : ∀ L, Run G n (frameOf fd L f) (xs.zip (args.map Slot.val)) body ⟨fun _ => r = .none, fun _ v => v = r, fun _ => False⟩)
    (hco : fd.scope.isCoroutine = false := by rfl) (hgen : fd.scope.isGenerator = false := by rfl) (hk : fd.scope.kind = .function := by rfl) : Fn G (n + 1) f args r := fun A s P cs hA g htop hr => by
  have hlen := hr.length
  refine c_call (codeC_call_cells (fd := fd) (binds := xs.zip cs) hA.room (g.base _ _ hf) hd (hG.nolimit.keeps g.base) (hcd.keeps g.base) hb (hbind cs hlen) hcl (fun x hx => hkind _ x.1 (List.of_mem_zip hx).1) (fun s₁ X => ?_) hco hgen hk)
  generalize hL : s.heap.objs.size = L at X ⊢
  have keep := X.toInCall.keep
  obtain ⟨h₁, tk, rfl⟩ := X.toInCall.same
  have hLnone : ∀ a, L ≤ a → s.heap.get? a = none := fun a ha => Heap.get?_none_of_le (by rw [hL]; exact ha)
  have hnames : (xs.zip cs).map (·.1) = xs := by rw [List.map_fst_zip]; lia
  have hcell : ∀ a ∈ cellAddrs L fd.scope, ∃ nm, (nm, a) ∈ (callEnvC fd L f).cells := fun a ha => by
    obtain ⟨⟨nm, a'⟩, h1, rfl⟩ := List.mem_map.mp ha; exact ⟨nm, h1⟩
  have S : St G (fun b o => s.heap.get? b = some o ∧ ¬ G.isTab b) P (frameOf fd L f) (xs.zip (args.map Slot.val)) { s with heap := h₁, toks := tk } :=
    { gst := g.keeps (fun b o _ e => keep b o e) (fun b o _ e => keep b o e)
      kind := hk
      glob := hgl
      blt := hbl
      baseD := fun b o e => ⟨g.base b o e, fun q => by obtain ⟨t, ht, rfl⟩ := q; rw [hG.hid t ht] at e; cases e⟩
      keep := fun b o e => keep b o e.1
      tabD := fun b o e => e.2
      locD := fun o e => by have : s.heap.get? L = some o := e.1; rw [hLnone _ (Nat.le_refl _)] at this; cases this
      wcD := fun a ha o e => by
        obtain ⟨nm, h1⟩ := hcell a ha
        have := e.1; rw [hLnone a (Nat.le_of_lt (X.above nm a h1))] at this; cases this
      ownD := fun a ha => (owned_vals ha).elim
      loc := ⟨_, X.toInCall.ns⟩
      wcs := fun a ha => by
        obtain ⟨nm, h1⟩ := hcell a ha
        exact ⟨_, X.cell nm a (lookup_of_mem_nodup (cellsFrom_names fd.scope.names 0 (L + 1) [] [] rfl ▸ hcn) h1)⟩
      apart := X.apart
      vars := fun p hp => by
        obtain ⟨x, sl⟩ := p
        obtain ⟨c, v, h1, rfl, h3⟩ := mem_zip_of hr hp
        refine ⟨c, ?_, h3.mono fun a o hP _ e => ⟨keep a o e, hP, fun q => owned_vals q⟩⟩
        rcases hkind L x (List.of_mem_zip h1).1 with hl | ⟨hl, hc⟩
        · exact .inl ⟨hl, _, X.toInCall.ns, bindL_get (by rw [hnames]; exact hnd) h1 hl⟩
        · obtain ⟨a, ha⟩ := Option.isSome_iff_exists.mp hc
          refine .inr ⟨.inl hl, a, ha, ?_⟩
          have := X.cell x a ha
          rw [bindC_get (by rw [hnames]; exact hnd) h1 (by show fd.scope.names.lookup x ≠ _; rw [hl]; decide)] at this
          exact this
      ownP := fun a ha => (owned_vals ha).elim
      ownNe := fun p hp q hq a ha => (owned_vals ⟨p, hp, ha⟩).elim
      top := fun a ha => htop a (none_back keep ha) }
  refine c_mono (h L _ _ _ P hA.deeper S) (fun fl s' x => ?_) no
  have fin : ∀ {ρ' : Rho} {v : V} {c : Value}, St G (fun b o => s.heap.get? b = some o ∧ ¬ G.isTab b) P (frameOf fd L f) ρ' s' → v = r → Rel (Cln P ρ') s'.heap v c →
      Gst G s' ∧ (∀ b o, ¬ G.isTab b → s.heap.get? b = some o → s'.heap.get? b = some o) ∧ Rel P s'.heap r c := fun S' hv hr' =>
    ⟨S'.gst, fun b o q e => S'.keep b o ⟨e, q⟩, hv ▸ hr'.mono fun a o hP _ e => ⟨e, hP.1⟩⟩
  cases fl with
  | next => obtain ⟨ρ', hv, S'⟩ := x; exact fin (v := .none) S' hv.symm .none
  | ret c => obtain ⟨ρ', v, hv, S', hr'⟩ := x; exact fin S' hv hr'
  | brk => obtain ⟨ρ', hv, _⟩ := x; exact hv.elim
  | cont => exact x.elim
end
end Mine
end
section
open PySem PySem.W PySem.Calls PyProof.Rows
set_option Elab.async false
set_option maxRecDepth 100000
set_option linter.unusedVariables false
namespace Mine

section
variable {G : Gb} {n : Nat} {a b : Int}

theorem op2int {f : Value → Value → Sem Value} {r : V} (h : ∀ A s t u (Q : Value → Shared → Prop) (E : Value → Shared → Prop), (∀ c tk, Rel (fun _ => False) s.heap r c → Q c { s with toks := tk }) → wpAny G.M A (f (.int a t) (.int b u)) Q E s) : Op2 G n f (.int a) (.int b) r := fun A s D P fm ρ c1 c2 hA S r1 r2 => by
  cases r1; cases r2
  exact up (h A s _ _ _ _ fun c tk hc => ⟨S.tok, hc.mono fun _ _ q => q.elim⟩)

theorem Op2.add : Op2 G n (binaryOp .Add) (.int a) (.int b) (.int (a + b)) := op2int fun _ _ _ _ _ _ h => add_int (h _ _ (.int _ _))
theorem Op2.iadd : Op2 G n (inplaceOp .Add) (.int a) (.int b) (.int (a + b)) := op2int fun _ _ _ _ _ _ h => iadd_int (h _ _ (.int _ _))
theorem Op2.sub : Op2 G n (binaryOp .Sub) (.int a) (.int b) (.int (a - b)) := op2int fun _ _ _ _ _ _ h => sub_int (h _ _ (.int _ _))
theorem Op2.mul (hm : IntMulOk a b) : Op2 G n (binaryOp .Mult) (.int a) (.int b) (.int (a * b)) := op2int fun _ _ _ _ _ _ h => mul_int (h _ _ (.int _ _)) hm
theorem Op2.mod (hb : b ≠ 0) : Op2 G n (binaryOp .Mod) (.int a) (.int b) (.int (a.fmod b)) := op2int fun _ _ _ _ _ _ h => mod_int hb (h _ _ (.int _ _))
theorem Op2.div (hb : b ≠ 0) (hp : Builtin.divisionGoesByPylong a b = false) : Op2 G n (binaryOp .FloorDiv) (.int a) (.int b) (.int (a.fdiv b)) := op2int fun _ _ _ _ _ _ h => floordiv_int hb (h _ _ (.int _ _)) (.inl hp)
theorem Op2.shl (hn : 0 ≤ b) (hz : (Builtin.Int.intBits a : Int) + b ≤ 2 ^ 27) : Op2 G n (binaryOp .LShift) (.int a) (.int b) (.int (a * 2 ^ b.toNat)) := op2int fun _ _ _ _ _ _ h => lshift_int hn hz (h _ _ (.int _ _))
theorem Op2.shr (hn : 0 ≤ b) : Op2 G n (binaryOp .RShift) (.int a) (.int b) (.int (a.fdiv (2 ^ b.toNat))) := op2int fun _ _ _ _ _ _ h => rshift_int hn (h _ _ (.int _ _))
theorem Op2.xor : Op2 G n (binaryOp .BitXor) (.int a) (.int b) (.int (Builtin.bitXor a b)) := op2int fun _ _ _ _ _ _ h => xor_int (h _ _ (.int _ _))
theorem Op2.eq : Op2 G n (compareOp .Eq) (.int a) (.int b) (.bool (a == b)) := op2int fun _ s _ _ _ _ h => eq_int (h _ s.toks (.bool _))
theorem Op2.ne : Op2 G n (compareOp .NotEq) (.int a) (.int b) (.bool (a != b)) := op2int fun _ s _ _ _ _ h => ne_int (h _ s.toks (.bool _))
theorem Op2.lt : Op2 G n (compareOp .Lt) (.int a) (.int b) (.bool (decide (a < b))) := op2int fun _ s _ _ _ _ h => lt_int (h _ s.toks (.bool _))
theorem Op2.le : Op2 G n (compareOp .LtE) (.int a) (.int b) (.bool (decide (a ≤ b))) := op2int fun _ s _ _ _ _ h => le_int (h _ s.toks (.bool _))
theorem Op2.gt : Op2 G n (compareOp .Gt) (.int a) (.int b) (.bool (decide (b < a))) := op2int fun _ s _ _ _ _ h => gt_int (h _ s.toks (.bool _))
theorem op1int {f : Value → Sem Value} {r : V} (h : ∀ A s t (Q : Value → Shared → Prop) (E : Value → Shared → Prop), (∀ c tk, Rel (fun _ => False) s.heap r c → Q c { s with toks := tk }) → wpAny G.M A (f (.int a t)) Q E s) : Op1 G n f (.int a) r := fun A s D P fm ρ c1 hA S r1 => by
  cases r1
  exact up (h A s _ _ _ fun c tk hc => ⟨S.tok, hc.mono fun _ _ q => q.elim⟩)
theorem Op1.neg : Op1 G n (unaryOp .USub) (.int a) (.int (-a)) := op1int fun _ _ _ _ _ h => neg_int (h _ _ (.int _ _))
theorem Op1.inv : Op1 G n (unaryOp .Invert) (.int a) (.int (Builtin.bitNot a)) := op1int fun _ _ _ _ _ h => invert_int (h _ _ (.int _ _))

/-! lists -/
theorem Op2.cat {xs ys : List V} (hz : xs.length + ys.length ≤ sizeLine) : Op2 G n (binaryOp .Add) (.list xs) (.list ys) (.list (xs ++ ys)) := fun A s D P fm ρ c1 c2 hA S r1 r2 => by
  cases r1 with
  | @list a1 _ vs p1 l1 h1 => cases r2 with
    | @list a2 _ ws p2 l2 h2 =>
      obtain ⟨⟨cls, dd, data, sl⟩, ho, hc, k, hd⟩ := id l1
      obtain ⟨⟨cls2, dd2, data2, sl2⟩, ho2, hc2, k2, hd2⟩ := id l2
      simp only at hc hd hc2 hd2
      subst hc hd hc2 hd2
      refine up (concat_meets ⟨_, ho, rfl⟩ ⟨_, ho2, rfl⟩ noFill_list_add seq_list_add PySem.F.slot_list_add PySem.F.entry_list_add (PySem.F.args_list_add_2 _ _)
        (list_addW a1 a2 vs.toArray ws.toArray k k2 dd dd2 sl sl2 (by have := h1.length; have := h2.length; simp; lia)) ⟨ho, ho2, ?_⟩)
      refine ⟨S.push (tk := s.toks) _, .list (vs := vs ++ ws) (S.topCln _ (Heap.get?_none_of_le (Nat.le_refl _))) ⟨_, Heap.get?_push_size _ rfl, rfl, 0, by simp⟩ ?_⟩
      exact (h1.append h2).mono fun a o hP _ e => ⟨Heap.get?_push_of_some _ e, hP⟩

end

section
variable {G : Gb} {n : Nat} {fm : Fm} {ρ : Rho}
theorem Ev.list {es : List Expr} {pos : Pos} {vs : List V} (h : EvL G n fm ρ es vs) (hz : vs.length ≤ sizeLine) : Ev G n fm ρ (.List es pos) (.list vs) := fun A s D P hA S =>
  c_List (c_mono (h A s D P pos hA S) (fun cs s' x => up (wpAny_newObj_type ⟨x.1.push (tk := s'.toks) _, .list (x.1.topCln _ (Heap.get?_none_of_le (Nat.le_refl _))) ⟨_, Heap.get?_push_size _ rfl, rfl, 0, rfl⟩ (x.2.mono fun a o hP _ e => ⟨Heap.get?_push_of_some _ e, hP⟩)⟩
    (by show cs.toArray.size ≤ sizeLine; rw [List.size_toArray, x.2.length]; exact hz))) no)
theorem Ev.tup {es : List Expr} {k : Nat} {pos : Pos} {vs : List V} (h : EvL G n fm ρ es vs) (hz : vs.length ≤ sizeLine) : Ev G n fm ρ (.Tuple es k pos) (.tuple vs) := fun A s D P hA S =>
  c_Tuple (c_mono (h A s D P pos hA S) (fun cs s' x => up (wpAny_newObj_type ⟨x.1.push (tk := s'.toks) _, .tuple (x.1.topCln _ (Heap.get?_none_of_le (Nat.le_refl _))) ⟨_, Heap.get?_push_size _ rfl, rfl, 0, rfl⟩ (x.2.mono fun a o hP _ e => ⟨Heap.get?_push_of_some _ e, hP⟩)⟩
    (by show cs.toArray.size ≤ sizeLine; rw [List.size_toArray, x.2.length]; exact hz))) no)
end
end Mine
end
section
open PySem PySem.W PySem.Calls PyProof.Rows
set_option Elab.async false
set_option maxRecDepth 100000
set_option linter.unusedVariables false
namespace Mine

section
variable {G : Gb} {n : Nat} {fm : Fm} {ρ : Rho} {D : Addr → Obj → Prop} {P : Addr → Prop} {s : Shared}

theorem St.freshApart (S : St G D P fm ρ s) {a : Addr} (e : s.heap.get? a = none) : a ≠ fm.env.locals ∧ a ∉ fm.wc ∧ ¬ Owned ρ a ∧ ¬ G.isTab a := by
  refine ⟨fun q => ?_, fun q => ?_, fun q => ?_, fun q => ?_⟩
  · obtain ⟨m, o, es, ep, e', _⟩ := S.loc; rw [← q, e] at e'; cases e'
  · obtain ⟨v, o, e', _⟩ := S.wcs a q; rw [e] at e'; cases e'
  · obtain ⟨o, e', _⟩ := S.ownAt q; rw [e] at e'; cases e'
  · obtain ⟨t, ht, rfl⟩ := q; obtain ⟨ps, e'⟩ := tabOk_at (S.gst.tabs t ht); rw [e] at e'; cases e'
theorem size_none (h : Heap) : h.get? h.objs.size = none := Heap.get?_none_of_le (Nat.le_refl _)
theorem St.freshD (S : St G D P fm ρ s) {a : Addr} (e : s.heap.get? a = none) (o : Obj) : ¬ D a o := fun q => by rw [S.keep a o q] at e; cases e

theorem EvIt.list {e : Expr} {xs : List V} (h : Ev G n fm ρ e (.list xs)) : EvIt G n fm ρ e xs := fun A s D P hA S =>
  c_mono (h A s D P hA S) (fun c s1 x => by
    obtain ⟨S1, r⟩ := x
    cases r with
    | @list a _ vs hP hl hr =>
      refine up (wpAny_pyIter_list hl ?_)
      have hI := size_none s1.heap
      have hne : a ≠ s1.heap.objs.size := fun q => by obtain ⟨o, e, _⟩ := hl; rw [q, hI] at e; cases e
      have hlen := hr.length
      refine ⟨S1.push (tk := s1.toks) _, s1.heap.objs.size, [s1.heap.objs.size, a], [s1.heap.objs.size], fun i v => vs.toArray[i]? = some v, fun i h => h.IsListIter s1.heap.objs.size a i ∧ h.IsList a vs.toArray, rfl, fun A' hA' => ?_, ?_, ?_, ?_, ?_, ?_, ?_⟩
      · have := Walks.list (prog := G.prog) (w := G.w) hA'.handled s1.heap.objs.size a hne vs.toArray
        rw [show vs.toArray.size = xs.length by simp [hlen]] at this
        exact this
      · exact ⟨⟨_, Heap.get?_push_size _ rfl, rfl, rfl⟩, hl.push _⟩
      · intro b hb
        rcases List.mem_cons.mp hb with rfl | hb
        · exact S1.freshApart hI
        · rw [List.mem_singleton.mp hb]
          obtain ⟨o, e, q⟩ := isList_seq hl
          exact ⟨(S1.seqApart e q).1, (S1.seqApart e q).2.1, hP.2, (S1.seqApart e q).2.2⟩
      · intro b hb
        rw [List.mem_singleton.mp hb]
        exact ⟨S1.freshD hI, S1.top _ hI⟩
      · intro i h st b hb
        rw [List.mem_singleton.mp hb]
        obtain ⟨o, e, hc, hd⟩ := st.1
        exact ⟨o, e, fun vs' e' => ⟨by rw [hc]; nofun, fun q t => by rw [hd] at e'; cases e'; simp⟩, _, hd⟩
      · intro i v x hx hv h hk
        obtain ⟨c, e1, r1⟩ := hr.get hx
        have : v = c := by simpa [e1] using hv.symm
        subst this
        exact r1.mono fun b o hP q e => ⟨hk b o hP q (Heap.get?_push_of_some _ e), hP⟩
      · intro b hb
        show b < (s1.heap.push _).objs.size
        rw [Heap.size_push]
        rcases List.mem_cons.mp hb with rfl | hb
        · exact Nat.lt_succ_self _
        · rw [List.mem_singleton.mp hb]; obtain ⟨o, e, _⟩ := hl; exact Nat.lt_succ_of_lt (Heap.lt_size e)) no

theorem callWith_q {A : Around} {f : Value} {es : List Expr} {vs : List V} {pos : Pos} {Q : Value → Shared → Prop} (hf : Callee G f) (hA : AOk n A) (S : St G D P fm ρ s)
    (hs : EvL G n fm ρ es vs) (h : ∀ cs s1, St G D P fm ρ s1 → RelL (Cln P ρ) s1.heap vs cs → wpC G.M A (PySem.call f cs) Q (fun _ _ => False) s1) (hplain : (backTo pos (starEach es fm.env)).any (·.1) = false)
    (hne : es ≠ []) :
    wpC G.M A (callWith pos f [] (backTo pos (starEach es fm.env)) []) Q (fun _ _ => False) s := by
  refine c_callWith (P := fun hp => ∀ b o, G.B.get? b = some o → hp.get? b = some o) (by rw [hplain]; rfl) (fun hp k => hf.keeper k) ?_
  cases es with
  | nil => exact absurd rfl hne
  | cons e r =>
    have key := hs A s D P pos hA S
    cases q : starEach (e :: r) fm.env with
    | nil => cases e <;> cases q
    | cons y ys =>
      rw [q] at key hplain
      obtain ⟨st, x⟩ := y
      cases st with
      | true => simp [backTo] at hplain
      | false =>
        exact c_evalArgs_plain (c_mono key (fun cs s1 x1 => ⟨x1.1.gst.base, h cs s1 x1.1 x1.2⟩) no)

noncomputable def OpIt (G : Gb) (n : Nat) (f : List Value → Sem Value) (vs : List V) (xs : List V) : Prop :=
  ∀ A s D P fm ρ cs, AOk n A → St G D P fm ρ s → RelL (Cln P ρ) s.heap vs cs →
    wpC G.M A (f cs) (fun x s1 => wpC G.M A (pyIter x) (fun it s2 => St G D P fm ρ s2 ∧ IterAt G n D P fm ρ xs it s2) (fun _ _ => False) s1) (fun _ _ => False) s

theorem EvIt.callB {x : Str} {npos pos : Pos} {es : List Expr} {f : Value} {vs : List V} {xs : List V} (hG : GbOk G) (hm : G.mg x = none) (hb : bootBuiltins x = some f) (hf : Callee G f) (hs : EvL G n fm ρ es vs) (h : OpIt G n (fun cs => PySem.call f cs) vs xs)
    (hn : x ≠ "__name__" := by decide) (hx : fm.env.kindOf x = some .globalImplicit := by rfl) (hd : (x == ("__debug__" : Str)) = false := by decide)
    (hplain : (backTo pos (starEach es fm.env)).any (·.1) = false := by rfl) (hne : es ≠ [] := by simp)
    (he : eval (.Call (.Name x npos) es [] pos) fm.env = (do callWith pos (← eval (.Name x npos) fm.env) [] (backTo pos (starEach es fm.env)) (backToKw pos (keywordEach [] fm.env))) := by rfl) :
    EvIt G n fm ρ (.Call (.Name x npos) es [] pos) xs := fun A s D P hA S =>
  c_Call (up (Name_function_global S.kind hx (loadGlobal_builtin (S.glob ▸ hG.g.keeps S.gst.base) hm (S.blt ▸ hG.b.keeps S.gst.base) ((hG.builtins x hn).trans hb) (callWith_q hf hA S hs (fun cs s1 S1 r => h A s1 D P fm ρ cs hA S1 r) hplain hne)) hd)) he

/-- the ints of a range -/
noncomputable def rangeV (a c : Int) (k : Nat) : List Int := (List.range k).map fun (i : Nat) => a + (i : Int) * c

theorem iter_range {A : Around} {r : Addr} {a b c : Int} {t u v : Tok} (S : St G D P fm ρ s) (hr : IsRange s.heap r a b c t u v) (hsm : Builtin.Range.small a b c = true) (hk : 0 ≤ Builtin.Range.rangeSize a b c) :
    wpC G.M A (pyIter (.ref r)) (fun it s2 => St G D P fm ρ s2 ∧ IterAt G n D P fm ρ (vi (rangeV a c (Builtin.Range.rangeSize a b c).toNat)) it s2) (fun _ _ => False) s := by
  refine up (wpAny_pyIter_range hr hsm ?_)
  have hI := size_none s.heap
  refine ⟨S.push (tk := s.toks) _, s.heap.objs.size, [s.heap.objs.size], [s.heap.objs.size], fun i v => ∃ t, v = .int (a + i * c) t, fun i h => IsRangeIter h s.heap.objs.size (a + (i : Nat) * c) (((Builtin.Range.rangeSize a b c).toNat : Int) - (i : Nat)) c, rfl, fun A' hA' => ?_, ?_, ?_, ?_, ?_, ?_, ?_⟩
  · have := Walks.range (prog := G.prog) (w := G.w) hA'.handled s.heap.objs.size a c (Builtin.Range.rangeSize a b c).toNat
    rw [show (vi (rangeV a c (Builtin.Range.rangeSize a b c).toNat)).length = (Builtin.Range.rangeSize a b c).toNat by simp [rangeV]]
    exact this
  · have : (((Builtin.Range.rangeSize a b c).toNat : Nat) : Int) = Builtin.Range.rangeSize a b c := Int.toNat_of_nonneg hk
    show (s.heap.push _).get? _ = _
    rw [Heap.get?_push_size _ rfl]
    simp [this]
  · intro b hb
    rw [List.mem_singleton.mp hb]
    exact S.freshApart hI
  · intro b hb
    rw [List.mem_singleton.mp hb]
    exact ⟨S.freshD hI, S.top _ hI⟩
  · intro i h st b hb
    rw [List.mem_singleton.mp hb]
    exact ⟨_, st, fun vs' e' => ⟨nofun, fun q t => by cases e'; simp [rawInt]⟩, _, rfl⟩
  · rintro i v x hx ⟨t, rfl⟩ h hk
    simp only [vi, rangeV, List.map_map, List.getElem?_map] at hx
    cases hq : (List.range (Builtin.Range.rangeSize a b c).toNat)[i]? with
    | none => rw [hq] at hx; cases hx
    | some j =>
      rw [hq] at hx
      have : j = i := by
        have := List.getElem?_eq_some_iff.mp hq
        obtain ⟨h1, h2⟩ := this
        rw [List.getElem_range] at h2
        exact h2.symm
      subst this
      cases hx
      exact .int _ _
  · intro b hb
    show b < (s.heap.push _).objs.size
    rw [Heap.size_push, List.mem_singleton.mp hb]
    exact Nat.lt_succ_self _

theorem small_pos {a b c : Int} (hc : 0 < c) (ha : -(2 ^ 40) ≤ a ∧ a ≤ 2 ^ 40) (hb : -(2 ^ 40) ≤ b ∧ b ≤ 2 ^ 40) (hc2 : c ≤ 2 ^ 40) : Builtin.Range.small a b c = true ∧ 0 ≤ Builtin.Range.rangeSize a b c := by
  have h1 : 0 ≤ Builtin.Range.rangeSize a b c ∧ Builtin.Range.rangeSize a b c ≤ 2 ^ 41 := by
    unfold Builtin.Range.rangeSize
    rw [if_pos hc]
    split
    · have h0 : 0 ≤ (b - a - 1) / c := Int.ediv_nonneg (by lia) (by lia)
      have h2 : (b - a - 1) / c ≤ b - a - 1 := Int.ediv_le_self _ (by lia)
      lia
    · lia
  refine ⟨?_, h1.1⟩
  unfold Builtin.Range.small Builtin.Range.rangeFitsLong
  simp only [Bool.and_eq_true, decide_eq_true_eq, Bool.or_eq_true]
  refine ⟨⟨⟨⟨⟨by lia, by lia⟩, by lia, by lia⟩, by lia, by lia⟩, by lia, by lia⟩, .inr ?_⟩
  rw [if_pos hc]
  simp only [Bool.and_eq_true, decide_eq_true_eq]
  lia

theorem OpIt.range1 {b : Int} (hb : -(2 ^ 40) ≤ b ∧ b ≤ 2 ^ 40) : OpIt G n (fun cs => PySem.call (.type "range") cs) [.int b] (vi (rangeV 0 1 b.toNat)) := fun A s D P fm ρ cs hA S r => by
  obtain ⟨c90, rfl, r90⟩ := RelL.one r
  obtain ⟨t, rfl⟩ := Rel.intAt r90
  refine up (call_range_1 ?_)
  have hs := small_pos (a := 0) (b := b) (c := 1) (by lia) (by lia) hb (by lia)
  have := iter_range (n := n) (A := A) (S.push (tk := s.toks + 1 + 1) _) (IsRange.new s.heap 0 b 1 s.toks t (s.toks + 1)) hs.1 hs.2
  have e : (Builtin.Range.rangeSize 0 b 1).toNat = b.toNat := by rw [rangeSize_one]; split <;> lia
  rw [e] at this
  exact this
theorem OpIt.range2 {a b : Int} (ha : -(2 ^ 40) ≤ a ∧ a ≤ 2 ^ 40) (hb : -(2 ^ 40) ≤ b ∧ b ≤ 2 ^ 40) : OpIt G n (fun cs => PySem.call (.type "range") cs) [.int a, .int b] (vi (rangeV a 1 (b - a).toNat)) := fun A s D P fm ρ cs hA S r => by
  obtain ⟨c90, c91, rfl, r90, r91⟩ := RelL.two r
  obtain ⟨t, rfl⟩ := Rel.intAt r90
  obtain ⟨u, rfl⟩ := Rel.intAt r91
  refine up (call_range_2 ?_)
  have hs := small_pos (a := a) (b := b) (c := 1) (by lia) ha hb (by lia)
  have := iter_range (n := n) (A := A) (S.push (tk := s.toks + 1) _) (IsRange.new s.heap a b 1 t u s.toks) hs.1 hs.2
  have e : (Builtin.Range.rangeSize a b 1).toNat = (b - a).toNat := by rw [rangeSize_one]; split <;> lia
  rw [e] at this
  exact this
theorem OpIt.range3 {a b c : Int} (hc : 0 < c) (hc2 : c < 1073741824) (ha : -(2 ^ 40) ≤ a ∧ a ≤ 2 ^ 40) (hb : -(2 ^ 40) ≤ b ∧ b ≤ 2 ^ 40) : OpIt G n (fun cs => PySem.call (.type "range") cs) [.int a, .int b, .int c] (vi (rangeV a c (Builtin.Range.rangeSize a b c).toNat)) := fun A s D P fm ρ cs hA S r => by
  obtain ⟨c90, c91, c92, rfl, r90, r91, r92⟩ := RelL.three r
  obtain ⟨t, rfl⟩ := Rel.intAt r90
  obtain ⟨u, rfl⟩ := Rel.intAt r91
  obtain ⟨v, rfl⟩ := Rel.intAt r92
  refine up (call_range_3 (by lia) ?_ (.inl (PyProof.noPylong_small (by lia))))
  have hs := small_pos (a := a) (b := b) (c := c) hc ha hb (by lia)
  exact iter_range (n := n) (A := A) (S.push (tk := s.toks) _) (IsRange.new s.heap a b c t u v) hs.1 hs.2

theorem OpIt.reversed {xs : List V} : OpIt G n (fun cs => PySem.call (.type "reversed") cs) [.list xs] xs.reverse := fun A s D P fm ρ cs hA S r => by
  obtain ⟨c90, rfl, r90⟩ := RelL.one r
  obtain ⟨a, vs, rfl, hP, hl, hr⟩ := Rel.listAt r90
  refine up (call_reversed_list hl ?_)
  have hI := size_none s.heap
  have hne : a ≠ s.heap.objs.size := fun q => by obtain ⟨o, e, _⟩ := hl; rw [q, hI] at e; cases e
  have hlen := hr.length
  have hrev : Heap.IsRevIter (s.heap.push (revObj a ((vs.toArray.size : Int) - 1))) s.heap.objs.size a ((vs.toArray.size : Int) - 1) := ⟨_, Heap.get?_push_size _ rfl, rfl, rfl⟩
  refine up (wpAny_pyIter_revIter hrev ?_)
  refine ⟨S.push (tk := s.toks) _, s.heap.objs.size, [s.heap.objs.size, a], [s.heap.objs.size], fun i v => vs.toArray[vs.toArray.size - 1 - i]? = some v, fun i h => i ≤ vs.toArray.size ∧ h.IsRevIter s.heap.objs.size a ((vs.toArray.size : Int) - 1 - (i : Int)) ∧ h.IsList a vs.toArray, rfl, fun A' hA' => ?_, ?_, ?_, ?_, ?_, ?_, ?_⟩
  · have := Walks.listRev (prog := G.prog) (w := G.w) hA'.handled s.heap.objs.size a hne vs.toArray
    rw [show xs.reverse.length = vs.toArray.size by simp [hlen]]
    exact this
  · exact ⟨Nat.zero_le _, by simpa using hrev, hl.push _⟩
  · intro b hb
    rcases List.mem_cons.mp hb with rfl | hb
    · exact S.freshApart hI
    · rw [List.mem_singleton.mp hb]
      obtain ⟨o, e, q⟩ := isList_seq hl
      exact ⟨(S.seqApart e q).1, (S.seqApart e q).2.1, hP.2, (S.seqApart e q).2.2⟩
  · intro b hb
    rw [List.mem_singleton.mp hb]
    exact ⟨S.freshD hI, S.top _ hI⟩
  · intro i h st b hb
    rw [List.mem_singleton.mp hb]
    obtain ⟨o, e, hc, hd⟩ := st.2.1
    exact ⟨o, e, fun vs' e' => ⟨by rw [hc]; nofun, fun q t => by rw [hd] at e'; cases e'; simp [rawInt]⟩, _, hd⟩
  · intro i v x hx hv h hk
    have hi : i < xs.length := by
      have := List.getElem?_eq_some_iff.mp hx
      simpa using this.1
    rw [List.getElem?_reverse hi] at hx
    obtain ⟨c, e1, r1⟩ := hr.get hx
    have : v = c := by
      rw [show vs.toArray.size - 1 - i = xs.length - 1 - i by simp [hlen]] at hv
      simpa [e1] using hv.symm
    subst this
    exact r1.mono fun b o hP q e => ⟨hk b o hP q (Heap.get?_push_of_some _ e), hP⟩
  · intro b hb
    show b < (s.heap.push _).objs.size
    rw [Heap.size_push]
    rcases List.mem_cons.mp hb with rfl | hb
    · exact Nat.lt_succ_self _
    · rw [List.mem_singleton.mp hb]; obtain ⟨o, e, _⟩ := hl; exact Nat.lt_succ_of_lt (Heap.lt_size e)
end
end Mine
end
section
open PySem PySem.W PySem.Calls PyProof.Rows
set_option Elab.async false
set_option maxRecDepth 100000
set_option linter.unusedVariables false
namespace Mine

/-- a slice of a list -/
noncomputable def pickL {α : Type} (xs : List α) (lo hi st : Option Int) : List α :=
  (sliceRange (sliceBounds lo hi st xs.length).1 (sliceBounds lo hi st xs.length).2.1 (sliceBounds lo hi st xs.length).2.2).filterMap (xs[·]?)
theorem slicePick_pickL (vs : List Value) (lo hi st : Option Int) : slicePick vs.toArray lo hi st = (pickL vs lo hi st).toArray := by
  unfold slicePick pickL; simp
theorem RelL.pickAt {P : Addr → Prop} {h : Heap} {xs : List V} {cs : List Value} (r : RelL P h xs cs) : ∀ is : List Nat, RelL P h (is.filterMap (xs[·]?)) (is.filterMap (cs[·]?))
  | [] => .nil
  | i :: is => by
    simp only [List.filterMap_cons]
    cases q : xs[i]? with
    | none =>
      have : cs[i]? = none := by
        rw [List.getElem?_eq_none_iff] at q ⊢
        have := r.length; lia
      rw [this]
      exact RelL.pickAt r is
    | some x =>
      obtain ⟨c, e, hr⟩ := r.get q
      rw [e]
      exact .cons hr (RelL.pickAt r is)
theorem RelL.pick {P : Addr → Prop} {h : Heap} {xs : List V} {cs : List Value} (r : RelL P h xs cs) (lo hi st : Option Int) : RelL P h (pickL xs lo hi st) (pickL cs lo hi st) := by
  unfold pickL
  rw [r.length]
  exact r.pickAt _
theorem pickL_map {α β : Type} (f : α → β) (xs : List α) (lo hi st : Option Int) : pickL (xs.map f) lo hi st = (pickL xs lo hi st).map f := by
  unfold pickL
  rw [List.length_map, List.map_filterMap]
  congr 1
  funext i
  simp
theorem pickL_plain {α : Type} (xs : List α) (lo hi : Option Int) : pickL xs lo hi none = (xs.drop (lo.elim 0 (clipAt xs.length))).take (hi.elim xs.length (clipAt xs.length) - lo.elim 0 (clipAt xs.length)) := by
  unfold pickL
  rw [sliceBounds_plain]
  simp only [sliceRange_one]
  have := pick_run xs.toArray (lo.elim 0 (clipAt xs.length)) (hi.elim xs.length (clipAt xs.length) - lo.elim 0 (clipAt xs.length))
  simpa using this

section
variable {G : Gb} {n : Nat} {fm : Fm} {ρ : Rho}

theorem Ev.item {e i : Expr} {pos : Pos} {xs : List V} {k : Int} {x : V} (he : Ev G n fm ρ e (.list xs)) (hi : Ev G n fm ρ i (.int k)) (h0 : 0 ≤ k) (hk : k < 2 ^ 63) (hx : xs[k.toNat]? = some x)
    (hs : ∀ o j, subscripted i false o j = operate [o, j] (getItem o j) := by intro _ _; rfl) : Ev G n fm ρ (.Subscript e i pos) x := fun A s D P hA S =>
  c_Subscript (c_mono (he A s D P hA S) (fun c s1 x1 => c_mono (hold1 x1.1 x1.2 fun D' S' => hi A s1 D' P hA S') (fun c2 s2 x2 => by
    obtain ⟨S2, r1, r2⟩ := x2
    cases r2 with
    | int _ t => cases r1 with
      | @list a _ vs hP hl hr =>
        obtain ⟨c, e1, r⟩ := hr.get hx
        exact up (tail_any hl.typeIs slot_list_getitem.lookup (wpAny_getItem_list hl h0 hk (by simpa using e1) ⟨S2, r⟩) (hs _ _))) no) no)

theorem Ev.itemT {e i : Expr} {pos : Pos} {xs : List V} {k : Int} {j : Nat} {x : V} (he : Ev G n fm ρ e (.tuple xs)) (hi : Ev G n fm ρ i (.int k)) (h0 : -(2 ^ 63) ≤ k) (hk : k < 2 ^ 63) (hj : seqIndex? k xs.length = some j) (hx : xs[j]? = some x)
    (hs : ∀ o j, subscripted i false o j = operate [o, j] (getItem o j) := by intro _ _; rfl) : Ev G n fm ρ (.Subscript e i pos) x := fun A s D P hA S =>
  c_Subscript (c_mono (he A s D P hA S) (fun c s1 x1 => c_mono (hold1 x1.1 x1.2 fun D' S' => hi A s1 D' P hA S') (fun c2 s2 x2 => by
    obtain ⟨S2, r1, r2⟩ := x2
    cases r2 with
    | int _ t => cases r1 with
      | @tuple a _ vs hP hl hr =>
        obtain ⟨c, e1, r⟩ := hr.get hx
        have hlen := hr.length
        exact up (tail_any (T := "tuple") hl.typeIs slot_tuple_getitem.lookup (getItem_tuple hl h0 hk (by simpa [hlen] using hj) (by simpa using e1) ⟨S2, r⟩) (hs _ _))) no) no)

/-- a bound of a slice: left out, or an int -/
noncomputable def EvP (G : Gb) (n : Nat) (fm : Fm) (ρ : Rho) : Option Expr → Option Int → Prop
  | none, none => True
  | some e, some k => Ev G n fm ρ e (.int k)
  | _, _ => False

theorem evP_wp {A : Around} {s : Shared} {D : Addr → Obj → Prop} {P : Addr → Prop} {e : Option Expr} {k : Option Int} (h : EvP G n fm ρ e k) (hA : AOk n A) (S : St G D P fm ρ s) :
    wpC G.M A (evalPart e fm.env) (fun c s' => St G D P fm ρ s' ∧ IsPart c k) (fun _ _ => False) s := by
  cases e with
  | none => cases k with
    | none => rw [evalPart_none]; exact c_pure ⟨S, .none⟩
    | some k => exact h.elim
  | some e => cases k with
    | none => exact h.elim
    | some k =>
      rw [evalPart_some]
      exact c_mono (h A s D P hA S) (fun c s' x => ⟨x.1, by obtain ⟨_, r⟩ := x; cases r; exact .int _ _⟩) no

theorem wpParts {A : Around} {s : Shared} {D : Addr → Obj → Prop} {P : Addr → Prop} {lo hi st : Option Expr} {a b c : Option Int} {p : Pos} (h1 : EvP G n fm ρ lo a) (h2 : EvP G n fm ρ hi b) (h3 : EvP G n fm ρ st c) (hA : AOk n A) (S : St G D P fm ρ s) :
    wpC G.M A (eval (.Slice lo hi st p) fm.env) (fun v s' => ∃ s3 vl vu vk, St G D P fm ρ s3 ∧ IsPart vl a ∧ IsPart vu b ∧ IsPart vk c ∧ v = .ref s3.heap.objs.size ∧ s' = { s3 with heap := s3.heap.push { cls := .type "slice", data := .fields #[vl, vu, vk] } }) (fun _ _ => False) s :=
  c_Slice (c_mono (evP_wp h1 hA S) (fun vl s1 x1 => c_mono (evP_wp h2 hA x1.1) (fun vu s2 x2 => c_mono (evP_wp h3 hA x2.1) (fun vk s3 x3 => ⟨s3, vl, vu, vk, x3.1, x1.2, x2.2, x3.2, rfl, rfl⟩) no) no) no)

theorem Ev.slice {e : Expr} {lo hi st : Option Expr} {p pos : Pos} {xs : List V} {a b c : Option Int} (he : Ev G n fm ρ e (.list xs)) (h1 : EvP G n fm ρ lo a) (h2 : EvP G n fm ρ hi b) (h3 : EvP G n fm ρ st c) (hc : c ≠ some 0) (hz : xs.length ≤ sizeLine)
    (hs : ∀ o j, ∃ ops, subscripted (.Slice lo hi st p) false o j = operate ops (getItem o j) := by intro _ _; exact ⟨_, rfl⟩) : Ev G n fm ρ (.Subscript e (.Slice lo hi st p) pos) (.list (pickL xs a b c)) := fun A s D P hA S =>
  c_Subscript (c_mono (he A s D P hA S) (fun c' s1 x1 => by
    refine c_mono (wpParts h1 h2 h3 hA x1.1.now) (fun v s2 x2 => ?_) no
    obtain ⟨s3, vl, vu, vk, S3, p1, p2, p3, rfl, rfl⟩ := x2
    have r := x1.1.relNow S3 x1.2
    have S3' := x1.1.unNow S3
    cases r with
    | @list l _ vs hP hl hr =>
      obtain ⟨ops, hs'⟩ := hs (.ref l) (.ref s3.heap.objs.size)
      refine up (tail_any (hl.push _).typeIs list_getitem_lookup (wpAny_getItem_list_slice (hl.push _) (Heap.IsSliceOf.new ..) p1 p2 p3 hc ?_ (by have := hr.length; simp; lia)) hs')
      have S4 := S3'.push (tk := s3.toks) { cls := .type "slice", data := .fields #[vl, vu, vk] }
      refine ⟨S4.push (tk := s3.toks) _, .list (vs := pickL vs a b c) (S4.topCln _ (size_none _)) ⟨_, Heap.get?_push_size _ rfl, rfl, 0, by rw [slicePick_pickL]⟩ ?_⟩
      exact (hr.pick a b c).mono fun a o hP _ e => ⟨Heap.get?_push_of_some _ (Heap.get?_push_of_some _ e), hP⟩) no)

/-! built-ins -/
theorem OpL.len {xs : List V} (hz : xs.length ≤ 2 ^ 60) : OpL G n (fun cs => PySem.call (.builtin "len") cs) [.list xs] (.int xs.length) := fun A s D P fm ρ cs hA S r => by
  obtain ⟨c90, rfl, r90⟩ := RelL.one r
  obtain ⟨a, vs, rfl, hP, hl, hr⟩ := Rel.listAt r90
  have hlen := hr.length
  refine up (call_len_list hl (by simp; lia) ⟨S.tok, ?_⟩)
  rw [List.size_toArray, hlen]
  exact .int _ _
theorem OpL.divmod {a b : Int} (hb : b ≠ 0) (hp : Builtin.divisionGoesByPylong a b = false) : OpL G n (fun cs => PySem.call (.builtin "divmod") cs) [.int a, .int b] (.tuple [.int (a.fdiv b), .int (a.fmod b)]) := fun A s D P fm ρ cs hA S r => by
  obtain ⟨c90, c91, rfl, r90, r91⟩ := RelL.two r
  obtain ⟨t90, rfl⟩ := Rel.intAt r90
  obtain ⟨t91, rfl⟩ := Rel.intAt r91
  exact up (divmod_int hb ⟨S.push (tk := s.toks + 1 + 1) _, .tuple (vs := [.int (a.fdiv b) s.toks, .int (a.fmod b) (s.toks + 1)]) (S.topCln _ (size_none _)) ⟨_, Heap.get?_push_size _ rfl, rfl, 0, rfl⟩ (.cons (.int _ _) (.cons (.int _ _) .nil))⟩ (.inl hp))

theorem preSum_list (ns : List Int) : ∀ k, k ≤ ns.length → preSum (fun i => ns.getD i 0) k = (ns.take k).sum
  | 0, _ => by simp [preSum]
  | k + 1, h => by
    rw [preSum, preSum_list ns k (by lia), List.take_add_one, List.sum_append]
    simp [List.getD, List.getElem?_eq_getElem (show k < ns.length by lia)]

theorem OpL.sum {ns : List Int} : OpL G (n + 1) (fun cs => PySem.call (.builtin "sum") cs) [.list (vi ns)] (.int ns.sum) := fun A s D P fm ρ cs hA S r => by
  obtain ⟨c90, rfl, r90⟩ := RelL.one r
  obtain ⟨a, vs, rfl, hP, hl, hr⟩ := Rel.listAt r90
  have hI := ints_relL hr
  have hlen : vs.length = ns.length := hI.length
  refine up (call_sum_walkG (wpAny_pyIter_list hl ?_))
  have hne : a ≠ s.heap.objs.size := fun q => by obtain ⟨o, e, _⟩ := hl; rw [q, size_none] at e; cases e
  refine ⟨s.heap.objs.size, [s.heap.objs.size, a], [s.heap.objs.size], vs.toArray.size, _, _, fun i => ns.getD i 0, rfl, Walks.list hA.in1.handled s.heap.objs.size a hne vs.toArray, ⟨⟨_, Heap.get?_push_size _ rfl, rfl, rfl⟩, hl.push _⟩, ?_, ?_, ?_⟩
  · intro b hb
    show b < (s.heap.push _).objs.size
    rw [Heap.size_push]
    rcases List.mem_cons.mp hb with rfl | hb
    · exact Nat.lt_succ_self _
    · rw [List.mem_singleton.mp hb]; obtain ⟨o, e, _⟩ := hl; exact Nat.lt_succ_of_lt (Heap.lt_size e)
  · intro i v hv
    have hi : i < ns.length := by
      have := Array.getElem?_eq_some_iff.mp hv
      simpa [hlen] using this.1
    obtain ⟨c3, e1, r⟩ := (relL_ints (P := Cln P ρ) (h := s.heap) hI).get (i := i) (v := .int ns[i]) (by simp [hi])
    have : v = c3 := by simpa [e1] using hv.symm
    subst this
    cases r with
    | int _ t => exact ⟨t, by simp [List.getD, hi]⟩
  · intro h' tk t' k
    refine ⟨S.grow fun b o e => k b o (fun q => ?_) (Heap.get?_push_of_some _ e), ?_⟩
    · rw [List.mem_singleton.mp q, size_none] at e; cases e
    · rw [show vs.toArray.size = ns.length by simp [hlen], preSum_list ns _ (Nat.le_refl _), List.take_length]
      exact .int _ _
end
end Mine
end
section
open PySem PySem.W PySem.Calls PyProof.Rows
set_option Elab.async false
set_option maxRecDepth 100000
set_option linter.unusedVariables false
namespace Mine

section
variable {prog : Program} {w : World} {A : Around} {E : Value → Shared → Prop} {s : Shared}
end

section
variable {G : Gb} {D : Addr → Obj → Prop} {P : Addr → Prop} {fm : Fm} {ρ : Rho} {s : Shared} {n : Nat} {φ : Post}

theorem mem_put_of_ne {x y : Str} {sl sl' : Slot} (h : (y, sl') ∈ ρ) (hn : y ≠ x) : (y, sl') ∈ put ρ x sl := List.mem_cons_of_mem _ (List.mem_filter.mpr ⟨h, by simpa using hn⟩)

/-- an owned object is changed in place -/
theorem St.ownSet {h' : Heap} {tk : Nat} {x : Str} {a : Addr} {sl sl' : Slot} (S : St G D P fm ρ s) (hm : (x, sl) ∈ ρ) (ha : sl.addr? = some a) (ha' : sl'.addr? = some a) (hs : Heap.SameBut a s.heap h')
    (hok : ∀ P', SlotOk P' h' sl' (.ref a)) (hlive : ∃ o, h'.get? a = some o) : St G D P fm (put ρ x sl') { s with heap := h', toks := tk } := by
  obtain ⟨oa, ea, hoa⟩ := S.ownAt ⟨_, hm, ha⟩
  have kk : ∀ b o, ¬ OwnObj o → s.heap.get? b = some o → h'.get? b = some o := fun b o q e => (hs.2 b fun z => q (by rw [z, ea] at e; cases e; exact hoa)).trans e
  have vo : ∀ o, VarObj o → ¬ OwnObj o := fun o q r => by rcases q with ⟨es, n, d⟩ | ⟨v, d⟩ <;> rcases r with ⟨i, n, d'⟩ | ⟨b, n, d'⟩ <;> (rw [d] at d'; cases d')
  have kD : ∀ b o, D b o → h'.get? b = some o := fun b o e => (hs.2 b fun z => S.ownD a ⟨_, hm, ha⟩ o (z ▸ e)).trans (S.keep b o e)
  have back : ∀ b, Owned (put ρ x sl') b → Owned ρ b := fun b q => (owned_put q).elim (fun q => by rw [ha'] at q; cases q; exact ⟨_, hm, ha⟩) id
  exact {
    gst := ⟨fun b o e => kD b o (S.baseD b o e), fun t ht => (S.gst.tabs t ht).keeps (fun b o q e => kk b o (fun z => q z.tame) e), S.gst.gens, S.gst.os⟩
    kind := S.kind
    glob := S.glob
    blt := S.blt
    baseD := S.baseD
    keep := kD
    tabD := S.tabD
    locD := S.locD
    wcD := S.wcD
    ownD := fun b hb => S.ownD b (back b hb)
    loc := let ⟨m, o, es, ep, e, d, r⟩ := S.loc; ⟨m, o, es, ep, kk _ _ (vo o (.inl ⟨_, _, d⟩)) e, d, r⟩
    wcs := fun b hb => let ⟨v, o, e, d⟩ := S.wcs b hb; ⟨v, o, kk _ _ (vo o (.inr ⟨_, d⟩)) e, d⟩
    apart := S.apart
    vars := fun p hp => by
      rcases mem_put hp with rfl | ⟨h1, h2⟩
      · obtain ⟨c, hv, hsl⟩ := S.vars _ hm
        have : c = .ref a := by cases sl with
          | val v => cases ha
          | own b xs => cases ha; exact hsl.1
          | ba b xs => cases ha; exact hsl.1
          | fn g fd => cases ha
        subst this
        exact ⟨_, hv.keeps (fun b o q e => kk b o (vo o q) e), hok _⟩
      · obtain ⟨c, hv, hsl⟩ := S.vars p h1
        refine ⟨c, hv.keeps (fun b o q e => kk b o (vo o q) e), hsl.mono (fun b o hP q e => ⟨(hs.2 b fun z => hP.2 (z ▸ ⟨_, hm, ha⟩)).trans e, hP.1, fun q => hP.2 (back b q)⟩) (fun b hb o e => (hs.2 b fun z => h2 ?_).trans e) fun b o q e => kk b o (fun z => by rcases q with ⟨fd, d⟩ | ⟨vs, _, _, d, _⟩ <;> rcases z with ⟨i, n, d'⟩ | ⟨b, n, d'⟩ <;> (rw [d] at d'; cases d')) e⟩
        subst z
        exact S.ownNe p h1 _ hm b hb ha
    ownP := fun b hb => S.ownP b (back b hb)
    ownNe := fun p hp q hq b hb hc => by
      rcases mem_put hp with rfl | ⟨h1, h2⟩ <;> rcases mem_put hq with rfl | ⟨h3, h4⟩
      · rfl
      · have hb' : sl'.addr? = some b := hb
        rw [ha'] at hb'; cases hb'; exact S.ownNe (x, sl) hm q h3 a ha hc
      · have hc' : sl'.addr? = some b := hc
        rw [ha'] at hc'; cases hc'; exact S.ownNe p h1 (x, sl) hm a hb ha
      · exact S.ownNe p h1 q h3 b hb hc
    top := fun b hb => by
      by_cases z : b = a
      · subst z; obtain ⟨o, e⟩ := hlive; rw [hb] at e; cases e
      · exact S.top b (by rw [← hs.2 b z]; exact hb) }

/-- what is owned may be laid open: from then on it is a plain value -/
theorem St.freeze {x : Str} {a : Addr} {xs : List Int} (S : St G D P fm ρ s) (hm : (x, Slot.own a xs) ∈ ρ) : St G D P fm (put ρ x (.val (.list (vi xs)))) s := by
  have back : ∀ b, Owned (put ρ x (.val (.list (vi xs)))) b → Owned ρ b := fun b q => (owned_put q).elim (fun q => by cases q) id
  have hna : ¬ Owned (put ρ x (.val (.list (vi xs)))) a := fun ⟨p, hp, e⟩ => by
    rcases mem_put hp with rfl | ⟨h1, h2⟩
    · cases e
    · exact h2 (S.ownNe p h1 _ hm a e rfl)
  exact { S with
    ownD := fun b hb => S.ownD b (back b hb)
    vars := fun p hp => by
      rcases mem_put hp with rfl | ⟨h1, h2⟩
      · obtain ⟨c, hv, rfl, vs, hl, hi⟩ := S.vars _ hm
        exact ⟨_, hv, .list ⟨S.ownP a ⟨_, hm, rfl⟩, hna⟩ hl.isList (relL_ints hi)⟩
      · obtain ⟨c, hv, hsl⟩ := S.vars p h1
        exact ⟨c, hv, hsl.mono (fun b o hP q e => ⟨e, hP.1, fun q => hP.2 (back b q)⟩) (fun b hb o e => e) fun b o _ e => e⟩
    ownP := fun b hb => S.ownP b (back b hb)
    ownNe := fun p hp q hq b hb hc => by
      rcases mem_put hp with rfl | ⟨h1, h2⟩ <;> rcases mem_put hq with rfl | ⟨h3, h4⟩
      · rfl
      · cases hb
      · cases hc
      · exact S.ownNe p h1 q h3 b hb hc }
theorem Run.freeze {x : Str} {a : Addr} {xs : List Int} {body : List Stmt} (hm : (x, Slot.own a xs) ∈ ρ) (h : Run G n fm (put ρ x (.val (.list (vi xs)))) body φ) : Run G n fm ρ body φ := fun A s D P hA S => h A s D P hA (S.freeze hm)
/-- an expression that makes a list of ints that nothing else knows -/
noncomputable def EvNew (G : Gb) (n : Nat) (fm : Fm) (ρ : Rho) (e : Expr) (xs : List Int) : Prop :=
  ∀ A s D P, AOk n A → St G D P fm ρ s → wpC G.M A (eval e fm.env) (fun c s' => ∃ s1 a h' tk, c = .ref a ∧ St G D P fm ρ s1 ∧ s1.heap.get? a = none ∧ s' = { s1 with heap := h', toks := tk } ∧ (∀ b o, s1.heap.get? b = some o → h'.get? b = some o) ∧
    ∃ vs : List Value, h'.PlainList a vs.toArray ∧ IntsAre vs xs) (fun _ _ => False) s

theorem Ex.asgNew {x : Str} {e : Expr} {pos' pos : Pos} {xs : List Int} (h : EvNew G n fm ρ e xs) (hw : Wrt fm x) (hn : ∀ a, φ.next (put ρ x (.own a xs))) (hs : swapsWith e (some (.Name x pos')) pos.line fm.env = pure false := by rfl) :
    Ex G n fm ρ (.Assign [.Name x pos'] e pos) φ := fun A s D P hA S =>
  c_Assign_Name (c_mono (h A s D P hA S) (fun c s' y => by
    obtain ⟨s1, a, h', tk, rfl, S1, hno, rfl, k, hl⟩ := y
    exact c_mono (S1.store (sl := .own a xs) hw k ⟨rfl, hno, hl⟩) (fun _ s'' S'' => ⟨_, hn a, S''⟩) no) no) hs

theorem EvNew.list {es : List Expr} {pos : Pos} {xs : List Int} (h : EvL G n fm ρ es (vi xs)) (hz : xs.length ≤ sizeLine) : EvNew G n fm ρ (.List es pos) xs := fun A s D P hA S =>
  c_List (c_mono (h A s D P pos hA S) (fun cs s' x => up (wpAny_newObj_type ⟨s', s'.heap.objs.size, _, s'.toks, rfl, x.1, size_none _, rfl, fun b o e => Heap.get?_push_of_some _ e, cs, ⟨0, Heap.get?_push_size _ rfl⟩, ints_relL x.2⟩
    (by show cs.toArray.size ≤ sizeLine; rw [List.size_toArray, x.2.length]; simpa using hz))) no)

theorem rep_ints {ns : List Int} {vs : List Value} (h : IntsAre vs ns) : ∀ k : Nat, IntsAre (List.replicate k vs).flatten (List.replicate k ns).flatten
  | 0 => .nil
  | k + 1 => by simp only [List.replicate_succ, List.flatten_cons]; exact IntsAre.append h (rep_ints h k)

theorem EvNew.rep {e i : Expr} {pos : Pos} {xs : List Int} {x : Int} (he : Ev G n fm ρ e (.list (vi xs))) (hi : Ev G n fm ρ i (.int x)) (hlo : -(2 ^ 63 : Int) ≤ x) (hhi : x < 2 ^ 63) (hz : xs.length * x.toNat ≤ 2 ^ 24) : EvNew G n fm ρ (.BinOp e .Mult i pos) (List.replicate x.toNat xs).flatten := fun A s D P hA S =>
  c_BinOp (c_mono (he A s D P hA S) (fun c1 s1 x1 => c_mono (hold1 x1.1 x1.2 fun D' S' => hi A s1 D' P hA S') (fun c2 s2 x2 => by
    obtain ⟨S2, r1, r2⟩ := x2
    cases r2 with
    | int _ u => cases r1 with
      | @list a1 _ vs p1 l1 h1 =>
        obtain ⟨⟨cls, d, data, sl⟩, ho, hcl, k, hd⟩ := id l1
        simp only at hcl hd
        subst hcl hd
        have hsz' : vs.toArray.size * x.toNat ≤ 2 ^ 24 := by have := h1.length; simp at this; simpa [this] using hz
        refine up (wpAny_binaryOp_repeat_ref (T := "list") (U := "int") (by decide) ⟨_, ho, rfl⟩ (fun s' => typeIs_int s' x u) noFill_list_mul F.fills_int_mul F.slot_int_rmul repeat_list F.slot_int_index.lookup
          (call_meets F.slot_int_rmul (typeIs_int s2 x u) F.entry_int_rmul (F.args_int_rmul_2 _ _) (lm_int_rmul_list_any x u a1 vs.toArray k d sl)
            ⟨ho, rfl, ⟨_, ho, rfl⟩, call_meets F.slot_list_mul ⟨_, ho, rfl⟩ F.entry_list_mul (F.args_list_mul_2 _ _)
              (lm_list_mul_any a1 vs.toArray k d sl x u (by simp [Builtin.List.listFitsIndex]; omega) (by omega) (by simp [Builtin.List.listTooLong, sizeLine]; omega))
              ⟨ho, ?_⟩⟩))
        refine ⟨s2, _, _, s2.toks, rfl, S2, size_none _, rfl, fun b o e => Heap.get?_push_of_some _ e, (List.replicate x.toNat vs).flatten, ⟨0, ?_⟩, rep_ints (ints_relL h1) _⟩
        rw [← listMul_foldl_if]; exact Heap.get?_push_size _ rfl) no) no)

/-- x.append(e) -/
theorem Ex.append {x : Str} {a : Addr} {xs : List Int} {e : Expr} {k : Int} {p1 p2 p3 p4 : Pos} (hm : (x, Slot.own a xs) ∈ ρ) (he : Ev G n fm ρ e (.int k)) (hz : xs.length ≤ sizeLine) (hn : φ.next (put ρ x (.own a (xs ++ [k]))))
    (hd : (x == ("__debug__" : Str)) = false := by decide)
    (hbase : attributeBase (.Name x p1) "append" fm.env (eval (.Name x p1) fm.env) = eval (.Name x p1) fm.env := by rfl)
    (hse : starEach [e] fm.env = [(false, eval e fm.env)] := by rfl) (hline : (p2.endLine == p3.line) = true := by rfl)
    (hs : swapsWith (.Call (.Attribute (.Name x p1) "append" p2) [e] [] p3) none p4.line fm.env = pure false := by rfl) :
    Ex G n fm ρ (.Expr (.Call (.Attribute (.Name x p1) "append" p2) [e] [] p3) p4) φ := fun A s D P hA S => by
  refine c_Expr ?_ (by unfold interactive; rw [S.kind]; rfl) hs
  refine c_Call_method (T := "list") (id := "list.append") hbase (by rw [hse]; rfl) hline PySem.F.plainAttrs_list slot_list_append type_list_append ?_
  obtain ⟨c, hv, rfl, vs, hl, hi⟩ := S.vars _ hm
  refine up (wpAny_Name (loadName_var S.kind hv ⟨hl.isList.typeIs, fun b e => ?_, ?_⟩) hd)
  · cases e; obtain ⟨n', e'⟩ := hl; exact ⟨_, e', rfl⟩
  · rw [hse]
    refine c_callWith (P := fun hp => True) rfl (fun hp k => ⟨.machine, .inr (.inl rfl), .of_pure rfl⟩) ?_
    have key := (EvL.cons (G := G) he EvL.nil hse) A s D P p3 hA S
    rw [hse] at key
    refine c_evalArgs_plain (c_mono key (fun cs s1 x1 => ⟨trivial, ?_⟩) no)
    obtain ⟨S1, r1⟩ := x1
    obtain ⟨c90, rfl, r90⟩ := RelL.one r1
    obtain ⟨t, rfl⟩ := Rel.intAt r90
    obtain ⟨c', hv', _, vs', hl', hi'⟩ := S1.vars _ hm
    refine up (wpAny_list_append_plain hl' (fun h' hp' hs' => ?_) (by have := hi'.length; simp; lia))
    have hp2 : h'.PlainList a (vs' ++ [Value.int k t]).toArray := by simpa using hp'
    exact ⟨_, hn, S1.ownSet (tk := s1.toks) (sl' := .own a (xs ++ [k])) hm rfl rfl hs' (fun P' => ⟨rfl, _, hp2, IntsAre.append hi' (.cons _ _ .nil)⟩) (by obtain ⟨n', e'⟩ := hp2; exact ⟨_, e'⟩)⟩

end
end Mine
end
section
open PySem PySem.W PySem.Calls PyProof.Rows
set_option Elab.async false
set_option maxRecDepth 100000
set_option linter.unusedVariables false
namespace Mine
open Sem (wp)

/-- the caller's own stack: nothing beneath it -/
theorem okCaller : OkC (⟨.builtin "claim.caller" {}, none, none, [], none⟩ : Ctx) := ⟨by decide +kernel, fun _ h => nomatch h⟩

theorem callFromC {c : ClaimW} {tree : List Value → Sem Fin} {w : World} {s : Shared} {free : Addr → Prop} {gens : Prop} {kept : Heap → Prop} (hz : s.asleep) (hgens : s.gens = #[])
    (hspec : ∀ args, c.pre args = true → WData.layableAll args = true → ∀ ord : List DictEntry → List DictEntry, (∀ l, (ord l).Perm l) →
      ∃ vs s₁, layAllW c.records (classAt s.heap) w.params ord args s = some (vs, s₁) ∧
        wpC (model c.prog w) callerA (tree vs) (fun fin s' => ∃ f, fin = .done f ∧ (c.Ends s args vs s₁ (.ok f) s' ∧ s'.os = s.os ∧ AllBare s'.gens ∧ kept s'.heap)) (fun _ _ => False) s₁) :
    c.CallFrom (fun vs => ⟨tree vs, .builtin "claim.caller" {}, default, []⟩) w free gens kept s := by
  intro args hpre hlay ord hord
  obtain ⟨vs, s₁, hlaid, hcode⟩ := hspec args hpre hlay ord hord
  have hal := layAllW_rest _ _ _ hlaid
  have hwp : wp (model c.prog w) ⟨.builtin "claim.caller" {}, none, none, [], none⟩ (tree vs)
      (Sem.finPost (model c.prog w) ⟨.builtin "claim.caller" {}, none, none, [], none⟩ fun r s' => (c.Ends s args vs s₁ r s' ∧ s'.os = s.os ∧ kept s'.heap) ∧ leftWithCleanup s'.gens = false)
      (fun e _ s' => (c.Ends s args vs s₁ (.error e) s' ∧ s'.os = s.os ∧ kept s'.heap) ∧ leftWithCleanup s'.gens = false) default s₁ := by
    refine Sem.wp_mono _ _ _ (fun fin p' s' h' => ?_) (fun _ _ _ h' => h'.elim) default s₁ (hcode _ default caller_in okCaller)
    obtain ⟨f, rfl, h1, h2, h3, h4⟩ := h'
    exact ⟨⟨h1, h2, h4⟩, leftWithCleanup_false_of_bare h3⟩
  obtain ⟨k, r, s'', s', hsched, hrun, hfo, hcase, hos, hkp⟩ := wp_halts_full (M := model c.prog w) (Shared.asleep_of_life hal.2.2.2 hz) hwp
  obtain ⟨eh, _, _, eo, _⟩ := Shared.forget_eq hfo
  have hcase := hcase.congr eh
  have hkp : kept s'.heap := by rw [eh]; exact hkp
  rw [← eo] at hos
  have hlife : s'.heap.life = s.heap.life := (runN_life _ _ _ hrun).trans hal.2.2.2
  refine ⟨vs, s₁, hlaid, k, _, s', hsched, ?_, (fun _ i x hx => by rw [hgens] at hx; simp at hx), hkp, by rw [hlife], Shared.rest_eq hos⟩
  rcases hcase with ⟨v, rfl, d1, d2, d3, d4, d5⟩ | ⟨e, ob, cls, rfl, d1, d2, d3, d4, d5⟩
  · exact .inl ⟨v, rfl, d1, d2, d3, fun b o y _ => d4 b o y, d5⟩
  · exact .inr ⟨e, ob, cls, rfl, d1, d2, d3, d4, fun b o y _ => d5 b o y⟩

abbrev WalkC (q : Program) (loose : List Str) (XP : (Str → Option Value) → Heap → Prop) (YP : World → Heap → Prop) (r : RowW) (d : DefRec) (kwd : List (Str × Expr)) : Prop :=
  ∀ (w : World) (s₀ s₁ : Shared) (mg mb : Str → Option Value), Ground q loose r.records XP w s₀ mg mb s₁.heap → YP w s₁.heap → ∀ (a : Addr) (o : Obj) (pm cd doc dV kV : Value), s₁.heap.get? a = some o →
    o.data = .func { docDef d.name d.params d.body d.scope pm cd doc with defaults := dV, kwdefaults := kV } → s₁.heap.CodeRec cd d.name → Dflts mg s₁.heap d.params kwd dV kV → mg d.name = some (.ref a) → s₁.gens = #[] →
    ∀ (args : List WData) (vals : List Value) (as : List Addr), r.claim.pre args = true → WData.layableAll args = true → ReadsAllW r.records (classAt s₀.heap) s₁.heap vals args as → WellAll w.params s₁.heap vals args → (∀ a ∈ as, (a == sysModules) = false) →
      wpC (model r.prog w) callerA (PySem.call (.ref a) vals) (fun v s' => GoodWG r.claim (classAt s₀.heap) (ExcName.means s₀.heap) args s₁ (.ok (.ret v)) s') (fun _ _ => False) s₁
end Mine

namespace MineHead
open Mine
theorem PySem.W.holds_open {r : OpenRow} {q : Program} {loose : List Str} {Xt : Shared → Bool} {XP : (Str → Option Value) → Heap → Prop} {α : Type} {Yf : Shared → α} {Ya : World → α} {YP : World → Heap → Prop} {d : DefRec} {kwd : List (Str × Expr)} {N : Nat}
    (left : LeftO r.prog q loose Xt Yf Ya N) (hY : ∀ w s, Yf s = Ya w → YP w s.heap) (hYk : ∀ w h h', YP w h → (∀ b o, h.get? b = some o → h'.get? b = some o) → YP w h')
    (hX : ∀ s, Xt s = true → XP (s.heap.nsMap mainGlobals) s.heap) (hXk : ∀ mg h h', XP mg h → (∀ b o, h.get? b = some o → h'.get? b = some o) → XP mg h')
    (hdef : defOf q r.name = some (d, kwd)) (hp : r.prog.theDef r.name = some (d.params, d.body, d.scope)) (hk : kwWritten? d.params.kwonlyargs d.params.kw_defaults = some kwd) (hRf : ∀ s, Xt s = true → RecFacts r.records s.heap) (hwr : (!r.writes || r.records.isEmpty) = true)
    (k1 : r.wellSaid = true) (ok : (chainsOk q && opensWell r.prog && (frees r.toRowW && r.within.isEmpty)) = true) (hb : r.prog.bare) (hw : r.toRowW.promised)
    (call : WalkC q loose XP YP r.toRowW d kwd) : r.Holds := by
  obtain ⟨ok, k5⟩ := Bool.and_eq_true_iff.mp ok
  obtain ⟨hch, o1⟩ := Bool.and_eq_true_iff.mp ok
  obtain ⟨k5, k6⟩ := Bool.and_eq_true_iff.mp k5
  obtain ⟨hsame, hu, ha, hap, hm⟩ := frees_parts k5
  have hi := ident_freeW hu ha hap
  have hwi : r.toRowW.claim.within = [] := List.isEmpty_iff.mp k6
  refine ⟨k1, hw, ⟨hb, o1, by show r.makers.map _ = []; rw [hm]; rfl⟩, hw.witness, fun w => ⟨(left.behind hX hch w).1, fun s' hs' => ?_⟩⟩
  obtain ⟨s₀, hf, hg0, s, hT, hz, hgens, hg, G00, y⟩ := (left.behind (XP := fun mg h => XP mg h ∧ RecFacts r.records h) (fun s hs => ⟨hX s hs, hRf s hs⟩) hch w).2 s' hs'
  have G0 : Ground q loose [] XP w s (s.heap.nsMap mainGlobals) (s.heap.nsMap builtinsNs) s.heap := ⟨G00.T, G00.B, G00.D, G00.TE, G00.TD, G00.W, G00.X.1, G00.cls, G00.has, G00.apart, G00.once, G00.K⟩
  have RF := G00.X.2
  have hgens : s.gens = #[] := Array.eq_empty_of_size_eq_zero (beq_iff_eq.mp hgens)
  have G : Ground q loose r.records XP w s _ _ s.heap := RF.ground G0
  refine ⟨s₀, hf, hg0, s, hT, fun n hn => ?_, RF.1, RF.2.1, callFromC (c := r.toRowW.claim) hz hgens fun args hpre hlay ord hord => ?_⟩
  · obtain rfl : n = r.name := by split at hn <;> simp_all
    exact pinned_of_view hg G0 hdef hp hk
  obtain ⟨⟨vs, s₁⟩, hlaid⟩ := Option.isSome_iff_exists.mp (layAllW_isSome (P := w.params) (ord := ord) G.has args r.args s (pre_splitW hpre).1)
  have keeps := layAllW_keeps _ _ _ hlaid
  have hal := layAllW_rest _ _ _ hlaid
  obtain ⟨as, hrd, hin, hold⟩ := reads_layAllW hord _ _ _ hlaid hlay s₁.heap (fun _ _ e => e)
  have L : Laid r.records w s s₁ args vs as := ⟨⟨ord, hord, hlaid⟩, hrd, hin, hold, keeps, hal.1.trans hgens, hal.2.2.1⟩
  have G₁ := G.keeps hXk keeps
  obtain ⟨a, o, pm, cd, doc, dV, kV, h1, h2, h3, h4, h5⟩ := G₁.fn hdef
  have h := call w s s₁ _ _ G₁ (hYk _ _ _ (hY w s y) keeps) a o pm cd doc dV kV h2 h3 h4 h5 (defOf_name hdef ▸ h1) L.gens args vs as hpre hlay L.reads L.well (L.low G.low)
  refine ⟨vs, s₁, hlaid, c_bind (up (wpAny_nsGet G₁.T.g ?_))⟩
  rw [show (s.heap.nsMap mainGlobals) r.name = some (.ref a) from h1]
  exact c_bind (c_mono h (fun v s' g => c_pure ⟨_, rfl, have z := g.laid (c := r.toRowW.claim) hsame hwi hi L; ⟨z.1, z.2.1, z.2.2, fun q => ⟨namesKept_of hT hg _ keeps g.2.1.old, noTable hwr q⟩⟩⟩) fun _ _ x => x.elim)
end MineHead
end
section
open PySem PySem.W PySem.Calls PyProof.Rows
set_option Elab.async false
set_option maxRecDepth 100000
set_option linter.unusedVariables false
namespace Mine

noncomputable def tabPairs (ts : List Tab) : List (Addr × Addr) := ts.map fun t => (t.c, t.P)
noncomputable def gbOf (prog : Program) (w : World) (s₁ : Shared) (mg mb : Str → Option Value) (ts : List Tab) : Gb := ⟨prog, w, ghostOf s₁.heap (tabPairs ts), mg, mb, ts, s₁.gens, s₁.os⟩

section
variable {prog : Program} {w : World} {s₁ : Shared} {mg mb : Str → Option Value} {ts : List Tab} {p : Program} {loose : List Str} {mean : ExcName → Option Value} {K : Frag}

theorem mem_tabPairs {t : Tab} (h : t ∈ ts) : (t.c, t.P) ∈ tabPairs ts := List.mem_map.mpr ⟨t, h, rfl⟩
theorem gbOf_ok (T : Top p loose mean mg mb s₁.heap) (hT : TabsAt (tabPairs ts) s₁.heap) (hne : ts.Pairwise fun x y => x.P ≠ y.P) : GbOk (gbOf prog w s₁ mg mb ts) where
  g := ghost_ns hT T.g
  b := ghost_ns hT T.b
  builtins := T.builtins
  nolimit := let ⟨mc, a, r⟩ := T.nolimit; ⟨mc, ghost_ns hT a, r⟩
  bmain := let ⟨bm, ob, a1, a2, a3, a4, r⟩ := T.bmain; ⟨bm, ob, a1, a2, ghost_get hT a3 (fun q => by rw [q] at a4; cases a4), a4, r⟩
  codes := fun t ht => by
    have key : ∀ {l : List (Addr × Addr)} {h : Heap}, CodeAll l h → ∀ q ∈ l, CodeHd h q.1 q.2 := by
      intro l h
      induction l with
      | nil => intro _ q hq; cases hq
      | cons x r ih =>
        intro y q hq
        rcases List.mem_cons.mp hq with rfl | hq
        · exact y.1
        · exact ih y.2 q hq
    exact key (ghost_code hT) _ (mem_tabPairs ht)
  hid := fun t ht => hideAll_none _ (List.mem_map.mpr ⟨_, mem_tabPairs ht, rfl⟩)
  tabsNe := hne
theorem gst_of (hT : TabsAt (tabPairs ts) s₁.heap) : Gst (gbOf prog w s₁ mg mb ts) s₁ := ⟨fun b o e => of_hideAll _ e, fun t ht => .inl (hT _ (mem_tabPairs ht)).2, rfl, rfl⟩

theorem good_true {c : ClaimW} {cl : Str → Option Addr} {args : List WData} {s' : Shared} (hT : TabsAt (tabPairs ts) s₁.heap) (hg : s₁.gens = #[]) (hr : ∀ cls, c.raises args cls = false) (hp : c.post args (.bool true) args = true)
    (g : Gst (gbOf prog w s₁ mg mb ts) s') (k : ∀ b o, ¬ (gbOf prog w s₁ mg mb ts).isTab b → s₁.heap.get? b = some o → s'.heap.get? b = some o) : GoodWG c cl mean args s₁ (.ok (.ret (.bool true))) s' := by
  have grown : ∀ b o, (gbOf prog w s₁ mg mb ts).isTab b → s₁.heap.get? b = some o → isCodeTable s₁.heap b ∧ o = tabObj #[] ∧ ∃ ps, s'.heap.get? b = some (tabObj ps) := fun b o q e => by
    obtain ⟨t, ht, rfl⟩ := q
    have h1 := hT _ (mem_tabPairs ht)
    have e2 := h1.2
    rw [e] at e2
    exact ⟨(h1.1.tab h1.2).isCodeTable, Option.some.inj e2, tabOk_at (g.tabs t ht)⟩
  refine ⟨.inl ⟨_, _, [], rfl, hr, .bool true, hp, fun _ => ⟨.nil, fun a h => nomatch h⟩⟩, ⟨fun b o e => ?_, fun b o e => ?_⟩, g.os, .of_eq (g.gens.trans hg)⟩
  · by_cases hb : (gbOf prog w s₁ mg mb ts).isTab b
    · obtain ⟨ht, rfl, ps, hP⟩ := grown b o hb e
      exact .inr (.inl ⟨ht, rfl, #[], ps, rfl, by rw [Array.empty_append]; exact hP⟩)
    · exact .inl (k b o hb e)
  · by_cases hb : (gbOf prog w s₁ mg mb ts).isTab b
    · obtain ⟨_, _, ps, hP⟩ := grown b o hb e
      exact ⟨_, hP⟩
    · exact ⟨o, k b o hb e⟩

theorem aok_caller : AOk 250 callerA := ⟨rfl, by decide, by decide⟩

/-- the law's own call, from its contract -/
theorem law_call {c : ClaimW} {cl : Str → Option Addr} {args : List WData} {a l : Addr} {vs : List Value} {ns : List Int} (hT : TabsAt (tabPairs ts) s₁.heap) (hg : s₁.gens = #[]) (hr : ∀ cls, c.raises args cls = false) (hp : c.post args (.bool true) args = true)
    (hl : s₁.heap.IsList l vs.toArray) (hi : IntsAre vs ns) (h : Fn (gbOf prog w s₁ mg mb ts) 250 a [.list (vi ns)] (.bool true)) :
    wpC (model prog w) callerA (PySem.call (.ref a) [.ref l]) (fun v s' => GoodWG c cl mean args s₁ (.ok (.ret v)) s') (fun _ _ => False) s₁ :=
  c_mono (h callerA s₁ (fun _ => True) [.ref l] aok_caller (gst_of hT) (fun _ _ => trivial) (.cons (.list trivial hl (relL_ints hi)) .nil)) (fun v s' x => by
    obtain ⟨g, k, r⟩ := x
    cases r
    exact good_true hT hg hr hp g k) fun _ _ x => x
end

/-- a def of the text's top, as the heap bears it -/
structure DefAt (G : Gb) (x : Str) (f : Addr) (fd : FuncData) : Prop where
  mg : G.mg x = some (.ref f)
  at_ : ∃ o, G.B.get? f = some o ∧ o.data = .func fd
  code : G.B.CodeRec fd.code fd.qualname
  glob : fd.globals = mainGlobals
  blt : fd.builtins = builtinsNs
  clo : fd.closure = []
theorem defAt_of {G : Gb} {K : Frag} {x : Str} {f : Addr} {fd : FuncData} {oc : Value} {od : Option Addr} {sl : Array (Option Value)} (hG : GbOk G) (X : K.In G.B) (hm : nsIn K mainGlobals x = some (some (.ref f))) (hf : K.lookup f = some ⟨oc, od, .func fd, sl⟩)
    (hcd : codeIn K fd.code fd.qualname = true) (hg : fd.globals = mainGlobals) (hb : fd.builtins = builtinsNs) (hc : fd.closure = []) : DefAt G x f fd :=
  ⟨mg_of X hG.g hm, ⟨_, X _ _ hf, rfl⟩, codeRec_of X hcd, hg, hb, hc⟩
theorem DefAt.callee {G : Gb} {x : Str} {f : Addr} {fd : FuncData} (d : DefAt G x f fd) : Callee G (.ref f) := let ⟨o, h1, h2⟩ := d.at_; .inr (.inr ⟨f, o, fd, rfl, h1, h2⟩)
end Mine
end
section
open PySem PySem.W PySem.Calls PyProof.Rows
set_option Elab.async false
set_option maxRecDepth 100000
set_option linter.unusedVariables false
namespace Mine

/-! ### bytearray(n) -/
namespace FA
theorem mro : mroOf (.type "bytearray") = pure [.type "bytearray", .type "object"] := by rw [mroOf_type]; kernel_rfl
theorem lookup_new : typeLookup (.type "bytearray") "__new__" = pure (some (.builtin "bytearray.__new__")) := by rw [typeLookup_type, builtinLookup_eq_fast]; kernel_rfl
theorem slot_init : PySem.Slot "bytearray" "__init__" "bytearray.__init__" :=
  .of (owner := "bytearray") (n := "__init__") (by rw [typeLookup_type, builtinLookup_eq_fast]; kernel_rfl) (by decide +kernel) (by decide +kernel) (by decide +kernel)
    (by first | exact .inl (by decide +kernel) | exact .inr (by decide +kernel)) (by rw [isSubtype_type]; kernel_rfl)
theorem sub : isSubtype (.type "bytearray") (.type "bytearray") = pure true := by rw [isSubtype_type]; kernel_rfl
theorem typeCall (a : Value) : checkTypeCall "bytearray" ⟨[a], []⟩ = pure () := by kernel_rfl
theorem newCall (a : Value) : checkBuiltinCall "bytearray.__new__" ⟨[.type "bytearray", a], []⟩ = pure () := by kernel_rfl
theorem plain_new : plainId "bytearray.__new__" = true := by decide +kernel
theorem entry_new : entryFor table "bytearray.__new__" = some Builtin.«list.__new__» := entryFor_alias (id' := "list.__new__") (by kernel_rfl) rfl (by decide +kernel) (by kernel_rfl)
theorem entry_init : entryFor table "bytearray.__init__" = some Builtin.«bytearray.__init__» := by first | exact entryFor_of_fast (by kernel_rfl) | exact entryFor_of_tree (by kernel_rfl)
theorem called : TypeCalled "bytearray" "bytearray.__new__" "bytearray.__init__" :=
  ⟨by decide +kernel, by decide +kernel, ⟨_, _, mro⟩, madeBy_type mro lookup_new (by decide +kernel), by decide +kernel, sub, slot_init⟩
set_option maxHeartbeats 4000000 in
set_option maxRecDepth 1000000 in
theorem owner : ("bytearray.__new__".splitOn ".__new__").headD "" = "bytearray" := by simp +decide [String.splitOn, String.splitOnAux]
theorem look_release : typeLookup (.type "bytearray") "__release_buffer__" = pure (some (.builtin "bytearray.__release_buffer__")) := by rw [typeLookup_type, builtinLookup_eq_fast]; kernel_rfl
theorem bind (v : Value) : Builtin.Bytes.bindOptional "bytearray.__init__" "bytearray" ["source", "encoding", "errors"] [v] [] = pure [some v, none, none] := by kernel_rfl
theorem int_index {n : Int} {t : Tok} : specialOf (.int n t) "__index__" = pure (some (.builtin "int.__index__")) := by
  have e : specialOf (.int n t) "__index__" = typeLookup (.type "int") "__index__" := rfl
  rw [e, typeLookup_type, builtinLookup_eq_fast]; kernel_rfl
end FA

section
variable {prog : Program} {w : World} {A : Around} {E : Value → Shared → Prop} {s : Shared}

theorem code_ba_new (a : Value) {Q₁ : Value → Shared → Prop}
    (h : Q₁ (.ref s.heap.objs.size) { s with heap := s.heap.push { cls := .type "bytearray", data := .bytearray #[] } }) :
    codeAny (model prog w) A (.call (.builtin "bytearray.__new__") ⟨[.type "bytearray", a], []⟩) (wants Q₁ E) s := by
  refine codeAny_of_tree ?_
  show wpAny _ A.in1 (do checkBuiltinCall "bytearray.__new__" ⟨[.type "bytearray", a], []⟩; again (.builtin "bytearray.__new__" ⟨[.type "bytearray", a], []⟩)) _ _ s
  refine wpAny_bind (wpAny_of_eq (FA.newCall a) (wpAny_pure ⟨plainId_quiet FA.plain_new _, codeAny_builtin_stack FA.entry_new rfl fun p st => ?_⟩))
  rw [Around.under_plainId FA.plain_new _]
  have hsub := FA.sub
  have hown := FA.owner
  obtain ⟨hp, g, d, tk, os⟩ := s
  simp only [hown]
  wp_walk
  exact h

theorem ne_held {id : String} (k : String) (hk : holders.contains k = true) (h : holders.contains id = false) : id ≠ k := fun e => by rw [e, hk] at h; cases h
theorem c_exported {v : Value} {Q : Bool → Shared → Prop} (h : Q false s) : wpC (model prog w) A (Builtin.Bytes.exported v) Q E s := fun Γ p hΓ ok => by
  have all : ∀ x ∈ ((Γ.code, p) :: Γ.below), decoder x.1 = false := fun x hx => by
    rcases List.mem_cons.mp hx with rfl | hx
    · exact ok.code
    · exact ok.below x hx
  show Q (List.any ((Γ.code, p) :: Γ.below) _) s
  rw [List.any_eq_false.mpr]
  · exact h
  · rintro ⟨c, p⟩ hx
    have hc : decoder c = false := all _ hx
    clear all hx h
    rw [Bool.not_eq_true]
    cases c with
    | builtin id args =>
      have n1 := ne_held "bytearray.__contains__" (by decide +kernel) hc
      have n2 := ne_held "bytearray.__mod__" (by decide +kernel) hc
      have n3 := ne_held "bytearray.__rmod__" (by decide +kernel) hc
      have n4 := ne_held "_struct.pack_into.held" (by decide +kernel) hc
      have n5 := ne_held "bytearray.find.held" (by decide +kernel) hc
      obtain ⟨pos, kw⟩ := args
      cases pos with
      | nil =>
        delta Builtin.Bytes.exported.match_1
        refine (dif_neg n1).trans ?_
        refine (dif_neg n2).trans ?_
        refine (dif_neg n3).trans ?_
        refine (dif_neg n4).trans ?_
        refine (dif_neg n5).trans ?_
        rfl
      | cons v' tl =>
        have : (Builtin.Bytes.decodersThatHold ++ ["bytearray.__contains__", "bytearray.__mod__", "bytearray.__rmod__", "_struct.pack_into.held", "bytearray.find.held"]).contains id = false := hc
        rw [List.contains_eq_any_beq, List.any_append, Bool.or_eq_false_iff] at this
        delta Builtin.Bytes.exported.match_1
        refine (dif_neg n1).trans ?_
        refine (dif_neg n2).trans ?_
        refine (dif_neg n3).trans ?_
        refine (dif_neg n4).trans ?_
        refine (dif_neg n5).trans ?_
        show (_ && Builtin.Bytes.decodersThatHold.contains id) = false
        rw [List.contains_eq_any_beq, this.1, Bool.and_false]
    | _ => rfl

theorem codeC_builtin {id : String} {args : Args} {b : Builtin} {R : Result → Shared → Prop} (hb : entryFor table id = some b)
    (h : wpC (model prog w) (A.under (.builtin id args)) (b args)
      (fun fin s' => match fin with | .done f => R (.ok f) s' | .again c' => c'.quiet = true ∧ decoder c' = false ∧ codeC (model prog w) A c' R s') (fun e s' => R (.error e) s') s) :
    codeC (model prog w) A (.builtin id args) R s := by
  refine codeC_of_tree ?_
  show wpC _ _ (match entryFor table id with | some b => b args | none => unsupported ((withoutEnding? id "#data").getD id)) _ _ s
  rw [hb]; exact h

theorem ba_typeIs {s : Shared} {a : Addr} {b : Array UInt8} (h : IsBA s.heap a b) : s.TypeIs (.ref a) "bytearray" := by
  obtain ⟨o, e, c, _⟩ := h
  exact ⟨o, e, c⟩

theorem ba_release {s : Shared} {a : Addr} {b : Array UInt8} {Q : Bool → Shared → Prop} (h : IsBA s.heap a b) (hQ : Q false s) : wpAny (model prog w) A (Builtin.Bytes.ownRelease (.ref a)) Q E s := by
  unfold Builtin.Bytes.ownRelease Builtin.Bytes.slotIsOwn
  refine wpAny_bind (wpAny_bind (wpAny_specialOf (ba_typeIs h) FA.look_release ?_))
  dsimp only
  have h1 : (!("bytearray.__release_buffer__".endsWith ("." ++ "__release_buffer__"))) = false := by decide +kernel
  rw [h1]
  have h2 : ("bytearray.__release_buffer__".dropRight ("__release_buffer__".length + 1)) = "bytearray" := by decide +kernel
  rw [h2]
  exact wpAny_isInstance (ba_typeIs h) FA.sub (wpAny_pure hQ)

theorem ba_write {a : Addr} {b : Array UInt8} {f : Array UInt8 → Array UInt8} {Q : Unit → Shared → Prop} {o : Obj} (ho : s.heap.get? a = some o) (hd : o.data = .bytearray b 0) (hz : (f b).size ≤ 65536)
    (hQ : ∀ h', Heap.SameBut a s.heap h' → h'.get? a = some { o with data := .bytearray (f b) 0 } → Q () { s with heap := h' }) : wpAny (model prog w) A (Builtin.Bytes.write (.ref a) f) Q E s := by
  obtain ⟨oc, od, odt, os⟩ := o
  cases hd
  show wpAny _ _ (updateBytearray a f) _ _ _
  unfold updateBytearray
  refine wpAny_bind (wpAny_load ho ?_)
  show wpAny _ _ (update a (Obj.mapBytearray f) >>= fun _ => lookBehind a) _ _ _
  refine wpAny_bind (wpAny_update ho ?_)
  have h2 := Heap.get?_update_self (Obj.mapBytearray f) ho rfl
  refine wpAny_lookBehind h2 ?_ ?_
  · show (if (f b).size > sizeLine then some "bytearray:memory" else none) = none
    rw [if_neg]
    rw [sizeLine_eq]
    lia
  · exact hQ _ (Heap.SameBut.update ..) h2

theorem code_ba_init {a : Addr} {n : Int} {t : Tok} {Q : Shared → Prop} (ha : s.heap.get? a = some { cls := .type "bytearray", data := .bytearray #[] }) (h0 : 0 ≤ n) (hz : n ≤ 65536)
    (hQ : ∀ h', Heap.SameBut a s.heap h' → h'.get? a = some { cls := .type "bytearray", data := .bytearray (Array.replicate n.toNat 0) } → Q { s with heap := h' }) :
    wpC (model prog w) A (Builtin.«bytearray.__init__» ⟨[.ref a, .int n t], []⟩) (fun fin s' => fin = .done (.ret .none) ∧ Q s') E s := by
  have hB : IsBA s.heap a #[] := ⟨_, ha, rfl, rfl⟩
  unfold Builtin.«bytearray.__init__»
  dsimp only
  refine c_bind (up (ba_release hB ?_))
  show wpC _ _ (Builtin.Bytes.bindOptional "bytearray.__init__" "bytearray" ["source", "encoding", "errors"] [.int n t] [] >>= _) _ _ _
  rw [FA.bind]
  refine c_bind (c_pure ?_)
  dsimp only
  refine c_bind (up (wpAny_of_eq (a := ()) rfl ?_))
  refine c_bind (up (wpAny_of_eq (a := ()) rfl ?_))
  refine c_bind ?_
  unfold orM
  refine c_bind (c_exported ?_)
  show wpC _ _ (Builtin.Bytes.exportsOf (.ref a) >>= _) _ _ _
  refine up ?_
  refine wpAny_bind (wpAny_bind (wpAny_load ha (wpAny_pure (wpAny_pure ?_))))
  refine up (bm_if_false rfl ?_)
  refine wpAny_bind (ba_write ha rfl (by simp) fun h1 hs1 ha1 => ?_)
  refine wpAny_bind (wpAny_of_eq (a := none) rfl ?_)
  refine bm_if_false rfl ?_
  refine wpAny_bind (wpAny_pure ?_)
  refine wpAny_bind (wpAny_of_eq (a := some (.builtin "int.__index__")) ?_ ?_)
  · exact FA.int_index
  refine bm_if_true rfl ?_
  refine wpAny_bind (wpAny_attempt (wpAny_of_eq (rfl : asIndex (.int n t) = pure n) ?_))
  dsimp only
  refine bm_if_false ?_ ?_
  · simp [Builtin.Bytes.fitsIndex]; lia
  rw [if_neg (by lia)]
  refine bm_if_false ?_ ?_
  · simp; lia
  refine bm_if_false ?_ ?_
  · unfold Builtin.Bytes.tooLong; rw [sizeLine_eq]; simp; lia
  refine wpAny_bind (wpAny_rule ?_)
  by_cases hn : n > 0
  · rw [if_pos hn]
    refine wpAny_bind (ba_write ha1 rfl (by simp; lia) fun h2 hs2 ha2 => ?_)
    exact wpAny_pure ⟨rfl, hQ _ (hs1.trans hs2) ha2⟩
  · rw [if_neg hn]
    have : n = 0 := by lia
    subst this
    exact wpAny_pure ⟨rfl, hQ _ hs1 ha1⟩
end
end Mine
end
section
open PySem PySem.W PySem.Calls PyProof.Rows
set_option Elab.async false
set_option maxRecDepth 100000
set_option linter.unusedVariables false
namespace Mine
section
variable {prog : Program} {w : World} {A : Around} {E : Value → Shared → Prop} {s : Shared}
theorem c_if_false {α : Type} {M : Model} {c : Bool} {a b : Sem α} {Q : α → Shared → Prop} (hc : c = false) (h : wpC M A b Q E s) : wpC M A (if c = true then a else b) Q E s := by
  subst hc
  exact h
theorem call_ba {n : Int} {t : Tok} {Q : Value → Shared → Prop} (h0 : 0 ≤ n) (hz : n ≤ 65536)
    (hQ : ∀ h', (∀ b o, s.heap.get? b = some o → h'.get? b = some o) → h'.get? s.heap.objs.size = some { cls := .type "bytearray", data := .bytearray (Array.replicate n.toNat 0) } → Q (.ref s.heap.objs.size) { s with heap := h' }) :
    wpC (model prog w) A (PySem.call (.type "bytearray") [.int n t]) Q E s := by
  obtain ⟨c, tl, hmro⟩ := FA.called.mro
  refine c_call (codeC_of_tree ?_)
  show wpC _ _ (callAny (.type "bytearray") _) _ _ _
  refine c_pure ⟨Code.quiet_builtin _ (by decide +kernel), (show holders.contains "type.__call__" = false by decide +kernel), codeC_builtin F.entry_type_call ?_⟩
  rw [Around.under_plain (weight_type_call_type "bytearray" [.int n t] []) rfl]
  unfold Builtin.«type.__call__»
  dsimp only
  refine c_if_false FA.called.notType ?_
  refine c_if_false FA.called.canCreate ?_
  refine c_bind (up (wpAny_of_eq (FA.typeCall _) ?_))
  refine c_bind (up (wpAny_of_eq hmro ?_))
  refine c_if_false rfl ?_
  refine c_bind (up (wpAny_of_eq FA.called.made ?_))
  dsimp only
  refine c_bind (c_pure ?_)
  refine c_bind (c_holding (c_call (upCode (codeAny_mono (code_ba_new (Q₁ := fun v s' => v = .ref s.heap.objs.size ∧ s' = { s with heap := s.heap.push { cls := .type "bytearray", data := .bytearray #[] } }) (E := fun _ _ => False) (.int n t) ⟨rfl, rfl⟩) fun r s' hr => ?_))))
  match r, hr with
  | .ok (.ret v), hr =>
    obtain ⟨rfl, rfl⟩ := (show _ ∧ _ from hr)
    have ha : (s.heap.push { cls := .type "bytearray", data := .bytearray #[] }).get? s.heap.objs.size = some { cls := .type "bytearray", data := .bytearray #[] } := Heap.get?_push_size _ rfl
    have hT : ({ s with heap := s.heap.push { cls := .type "bytearray", data := .bytearray #[] } } : Shared).TypeIs (.ref s.heap.objs.size) "bytearray" := ⟨_, ha, rfl⟩
    dsimp only
    refine c_bind (up (wpAny_isInstance hT FA.sub ?_))
    refine c_if_false rfl ?_
    refine c_bind (c_holding ?_)
    simp only [callSpecial?]
    refine c_bind (up (wpAny_specialOf hT FA.slot_init.lookup ?_))
    simp only [FA.slot_init.bind]
    refine c_holding (c_bind (c_pure (c_bind (c_call (codeC_of_tree ?_)))))
    show wpC _ _ (do checkBuiltinCall "bytearray.__init__" ⟨[.ref s.heap.objs.size, .int n t], []⟩; again (.builtin "bytearray.__init__" ⟨[.ref s.heap.objs.size, .int n t], []⟩)) _ _ _
    refine c_bind (up (FA.slot_init.check _ _ _ _ _ _ _ _ hT (by unfold argsOk; kernel_rfl) ?_))
    refine c_pure ⟨plainId_quiet FA.slot_init.plain _, (show holders.contains "bytearray.__init__" = false by decide +kernel), codeC_builtin FA.entry_init ?_⟩
    refine c_mono (code_ba_init (E := fun _ _ => False) (Q := fun s' => Q (.ref s.heap.objs.size) s') ha h0 hz fun h' hs hg => hQ h' (fun b o e => ?_) hg) (fun fin s' y => ?_) fun _ _ y => y.elim
    · exact (hs.2 b (fun q => by rw [q, size_none] at e; cases e)).trans (Heap.get?_push_of_some _ e)
    · obtain ⟨rfl, y⟩ := y
      refine c_pure ?_
      dsimp only
      refine c_if_false rfl ?_
      exact c_pure y
end
end Mine
end
section
open PySem PySem.W PySem.Calls PyProof.Rows
set_option Elab.async false
set_option maxRecDepth 100000
set_option linter.unusedVariables false
namespace Mine
namespace FA
theorem slot_setitem : PySem.Slot "bytearray" "__setitem__" "bytearray.__setitem__" :=
  .of (owner := "bytearray") (n := "__setitem__") (by rw [typeLookup_type, builtinLookup_eq_fast]; kernel_rfl) (by decide +kernel) (by decide +kernel) (by decide +kernel)
    (by first | exact .inl (by decide +kernel) | exact .inr (by decide +kernel)) (by rw [isSubtype_type]; kernel_rfl)
theorem entry_setitem : entryFor table "bytearray.__setitem__" = some Builtin.«bytearray.__setitem__» := by first | exact entryFor_of_fast (by kernel_rfl) | exact entryFor_of_tree (by kernel_rfl)
theorem args_setitem (a b c : Value) : argsOk "bytearray.__setitem__" ⟨[a, b, c], []⟩ := by unfold argsOk; kernel_rfl
end FA
section
variable {prog : Program} {w : World} {A : Around} {E : Value → Shared → Prop} {s : Shared}
theorem ba_setItem {a : Addr} {b : Array UInt8} {k v : Int} {t u : Tok} {Q : Unit → Shared → Prop} {o : Obj} (ho : s.heap.get? a = some o) (hc : o.cls = .type "bytearray") (hd : o.data = .bytearray b 0) (h0 : 0 ≤ k) (h1 : k < b.size) (hz : b.size ≤ 65536) (hv0 : 0 ≤ v) (hv1 : v < 256)
    (hQ : ∀ h', Heap.SameBut a s.heap h' → h'.get? a = some { o with data := .bytearray (b.setIfInBounds k.toNat v.toNat.toUInt8) 0 } → Q () { s with heap := h' }) :
    wpAny (model prog w) A (setItem (.ref a) (.int k t) (.int v u)) Q E s := by
  have hT : s.TypeIs (.ref a) "bytearray" := ⟨o, ho, hc⟩
  unfold setItem
  try with_reducible refine wpAny_holding ?_
  first | refine wpAny_bind (wpAny_pure ?_) | skip
  refine wpAny_bind (wpAny_sequenceKey hT (by decide) ?_)
  refine wpAny_bind (wpAny_callSpecial?_slot (name := Str.ofString "__setitem__") hT FA.slot_setitem
    (wpAny_call_entry FA.slot_setitem hT FA.entry_setitem ?_ (FA.args_setitem _ _ _)))
  unfold Builtin.«bytearray.__setitem__»
  dsimp only
  refine bm_if_false rfl ?_
  refine wpAny_bind ?_
  unfold Builtin.Bytes.subscript?
  refine wpAny_bind (wpAny_of_eq FA.int_index ?_)
  refine bm_if_false rfl ?_
  refine wpAny_bind (wpAny_of_eq (rfl : asIndex (.int k t) = pure k) ?_)
  refine bm_if_false ?_ ?_
  · simp [Builtin.Bytes.fitsIndex]; lia
  refine wpAny_pure ?_
  dsimp only
  refine wpAny_bind ?_
  unfold Builtin.Bytes.byteValue
  refine wpAny_bind (wpAny_of_eq (rfl : asIndex (.int v u) = pure v) ?_)
  refine bm_if_false ?_ ?_
  · simp; lia
  refine wpAny_pure ?_
  refine wpAny_bind ?_
  unfold Builtin.Bytes.payload Builtin.Bytes.payload?
  refine wpAny_bind (wpAny_bind (wpAny_load ho ?_))
  rw [hd]
  refine wpAny_pure (wpAny_pure ?_)
  have hi : seqIndex? k b.size = some k.toNat := by
    unfold seqIndex?
    simp only [Int.not_lt.mpr h0, if_false]
    simp; lia
  rw [hi]
  dsimp only
  refine wpAny_bind (ba_write ho hd (by simpa using hz) fun h' hs hg => ?_)
  first
    | exact wpAny_bind (wpAny_pure (wpAny_pure ⟨.none, rfl, wpAny_pure (hQ _ hs hg)⟩))
    | exact wpAny_pure ⟨.none, rfl, wpAny_pure (hQ _ hs hg)⟩
theorem c_Assign_Subscript {M : Model} {env : Env} {o i : Expr} {pos' : Pos} {value : Expr} {pos : Pos} {Q : Flow → Shared → Prop}
    (h : wpC M A (eval value env) (fun v s₁ => wpC M A (eval o env) (fun ov s₂ => wpC M A (eval i env) (fun iv s₃ =>
      wpC M A (setItem ov iv v) (fun _ => Q .next) E s₃) E s₂) E s₁) E s)
    (hs : swapsWith value (some (.Subscript o i pos')) pos.line env = pure false := by rfl) :
    wpC M A (exec (.Assign [.Subscript o i pos'] value pos) env) Q E s := fun Γ p hΓ ok => by
  simp only [exec_Assign_Subscript o i pos' value pos hs, assign_Subscript, Sem.wp_bind', Sem.wp_holding, Sem.wp_cmd_standAt, Sem.wp_release, Sem.wp_pure']
  exact Sem.wp_mono M Γ _ (fun v p₁ s₁ h₁ => Sem.wp_mono M Γ _ (fun ov p₂ s₂ h₂ => Sem.wp_mono M Γ _ (fun iv _ s₃ h₃ => h₃ Γ _ hΓ ok)
    (fun _ _ _ h' => h') _ _ (h₂ Γ p₂ hΓ ok)) (fun _ _ _ h' => h') _ _ (h₁ Γ p₁ hΓ ok)) (fun _ _ _ h' => h') _ _ (h Γ _ hΓ ok)
end

section
variable {G : Gb} {n : Nat} {fm : Fm} {ρ : Rho} {φ : Post}
noncomputable def EvBA (G : Gb) (n : Nat) (fm : Fm) (ρ : Rho) (e : Expr) (b : Array UInt8) : Prop :=
  ∀ A s D P, AOk n A → St G D P fm ρ s → wpC G.M A (eval e fm.env) (fun c s' => ∃ s1 a h' tk, c = .ref a ∧ St G D P fm ρ s1 ∧ s1.heap.get? a = none ∧ s' = { s1 with heap := h', toks := tk } ∧ (∀ b o, s1.heap.get? b = some o → h'.get? b = some o) ∧ IsBA h' a b) (fun _ _ => False) s
theorem Ex.asgBA {x : Str} {e : Expr} {pos' pos : Pos} {b : Array UInt8} (h : EvBA G n fm ρ e b) (hw : Wrt fm x) (hn : ∀ a, φ.next (put ρ x (.ba a b))) (hs : swapsWith e (some (.Name x pos')) pos.line fm.env = pure false := by rfl) :
    Ex G n fm ρ (.Assign [.Name x pos'] e pos) φ := fun A s D P hA S =>
  c_Assign_Name (c_mono (h A s D P hA S) (fun c s' y => by
    obtain ⟨s1, a, h', tk, rfl, S1, hno, rfl, k, hl⟩ := y
    exact c_mono (S1.store (sl := .ba a b) hw k ⟨rfl, hno, hl⟩) (fun _ s'' S'' => ⟨_, hn a, S''⟩) no) no) hs
theorem EvBA.call {npos pos : Pos} {e : Expr} {k : Int} (hG : GbOk G) (hm : G.mg "bytearray" = none) (he : Ev G n fm ρ e (.int k)) (h0 : 0 ≤ k) (hz : k ≤ 65536)
    (hx : fm.env.kindOf "bytearray" = some .globalImplicit := by rfl)
    (hse : starEach [e] fm.env = [(false, eval e fm.env)] := by rfl)
    (hev : eval (.Call (.Name "bytearray" npos) [e] [] pos) fm.env = (do callWith pos (← eval (.Name "bytearray" npos) fm.env) [] (backTo pos (starEach [e] fm.env)) (backToKw pos (keywordEach [] fm.env))) := by rfl) :
    EvBA G n fm ρ (.Call (.Name "bytearray" npos) [e] [] pos) (Array.replicate k.toNat 0) := fun A s D P hA S =>
  c_Call (up (Name_function_global S.kind hx (loadGlobal_builtin (v := .type "bytearray") (S.glob ▸ hG.g.keeps S.gst.base) hm (S.blt ▸ hG.b.keeps S.gst.base) ((hG.builtins _ (by decide)).trans (by rfl))
    (callWith_q (.inr (.inl ⟨_, rfl⟩)) hA S (EvL.cons he EvL.nil hse) (fun cs s1 S1 r => by
      obtain ⟨c90, rfl, r90⟩ := RelL.one r
      obtain ⟨t, rfl⟩ := Rel.intAt r90
      exact call_ba h0 hz fun h' k' hg => ⟨s1, s1.heap.objs.size, h', s1.toks, rfl, S1, size_none _, rfl, k', ⟨_, hg, rfl, rfl⟩⟩) (by rw [hse]; rfl) (by simp))) (by decide))) hev
/-- x[i] = e, where x holds a bytearray -/
theorem Ex.setBA {x : Str} {a : Addr} {b : Array UInt8} {e i : Expr} {v k : Int} {p1 p2 pos : Pos} (hm : (x, Slot.ba a b) ∈ ρ) (he : Ev G n fm ρ e (.int v)) (hi : Ev G n fm ρ i (.int k)) (h0 : 0 ≤ k) (h1 : k < b.size) (hz : b.size ≤ 65536) (hv0 : 0 ≤ v) (hv1 : v < 256)
    (hn : φ.next (put ρ x (.ba a (b.setIfInBounds k.toNat v.toNat.toUInt8))))
    (hd : (x == ("__debug__" : Str)) = false := by decide)
    (hs : swapsWith e (some (.Subscript (.Name x p1) i p2)) pos.line fm.env = pure false := by rfl) :
    Ex G n fm ρ (.Assign [.Subscript (.Name x p1) i p2] e pos) φ := fun A s D P hA S => by
  refine c_Assign_Subscript (c_mono (he A s D P hA S) (fun c1 s1 y => ?_) no) hs
  obtain ⟨S1, r1⟩ := y
  cases r1
  obtain ⟨c, hv, rfl, hb⟩ := S1.vars _ hm
  refine up (wpAny_Name (loadName_var S1.kind hv ?_) hd)
  refine c_mono (hi A s1 D P hA S1) (fun c2 s2 y => ?_) no
  obtain ⟨S2, r2⟩ := y
  cases r2
  obtain ⟨c, hv, e', o, ho, hc, hdt⟩ := S2.vars _ hm
  refine up (ba_setItem ho hc hdt h0 h1 hz hv0 hv1 fun h' hs' hg => ?_)
  exact ⟨_, hn, S2.ownSet (tk := s2.toks) (sl' := .ba a _) hm rfl rfl hs' (fun P' => ⟨rfl, _, hg, hc, rfl⟩) ⟨_, hg⟩⟩
theorem ints_set {vs : List Value} {ns : List Int} (h : IntsAre vs ns) : ∀ {k : Nat} {v : Int} {t : Tok}, IntsAre (vs.set k (.int v t)) (ns.set k v) := by
  induction h with
  | nil => intro k v t; simp; exact .nil
  | cons n t _ ih =>
    intro k v t
    cases k with
    | zero => exact .cons _ _ (by assumption)
    | succ k => exact .cons _ _ ih
/-- x[i] = e, where x holds an own list -/
theorem Ex.setOwn {x : Str} {a : Addr} {xs : List Int} {e i : Expr} {v k : Int} {p1 p2 pos : Pos} (hm : (x, Slot.own a xs) ∈ ρ) (he : Ev G n fm ρ e (.int v)) (hi : Ev G n fm ρ i (.int k)) (h0 : 0 ≤ k) (h1 : k < xs.length) (hz : xs.length ≤ 65536)
    (hn : φ.next (put ρ x (.own a (xs.set k.toNat v))))
    (hd : (x == ("__debug__" : Str)) = false := by decide)
    (hs : swapsWith e (some (.Subscript (.Name x p1) i p2)) pos.line fm.env = pure false := by rfl) :
    Ex G n fm ρ (.Assign [.Subscript (.Name x p1) i p2] e pos) φ := fun A s D P hA S => by
  refine c_Assign_Subscript (c_mono (he A s D P hA S) (fun c1 s1 y => ?_) no) hs
  obtain ⟨S1, r1⟩ := y
  cases r1
  rename_i t1
  obtain ⟨c, hv, rfl, hb⟩ := S1.vars _ hm
  refine up (wpAny_Name (loadName_var S1.kind hv ?_) hd)
  refine c_mono (hi A s1 D P hA S1) (fun c2 s2 y => ?_) no
  obtain ⟨S2, r2⟩ := y
  cases r2
  obtain ⟨c, hv, e', vs, ⟨n', ho⟩, hvs⟩ := S2.vars _ hm
  have hlen := hvs.length
  refine up (ki_setAt ho h0 (by lia) (by simp; lia) ?_)
  have q := PySem.IsL.update ho (·.setIfInBounds k.toNat (.int v t1))
  have hp : (s2.heap.update a (Obj.mapSeq (·.setIfInBounds k.toNat (.int v t1)))).PlainList a (vs.set k.toNat (.int v t1)).toArray := ⟨_, by simpa using q⟩
  exact ⟨_, hn, S2.ownSet (tk := s2.toks) (sl' := .own a _) hm rfl rfl (Heap.SameBut.update ..) (fun P' => ⟨rfl, _, hp, ints_set hvs⟩) ⟨_, q⟩⟩
end
end Mine
end
section
open PySem PySem.W PySem.Calls PyProof.Rows
set_option Elab.async false
set_option maxRecDepth 100000
set_option linter.unusedVariables false
namespace Mine
namespace FA
theorem no_bytes : typeLookup (.type "bytearray") "__bytes__" = pure none := by rw [typeLookup_type, builtinLookup_eq_fast]; kernel_rfl
theorem noIndex : typeLookup (.type "bytearray") "__index__" = pure none := by rw [typeLookup_type, builtinLookup_eq_fast]; kernel_rfl
theorem look_buffer : typeLookup (.type "bytearray") "__buffer__" = pure (some (.builtin "bytearray.__buffer__")) := by rw [typeLookup_type, builtinLookup_eq_fast]; kernel_rfl
end FA
section
variable {prog : Program} {w : World} {A : Around} {E : Value → Shared → Prop} {s : Shared}
theorem ba_buffer {a : Addr} {b : Array UInt8} {Q : Option (Array UInt8) → Shared → Prop} {full : Bool} {nm : String} (h : IsBA s.heap a b) (hQ : Q (some b) s) : wpAny (model prog w) A (Builtin.Bytes.buffer? nm (.ref a) full) Q E s := by
  have hT := ba_typeIs h
  obtain ⟨o, ho, hc, hd⟩ := id h
  unfold Builtin.Bytes.buffer?
  refine wpAny_bind (wpAny_specialOf hT FA.look_buffer ?_)
  dsimp only
  refine wpAny_bind ?_
  unfold Builtin.Bytes.slotIsOwn
  refine wpAny_bind (wpAny_specialOf hT FA.look_buffer ?_)
  dsimp only
  have h1 : (!("bytearray.__buffer__".endsWith ("." ++ "__buffer__"))) = false := by decide +kernel
  rw [h1]
  have h2 : ("bytearray.__buffer__".dropRight ("__buffer__".length + 1)) = "bytearray" := by decide +kernel
  rw [h2]
  refine bm_if_false rfl (wpAny_isInstance hT FA.sub ?_)
  refine bm_if_false rfl ?_
  refine wpAny_bind (wpAny_specialOf hT FA.look_buffer ?_)
  refine wpAny_bind (ba_release h ?_)
  refine bm_if_false rfl ?_
  refine wpAny_bind ?_
  unfold Builtin.Bytes.payload Builtin.Bytes.payload?
  refine wpAny_bind (wpAny_bind (wpAny_load ho ?_))
  rw [hd]
  exact wpAny_pure (wpAny_pure (wpAny_pure hQ))

theorem ba_bytes_new {a : Addr} {b : Array UInt8} {Q : Value → Shared → Prop} (h : IsBA s.heap a b) (hz : b.size ≤ 65536)
    (hQ : ∀ t k, Q (.bytes b t) { s with toks := k }) :
    codeAny (model prog w) A (.call (.builtin "bytes.__new__") ⟨[.type "bytes", .ref a], []⟩) (wants Q E) s := by
  refine codeAny_of_tree ?_
  show wpAny _ A.in1 (do checkBuiltinCall "bytes.__new__" ⟨[.type "bytes", .ref a], []⟩; again (.builtin "bytes.__new__" ⟨[.type "bytes", .ref a], []⟩)) _ _ s
  refine wpAny_bind (wpAny_of_eq (F.bm_newCall _) (wpAny_pure ⟨plainId_quiet F.bm_plain _, codeAny_builtin F.bm_entry ?_⟩))
  rw [Around.under_plainId F.bm_plain _]
  have hT := ba_typeIs h
  obtain ⟨ol, hol, hoc, hod⟩ := id h
  unfold Builtin.«bytes.__new__»
  refine wpAny_bind (wpAny_of_eq (a := true) rfl ?_)
  refine bm_if_false rfl ?_
  refine wpAny_bind (wpAny_of_eq F.bm_sub ?_)
  refine bm_if_false rfl ?_
  refine wpAny_bind (wpAny_of_eq (F.bm_bind _) ?_)
  refine wpAny_bind (wpAny_of_eq (a := ()) rfl ?_)
  refine wpAny_bind (wpAny_of_eq (a := ()) rfl ?_)
  refine bm_if_false rfl ?_
  refine wpAny_bind (wpAny_specialOf hT FA.no_bytes ?_)
  refine wpAny_bind (wpAny_bind ?_)
  show wpAny _ _ (load a >>= _) _ _ _
  refine wpAny_bind (wpAny_load hol ?_)
  rw [hod]
  refine wpAny_pure (wpAny_pure ?_)
  refine bm_if_false rfl ?_
  refine wpAny_bind (wpAny_specialOf hT FA.noIndex ?_)
  refine bm_if_true rfl ?_
  first
    | show wpAny _ _ (Builtin.Bytes.buffer? "bytes.__new__" (.ref a) true >>= _) _ _ _
    | (refine wpAny_bind ?_; show wpAny _ _ (Builtin.Bytes.buffer? "bytes.__new__" (.ref a) true >>= _) _ _ _)
  refine wpAny_bind (ba_buffer h ?_)
  refine wpAny_bind (wpAny_rule ?_)
  refine wpAny_bind (wpAny_mkBytes ?_ (by rw [sizeLine_eq]; lia))
  show wpAny _ _ (if (Value.type "bytes" == Value.type "bytes") = true then _ else _) _ _ _
  refine bm_if_true (by decide) ?_
  first
    | exact wpAny_pure (hQ _ _)
    | exact wpAny_bind (wpAny_pure (wpAny_pure (hQ _ _)))
    | exact wpAny_pure (wpAny_pure (hQ _ _))

theorem call_bytes_ba {a : Addr} {b : Array UInt8} {Q : Value → Shared → Prop} (h : IsBA s.heap a b) (hz : b.size ≤ 65536)
    (hQ : ∀ t k, Q (.bytes b t) { s with toks := k }) : wpAny (model prog w) A (PySem.call (.type "bytes") [.ref a]) Q E s := by
  refine callType_codes (Q₁ := fun obj s₁ => s₁.TypeIs obj "bytes" ∧ Q obj s₁) F.bm_called (F.bm_typeCall _) F.entry_object_init
    (ba_bytes_new h hz fun t k => ⟨PySem.W.typeIs_bytes _ _ _, hQ t k⟩) fun obj s₁ h₁ => ?_
  exact ⟨h₁.1, F.args_object_init_2 obj _, object_init_meets F.bm_called.init.lookup F.bm_called.made (by decide) prog w A.in1 _ s₁ ⟨h₁.1, rfl, h₁.2⟩⟩

noncomputable def ByteAt (b : Array UInt8) (i : Nat) (v : Value) : Prop := ∃ c u, b[i]? = some c ∧ v = .int (c.toNat : Int) u

theorem extend_bytes {R : Result → Shared → Prop} (hh : A.handled = none) (b : Array UInt8) (t : Tok) (S : Addr) (res : Value) (c₀ : Nat) (hS : s.heap.get? S = some { cls := .type "list", data := .seq #[] c₀ })
    (hR : ∀ h' tk acc' c', (∀ b o, b ≠ S → s.heap.get? b = some o → h'.get? b = some o) → h'.get? S = some { cls := .type "list", dict := none, data := .seq acc' c', slots := #[] } →
      ItemsOf (ByteAt b) acc' b.size → R (.ok (.ret res)) { s with heap := h', toks := tk }) (hn : b.size ≤ sizeLine) :
    wpAny (model prog w) A.in1 (Builtin.List.listExtendWith (.ref S) (.bytes b t) res)
      (fun fin s' => match fin with | .done f => R (.ok f) s' | .again c' => c'.quiet = true ∧ codeAny (model prog w) A c' R s') (fun e s' => R (.error e) s') s := by
  have hSI : S ≠ s.heap.objs.size := Nat.ne_of_lt (Heap.lt_size hS)
  have hSf : S ∉ [s.heap.objs.size] := fun hm => hSI (List.mem_singleton.mp hm)
  unfold Builtin.List.listExtendWith
  refine wpAny_bind (wpAny_typeOf (T := "bytes") (v := .bytes b t) rfl ?_)
  have h1 : Builtin.List.listSameRef (.ref S) (.bytes b t) = false := rfl
  have h2 : (Value.type "bytes" == Value.type "list") = false := by decide
  have h3 : (Value.type "bytes" == Value.type "tuple") = false := by decide
  simp only [h1, h2, h3, Bool.or_false, Bool.false_eq_true, if_false]
  refine wpAny_bind (KBw.pyIter_bytes ?_)
  refine wpAny_bind (wpAny_holding ?_)
  unfold Builtin.List.listLengthHint
  refine wpAny_bind (wpAny_specialOf (T := "bytes") (v := .bytes b t) rfl FB.slot_bytes_len.lookup ?_)
  wp_delta
  refine wpAny_bind (wpAny_isInstance (T := "bytes") (v := .bytes b t) (b := true) rfl (by rw [isSubtype_type]; kernel_rfl) ?_)
  show wpAny _ _ (typeOf (Value.bytes b t) >>= _) _ _ _
  refine wpAny_bind (wpAny_typeOf (T := "bytes") (v := .bytes b t) rfl ?_)
  refine wpAny_pure ?_
  rw [if_neg (by decide)]
  refine wpAny_pure ⟨plainId_quiet F.plain_extend_loop _, codeAny_extend_loopS (KBw.walks (prog := prog) (w := w) (A := A.in1) hh s.heap.objs.size b t).toS hn _ hSf _ b.size 0 _ _ _ rfl (Nat.zero_le _) ?_ (Heap.get?_push_of_some _ hS) (ItemsOf.nil _) fun s' acc' c' hm hS' hacc => ?_⟩
  · exact ⟨_, Heap.get?_push_size _ rfl, rfl, rfl⟩
  rw [Moved.eq_with hm]
  refine hR s'.heap s'.toks acc' c' (fun b ob hb e => hm.heap b ob (fun hmem => ?_) (Heap.get?_push_of_some _ e)) hS' hacc
  rcases List.mem_cons.mp hmem with e' | hmem
  · exact hb e'
  · exact absurd (Heap.lt_size e) (by rw [List.mem_singleton.mp hmem]; exact Nat.lt_irrefl _)
end
end Mine
end
section
open PySem PySem.W PySem.Calls PyProof.Rows
set_option Elab.async false
set_option maxRecDepth 100000
set_option linter.unusedVariables false
namespace Mine
section
variable {prog : Program} {w : World} {A : Around} {E : Value → Shared → Prop} {s : Shared}
theorem list_init_bytes {R : Result → Shared → Prop} (hh : A.handled = none) (x : Array UInt8) (t : Tok) (S : Addr) (hS : s.heap.get? S = some { cls := .type "list", data := .seq #[] })
    (hR : ∀ h' tk acc' c', (∀ b o, b ≠ S → s.heap.get? b = some o → h'.get? b = some o) → h'.get? S = some { cls := .type "list", dict := none, data := .seq acc' c', slots := #[] } →
      ItemsOf (ByteAt x) acc' x.size → R (.ok (.ret .none)) { s with heap := h', toks := tk }) (hn : x.size ≤ sizeLine) :
    wpAny (model prog w) A.in1 (Builtin.«list.__init__» ⟨[.ref S, .bytes x t], []⟩)
      (fun fin s' => match fin with | .done f => R (.ok f) s' | .again c' => c'.quiet = true ∧ codeAny (model prog w) A c' R s') (fun e s' => R (.error e) s') s := by
  show wpAny _ _ (do let old ← Builtin.List.listItems (.ref S); Builtin.List.listUpdate (.ref S) (fun _ => #[]); letGo old.toList.reverse; Builtin.List.listExtendWith (.ref S) (.bytes x t) .none) _ _ s
  refine wpAny_bind ?_
  unfold Builtin.List.listItems
  refine wpAny_bind (wpAny_seqItems hS rfl (wpAny_pure ?_))
  show wpAny _ _ (updateSeq S (fun _ => #[]) >>= fun _ => letGo (#[] : Array Value).toList.reverse >>= fun _ => Builtin.List.listExtendWith (.ref S) (.bytes x t) .none) _ _ s
  refine wpAny_bind (wpAny_updateSeq hS rfl ?_)
  have hS₂ := Heap.get?_update_self (Obj.mapSeq (fun _ => (#[] : Array Value))) hS rfl
  have oth : ∀ b o, b ≠ S → s.heap.get? b = some o → (s.heap.update S (Obj.mapSeq (fun _ => (#[] : Array Value)))).get? b = some o :=
    fun b o hb e => (Heap.get?_update_other _ _ (Ne.symm hb)).trans e
  refine wpAny_bind (wpAny_letGo ?_)
  refine extend_bytes (hn := hn) hh x t S .none _ hS₂ fun h' tk acc' c' hk hS' hacc => ?_
  exact hR h' tk acc' c' (fun b o hb e => hk b o hb (oth b o hb e)) hS' hacc
theorem call_list_bytes {Q : Value → Shared → Prop} (hh : A.handled = none) (x : Array UInt8) (t : Tok)
    (hQ : ∀ h' tk acc' c', (∀ b o, s.heap.get? b = some o → h'.get? b = some o) →
      h'.get? s.heap.objs.size = some { cls := .type "list", dict := none, data := .seq acc' c', slots := #[] } → ItemsOf (ByteAt x) acc' x.size → Q (.ref s.heap.objs.size) { s with heap := h', toks := tk }) (hn : x.size ≤ sizeLine) :
    wpAny (model prog w) A (PySem.call (.type "list") [.bytes x t]) Q E s := by
  refine callType_codes (Q₁ := fun obj s₁ => obj = .ref s.heap.objs.size ∧ s₁ = { s with heap := s.heap.push { cls := .type "list", data := .seq #[] } }) F.called_list (F.typeCall_list_1 _) F.entry_list_init
    (code_list_new _ ⟨rfl, rfl⟩) fun obj s₁ h₁ => ?_
  obtain ⟨rfl, rfl⟩ := h₁
  have hS : (s.heap.push { cls := .type "list", data := .seq #[] }).get? s.heap.objs.size = some { cls := .type "list", data := .seq #[] } := Heap.get?_push_size _ rfl
  refine ⟨⟨_, hS, rfl⟩, F.args_list_init_2 _ _, list_init_bytes (A := A.in1) (hn := hn) hh x t _ hS fun h' tk acc' c' hk hS' hacc => ?_⟩
  exact ⟨rfl, hQ h' tk acc' c' (fun b o e => hk b o (Nat.ne_of_lt (Heap.lt_size e)) (Heap.get?_push_of_some _ e)) hS' hacc⟩
end
/-- the ints of a row of bytes -/
abbrev bi (b : Array UInt8) : List Int := KBw.bInts b
theorem byteAt_ints {x : Array UInt8} {acc : Array Value} (h : ItemsOf (ByteAt x) acc x.size) : IntsAre acc.toList (bi x) := by
  obtain ⟨hs, hi⟩ := h
  have key : ∀ (l : List Value) (m : List UInt8), l.length = m.length → (∀ (j : Nat) (v : Value), l[j]? = some v → ∃ (c : UInt8) (u : Tok), m[j]? = some c ∧ v = Value.int (c.toNat : Int) u) → IntsAre l (m.map fun c => (c.toNat : Int)) := by
    intro l
    induction l with
    | nil => intro m hm _; cases m with
      | nil => exact .nil
      | cons _ _ => simp at hm
    | cons v l ih =>
      intro m hm hq
      cases m with
      | nil => simp at hm
      | cons c m =>
        obtain ⟨c', u, e1, rfl⟩ := hq 0 v rfl
        simp at e1
        subst e1
        exact .cons _ _ (ih m (by simpa using hm) fun j v e => by simpa using hq (j + 1) v (by simpa using e))
  exact key acc.toList x.toList (by simpa using hs) fun j v e => by
    obtain ⟨c, u, e1, e2⟩ := hi j v (by simpa using e)
    exact ⟨c, u, by simpa using e1, e2⟩
theorem bi_byteArr {ns : List Int} (h : ∀ n ∈ ns, 0 ≤ n ∧ n < 256) : bi (byteArr ns) = ns := by
  unfold bi KBw.bInts byteArr
  simp only [List.map_map]
  conv => rhs; rw [← List.map_id ns]
  refine List.map_congr_left fun n hn => ?_
  have := h n hn
  simp [Nat.toUInt8]
  lia

section
variable {G : Gb} {n : Nat} {fm : Fm} {ρ : Rho} {φ : Post}
theorem OpL.bytes {ns : List Int} (hr : ∀ n ∈ ns, 0 ≤ n ∧ n < 256) (hz : ns.length ≤ 65536) : OpL G n (fun cs => PySem.call (.type "bytes") cs) [.list (vi ns)] (.bytes (byteArr ns)) := fun A s D P fm ρ cs hA S r => by
  obtain ⟨c90, rfl, r90⟩ := RelL.one r
  obtain ⟨a, vs, rfl, hP, hl, hr'⟩ := Rel.listAt r90
  have hi := ints_relL hr'
  exact up (call_bytes_ints hl hi hr (by rw [hi.length, sizeLine_eq]; lia) hA.handled fun h' t k kk => ⟨S.grow kk, .bytes _ _⟩)
theorem OpL.listB {b : Array UInt8} (hz : b.size ≤ 65536) : OpL G n (fun cs => PySem.call (.type "list") cs) [.bytes b] (.list (vi (bi b))) := fun A s D P fm ρ cs hA S r => by
  obtain ⟨c90, rfl, r90⟩ := RelL.one r
  obtain ⟨t, rfl⟩ := Rel.bytesAt r90
  refine up (call_list_bytes hA.handled b t (fun h' tk acc c' kk hg hi => ?_) (by rw [sizeLine_eq]; lia))
  exact ⟨S.grow kk, .list (S.topCln _ (size_none _)) (vs := acc.toList) ⟨_, hg, rfl, c', rfl⟩ (relL_ints (byteAt_ints hi))⟩
theorem OpL.lenB {b : Array UInt8} (hz : b.size ≤ 65536) : OpL G n (fun cs => PySem.call (.builtin "len") cs) [.bytes b] (.int b.size) := fun A s D P fm ρ cs hA S r => by
  obtain ⟨c90, rfl, r90⟩ := RelL.one r
  obtain ⟨t, rfl⟩ := Rel.bytesAt r90
  exact up (len_bytes (by lia) ⟨S.tok, .int _ _⟩)
theorem Ev.itemB {e i : Expr} {pos : Pos} {b : Array UInt8} {k : Int} {x : Int} (he : Ev G n fm ρ e (.bytes b)) (hi : Ev G n fm ρ i (.int k)) (h0 : 0 ≤ k) (hk : k < b.size) (hz : b.size ≤ 65536) (hx : (bi b)[k.toNat]? = some x)
    (hs : ∀ o j, subscripted i false o j = operate [o, j] (getItem o j) := by intro _ _; rfl) : Ev G n fm ρ (.Subscript e i pos) (.int x) := fun A s D P hA S =>
  c_Subscript (c_mono (he A s D P hA S) (fun c s1 x1 => c_mono (hold1 x1.1 x1.2 fun D' S' => hi A s1 D' P hA S') (fun c2 s2 x2 => by
    obtain ⟨S2, r1, r2⟩ := x2
    cases r2 with
    | int _ t => cases r1 with
      | bytes _ u =>
        have e : b.toList.toArray = b := Array.toArray_toList
        have g : wpAny G.M A (getItem (.bytes b.toList.toArray u) (.int k t)) (fun c s' => St G D P fm ρ s' ∧ Rel (Cln P ρ) s'.heap (.int x) c) (fun _ _ => False) s2 := by
          refine getItem_bytes (l := b.toList) (by simp; lia) h0 (by simpa using hk) ?_
          rw [KBw.getD_ints, List.getD_eq_getElem?_getD, show (b.toList.map fun c => (c.toNat : Int))[k.toNat]? = some x from hx]
          exact ⟨S2.tok, .int _ _⟩
        rw [e] at g
        exact up (tail_any (typeIs_bytes _ _ _) FB.slot_bytes_getitem.lookup g (hs _ _))) no) no)
/-- bytes(x), where x holds a bytearray -/
theorem Ev.bytesBA {x : Str} {a : Addr} {b : Array UInt8} {npos xpos pos : Pos} (hG : GbOk G) (hm : G.mg "bytes" = none) (hx : (x, Slot.ba a b) ∈ ρ) (hz : b.size ≤ 65536)
    (hk : fm.env.kindOf "bytes" = some .globalImplicit := by rfl) (hd : (x == ("__debug__" : Str)) = false := by decide)
    (hse : starEach [.Name x xpos] fm.env = [(false, eval (.Name x xpos) fm.env)] := by rfl)
    (hev : eval (.Call (.Name "bytes" npos) [.Name x xpos] [] pos) fm.env = (do callWith pos (← eval (.Name "bytes" npos) fm.env) [] (backTo pos (starEach [.Name x xpos] fm.env)) (backToKw pos (keywordEach [] fm.env))) := by rfl) :
    Ev G n fm ρ (.Call (.Name "bytes" npos) [.Name x xpos] [] pos) (.bytes b) := fun A s D P hA S => by
  refine c_Call (up (Name_function_global S.kind hk (loadGlobal_builtin (v := .type "bytes") (S.glob ▸ hG.g.keeps S.gst.base) hm (S.blt ▸ hG.b.keeps S.gst.base) ((hG.builtins _ (by decide)).trans (by rfl)) ?_) (by decide))) hev
  rw [hse]
  refine c_callWith (P := fun hp => True) rfl (fun hp k => ⟨.machine, .inr (.inl rfl), .of_pure rfl⟩) ?_
  refine c_evalArgs_plain ?_
  obtain ⟨c, hv, rfl, hb⟩ := S.vars _ hx
  have key := c_args_cons (M := G.M) (A := A) (E := fun _ _ => False) (s := s) (pos := pos) (rest := []) (Q := fun vs s' => True ∧ wpC G.M A (PySem.call (Value.type "bytes") ([] ++ vs) []) (fun c s' => St G D P fm ρ s' ∧ Rel (Cln P ρ) s'.heap (V.bytes b) c) (fun x x_1 => False) s')
    (up (wpAny_Name (loadName_var S.kind hv (c_pure ⟨trivial, up (call_bytes_ba hb hz fun t k => ⟨S.tok, .bytes _ _⟩)⟩)) hd)) hse
  rw [hse] at key
  exact key
end
end Mine
end
section
open PySem PySem.W PySem.Calls PyProof.Rows
set_option Elab.async false
set_option maxRecDepth 100000
set_option linter.unusedVariables false
namespace Mine

/-! ### defs made in a body -/
noncomputable def nestEnv (fd : FuncData) (L f : Addr) : Env := newEnv fd.scope L fd.globals fd.closure (fd.qualname ++ ".<locals>.") (some f) fd.code none fd.builtins
noncomputable def frameN (fd : FuncData) (L f : Addr) : Fm := ⟨nestEnv fd L f, []⟩

section
variable {prog : Program} {w : World} {A : Around} {E : Value → Shared → Prop} {s : Shared} {R : Result → Shared → Prop}
theorem codeC_call_nest {a : Addr} {o : Obj} {fd : FuncData} {body : List Stmt} {vals : List Value} {binds : List (Str × Value)}
    (hroom : A.depth < recursionLimit) (ho : s.heap.get? a = some o) (hdata : o.data = .func fd) (hlim : s.heap.NoLimit) (hcd : s.heap.CodeRec fd.code fd.qualname)
    (hbody : fd.body = .stmts body) (hbind : bindArgs fd ⟨vals, []⟩ = pure binds) (hcell : ∀ x ∈ fd.scope.names, x.2 ≠ .cell) (hl : ∀ x ∈ binds, fd.scope.names.lookup x.1 = some .local)
    (h : ∀ h₁ tk, h₁.Ns s.heap.objs.size (fun x => binds.reverse.lookup x) → (∀ b o, s.heap.get? b = some o → h₁.get? b = some o) →
      wpC (model prog w) (A.deeper (nestEnv fd s.heap.objs.size a)) (execs body (nestEnv fd s.heap.objs.size a)) (fun f s' => R (.ok (.ret (match f with | .ret v => v | _ => .none))) s') (fun _ _ => False) { s with heap := h₁, toks := tk })
    (hco : fd.scope.isCoroutine = false) (hgen : fd.scope.isGenerator = false) (hk : fd.scope.kind = .function) : codeC (model prog w) A (.call (.ref a) ⟨vals, []⟩) R s := by
  refine codeC_call_function hroom ho hdata hco hgen hbody hcd ?_
  rw [hbind]
  refine c_pure (up (wpAny_newFunctionEnv hcell hl (fun h₁ hns hsb => ?_) hk))
  have kk : ∀ b o, s.heap.get? b = some o → h₁.get? b = some o := fun b o e => hsb.extBut b o (Nat.ne_of_lt (Heap.lt_size e)) (Heap.get?_push_of_some _ e)
  exact ⟨hlim.keeps kk, codeC_func (h h₁ _ hns kk)⟩
theorem c_FunctionDef {M : Model} {env : Env} {name : Str} {params : Arguments} {body : List Stmt} {scope : Scope} {pos : Pos} {Q : Flow → Shared → Prop} (hd0 : params.defaults = []) (hk0 : params.kw_defaults = []) (ha : annTrees params none env = [])
    (h : wpC M A (makeFunction name (qualnameIn env name name) params (.stmts body) scope env [] [] [] pos pos.line) (fun v s' => wpC M A (storeName env name v) (fun _ s'' => Q .next s'') E s') E s) :
    wpC M A (exec (.FunctionDef name params body [] none [] scope none name pos) env) Q E s := by
  rw [exec_def]
  refine c_bind (c_stand (c_bind (c_holding ?_)))
  rw [defaultsOf_eq, hd0, hk0, ha]
  refine c_bind (c_pure ?_)
  refine c_bind (c_holding (c_pure ?_))
  refine c_holding (c_bind (c_pure ?_))
  exact c_mono h (fun v s' h' => c_bind (c_stand (c_bind (c_bindName (c_mono h' (fun _ _ h'' => c_pure h'') fun _ _ x => x))))) fun _ _ x => x
end

section
variable {G : Gb} {D : Addr → Obj → Prop} {P : Addr → Prop} {fm : Fm} {ρ : Rho} {s s' : Shared} {n : Nat} {φ : Post}

theorem St.noTab (S : St G D P fm ρ s) {b : Addr} {o : Obj} (e : s.heap.get? b = some o) (h : VarObj o ∨ OwnObj o ∨ Firm o) : ¬ G.isTab b := fun q => by
  obtain ⟨t, ht, rfl⟩ := q
  rcases h with v | v | v
  · obtain ⟨ps, e'⟩ := tabOk_at (S.gst.tabs t ht)
    rw [e] at e'; cases e'; rcases v with ⟨_, _, d⟩ | ⟨_, d⟩ <;> cases d
  · obtain ⟨ps, e'⟩ := tabOk_at (S.gst.tabs t ht)
    rw [e] at e'; cases e'; rcases v with ⟨_, _, d⟩ | ⟨_, _, d⟩ <;> cases d
  · exact v.notTab (S.gst.tabs t ht) e

/-- behind a call that may have changed one owned object -/
theorem St.callOwn {x : Str} {a : Addr} {sl sl' : Slot} (S : St G D P fm ρ s) (g : Gst G s') (hm : (x, sl) ∈ ρ) (ha : sl.addr? = some a) (ha' : sl'.addr? = some a)
    (k : ∀ b o, ¬ G.isTab b → b ≠ a → s.heap.get? b = some o → s'.heap.get? b = some o) (hok : ∀ P', SlotOk P' s'.heap sl' (.ref a)) (hlive : ∃ o, s'.heap.get? a = some o) : St G D P fm (put ρ x sl') s' := by
  obtain ⟨oa, ea, hoa⟩ := S.ownAt ⟨_, hm, ha⟩
  have vo : ∀ o, VarObj o → ¬ OwnObj o := fun o q r => by rcases q with ⟨es, n, d⟩ | ⟨v, d⟩ <;> rcases r with ⟨i, n, d'⟩ | ⟨b, n, d'⟩ <;> (rw [d] at d'; cases d')
  have fo : ∀ o, Firm o → ¬ OwnObj o := fun o q z => by rcases q with ⟨fd, d⟩ | ⟨vs, _, _, d, _⟩ <;> rcases z with ⟨i, n, d'⟩ | ⟨b, n, d'⟩ <;> (rw [d] at d'; cases d')
  have nea : ∀ b o, ¬ OwnObj o → s.heap.get? b = some o → b ≠ a := fun b o q e z => q (by rw [z, ea] at e; cases e; exact hoa)
  have kv : ∀ b o, VarObj o → s.heap.get? b = some o → s'.heap.get? b = some o := fun b o v e => k b o (S.noTab e (.inl v)) (nea b o (vo o v) e) e
  have kf : ∀ b o, Firm o → s.heap.get? b = some o → s'.heap.get? b = some o := fun b o v e => k b o (S.noTab e (.inr (.inr v))) (nea b o (fo o v) e) e
  have kD : ∀ b o, D b o → s'.heap.get? b = some o := fun b o e => k b o (S.tabD b o e) (fun z => S.ownD a ⟨_, hm, ha⟩ o (z ▸ e)) (S.keep b o e)
  have back : ∀ b, Owned (put ρ x sl') b → Owned ρ b := fun b q => (owned_put q).elim (fun q => by rw [ha'] at q; cases q; exact ⟨_, hm, ha⟩) id
  exact {
    gst := g
    kind := S.kind
    glob := S.glob
    blt := S.blt
    baseD := S.baseD
    keep := kD
    tabD := S.tabD
    locD := S.locD
    wcD := S.wcD
    ownD := fun b hb => S.ownD b (back b hb)
    loc := let ⟨m, o, es, ep, e, d, r⟩ := S.loc; ⟨m, o, es, ep, kv _ _ (.inl ⟨_, _, d⟩) e, d, r⟩
    wcs := fun b hb => let ⟨v, o, e, d⟩ := S.wcs b hb; ⟨v, o, kv _ _ (.inr ⟨_, d⟩) e, d⟩
    apart := S.apart
    vars := fun p hp => by
      rcases mem_put hp with rfl | ⟨h1, h2⟩
      · obtain ⟨c, hv, hsl⟩ := S.vars _ hm
        have : c = .ref a := by cases sl with
          | val v => cases ha
          | own b xs => cases ha; exact hsl.1
          | ba b xs => cases ha; exact hsl.1
          | fn g fd => cases ha
        subst this
        exact ⟨_, hv.keeps kv, hok _⟩
      · obtain ⟨c, hv, hsl⟩ := S.vars p h1
        refine ⟨c, hv.keeps kv, hsl.mono (fun b o hP q e => ⟨k b o (S.noTab e (.inr (.inl (.inl q)))) (fun z => hP.2 (z ▸ ⟨_, hm, ha⟩)) e, hP.1, fun q => hP.2 (back b q)⟩) (fun b hb o e => ?_) kf⟩
        obtain ⟨o', e', h'⟩ := S.ownAt ⟨p, h1, hb⟩
        rw [e] at e'; cases e'
        exact k b o (S.noTab e (.inr (.inl h'))) (fun z => h2 (by subst z; exact S.ownNe p h1 _ hm b hb ha)) e
    ownP := fun b hb => S.ownP b (back b hb)
    ownNe := fun p hp q hq b hb hc => by
      rcases mem_put hp with rfl | ⟨h1, h2⟩ <;> rcases mem_put hq with rfl | ⟨h3, h4⟩
      · rfl
      · have hb' : sl'.addr? = some b := hb
        rw [ha'] at hb'; cases hb'; exact S.ownNe (x, sl) hm q h3 a ha hc
      · have hc' : sl'.addr? = some b := hc
        rw [ha'] at hc'; cases hc'; exact S.ownNe p h1 (x, sl) hm a hb ha
      · exact S.ownNe p h1 q h3 b hb hc
    top := fun b hb => by
      by_cases z : b = a
      · subst z; obtain ⟨o, e⟩ := hlive; rw [hb] at e; cases e
      · refine S.top b ?_
        cases q : s.heap.get? b with
        | none => rfl
        | some o =>
          by_cases zt : G.isTab b
          · obtain ⟨t, ht, rfl⟩ := zt
            obtain ⟨ps, e'⟩ := tabOk_at (g.tabs t ht)
            rw [hb] at e'; cases e'
          · rw [k b o zt z q] at hb; cases hb }

/-- a code table is filled -/
theorem St.tabbed {h' : Heap} {tk : Nat} {t : Tab} (hG : GbOk G) (ht : t ∈ G.tabs) (S : St G D P fm ρ s) (k : ∀ b o, b ≠ t.P → s.heap.get? b = some o → h'.get? b = some o) (ok : TabOk t h') : St G D P fm ρ { s with heap := h', toks := tk } := by
  refine S.call ⟨fun b o e => ?_, fun u hu => ?_, S.gst.gens, S.gst.os⟩ (fun b o q e => k b o (fun z => q ⟨t, ht, z.symm⟩) e)
  · exact k b o (fun z => by rw [z, hG.hid t ht] at e; cases e) (S.gst.base b o e)
  · by_cases z : u.P = t.P
    · have : u = t := by
        have key : ∀ {l : List Tab}, l.Pairwise (fun x y => x.P ≠ y.P) → u ∈ l → t ∈ l → u = t := by
          intro l hl
          induction hl with
          | nil => intro h; cases h
          | cons h1 _ ih =>
            intro hu ht
            rcases List.mem_cons.mp hu with q1 | q1 <;> rcases List.mem_cons.mp ht with q2 | q2
            · exact q1.trans q2.symm
            · exact absurd z (q1 ▸ h1 _ q2)
            · exact absurd z.symm (q2 ▸ h1 _ q1)
            · exact ih q1 q2
        exact key hG.tabsNe hu ht
      subst this; exact ok
    · rcases S.gst.tabs u hu with e | ⟨c', e, c, oc, vs, tq, e1, e2, e3, e4⟩
      · exact .inl (k _ _ z e)
      · refine .inr ⟨c', k _ _ z e, c, oc, vs, tq, e1, k _ _ (fun z' => ?_) e2, e3, e4⟩
        exact (show Firm oc from .inr ⟨_, _, _, e3, e4⟩).notTab (S.gst.tabs t ht) (z' ▸ e2)

theorem Ex.defn {name : Str} {params : Arguments} {body : List Stmt} {scope : Scope} {pos : Pos} {t : Tab} {clos : List (Str × Addr)} (hG : GbOk G) (ht : t ∈ G.tabs) (hc : fm.env.code = .ref t.c) (hl : t.line = (pos.line : Int)) (hcol : t.col = (pos.col : Int))
    (hq : qualnameIn fm.env name name = t.qual) (hcl : closureFor scope fm.env = pure clos) (hw : Wrt fm name)
    (hn : ∀ f doc pm c' ctv, φ.next (put ρ name (.fn f (fnX name t.qual params body scope clos .none .none doc pm none (.ref c') ctv))))
    (hd0 : params.defaults = [] := by rfl) (hk0 : params.kw_defaults = [] := by rfl) (ha : annTrees params none fm.env = [] := by rfl) :
    Ex G n fm ρ (.FunctionDef name params body [] none [] scope none name pos) φ := fun A s D P hA S => by
  refine c_FunctionDef hd0 hk0 ha ?_
  have C := (hG.codes t ht).keeps S.gst.base
  have hg := hG.g.keeps S.gst.base
  have tabAt := tabOk_at (S.gst.tabs t ht)
  have hgP : mainGlobals ≠ t.P := fun q => by
    obtain ⟨ps, e'⟩ := tabAt
    obtain ⟨o, es, ep, e, hd, _⟩ := hg
    rw [q, e'] at e; cases e; cases hd
  have hB : s.heap.BuiltinsAt G.mg t.P := by
    obtain ⟨bm, ob, b1, b2, b3, b4, b5, b6⟩ := hG.bmain
    refine ⟨bm, ob, b1, b2, fun q => ?_, fun q => ?_, S.gst.base _ _ b3, b4, b5, b6⟩
    · obtain ⟨o, es, ep, e, hd, _⟩ := hG.g
      rw [q, e] at b3; cases b3; rw [hd] at b6; cases b6
    · obtain ⟨ps, e'⟩ := tabAt
      have e := S.gst.base _ _ b3
      rw [q, e'] at e; cases e; cases b4
  rw [hq]
  rcases S.gst.tabs t ht with e | ⟨c', e, hrec⟩
  · refine up (makeFunction_K (mg := G.mg) hcl S.glob hg hc C e trivial rfl hgP hB fun c' ctv doc h' tk hx hge hlt hrec htb => ?_)
    have htb' : h'.get? t.P = some (tabObj #[rawInt t.line, rawInt t.col, .ref c']) := by rw [hl, hcol]; simpa using htb
    have S1 := S.tabbed (tk := s.toks) hG ht (fun b o hb e => hx b o hb e) (.inr ⟨c', htb', hrec⟩)
    refine c_mono (S1.store (tk := tk) hw (fun b o e => Heap.get?_push_of_some _ e) (sl := .fn _ _) ⟨rfl, ⟨_, Heap.get?_push_size _ rfl, rfl⟩, ?_⟩) (fun _ s'' S'' => ⟨_, hn _ _ _ _ _, S''⟩) no
    exact hrec.keeps fun b o e => Heap.get?_push_of_some _ e
  · have hf : codeAmong pos (#[rawInt t.line, rawInt t.col, Value.ref c']).toList = some (.ref c') := by
      rw [hl, hcol]; simp [codeAmong, rawInt]
    refine up (makeFunction_hit (mg := G.mg) hcl S.glob hg hc C e (by simp [TriplesOk, rawInt]) hf hB fun ctv doc h' tk hk hsz => ?_)
    have S1 := S.grow (tk := s.toks) hk
    refine c_mono (S1.store (tk := tk) hw (fun b o e => Heap.get?_push_of_some _ e) (sl := .fn _ _) ⟨rfl, ⟨_, Heap.get?_push_size _ rfl, rfl⟩, ?_⟩) (fun _ s'' S'' => ⟨_, hn _ _ _ _ _, S''⟩) no
    exact hrec.keeps fun b o e => Heap.get?_push_of_some _ (hk b o e)

/-- what a def made in this frame may read -/
noncomputable def Sees (fm : Fm) (fd : FuncData) (cap : Rho) : Prop :=
  ∀ p ∈ cap, ∃ a, fm.env.cells.lookup p.1 = some a ∧ fd.closure.lookup p.1 = some a ∧ fd.scope.names.lookup p.1 = some .free ∧ (p.1 == ("__classdict__" : Str)) = false ∧ fm.env.kindOf p.1 ≠ some .local

/-- a call of a def made in a body, seen from a frame -/
noncomputable def NCall (G : Gb) (n : Nat) (fm : Fm) (ρ ρ' : Rho) (f : Addr) (args : List V) (r : V) : Prop :=
  ∀ A s D P cs, AOk n A → St G D P fm ρ s → RelL (Cln P ρ) s.heap args cs →
    wpC G.M A (PySem.call (.ref f) cs) (fun c s' => St G D P fm ρ' s' ∧ Rel (Cln P ρ') s'.heap r c) (fun _ _ => False) s

theorem owned_zip {xs : List Str} {vs : List V} {cap : Rho} {a : Addr} (h : Owned (xs.zip (vs.map Slot.val) ++ cap) a) : Owned cap a := by
  obtain ⟨p, hp, e⟩ := h
  rcases List.mem_append.mp hp with hp | hp
  · exact (owned_vals ⟨p, hp, e⟩).elim
  · exact ⟨p, hp, e⟩

theorem lookup_zip : ∀ {xs : List Str} {cs : List Value} {x : Str} {c : Value}, xs.Nodup → (x, c) ∈ xs.zip cs → (xs.zip cs).reverse.lookup x = some c := by
  intro xs cs x c hn hm
  have : ((xs.zip cs).reverse.map (·.1)).Nodup := by
    rw [List.map_reverse]
    unfold List.Nodup
    rw [List.pairwise_reverse]
    have hz : ∀ (l : List Str) (k : List Value), l.Nodup → ((l.zip k).map (·.1)).Nodup := by
      intro l
      induction l with
      | nil => intro k _; simp
      | cons y l ih =>
        intro k hn
        cases k with
        | nil => simp
        | cons v k =>
          simp only [List.zip_cons_cons, List.map_cons, List.nodup_cons] at hn ⊢
          refine ⟨fun q => hn.1 ?_, ih k hn.2⟩
          obtain ⟨p, hp, e⟩ := List.mem_map.mp q
          exact e ▸ (List.of_mem_zip hp).1
    exact (hz xs cs hn).imp fun h => Ne.symm h
  have key : ∀ (l : List (Str × Value)), (l.map (·.1)).Nodup → (x, c) ∈ l → l.lookup x = some c := by
    intro l
    induction l with
    | nil => intro _ h; cases h
    | cons p l ih =>
      obtain ⟨y, d⟩ := p
      intro hn hm
      simp only [List.map_cons, List.nodup_cons] at hn
      rcases List.mem_cons.mp hm with e | hm'
      · cases e; simp [List.lookup]
      · have : (x == y) = false := by
          rw [beq_eq_false_iff_ne]; intro q; subst q
          exact hn.1 (List.mem_map.mpr ⟨(_, c), hm', rfl⟩)
        rw [List.lookup_cons, this]; exact ih hn.2 hm'
  exact key _ this (List.mem_reverse.mpr hm)

theorem NCall.body {ρ' : Rho} {x : Str} {f : Addr} {fd : FuncData} {body : List Stmt} {xs : List Str} {args : List V} {r : V} {cap : Rho} {up : Rho → Prop} (hG : GbOk G) (hfn : (x, Slot.fn f fd) ∈ ρ) (hb : fd.body = .stmts body)
    (hgl : fd.globals = mainGlobals) (hbl : fd.builtins = builtinsNs) (hbind : ∀ cs : List Value, cs.length = args.length → bindArgs fd ⟨cs, []⟩ = pure (xs.zip cs)) (hxs : xs.length = args.length) (hnd : xs.Nodup)
    (hcell : ∀ x ∈ fd.scope.names, x.2 ≠ .cell) (hl : ∀ x ∈ xs, fd.scope.names.lookup x = some .local) (hap : fd.closure.Pairwise fun x y => x.2 ≠ y.2) (hcap : ∀ p ∈ cap, p ∈ ρ) (hsee : Sees fm fd cap) (hr : r = .none ∨ ∃ i, r = .int i)
    (hback : ∀ s s' D P ρ1 D' L, St G D P fm ρ s → Gst G s' → (∀ b o, ¬ G.isTab b → ¬ Owned cap b → s.heap.get? b = some o → s'.heap.get? b = some o) → up ρ1 → St G D' P (frameN fd L f) ρ1 s' → St G D P fm ρ' s')
    (h : ∀ L, Run G n (frameN fd L f) (xs.zip (args.map Slot.val) ++ cap) body ⟨fun ρ1 => r = .none ∧ up ρ1, fun ρ1 v => v = r ∧ up ρ1, fun _ => False⟩)
    (hco : fd.scope.isCoroutine = false := by rfl) (hgen : fd.scope.isGenerator = false := by rfl) (hk : fd.scope.kind = .function := by rfl) : NCall G (n + 1) fm ρ ρ' f args r := fun A s D P cs hA S hra => by
  have hlen := hra.length
  obtain ⟨c0, hv0, rfl, ⟨of, hof, hdf⟩, hcd⟩ := S.vars _ hfn
  refine c_call (codeC_call_nest (fd := fd) (binds := xs.zip cs) hA.room hof hdf (hG.nolimit.keeps S.gst.base) hcd hb (hbind cs hlen) hcell (fun y hy => hl y.1 (List.of_mem_zip hy).1) (fun h₁ tk hns kk => ?_) hco hgen hk)
  generalize hL : s.heap.objs.size = L at hns ⊢
  have hLnone : s.heap.get? L = none := Heap.get?_none_of_le (by rw [hL]; exact Nat.le_refl _)
  have S1 : St G (fun b o => s.heap.get? b = some o ∧ ¬ G.isTab b ∧ ¬ Owned cap b) P (frameN fd L f) (xs.zip (args.map Slot.val) ++ cap) { s with heap := h₁, toks := tk } :=
    { gst := S.gst.keeps (fun b o _ e => kk b o e) (fun b o _ e => kk b o e)
      kind := hk
      glob := hgl
      blt := hbl
      baseD := fun b o e => ⟨S.gst.base b o e, S.tabD b o (S.baseD b o e), fun q => S.ownD b (owned_sub hcap q) o (S.baseD b o e)⟩
      keep := fun b o e => kk b o e.1
      tabD := fun b o e => e.2.1
      locD := fun o e => by have : s.heap.get? L = some o := e.1; rw [hLnone] at this; cases this
      wcD := fun a ha => nomatch ha
      ownD := fun a ha o e => e.2.2 (owned_zip ha)
      loc := ⟨_, hns⟩
      wcs := fun a ha => nomatch ha
      apart := hap
      vars := fun p hp => by
        obtain ⟨y, sl⟩ := p
        rcases List.mem_append.mp hp with hp | hp
        · obtain ⟨c, v, h1, rfl, h3⟩ := mem_zip_of hra hp
          refine ⟨c, .inl ⟨hl y (List.of_mem_zip h1).1, _, hns, ?_⟩, h3.mono fun a o hP _ e => ⟨kk a o e, hP.1, fun q => hP.2 (owned_sub hcap (owned_zip q))⟩⟩
          exact lookup_zip hnd h1
        · obtain ⟨c, hv, hsl⟩ := S.vars _ (hcap _ hp)
          obtain ⟨a, q1, q2, q3, q4, q5⟩ := hsee _ hp
          refine ⟨c, .inr ⟨.inr ⟨q3, q4⟩, a, q2, ?_⟩, hsl.mono (fun a o hP _ e => ⟨kk a o e, hP.1, fun q => hP.2 (owned_sub hcap (owned_zip q))⟩) (fun a _ o e => kk a o e) fun a o _ e => kk a o e⟩
          rcases hv with ⟨e, _⟩ | ⟨_, a', hl', hc'⟩
          · exact absurd e q5
          · have e1 : fm.env.cells.lookup y = some a := q1
            rw [e1] at hl'; cases hl'; exact hc'.keeps kk
      ownP := fun a ha => S.ownP a (owned_sub hcap (owned_zip ha))
      ownNe := fun p hp q hq a ha hb => by
        rcases List.mem_append.mp hp with hp | hp
        · exact (owned_vals ⟨p, hp, ha⟩).elim
        · rcases List.mem_append.mp hq with hq | hq
          · exact (owned_vals ⟨q, hq, hb⟩).elim
          · exact S.ownNe p (hcap _ hp) q (hcap _ hq) a ha hb
      top := fun a ha => S.top a (none_back kk ha) }
  refine c_mono (h L _ _ _ P hA.deeper S1) (fun fl s' y => ?_) no
  have fin : ∀ {ρ1 : Rho} {v : V} {c : Value}, St G (fun b o => s.heap.get? b = some o ∧ ¬ G.isTab b ∧ ¬ Owned cap b) P (frameN fd L f) ρ1 s' → v = r → up ρ1 → Rel (Cln P ρ1) s'.heap v c → St G D P fm ρ' s' ∧ Rel (Cln P ρ') s'.heap r c := fun S' hv hu hr' => by
    refine ⟨hback s s' D P _ _ L S S'.gst (fun b o q1 q2 e => S'.keep b o ⟨e, q1, q2⟩) hu S', ?_⟩
    subst hv
    rcases hr with rfl | ⟨i, rfl⟩
    · cases hr'; exact .none
    · cases hr'; exact .int _ _
  cases fl with
  | next => obtain ⟨ρ1, ⟨hv, hu⟩, S'⟩ := y; exact fin (v := .none) S' hv.symm hu .none
  | ret c => obtain ⟨ρ1, v, ⟨hv, hu⟩, S', hr'⟩ := y; exact fin S' hv hu hr'
  | brk => obtain ⟨ρ1, hv, _⟩ := y; exact hv.elim
  | cont => exact y.elim

/-- nothing owned is handed on: the frame stays as it is -/
theorem NCall.pure {x : Str} {f : Addr} {fd : FuncData} {body : List Stmt} {xs : List Str} {args : List V} {r : V} {cap : Rho} (hG : GbOk G) (hfn : (x, Slot.fn f fd) ∈ ρ) (hb : fd.body = .stmts body)
    (hgl : fd.globals = mainGlobals) (hbl : fd.builtins = builtinsNs) (hbind : ∀ cs : List Value, cs.length = args.length → bindArgs fd ⟨cs, []⟩ = Pure.pure (xs.zip cs)) (hxs : xs.length = args.length) (hnd : xs.Nodup)
    (hcell : ∀ x ∈ fd.scope.names, x.2 ≠ .cell) (hl : ∀ x ∈ xs, fd.scope.names.lookup x = some .local) (hap : fd.closure.Pairwise fun x y => x.2 ≠ y.2) (hcap : ∀ p ∈ cap, p ∈ ρ) (hsee : Sees fm fd cap) (hr : r = .none ∨ ∃ i, r = .int i) (hno : ∀ a, ¬ Owned cap a)
    (h : ∀ L, Run G n (frameN fd L f) (xs.zip (args.map Slot.val) ++ cap) body ⟨fun ρ1 => r = .none, fun ρ1 v => v = r, fun _ => False⟩)
    (hco : fd.scope.isCoroutine = false := by rfl) (hgen : fd.scope.isGenerator = false := by rfl) (hk : fd.scope.kind = .function := by rfl) : NCall G (n + 1) fm ρ ρ f args r :=
  NCall.body (up := fun _ => True) hG hfn hb hgl hbl hbind hxs hnd hcell hl hap hcap hsee hr (fun s s' D P ρ1 D' L S g k _ _ => S.call g fun b o q e => k b o q (hno b) e)
    (fun L A s D P hA S => c_mono (h L A s D P hA S) (fun fl s' y => by
      cases fl with
      | next => obtain ⟨ρ1, hv, S'⟩ := y; exact ⟨ρ1, ⟨hv, trivial⟩, S'⟩
      | ret c => obtain ⟨ρ1, v, hv, S', hr'⟩ := y; exact ⟨ρ1, v, ⟨hv, trivial⟩, S', hr'⟩
      | brk => obtain ⟨ρ1, hv, _⟩ := y; exact hv.elim
      | cont => exact y.elim) no) hco hgen hk

/-- one owned list is handed on -/
theorem NCall.own {x y : Str} {f a : Addr} {fd : FuncData} {body : List Stmt} {xs : List Str} {args : List V} {r : V} {cap : Rho} {us us' : List Int} (hG : GbOk G) (hfn : (x, Slot.fn f fd) ∈ ρ) (hb : fd.body = .stmts body)
    (hgl : fd.globals = mainGlobals) (hbl : fd.builtins = builtinsNs) (hbind : ∀ cs : List Value, cs.length = args.length → bindArgs fd ⟨cs, []⟩ = Pure.pure (xs.zip cs)) (hxs : xs.length = args.length) (hnd : xs.Nodup)
    (hcell : ∀ x ∈ fd.scope.names, x.2 ≠ .cell) (hl : ∀ x ∈ xs, fd.scope.names.lookup x = some .local) (hap : fd.closure.Pairwise fun x y => x.2 ≠ y.2) (hcap : ∀ p ∈ cap, p ∈ ρ) (hsee : Sees fm fd cap) (hr : r = .none ∨ ∃ i, r = .int i)
    (hy : (y, Slot.own a us) ∈ ρ) (hno : ∀ b, Owned cap b → b = a)
    (h : ∀ L, Run G n (frameN fd L f) (xs.zip (args.map Slot.val) ++ cap) body ⟨fun ρ1 => r = .none ∧ (y, Slot.own a us') ∈ ρ1, fun ρ1 v => v = r ∧ (y, Slot.own a us') ∈ ρ1, fun _ => False⟩)
    (hco : fd.scope.isCoroutine = false := by rfl) (hgen : fd.scope.isGenerator = false := by rfl) (hk : fd.scope.kind = .function := by rfl) : NCall G (n + 1) fm ρ (put ρ y (.own a us')) f args r :=
  NCall.body (up := fun ρ1 => (y, Slot.own a us') ∈ ρ1) hG hfn hb hgl hbl hbind hxs hnd hcell hl hap hcap hsee hr (fun s s' D P ρ1 D' L S g k hu S' => by
    obtain ⟨c, _, rfl, vs, hp, hi⟩ := S'.vars _ hu
    exact S.callOwn g hy rfl rfl (fun b o q1 q2 e => k b o q1 (fun q => q2 (hno b q)) e) (fun P' => ⟨rfl, vs, hp, hi⟩) (let ⟨n', e'⟩ := hp; ⟨_, e'⟩)) h hco hgen hk

theorem FnOk.keeper {h : Heap} {f : Addr} {fd : FuncData} (x : FnOk h f fd) : ∃ q, (q = Keeper.frame ∨ q = Keeper.machine ∨ q = Keeper.boundFrame) ∧ Looks G.M h (keeperOf (.ref f)) q := by
  obtain ⟨⟨o, ho, hd⟩, _⟩ := x
  obtain ⟨oc, od, dt, sl⟩ := o
  cases hd
  exact ⟨.frame, .inl rfl, (Looks.ld (part := none) ho).andThen .now⟩

theorem callN {A : Around} {x : Str} {npos pos : Pos} {es : List Expr} {f : Addr} {fd : FuncData} {vs : List V} {Q : Value → Shared → Prop} (hm : (x, Slot.fn f fd) ∈ ρ) (hA : AOk n A) (S : St G D P fm ρ s) (hs : EvL G n fm ρ es vs)
    (h : ∀ cs s1, St G D P fm ρ s1 → RelL (Cln P ρ) s1.heap vs cs → wpC G.M A (PySem.call (.ref f) cs) Q (fun _ _ => False) s1) (hd : (x == ("__debug__" : Str)) = false)
    (hplain : (backTo pos (starEach es fm.env)).any (·.1) = false) (hne : es ≠ [])
    (he : eval (.Call (.Name x npos) es [] pos) fm.env = (do callWith pos (← eval (.Name x npos) fm.env) [] (backTo pos (starEach es fm.env)) (backToKw pos (keywordEach [] fm.env)))) :
    wpC G.M A (eval (.Call (.Name x npos) es [] pos) fm.env) Q (fun _ _ => False) s := by
  obtain ⟨c, hv, rfl, _⟩ := S.vars _ hm
  refine c_Call (up (wpAny_Name (loadName_var S.kind hv ?_) hd)) he
  refine c_callWith (P := fun hp => FnOk hp f fd) (by rw [hplain]; rfl) (fun hp k => k.keeper) ?_
  cases es with
  | nil => exact absurd rfl hne
  | cons e r =>
    have key := hs A s D P pos hA S
    cases q : starEach (e :: r) fm.env with
    | nil => cases e <;> cases q
    | cons y ys =>
      rw [q] at key hplain
      obtain ⟨st, z⟩ := y
      cases st with
      | true => simp [backTo] at hplain
      | false =>
        exact c_evalArgs_plain (c_mono key (fun cs s1 x1 => ⟨by obtain ⟨c, _, _, k⟩ := x1.1.vars _ hm; exact k, h cs s1 x1.1 x1.2⟩) no)

theorem Ev.callN {x : Str} {npos pos : Pos} {es : List Expr} {f : Addr} {fd : FuncData} {vs : List V} {v : V} {m : Nat} (hm : (x, Slot.fn f fd) ∈ ρ) (hs : EvL G n fm ρ es vs) (h : NCall G m fm ρ ρ f vs v) (hmn : m ≤ n) (hd : (x == ("__debug__" : Str)) = false := by decide)
    (hplain : (backTo pos (starEach es fm.env)).any (·.1) = false := by rfl) (hne : es ≠ [] := by simp)
    (he : eval (.Call (.Name x npos) es [] pos) fm.env = (do callWith pos (← eval (.Name x npos) fm.env) [] (backTo pos (starEach es fm.env)) (backToKw pos (keywordEach [] fm.env))) := by rfl) :
    Ev G n fm ρ (.Call (.Name x npos) es [] pos) v := fun A s D P hA S =>
  Mine.callN hm hA S hs (fun cs s1 S1 r => h A s1 D P cs (hA.mono hmn) S1 r) hd hplain hne he
theorem Ex.callN {x : Str} {npos pos pos' : Pos} {es : List Expr} {f : Addr} {fd : FuncData} {vs : List V} {m : Nat} {ρ' : Rho} (hm : (x, Slot.fn f fd) ∈ ρ) (hs : EvL G n fm ρ es vs) (h : NCall G m fm ρ ρ' f vs .none) (hmn : m ≤ n) (hn : φ.next ρ') (hd : (x == ("__debug__" : Str)) = false := by decide)
    (hplain : (backTo pos (starEach es fm.env)).any (·.1) = false := by rfl) (hne : es ≠ [] := by simp)
    (he : eval (.Call (.Name x npos) es [] pos) fm.env = (do callWith pos (← eval (.Name x npos) fm.env) [] (backTo pos (starEach es fm.env)) (backToKw pos (keywordEach [] fm.env))) := by rfl)
    (hsw : swapsWith (.Call (.Name x npos) es [] pos) none pos'.line fm.env = pure false := by rfl) :
    Ex G n fm ρ (.Expr (.Call (.Name x npos) es [] pos) pos') φ := fun A s D P hA S => by
  refine c_Expr ?_ (by unfold interactive; rw [S.kind]; rfl) hsw
  refine Mine.callN hm hA S hs (fun cs s1 S1 r => c_mono (h A s1 D P cs (hA.mono hmn) S1 r) (fun c s' y => ?_) no) hd hplain hne he
  obtain ⟨S', r'⟩ := y
  cases r'
  exact ⟨_, hn, S'⟩
end
end Mine
end
section
open PySem PySem.W PySem.Calls PyProof.Rows
set_option Elab.async false
set_option maxRecDepth 100000
set_option linter.unusedVariables false
namespace Mine
section
variable {M : Model} {prog : Program} {w : World} {A : Around} {E : Value → Shared → Prop} {s : Shared} {env : Env}
theorem c_evalArgs_nil {f : Value} {Q : Args → Shared → Prop} (h : Q ⟨[], []⟩ s) : wpC M A (evalArgs f true [] []) Q E s := by
  unfold evalArgs
  show wpC M A (spliced [] >>= _) Q E s
  refine c_bind (c_pure (c_bind (c_pure ?_)))
  exact c_holding (c_bind (c_pure (c_bind (c_pure (c_pure h)))))
end
section
variable {G : Gb} {n : Nat} {fm : Fm} {ρ : Rho} {φ : Post}

theorem Ev.eq {e : Expr} {v v' : V} (h : Ev G n fm ρ e v) (q : v = v') : Ev G n fm ρ e v' := q ▸ h
theorem Ev.eqI {e : Expr} {i j : Int} (h : Ev G n fm ρ e (.int i)) (q : i = j) : Ev G n fm ρ e (.int j) := q ▸ h
theorem Tst.eq {e : Expr} {b b' : Bool} (h : Tst G n fm ρ e b) (q : b = b') : Tst G n fm ρ e b' := q ▸ h

theorem Ev.bitLen {x : Str} {a : Int} {p1 p2 p3 : Pos} (hm : (x, Slot.val (.int a)) ∈ ρ) (hd : (x == ("__debug__" : Str)) = false := by decide)
    (hbase : attributeBase (.Name x p1) "bit_length" fm.env (eval (.Name x p1) fm.env) = eval (.Name x p1) fm.env := by rfl) (hline : (p2.endLine == p3.line) = true := by rfl) :
    Ev G n fm ρ (.Call (.Attribute (.Name x p1) "bit_length" p2) [] [] p3) (.int (Builtin.Int.intBits a : Nat)) := fun A s D P hA S => by
  obtain ⟨c, hv, hr⟩ := S.vars _ hm
  cases hr
  rename_i t
  rw [arm_eval_Call, hbase]
  refine c_bind (up (wpAny_Name (loadName_var S.kind hv ?_) hd))
  refine c_bind (c_stand ?_)
  have hform : methodCallForm (([] : List Expr).length + ([] : List Keyword).length) (backTo p3 (starEach [] fm.env)) (backToKw p3 (keywordEach [] fm.env)) = true := rfl
  have hpos : methodCallPos true (.Name x p1) fm.env p2 p3 = pure p3 := by unfold methodCallPos; simp [hline]
  unfold methodCall
  rw [hform]
  refine c_bind (c_holding (up (getMethod_int_bit_length ?_)))
  refine c_bind (up (wpAny_of_eq hpos ?_))
  refine c_callWith (P := fun hp => True) rfl (fun hp k => ⟨.machine, .inr (.inl rfl), .of_pure rfl⟩) ?_
  exact c_evalArgs_nil ⟨trivial, up (call_int_bit_length ⟨S.tok, .int _ _⟩)⟩

/-- x.reverse(), where x holds an own list -/
theorem Ex.revO {x : Str} {a : Addr} {xs : List Int} {p1 p2 p3 p4 : Pos} (hm : (x, Slot.own a xs) ∈ ρ) (hz : xs.length ≤ sizeLine) (hn : φ.next (put ρ x (.own a xs.reverse)))
    (hd : (x == ("__debug__" : Str)) = false := by decide)
    (hbase : attributeBase (.Name x p1) "reverse" fm.env (eval (.Name x p1) fm.env) = eval (.Name x p1) fm.env := by rfl)
    (hline : (p2.endLine == p3.line) = true := by rfl)
    (hs : swapsWith (.Call (.Attribute (.Name x p1) "reverse" p2) [] [] p3) none p4.line fm.env = pure false := by rfl) :
    Ex G n fm ρ (.Expr (.Call (.Attribute (.Name x p1) "reverse" p2) [] [] p3) p4) φ := fun A s D P hA S => by
  refine c_Expr ?_ (by unfold interactive; rw [S.kind]; rfl) hs
  refine c_Call_method (T := "list") (id := "list.reverse") hbase rfl hline PySem.F.plainAttrs_list PySem.F.slot_list_reverse PySem.F.type_list_reverse ?_
  obtain ⟨c, hv, rfl, vs, hl, hi⟩ := S.vars _ hm
  refine up (wpAny_Name (loadName_var S.kind hv ⟨hl.isList.typeIs, fun b e => ?_, ?_⟩) hd)
  · cases e; obtain ⟨n', e'⟩ := hl; exact ⟨_, e', rfl⟩
  · refine c_callWith (P := fun hp => True) rfl (fun hp k => ⟨.machine, .inr (.inl rfl), .of_pure rfl⟩) ?_
    refine c_evalArgs_nil ⟨trivial, ?_⟩
    obtain ⟨k, ho⟩ := id hl
    have hlen := hi.length
    refine up (call_meets PySem.F.slot_list_reverse ⟨_, ho, rfl⟩ PySem.F.entry_list_reverse (PySem.F.args_list_reverse_1 _) (PySem.AutoSeq1.list_reverse_list_0 a vs.toArray k (by simp; lia)) ⟨ho, ?_⟩)
    have hg : (s.heap.update a (Obj.mapSeq fun x => x.reverse)).PlainList a vs.reverse.toArray := by
      refine ⟨if vs.toArray.reverse.size == vs.toArray.size then k else k + 1, ?_⟩
      rw [Heap.get?_update_self _ ho (by simp [Obj.mapSeq]; rfl)]
      simp [Obj.mapSeq]
    refine ⟨_, hn, S.ownSet (tk := s.toks) (sl' := .own a xs.reverse) hm rfl rfl (Heap.SameBut.update ..) (fun P' => ⟨rfl, _, hg, ?_⟩) (by obtain ⟨n', e'⟩ := hg; exact ⟨_, e'⟩)⟩
    exact hi.reverse

theorem Tru.int {i : Int} : Tru G n (.int i) (i != 0) := fun A s D P fm ρ c _ S r => by cases r; exact up (PyProof.Rows.truthy_int ⟨rfl, S⟩)
theorem Tru.list {xs : List V} (hz : xs.length ≤ 2 ^ 60) : Tru G n (.list xs) (decide (xs ≠ [])) := fun A s D P fm ρ c _ S r => by
  cases r with
  | @list a _ vs hP hl hr =>
    have hlen := hr.length
    refine up (wpAny_truthy_list hl (by simp; lia) ?_)
    refine ⟨?_, S.tok⟩
    cases vs <;> cases xs <;> simp at hlen ⊢
theorem Ev.lenO {x : Str} {a : Addr} {xs : List Int} {npos xpos pos : Pos} (hG : GbOk G) (hm : G.mg "len" = none) (hx : (x, Slot.own a xs) ∈ ρ) (hz : xs.length ≤ 2 ^ 60)
    (hk : fm.env.kindOf "len" = some .globalImplicit := by rfl) (hd : (x == ("__debug__" : Str)) = false := by decide)
    (hse : starEach [.Name x xpos] fm.env = [(false, eval (.Name x xpos) fm.env)] := by rfl)
    (hev : eval (.Call (.Name "len" npos) [.Name x xpos] [] pos) fm.env = (do callWith pos (← eval (.Name "len" npos) fm.env) [] (backTo pos (starEach [.Name x xpos] fm.env)) (backToKw pos (keywordEach [] fm.env))) := by rfl) :
    Ev G n fm ρ (.Call (.Name "len" npos) [.Name x xpos] [] pos) (.int xs.length) := fun A s D P hA S => by
  refine c_Call (up (Name_function_global S.kind hk (loadGlobal_builtin (v := .builtin "len") (S.glob ▸ hG.g.keeps S.gst.base) hm (S.blt ▸ hG.b.keeps S.gst.base) ((hG.builtins _ (by decide)).trans (by rfl)) ?_) (by decide))) hev
  rw [hse]
  refine c_callWith (P := fun hp => True) rfl (fun hp k => ⟨.machine, .inr (.inl rfl), .of_pure rfl⟩) ?_
  refine c_evalArgs_plain ?_
  obtain ⟨c, hv, rfl, vs, hl, hi⟩ := S.vars _ hx
  have hlen := hi.length
  have key := c_args_cons (M := G.M) (A := A) (E := fun _ _ => False) (s := s) (pos := pos) (rest := []) (Q := fun vs s' => True ∧ wpC G.M A (PySem.call (Value.builtin "len") ([] ++ vs) []) (fun c s' => St G D P fm ρ s' ∧ Rel (Cln P ρ) s'.heap (V.int xs.length) c) (fun x x_1 => False) s')
    (up (wpAny_Name (loadName_var S.kind hv (c_pure ⟨trivial, up (call_len_list hl.isList (by simp; lia) ⟨S.tok, by rw [List.size_toArray, hlen]; exact .int _ _⟩)⟩)) hd)) hse
  rw [hse] at key
  exact key

theorem Ev.globI {x : Str} {pos : Pos} {i : Int} {t : Tok} (hG : GbOk G) (hm : G.mg x = some (.int i t)) (hx : fm.env.kindOf x = some .globalImplicit := by rfl) (hd : (x == ("__debug__" : Str)) = false := by decide) : Ev G n fm ρ (.Name x pos) (.int i) := fun A s D P hA S =>
  up (Name_function_global S.kind hx (loadGlobal_global (S.glob ▸ hG.g.keeps S.gst.base) hm ⟨S, .int _ _⟩) hd)

/-! equality -/
mutual
noncomputable def V.py : V → PyData
  | .none => .none
  | .bool b => .bool b
  | .int i => .int i
  | .bytes _ => .none
  | .list xs => .list (V.pys xs)
  | .tuple xs => .tuple (V.pys xs)
noncomputable def V.pys : List V → List PyData
  | [] => []
  | x :: xs => V.py x :: V.pys xs
end
mutual
noncomputable def V.noB : V → Bool
  | .bytes _ => false
  | .list xs => V.noBs xs
  | .tuple xs => V.noBs xs
  | _ => true
noncomputable def V.noBs : List V → Bool
  | [] => true
  | x :: xs => V.noB x && V.noBs xs
end
theorem Rel.reads {P : Addr → Prop} {h : Heap} {v : V} {c : Value} (r : Rel P h v c) : v.noB = true → ∃ as, Reads h c v.py as := by
  refine Rel.rec (motive_1 := fun v c _ => v.noB = true → ∃ as, Reads h c v.py as) (motive_2 := fun vs cs _ => V.noBs vs = true → ∃ as, ReadsAll h cs (V.pys vs) as) ?_ ?_ ?_ ?_ ?_ ?_ ?_ ?_ r
  · exact fun _ => ⟨_, .none⟩
  · exact fun b _ => ⟨_, .bool b⟩
  · exact fun i t _ => ⟨_, .int i t⟩
  · intro b t h; simp [V.noB] at h
  · rintro a xs vs hP ⟨o, e, c, n, d⟩ _ ih hb
    obtain ⟨as, q⟩ := ih (by simpa [V.noB] using hb)
    exact ⟨_, .list e c d (by simpa using q)⟩
  · rintro a xs vs hP ⟨o, e, c, n, d⟩ _ ih hb
    obtain ⟨as, q⟩ := ih (by simpa [V.noB] using hb)
    exact ⟨_, .tuple e c d (by simpa using q)⟩
  · exact fun _ => ⟨_, .nil⟩
  · intro v c vs cs _ _ ih1 ih2 hb
    have hb' : v.noB = true ∧ V.noBs vs = true := by simpa [V.noBs] using hb
    obtain ⟨a1, q1⟩ := ih1 hb'.1
    obtain ⟨a2, q2⟩ := ih2 hb'.2
    exact ⟨_, .cons q1 q2⟩
mutual
theorem V.canLay : ∀ v : V, v.py.canLay0 = true
  | .none => rfl
  | .bool _ => rfl
  | .int _ => rfl
  | .bytes _ => rfl
  | .list xs => by simp only [V.py, PyData.canLay0]; exact V.canLays xs
  | .tuple xs => by simp only [V.py, PyData.canLay0]; exact V.canLays xs
theorem V.canLays : ∀ xs : List V, PyData.canLayAll0 (V.pys xs) = true
  | [] => rfl
  | x :: xs => by simp only [V.pys, PyData.canLayAll0, Bool.and_eq_true]; exact ⟨V.canLay x, V.canLays xs⟩
end
theorem Op2.neV {v1 v2 : V} {b : Bool} (h1 : v1.noB = true) (h2 : v2.noB = true) (d1 : v1.py.depth ≤ 64) (d2 : v2.py.depth ≤ 64) (hb : (!PyData.eqv v1.py v2.py) = b) : Op2 G n (compareOp .NotEq) v1 v2 (.bool b) := fun A s D P fm ρ c1 c2 hA S r1 r2 => by
  obtain ⟨as, q1⟩ := r1.reads h1
  obtain ⟨bs, q2⟩ := r2.reads h2
  subst hb
  have hu := hA.units
  exact up (ne_dataH q1 q2 (by simp [PySem.SeqAt.shaped, V.canLay, d1]) (by simp [PySem.SeqAt.shaped, V.canLay, d2]) (by lia) ⟨S, .bool _⟩)
theorem py_ints : ∀ ns : List Int, V.pys (vi ns) = ns.map PyData.int
  | [] => rfl
  | n :: ns => by simp only [List.map_cons, V.pys, V.py]; rw [py_ints ns]
theorem noB_ints : ∀ ns : List Int, V.noBs (vi ns) = true
  | [] => rfl
  | n :: ns => by simp only [List.map_cons, V.noBs, V.noB, Bool.true_and]; exact noB_ints ns
theorem Op2.neL {ns ms : List Int} : Op2 G n (compareOp .NotEq) (.list (vi ns)) (.list (vi ms)) (.bool (!decide (ns = ms))) :=
  Op2.neV (by simp [V.noB, noB_ints]) (by simp [V.noB, noB_ints]) (by simp [V.py, py_ints, PyData.depth, ke_depthAll]) (by simp [V.py, py_ints, PyData.depth, ke_depthAll]) (by simp only [V.py, py_ints, PyData.eqv, ked_eqvAll])
end
end Mine
end
section
open PySem PySem.W PySem.Calls PyProof.Rows
set_option Elab.async false
namespace Mine
/-! ### plain: what _byteswap makes -/
noncomputable def swapL (ns : List Int) (w : Nat) : List Int := (List.range ns.length).map fun k => ns.getD (k / w * w + (w - 1 - k % w)) 0
noncomputable def bsL (ns : List Int) (w i j : Nat) : List Int := (List.range ns.length).map fun k => if k / w < i ∨ (k / w = i ∧ w - 1 - k % w < j) then ns.getD (k / w * w + (w - 1 - k % w)) 0 else 0
theorem bsL_zero {ns : List Int} {w : Nat} : byteArr (bsL ns w 0 0) = Array.replicate ns.length 0 := by
  unfold byteArr bsL
  apply Array.ext
  · simp
  · intro i h1 h2
    simp
theorem bsL_row {ns : List Int} {w i : Nat} (hw : 0 < w) : bsL ns w i w = bsL ns w (i + 1) 0 := by
  unfold bsL
  refine List.map_congr_left fun k _ => ?_
  have h1 : w - 1 - k % w < w := by lia
  have h2 : (k / w < i ∨ (k / w = i ∧ w - 1 - k % w < w)) ↔ (k / w < i + 1 ∨ (k / w = i + 1 ∧ w - 1 - k % w < 0)) := by lia
  simp only [h2]
theorem bsL_end {ns : List Int} {w m : Nat} (hw : 0 < w) (hm : ns.length = m * w) : bsL ns w m 0 = swapL ns w := by
  unfold bsL swapL
  refine List.map_congr_left fun k hk => ?_
  have hk := List.mem_range.mp hk
  have : k / w < m := by rw [Nat.div_lt_iff_lt_mul hw]; lia
  rw [if_pos (.inl this)]
theorem bsL_set {ns : List Int} {w i j : Nat} (hw : 0 < w) (hj : j < w) (hi : (i + 1) * w ≤ ns.length) :
    (byteArr (bsL ns w i j)).setIfInBounds (i * w + w - 1 - j) (ns.getD (i * w + j) 0).toNat.toUInt8 = byteArr (bsL ns w i (j + 1)) := by
  have hiw : (i + 1) * w = i * w + w := by rw [Nat.add_mul, Nat.one_mul]
  apply Array.ext
  · simp [byteArr, bsL]
  · intro k h1 h2
    have hk : k < ns.length := by simpa [byteArr, bsL] using h2
    rw [Array.getElem_setIfInBounds]
    · simp only [byteArr, bsL, List.getElem_toArray, List.getElem_map, List.getElem_range]
      by_cases e : i * w + w - 1 - j = k
      · subst e
        have q1 : (i * w + w - 1 - j) / w = i := by
          rw [show i * w + w - 1 - j = (w - 1 - j) + w * i by rw [Nat.mul_comm w i]; lia, Nat.add_mul_div_left _ _ hw, Nat.div_eq_of_lt (by lia)]; lia
        have q2 : (i * w + w - 1 - j) % w = w - 1 - j := by
          rw [show i * w + w - 1 - j = (w - 1 - j) + w * i by rw [Nat.mul_comm w i]; lia, Nat.add_mul_mod_self_left, Nat.mod_eq_of_lt (by lia)]
        rw [if_pos rfl, q1, q2, if_pos (.inr ⟨rfl, by lia⟩), show w - 1 - (w - 1 - j) = j by lia]
      · rw [if_neg e]
        have hmod : k % w < w := Nat.mod_lt _ hw
        have hdm := Nat.div_add_mod k w
        have : (k / w < i ∨ (k / w = i ∧ w - 1 - k % w < j)) ↔ (k / w < i ∨ (k / w = i ∧ w - 1 - k % w < j + 1)) := by
          constructor
          · lia
          · rintro (h | ⟨h, h'⟩)
            · exact .inl h
            · refine .inr ⟨h, ?_⟩
              rcases Nat.lt_or_ge (w - 1 - k % w) j with q | q
              · exact q
              · exfalso
                apply e
                rw [h] at hdm
                rw [Nat.mul_comm w i] at hdm
                lia
        simp only [this]
    · simpa using h1
end Mine
end
section
open PySem PySem.W PySem.Calls PyProof.Rows
set_option Elab.async false
namespace Mine
/-! ### plain: digits -/
theorem two_pos (n : Nat) : (0 : Int) < 2 ^ n := Int.pow_pos (by decide)
noncomputable def digs (n : Nat) : Nat → Int → List Int
  | 0, _ => []
  | k + 1, x => x % 2 ^ n :: digs n k (x / 2 ^ n)
noncomputable def undig (n : Nat) : List Int → Int
  | [] => 0
  | d :: ds => d + 2 ^ n * undig n ds
theorem digs_length (n : Nat) : ∀ (k : Nat) (x : Int), (digs n k x).length = k
  | 0, _ => rfl
  | k + 1, x => by rw [digs, List.length_cons, digs_length n k]
theorem digs_range {n : Nat} : ∀ {k : Nat} {x : Int}, ∀ d ∈ digs n k x, 0 ≤ d ∧ d < 2 ^ n
  | k + 1, x, d, h => by
    rw [digs] at h
    rcases List.mem_cons.mp h with rfl | h
    · exact ⟨Int.emod_nonneg _ (Int.ne_of_gt (two_pos n)), Int.emod_lt_of_pos _ (two_pos n)⟩
    · exact digs_range d h
theorem digs_one {n : Nat} {x : Int} (h0 : 0 ≤ x) (h1 : x < 2 ^ n) : digs n 1 x = [x] := by
  simp only [digs]; rw [Int.emod_eq_of_lt h0 h1]
theorem mod_mod_pow {x : Int} {n i : Nat} : (x % 2 ^ (n * (i + 1))) % 2 ^ n = x % 2 ^ n := by
  rw [Nat.mul_succ, Int.pow_add]
  exact Int.emod_emod_of_dvd _ (Int.dvd_mul_left _ _)
theorem mod_div_pow {x : Int} {n i : Nat} : (x % 2 ^ (n * (i + 1))) / 2 ^ n = (x / 2 ^ n) % 2 ^ (n * i) := by
  rw [Nat.mul_succ, Int.pow_add]
  have hp := two_pos n
  have e := Int.mul_ediv_add_emod x (2 ^ n)
  have e2 := Int.mul_ediv_add_emod (x / 2 ^ n) (2 ^ (n * i))
  have hr := Int.emod_nonneg x (Int.ne_of_gt hp)
  have hr1 := Int.emod_lt_of_pos x hp
  have hr2 := Int.emod_nonneg (x / 2 ^ n) (Int.ne_of_gt (two_pos (n * i)))
  have hr3 := Int.emod_lt_of_pos (x / 2 ^ n) (two_pos (n * i))
  generalize hA : (2 : Int) ^ n = A at *
  generalize hC : (2 : Int) ^ (n * i) = C at *
  generalize hq : x / A = q at *
  generalize hs : x % A = r at *
  generalize hq2 : q / C = q2 at *
  generalize hs2 : q % C = r2 at *
  have key : x % (C * A) = A * r2 + r := by
    have hlt : A * r2 + r < C * A := by
      have : A * r2 + A ≤ A * C := by
        have := Int.mul_le_mul_of_nonneg_left (show r2 + 1 ≤ C by lia) (Int.le_of_lt hp)
        rw [Int.mul_add, Int.mul_one] at this; exact this
      rw [Int.mul_comm C A]; lia
    have hnn : 0 ≤ A * r2 + r := by
      have := Int.mul_nonneg (Int.le_of_lt hp) hr2
      lia
    rw [← e, ← e2, show A * (C * q2 + r2) + r = (A * r2 + r) + (C * A) * q2 by rw [Int.mul_add, Int.mul_comm C A, ← Int.mul_assoc]; lia, Int.add_mul_emod_self_left, Int.emod_eq_of_lt hnn hlt]
  rw [key, Int.mul_add_ediv_left _ _ (Int.ne_of_gt hp), Int.ediv_eq_zero_of_lt hr hr1]; lia
theorem div_div_pow {x : Int} {n i : Nat} : x / 2 ^ (n * (i + 1)) = x / 2 ^ n / 2 ^ (n * i) := by
  rw [Nat.mul_succ, Nat.add_comm, Int.pow_add, Int.ediv_ediv_of_nonneg (Int.le_of_lt (two_pos n))]
theorem digs_split (n : Nat) : ∀ (i j : Nat) (x : Int), digs n (i + j) x = digs n i (x % 2 ^ (n * i)) ++ digs n j (x / 2 ^ (n * i))
  | 0, j, x => by simp [digs]
  | i + 1, j, x => by
    rw [show i + 1 + j = (i + j) + 1 by lia]
    simp only [digs, List.cons_append]
    rw [mod_mod_pow, mod_div_pow, div_div_pow, ← digs_split n i j]
theorem undig_append (n : Nat) : ∀ a b : List Int, undig n (a ++ b) = undig n a + 2 ^ (n * a.length) * undig n b
  | [], b => by simp [undig]
  | d :: a, b => by
    simp only [List.cons_append, undig, undig_append n a b, List.length_cons]
    rw [Nat.mul_succ, Nat.add_comm (n * a.length) n, Int.pow_add, Int.mul_add, Int.mul_assoc]; lia
theorem undig_digs (n : Nat) : ∀ (k : Nat) (x : Int), undig n (digs n k x) = x % 2 ^ (n * k)
  | 0, x => by simp [digs, undig, Int.emod_one]
  | k + 1, x => by
    simp only [digs, undig, undig_digs n k]
    rw [← mod_div_pow, ← mod_mod_pow (x := x) (n := n) (i := k)]
    have := Int.mul_ediv_add_emod (x % 2 ^ (n * (k + 1))) (2 ^ n)
    lia
theorem undig_bound {n M : Nat} (hn : 1 ≤ n) : ∀ {ds : List Int}, (∀ d ∈ ds, d.natAbs ≤ 2 ^ M) → (undig n ds).natAbs ≤ 2 ^ M * (2 ^ (n * ds.length) - 1)
  | [], _ => by simp [undig]
  | d :: ds, h => by
    have ih := undig_bound (ds := ds) hn fun e he => h e (List.mem_cons_of_mem _ he)
    have hd := h d List.mem_cons_self
    simp only [undig, List.length_cons]
    have h1 : (d + 2 ^ n * undig n ds).natAbs ≤ d.natAbs + 2 ^ n * (undig n ds).natAbs := by
      refine Nat.le_trans (Int.natAbs_add_le _ _) ?_
      rw [Int.natAbs_mul, Int.natAbs_pow]; exact Nat.le_refl _
    have h2 : 2 ^ n * (undig n ds).natAbs ≤ 2 ^ n * (2 ^ M * (2 ^ (n * ds.length) - 1)) := Nat.mul_le_mul_left _ ih
    have h3 : 2 ^ n * (2 ^ M * (2 ^ (n * ds.length) - 1)) + 2 ^ M * 2 ^ n = 2 ^ M * 2 ^ (n * (ds.length + 1)) := by
      have hp : 1 ≤ 2 ^ (n * ds.length) := Nat.one_le_two_pow
      rw [Nat.mul_left_comm, ← Nat.mul_add, Nat.mul_succ, Nat.pow_add]
      congr 1
      rw [Nat.mul_sub, Nat.mul_one, Nat.mul_comm (2 ^ n)]
      have : 2 ^ n ≤ 2 ^ (n * ds.length) * 2 ^ n := Nat.le_mul_of_pos_left _ hp
      lia
    have h4 : 2 ^ M * 2 ≤ 2 ^ M * 2 ^ n := Nat.mul_le_mul_left _ (by have := Nat.pow_le_pow_right (n := 2) (by decide) hn; lia)
    rw [Nat.mul_sub, Nat.mul_one]
    lia
/-- a stretch of a list is written over -/
noncomputable def setR (us : List Int) (L : Nat) (ds : List Int) : List Int := us.take L ++ ds ++ us.drop (L + ds.length)
theorem setR_length {us : List Int} {L : Nat} {ds : List Int} (h : L + ds.length ≤ us.length) : (setR us L ds).length = us.length := by
  simp [setR]; lia
theorem setR_one {us : List Int} {L : Nat} {d : Int} (h : L < us.length) : us.set L d = setR us L [d] := by
  rw [setR, List.set_eq_take_append_cons_drop, if_pos h]; simp
theorem setR_two {us : List Int} {L : Nat} {a b : List Int} (h : L + a.length + b.length ≤ us.length) : setR (setR us L a) (L + a.length) b = setR us L (a ++ b) := by
  unfold setR
  have h1 : (us.take L ++ a ++ us.drop (L + a.length)).take (L + a.length) = us.take L ++ a := by
    rw [List.take_append_of_le_length (by simp; lia), List.take_of_length_le (by simp; lia)]
  have h2 : (us.take L ++ a ++ us.drop (L + a.length)).drop (L + a.length + b.length) = us.drop (L + a.length + b.length) := by
    rw [List.drop_append, List.drop_eq_nil_of_le (by simp; lia), List.nil_append, List.drop_drop]
    congr 1; simp; lia
  rw [h1, h2]
  simp [Nat.add_assoc]
theorem setR_all {us ds : List Int} (h : ds.length = us.length) : setR us 0 ds = ds := by simp [setR, h]

/-! the low part of a number, by xor -/
theorem and_high (u r : Int) : ∀ k : Nat, 0 ≤ r → r < 2 ^ k → Builtin.bitAnd (u * 2 ^ k + r) (u * 2 ^ k) = u * 2 ^ k
  | 0, h0, h1 => by
    have : r = 0 := by simp at h1; lia
    subst this; simp; exact bitAnd_self _
  | k + 1, h0, h1 => by
    have e : u * 2 ^ (k + 1) = 2 * (u * 2 ^ k) := by rw [Int.pow_succ, ← Int.mul_assoc, Int.mul_comm]
    rw [kbt_halves, e]
    have h2 : (2 * (u * 2 ^ k) + r) / 2 = u * 2 ^ k + r / 2 := by lia
    have h3 : (2 * (u * 2 ^ k)) / 2 = u * 2 ^ k := by omega
    have h4 : (2 * (u * 2 ^ k)) % 2 ≠ 1 := by lia
    rw [h2, h3, and_high u (r / 2) k (by lia) (by rw [Int.pow_succ] at h1; lia), if_neg (fun q => h4 q.2)]; lia
theorem xor_low {x : Int} {k : Nat} : Builtin.bitXor x (x / 2 ^ k * 2 ^ k) = x % 2 ^ k := by
  have hp := two_pos k
  have e := Int.mul_ediv_add_emod x (2 ^ k)
  have := and_high (x / 2 ^ k) (x % 2 ^ k) k (Int.emod_nonneg _ (Int.ne_of_gt hp)) (Int.emod_lt_of_pos _ hp)
  rw [show x / 2 ^ k * 2 ^ k + x % 2 ^ k = x by rw [Int.mul_comm]; exact e] at this
  rw [bitXor_and, this, Int.mul_comm (x / 2 ^ k)]
  lia
/-! how many bits -/
theorem bits_lt {x : Int} (h : 0 ≤ x) : x < 2 ^ (Builtin.Int.intBits x) := by
  have := intBits_le_iff.mp (Nat.le_refl (Builtin.Int.intBits x))
  have h2 : ((x.natAbs : Nat) : Int) < ((2 ^ Builtin.Int.intBits x : Nat) : Int) := Int.ofNat_lt.mpr this
  rw [kbt_cast] at h2
  lia
theorem bits_le {x : Int} {m : Nat} (h : x.natAbs < 2 ^ m) : Builtin.Int.intBits x ≤ m := intBits_le_iff.mpr h
theorem bits_pos {x : Int} (h : x ≠ 0) : 1 ≤ Builtin.Int.intBits x := by
  unfold Builtin.Int.intBits; rw [if_neg (by simpa using h)]; lia
/-- how many digits -/
noncomputable def dcount (n : Nat) (x : Int) : Nat := (Builtin.Int.intBits x + n - 1) / n
theorem dcount_ge {n : Nat} {x : Int} (hn : 1 ≤ n) : Builtin.Int.intBits x ≤ n * dcount n x := by
  unfold dcount
  have := Nat.div_add_mod (Builtin.Int.intBits x + n - 1) n
  have := Nat.mod_lt (Builtin.Int.intBits x + n - 1) hn
  lia
theorem dcount_le {n : Nat} {x : Int} (hn : 1 ≤ n) : dcount n x ≤ Builtin.Int.intBits x := by
  unfold dcount
  rcases Nat.eq_zero_or_pos (Builtin.Int.intBits x) with h | h
  · rw [h, Nat.zero_add, Nat.div_eq_of_lt (by lia)]; lia
  · rw [Nat.div_le_iff_le_mul hn]
    have : Builtin.Int.intBits x * 1 ≤ Builtin.Int.intBits x * n := Nat.mul_le_mul_left _ hn
    have h2 : Builtin.Int.intBits x + n ≤ Builtin.Int.intBits x * n + 1 := by
      obtain ⟨b, hb⟩ : ∃ b, Builtin.Int.intBits x = b + 1 := ⟨Builtin.Int.intBits x - 1, by lia⟩
      obtain ⟨m, rfl⟩ : ∃ m, n = m + 1 := ⟨n - 1, by lia⟩
      rw [hb]
      have : (b + 1) * (m + 1) = b * m + b + m + 1 := by rw [Nat.add_mul, Nat.mul_add]; lia
      lia
    lia
theorem lt_digits {n : Nat} {x : Int} (hn : 1 ≤ n) (h : 0 ≤ x) : x < 2 ^ (n * dcount n x) :=
  Int.lt_of_lt_of_le (bits_lt h) (by
    have := Nat.pow_le_pow_right (n := 2) (by decide) (dcount_ge (x := x) hn)
    rw [← kbt_cast, ← kbt_cast]; exact Int.ofNat_le.mpr this)
/-- what _int2digits gives -/
noncomputable def i2d (n : Nat) (x : Int) : List Int := digs n (dcount n x) x
theorem undig_i2d {n : Nat} {x : Int} (hn : 1 ≤ n) (h : 0 ≤ x) : undig n (i2d n x) = x := by
  rw [i2d, undig_digs, Int.emod_eq_of_lt h (lt_digits hn h)]
end Mine
end
section
open PySem PySem.W PySem.Calls PyProof.Rows
set_option Elab.async false
set_option maxRecDepth 100000
set_option linter.unusedVariables false
namespace Mine
theorem put_self {ρ : Rho} {x : Str} {sl : Slot} : (x, sl) ∈ put ρ x sl := List.Mem.head _
theorem sub_nil {ρ : Rho} : ∀ p ∈ ([] : Rho), p ∈ ρ := fun _ h => nomatch h
theorem sub_cons {ρ l : Rho} {p : Str × Slot} (h1 : p ∈ ρ) (h2 : ∀ q ∈ l, q ∈ ρ) : ∀ q ∈ p :: l, q ∈ ρ := fun q hq => by
  rcases List.mem_cons.mp hq with rfl | hq
  · exact h1
  · exact h2 q hq
theorem own_nil {ρ : Rho} : ∀ a, Owned [] a → Owned ρ a := fun _ ⟨_, h, _⟩ => nomatch h
theorem own_val {ρ l : Rho} {x : Str} {v : V} (h : ∀ a, Owned l a → Owned ρ a) : ∀ a, Owned ((x, .val v) :: l) a → Owned ρ a := fun a ⟨p, hp, e⟩ => by
  rcases List.mem_cons.mp hp with rfl | hp
  · cases e
  · exact h a ⟨p, hp, e⟩
theorem own_own {ρ l : Rho} {x : Str} {b : Addr} {xs ys : List Int} (hm : (x, .own b ys) ∈ ρ) (h : ∀ a, Owned l a → Owned ρ a) : ∀ a, Owned ((x, .own b xs) :: l) a → Owned ρ a := fun a ⟨p, hp, e⟩ => by
  rcases List.mem_cons.mp hp with rfl | hp
  · cases e; exact ⟨_, hm, rfl⟩
  · exact h a ⟨p, hp, e⟩
theorem own_ba {ρ l : Rho} {x : Str} {b : Addr} {xs ys : Array UInt8} (hm : (x, .ba b ys) ∈ ρ) (h : ∀ a, Owned l a → Owned ρ a) : ∀ a, Owned ((x, .ba b xs) :: l) a → Owned ρ a := fun a ⟨p, hp, e⟩ => by
  rcases List.mem_cons.mp hp with rfl | hp
  · cases e; exact ⟨_, hm, rfl⟩
  · exact h a ⟨p, hp, e⟩
section
variable {G : Gb} {n : Nat} {fm : Fm} {ρ : Rho} {φ : Post}
theorem Run.haveFn {x : Str} {f : Addr} {fd : FuncData} {body : List Stmt} (C : FuncData → Prop) (key : C fd) (h : C fd → Run G n fm (put ρ x (.fn f fd)) body φ) : Run G n fm (put ρ x (.fn f fd)) body φ := h key
theorem Ex.imp {st : Stmt} {φ' : Post} (h : Ex G n fm ρ st φ) (h1 : ∀ ρ', φ.next ρ' → φ'.next ρ') (h2 : ∀ ρ' v, φ.ret ρ' v → φ'.ret ρ' v) (h3 : ∀ ρ', φ.brk ρ' → φ'.brk ρ') : Ex G n fm ρ st φ' := fun A s D P hA S =>
  c_mono (h A s D P hA S) (fun f s' x => by
    cases f with
    | next => obtain ⟨r, q, S'⟩ := x; exact ⟨r, h1 r q, S'⟩
    | ret c => obtain ⟨r, v, q, S'⟩ := x; exact ⟨r, v, h2 r v q, S'⟩
    | brk => obtain ⟨r, q, S'⟩ := x; exact ⟨r, h3 r q, S'⟩
    | cont => exact x) no
/-- an if whose two ways come together again -/
theorem Run.cons' {st : Stmt} {rest : List Stmt} (ρ' : Rho) (h : Ex G n fm ρ st ⟨fun ρ2 => ∀ p ∈ ρ', p ∈ ρ2, φ.ret, φ.brk⟩) (hr : Run G n fm ρ' rest φ) : Run G n fm ρ (st :: rest) φ :=
  Run.cons (Ex.imp h (fun ρ2 q => Run.weak q hr) (fun _ _ x => x) fun _ x => x)
theorem EvNew.rep0 {e i : Expr} {pos : Pos} {z : Int} {k : Nat} (he : Ev G n fm ρ e (.list (vi [z]))) (hi : Ev G n fm ρ i (.int (k : Int))) (hz : k ≤ 2 ^ 24) : EvNew G n fm ρ (.BinOp e .Mult i pos) (List.replicate k z) := by
  have q := EvNew.rep (pos := pos) he hi (by lia) (by lia) (by simp; lia)
  simpa using q
theorem cell_of {l : List (Str × NameKind)} (h : (l.all fun x => decide (x.2 ≠ .cell)) = true) : ∀ x ∈ l, x.2 ≠ .cell := fun x hx => by simpa using List.all_eq_true.mp h x hx
theorem loc_of {l : List (Str × NameKind)} {xs : List Str} (h : (xs.all fun x => decide (l.lookup x = some .local)) = true) : ∀ x ∈ xs, l.lookup x = some .local := fun x hx => by simpa using List.all_eq_true.mp h x hx
theorem Sees.nil {fd : FuncData} : Sees fm fd [] := fun _ h => nomatch h
theorem Sees.cons {fd : FuncData} {x : Str} {sl : Slot} {cap : Rho} (a : Addr) (h1 : fm.env.cells.lookup x = some a) (h2 : fd.closure.lookup x = some a) (h3 : fd.scope.names.lookup x = some .free) (h4 : (x == ("__classdict__" : Str)) = false) (h5 : fm.env.kindOf x ≠ some .local)
    (h : Sees fm fd cap) : Sees fm fd ((x, sl) :: cap) := fun p hp => by
  rcases List.mem_cons.mp hp with rfl | hp
  · exact ⟨a, h1, h2, h3, h4, h5⟩
  · exact h p hp
end
noncomputable def isIntAt (K : Frag) (x : Str) (i : Int) : Bool := match nsIn K mainGlobals x with
  | some (some (.int j _)) => decide (j = i)
  | _ => false
theorem int_of_ns {K : Frag} {x : Str} {i : Int} (h : isIntAt K x i = true) : ∃ t, nsIn K mainGlobals x = some (some (.int i t)) := by
  unfold isIntAt at h
  split at h
  · rename_i j t e
    have : j = i := by simpa using h
    subst this; exact ⟨t, e⟩
  · cases h
theorem len1 {α : Type} {p : List α → Prop} (h : ∀ a, p [a]) : ∀ cs : List α, cs.length = 1 → p cs := fun cs e => by
  cases cs with
  | nil => cases e
  | cons a r => cases r with
    | nil => exact h a
    | cons b r => cases e
theorem len2 {α : Type} {p : List α → Prop} (h : ∀ a b, p [a, b]) : ∀ cs : List α, cs.length = 2 → p cs := fun cs e => by
  cases cs with
  | nil => cases e
  | cons a r => exact len1 (p := fun r => p (a :: r)) (fun b => h a b) r (by simpa using e)
theorem len3 {α : Type} {p : List α → Prop} (h : ∀ a b c, p [a, b, c]) : ∀ cs : List α, cs.length = 3 → p cs := fun cs e => by
  cases cs with
  | nil => cases e
  | cons a r => exact len2 (p := fun r => p (a :: r)) (fun b c => h a b c) r (by simpa using e)
theorem fdiv_cast (a : Int) (b : Nat) : a.fdiv (b : Int) = a / (b : Int) := Int.fdiv_eq_ediv_of_nonneg _ (Int.natCast_nonneg _)
theorem fdiv_two (a : Int) (k : Nat) : a.fdiv (2 ^ k) = a / 2 ^ k := Int.fdiv_eq_ediv_of_nonneg _ (Int.le_of_lt (two_pos k))
end Mine
end
section
open PySem PySem.W PySem.Calls PyProof.Rows
set_option Elab.async false
namespace Mine
/-! plain: the long division -/
noncomputable def dmF (nn : Nat) (b : Int) (l : List Int) : List Int × Int := l.foldl (fun s d => (s.1 ++ [(s.2 * 2 ^ nn + d) / b], (s.2 * 2 ^ nn + d) % b)) ([], 0)
theorem dmF_snoc (nn : Nat) (b : Int) (l : List Int) (d : Int) : dmF nn b (l ++ [d]) = ((dmF nn b l).1 ++ [((dmF nn b l).2 * 2 ^ nn + d) / b], ((dmF nn b l).2 * 2 ^ nn + d) % b) := by
  simp [dmF, List.foldl_append]
theorem snoc_ind {α : Type} {p : List α → Prop} (h0 : p []) (h1 : ∀ l a, p l → p (l ++ [a])) : ∀ l, p l := fun l => by
  have : ∀ r : List α, p r.reverse := by
    intro r
    induction r with
    | nil => exact h0
    | cons a r ih => rw [List.reverse_cons]; exact h1 _ _ ih
  have q := this l.reverse
  rwa [List.reverse_reverse] at q
theorem dmF_len (nn : Nat) (b : Int) (l : List Int) : (dmF nn b l).1.length = l.length := by
  induction l using snoc_ind with
  | h0 => rfl
  | h1 l d ih => rw [dmF_snoc]; simp [ih]
theorem dm_step {b B U Q R d q r : Int} (h1 : U = b * Q + R) (h2 : R * B + d = b * q + r) : d + B * U = b * (q + B * Q) + r := by
  subst h1
  have e1 : B * (b * Q + R) = b * (B * Q) + R * B := by rw [Int.mul_add, Int.mul_left_comm, Int.mul_comm B R]
  rw [e1, Int.mul_add]
  lia
theorem dmF_eq {nn : Nat} {b : Int} (hb : 0 < b) (l : List Int) : undig nn l.reverse = b * undig nn (dmF nn b l).1.reverse + (dmF nn b l).2 ∧ 0 ≤ (dmF nn b l).2 ∧ (dmF nn b l).2 < b := by
  induction l using snoc_ind with
  | h0 => simp [dmF, undig]; exact hb
  | h1 l d ih =>
    rw [dmF_snoc]
    refine ⟨?_, Int.emod_nonneg _ (Int.ne_of_gt hb), Int.emod_lt_of_pos _ hb⟩
    simp only [List.reverse_append, List.reverse_cons, List.reverse_nil, List.nil_append, List.cons_append, undig]
    exact dm_step ih.1 (Int.mul_ediv_add_emod _ _).symm
theorem dmF_t {nn : Nat} {b : Int} (hb : 0 < b) (hb2 : b ≤ 2 ^ nn) {l : List Int} {d : Int} (h0 : 0 ≤ d) (h1 : d < 2 ^ nn) : 0 ≤ (dmF nn b l).2 * 2 ^ nn + d ∧ (dmF nn b l).2 * 2 ^ nn + d < 2 ^ (2 * nn) := by
  obtain ⟨_, h2, h3⟩ := dmF_eq (nn := nn) hb l
  have hp := two_pos nn
  generalize (dmF nn b l).2 = r at *
  rw [show 2 * nn = nn + nn by lia, Int.pow_add]
  generalize (2 : Int) ^ nn = B at *
  have e1 : 0 ≤ r * B := Int.mul_nonneg h2 (Int.le_of_lt hp)
  have e2 : (r + 1) * B ≤ B * B := Int.mul_le_mul_of_nonneg_right (by lia) (Int.le_of_lt hp)
  rw [Int.add_mul, Int.one_mul] at e2
  lia
theorem ediv_le_self' {a b : Int} (h : 0 ≤ a) (hb : 0 < b) : 0 ≤ a / b ∧ a / b ≤ a := ⟨Int.ediv_nonneg h (Int.le_of_lt hb), Int.ediv_le_self _ h⟩
theorem dmF_q {nn : Nat} {b : Int} (hb : 0 < b) (hb2 : b ≤ 2 ^ nn) (l : List Int) (hl : ∀ d ∈ l, 0 ≤ d ∧ d < 2 ^ nn) : ∀ q ∈ (dmF nn b l).1, q.natAbs ≤ 2 ^ (2 * nn) := by
  induction l using snoc_ind with
  | h0 => intro q h; cases h
  | h1 l d ih =>
    rw [dmF_snoc]
    intro q hq
    rcases List.mem_append.mp hq with hq | hq
    · exact ih (fun e he => hl e (List.mem_append_left _ he)) q hq
    · rw [List.mem_singleton.mp hq]
      have hd := hl d (List.mem_append_right _ (List.mem_singleton.mpr rfl))
      have ht := dmF_t hb hb2 (l := l) hd.1 hd.2
      have hq := ediv_le_self' ht.1 hb
      have : (((((dmF nn b l).2 * 2 ^ nn + d) / b).natAbs : Nat) : Int) ≤ ((2 ^ (2 * nn) : Nat) : Int) := by rw [kbt_cast]; lia
      exact Int.ofNat_le.mp this
theorem dmF_end {nn : Nat} {b : Int} (hb : 0 < b) (ds : List Int) : undig nn (dmF nn b ds.reverse).1.reverse = undig nn ds / b ∧ (dmF nn b ds.reverse).2 = undig nn ds % b := by
  obtain ⟨h1, h2, h3⟩ := dmF_eq (nn := nn) hb ds.reverse
  rw [List.reverse_reverse] at h1
  have := (Int.ediv_emod_unique (a := undig nn ds) (b := b) (r := (dmF nn b ds.reverse).2) (q := undig nn (dmF nn b ds.reverse).1.reverse) hb).mpr ⟨by lia, h2, h3⟩
  exact ⟨this.1.symm, this.2.symm⟩
end Mine
end
section
open PySem PySem.W PySem.Calls PyProof.Rows
set_option Elab.async false
set_option maxRecDepth 100000
set_option linter.unusedVariables false
namespace Mine
section
variable {G : Gb} {fm : Fm} {ρ : Rho} {n : Nat} {φ : Post}
end
theorem clip_to (n k : Nat) : clipAt n (k : Int) = min k n := by unfold clipAt; rw [if_neg (by lia)]; lia
theorem pick_to' {α : Type} (xs : List α) (k : Nat) : pickL xs none (some (k : Int)) none = xs.take k := by
  rw [pickL_plain]
  simp only [Option.elim_none, Option.elim_some, clip_to, List.drop_zero, Nat.sub_zero]
  rw [List.take_eq_take_iff]; lia
theorem EvP.some {G : Gb} {n : Nat} {fm : Fm} {ρ : Rho} {e : Expr} {k : Int} (h : Ev G n fm ρ e (.int k)) : EvP G n fm ρ (some e) (some k) := h
theorem rangeV_get {k i : Nat} {v : V} (h : (vi (rangeV 0 1 k))[i]? = some v) : i < k ∧ v = .int i := by
  have hi : i < k := by
    have := (List.getElem?_eq_some_iff.mp h).1
    simpa [rangeV] using this
  refine ⟨hi, ?_⟩
  simp [rangeV, hi] at h
  rw [← h]
theorem rangeV_getc {a c : Int} {k i : Nat} {v : V} (h : (vi (rangeV a c k))[i]? = some v) : i < k ∧ v = .int (a + i * c) := by
  have hi : i < k := by
    have := (List.getElem?_eq_some_iff.mp h).1
    simpa [rangeV] using this
  refine ⟨hi, ?_⟩
  simp [rangeV, hi] at h
  rw [← h]
theorem vi_get {ds : List Int} {i : Nat} {v : V} (h : (vi ds)[i]? = some v) : ∃ e, ds[i]? = some e ∧ v = .int e := by
  rw [List.getElem?_map] at h
  cases q : ds[i]? with
  | none => rw [q] at h; cases h
  | some e => rw [q] at h; cases h; exact ⟨e, rfl, rfl⟩
theorem rangeV_len (a c : Int) (k : Nat) : (vi (rangeV a c k)).length = k := by simp [rangeV]
end Mine
end
section
open PySem PySem.W PySem.Calls PyProof.Rows
set_option Elab.async false
set_option maxRecDepth 100000
set_option linter.unusedVariables false
namespace Mine
/-! ### list comprehensions -/
section
variable {α β : Type} {M : Model} {A : Around} {E : Value → Shared → Prop} {s : Shared} {env : Env}
theorem c_attempt {m : Sem α} {Q : Except Value α → Shared → Prop} (h : wpC M A m (fun a => Q (.ok a)) (fun e => Q (.error e)) s) : wpC M A m.attempt Q E s :=
  fun Γ p hΓ ok => by rw [Sem.wp_attempt]; exact h Γ p hΓ ok
theorem c_standIf {c : Prop} [Decidable c] {pos : Pos} {k : PUnit → Sem α} {Q : α → Shared → Prop} (h : wpC M A (k ()) Q E s) : wpC M A (if c then (standAt pos >>= k) else k ()) Q E s := by
  split
  · exact c_bind (c_stand h)
  · exact h
theorem c_comprehension {e : Expr} {scope : Scope} {pos : Pos} {newAcc first : Sem Value} {g : Comprehension} {gs : List Comprehension} {cl : List (Str × Addr)} {Q : Value → Shared → Prop}
    (hcl : clausesOf e = g :: gs) (hs : ∀ x, foldedSetIterable g.iter env x = pure x) (hclos : closureFor scope env = pure cl)
    (hkind : scope.kind = .function) (hnames : ∀ x ∈ scope.names, x.2 = .local → scope.names.lookup x.1 = some .local)
    (h : wpC M A first (fun x s₁ => wpC M A (pyIter x) (fun it s₂ => wpC M A newAcc (fun acc s₃ =>
      wpC M A (newFunctionEnv scope env.globals cl [] env.qual none .none (some env)) (fun cenv s₄ =>
        codeC M A (.compStart e 0 it acc { cenv with scope := relabel scope env }) (fun r s' => match r with
          | .ok _ => ∃ m, s'.heap.Ns cenv.locals m ∧ ∀ h', Heap.SameBut cenv.locals s'.heap h' → Q acc { s' with heap := h' }
          | .error _ => False) s₄) E s₃) E s₂) E s₁) E s) :
    wpC M A (comprehension e scope env pos newAcc false first none) Q E s := by
  unfold comprehension
  rw [hclos, hcl]
  refine c_bind (c_mono h (fun x s₁ h₁ => c_bind (c_stand (c_bind (up (wpAny_of_eq (hs x) (c_bind (c_holding (c_mono h₁ (fun it s₂ h₂ =>
    c_standIf (c_bind (c_mono h₂ (fun acc s₃ h₃ => c_bind (c_pure (c_bind (c_mono h₃ (fun cenv s₄ h₄ => ?_) fun _ _ h' => h')))) fun _ _ h' => h')))
      fun _ _ h' => h')))))))) fun _ _ h' => h')
  dsimp only
  have hv : ∀ x ∈ (scope.names.filter fun x => (x.2 == .local || x.2 == .cell) && x.1 != (".0" : Str)).reverse, x.2 = .local →
      Env.kindOf { cenv with scope := relabel scope env } x.1 = some .local := fun x hx hl => lookup_relabel_local (hnames x (List.mem_filter.mp (List.mem_reverse.mp hx)).1 hl)
  refine c_holding (c_bind (c_attempt (c_holding (c_run rfl ?_))))
  refine fun Γ p hc hΓ ok => wpCode_mono (fun r s' hr => ?_) (h₄ Γ p hc hΓ ok)
  cases r with
  | ok f =>
    obtain ⟨m, hn, hr⟩ := hr
    exact c_bind (c_holding (up (wpAny_comp_letGo (cenv := { cenv with scope := relabel scope env }) hkind _ s' m hv hn fun h' m' _ hs' => c_pure (hr h' hs'))))
  | error x => exact hr.elim
end
section
variable {prog : Program} {w : World} {A : Around} {E : Value → Shared → Prop} {R : Result → Shared → Prop} {s : Shared} {env : Env}
theorem codeC_compStart {elt target iter : Expr} {ifs : List Expr} {rest : List Comprehension} {scope : Scope} {pos : Pos} {it acc : Value}
    (h0 : codeC (model prog w) A (.compLoop (.ListComp elt (⟨target, iter, ifs, 0⟩ :: rest) scope pos) 0 it acc env) R s)
    (h : wpC (model prog w) A (pyIter it) (fun it' s' => codeC (model prog w) A (.compLoop (.ListComp elt (⟨target, iter, ifs, 0⟩ :: rest) scope pos) 0 it' acc env) R s') (fun _ _ => False) s) :
    codeC (model prog w) A (.compStart (.ListComp elt (⟨target, iter, ifs, 0⟩ :: rest) scope pos) 0 it acc env) R s := by
  refine codeC_of_tree ?_
  show wpC _ A ((compStart (.ListComp elt (⟨target, iter, ifs, 0⟩ :: rest) scope pos) 0 it acc env).onRaise (fun x => do noteFrame x env; standAt theWindowsPlace)) _ _ s
  refine c_onRaise ?_
  unfold compStart
  show wpC _ _ (ask >>= _) _ _ s
  refine c_bind (up (wpAny_askSetting ?_))
  split
  · first
      | exact c_bind (c_pure (c_pure (And.intro rfl (And.intro rfl h0))))
      | exact c_pure (And.intro rfl (And.intro rfl h0))
  · first
      | exact c_bind (up (wpAny_rule (c_bind (c_stand (c_bind (c_mono h (fun it' s' h' => c_pure (And.intro rfl (And.intro rfl h'))) fun _ _ x => x.elim))))))
      | (refine c_bind (up (wpAny_rule ?_)); show wpC _ _ (standAt iter.pos >>= _) _ _ s; exact c_bind (c_stand (c_bind (c_mono h (fun it' s' h' => c_pure (And.intro rfl (And.intro rfl h'))) fun _ _ x => x.elim))))
theorem codeC_compLoop {elt target iter : Expr} {scope : Scope} {pos : Pos} {it acc : Value} (I : Nat → Shared → Prop)
    (turn : ∀ n s, I n s → wpC (model prog w) A (pyNext it) (fun r s₁ => match r with
      | none => R (.ok .next) s₁
      | some v => wpC (model prog w) A (letOwnedTupleGo target it v) (fun _ s₁' => wpC (model prog w) A (assign target env v) (fun _ s₂ =>
          wpC (model prog w) A (eval elt env) (fun x s₄ =>
              wpC (model prog w) A (PySem.call (.builtin "list.append") [acc, x]) (fun _ s₅ => ∃ m, m < n ∧ I m s₅) (fun _ _ => False) s₄) (fun _ _ => False) s₂)
          (fun _ _ => False) s₁') (fun _ _ => False) s₁) (fun _ _ => False) s)
    (n : Nat) (h : I n s) : codeC (model prog w) A (.compLoop (.ListComp elt [⟨target, iter, [], 0⟩] scope pos) 0 it acc env) R s := by
  refine codeC_loop rfl rfl I (fun n s hI => ?_) n h
  show wpC _ A ((compTurn (.ListComp elt [⟨target, iter, [], 0⟩] scope pos) 0 it acc env).onRaise (fun x => do noteFrame x env; theTreesLotGoes x)) _ _ s
  refine c_onRaise ?_
  rw [compTurn_list1]
  refine c_bind (c_stand (c_bind (c_mono (turn n s hI) (fun r s₁ h₁ => ?_) fun _ _ h' => h')))
  cases r with
  | none => exact c_pure h₁
  | some v =>
    refine c_bind (c_mono h₁ (fun _ s₁' h₁' => ?_) fun _ _ h' => h')
    refine c_bind (c_mono h₁' (fun _ s₂ h₂ => ?_) fun _ _ h' => h')
    exact c_bind (c_bind (c_mono h₂ (fun x s₄ h₄ => c_bind (c_mono h₄ (fun _ s₅ h₅ => c_pure (c_pure (.inl ⟨rfl, h₅⟩))) fun _ _ h' => h')) fun _ _ h' => h'))
end

section
variable {G : Gb} {D : Addr → Obj → Prop} {P : Addr → Prop} {fm : Fm} {ρ : Rho} {s s' : Shared} {n : Nat} {φ : Post}
theorem Firm.notIter {o : Obj} (q : Firm o) : ¬ IterObj o := fun ⟨zt, vs, d⟩ => by
  rcases q with ⟨fd, d'⟩ | ⟨vs', q, t, d', hv⟩
  · rw [d] at d'; cases d'
  · exact (zt vs' d').2 q t hv
/-- behind something that has turned code tables and iterators alone -/
theorem St.call2 {wr : List Addr} (S : St G D P fm ρ s) (g : Gst G s') (k : ∀ b o, ¬ G.isTab b → b ∉ wr → s.heap.get? b = some o → s'.heap.get? b = some o)
    (hw : ∀ b ∈ wr, (∀ o, ¬ D b o) ∧ P b ∧ ∃ o, s.heap.get? b = some o ∧ IterObj o) : St G D P fm ρ s' := by
  have nw : ∀ b o, ¬ IterObj o → s.heap.get? b = some o → b ∉ wr := fun b o q e z => by
    obtain ⟨_, _, o', e', h'⟩ := hw b z; rw [e] at e'; cases e'; exact q h'
  have kv : ∀ b o, VarObj o → s.heap.get? b = some o → s'.heap.get? b = some o := fun b o v e => k b o (S.noTab e (.inl v)) (nw b o (fun z => z.notVar v) e) e
  have ko : ∀ b o, OwnObj o → s.heap.get? b = some o → s'.heap.get? b = some o := fun b o v e => k b o (S.noTab e (.inr (.inl v))) (nw b o (fun z => z.notOwn v) e) e
  have kf : ∀ b o, Firm o → s.heap.get? b = some o → s'.heap.get? b = some o := fun b o v e => k b o (S.noTab e (.inr (.inr v))) (nw b o v.notIter e) e
  exact {
    gst := g
    kind := S.kind
    glob := S.glob
    blt := S.blt
    baseD := S.baseD
    keep := fun b o e => k b o (S.tabD b o e) (fun z => (hw b z).1 o e) (S.keep b o e)
    tabD := S.tabD
    locD := S.locD
    wcD := S.wcD
    ownD := S.ownD
    loc := let ⟨m, o, es, ep, e, d, r⟩ := S.loc; ⟨m, o, es, ep, kv _ _ (.inl ⟨_, _, d⟩) e, d, r⟩
    wcs := fun a ha => let ⟨v, o, e, d⟩ := S.wcs a ha; ⟨v, o, kv _ _ (.inr ⟨_, d⟩) e, d⟩
    apart := S.apart
    vars := fun p hp => let ⟨c, x, y⟩ := S.vars p hp; ⟨c, x.keeps kv, y.mono (fun a o hP q e => ⟨ko a o (.inl q) e, hP⟩) (fun a ha o e => by
      obtain ⟨o', e', h'⟩ := S.ownAt ⟨p, hp, ha⟩
      rw [e] at e'; cases e'
      exact ko a o h' e) kf⟩
    ownP := S.ownP
    ownNe := S.ownNe
    top := fun a ha => by
      by_cases z : a ∈ wr
      · exact (hw a z).2.1
      · refine S.top a ?_
        cases q : s.heap.get? a with
        | none => rfl
        | some o =>
          by_cases zt : G.isTab a
          · obtain ⟨t, ht, rfl⟩ := zt
            obtain ⟨ps, e'⟩ := tabOk_at (g.tabs t ht)
            rw [ha] at e'; cases e'
          · rw [k a o zt z q] at ha; cases ha }

noncomputable def compFm (scope : Scope) (cl : List (Str × Addr)) (C : Addr) (fm : Fm) : Fm := ⟨compEnvC scope cl C fm.env, []⟩
/-- what a comprehension made in this frame may read -/
noncomputable def SeesC (fm : Fm) (scope : Scope) (cl : List (Str × Addr)) (cap : Rho) : Prop :=
  ∀ p ∈ cap, ∃ a, fm.env.cells.lookup p.1 = some a ∧ cl.lookup p.1 = some a ∧ ((relabel scope fm.env).names.lookup p.1 = some .cell ∨ ((relabel scope fm.env).names.lookup p.1 = some .free ∧ (p.1 == ("__classdict__" : Str)) = false)) ∧ fm.env.kindOf p.1 ≠ some .local
theorem SeesC.nil {scope : Scope} {cl : List (Str × Addr)} : SeesC fm scope cl [] := fun _ h => nomatch h
theorem SeesC.cons {scope : Scope} {cl : List (Str × Addr)} {x : Str} {sl : Slot} {cap : Rho} (a : Addr) (h1 : fm.env.cells.lookup x = some a) (h2 : cl.lookup x = some a) (h3 : (relabel scope fm.env).names.lookup x = some .cell) (h5 : fm.env.kindOf x ≠ some .local)
    (h : SeesC fm scope cl cap) : SeesC fm scope cl ((x, sl) :: cap) := fun p hp => by
  rcases List.mem_cons.mp hp with rfl | hp
  · exact ⟨a, h1, h2, .inl h3, h5⟩
  · exact h p hp

/-- the state in which a comprehension's element is reckoned -/
theorem St.inner {s2 s3 : Shared} {wr : List Addr} {scope : Scope} {cl : List (Str × Addr)} {C : Addr} {ρi cap : Rho} {m : Str → Option Value} {Qp : Addr → Prop} (S2 : St G D P fm ρ s2) (g : Gst G s3) (hQ2 : ∀ a o, s2.heap.get? a = some o → Qp a) (hQ3 : ∀ a, s3.heap.get? a = none → Qp a) (k : ∀ b o, ¬ G.isTab b → b ∉ wr → s2.heap.get? b = some o → s3.heap.get? b = some o)
    (hw : ∀ b ∈ wr, (∃ o, s2.heap.get? b = some o ∧ IterObj o) ∧ ∃ o, s3.heap.get? b = some o) (hC : s2.heap.get? C = none) (hn : s3.heap.Ns C m) (hkind : scope.kind = .function) (hap : cl.Pairwise fun x y => x.2 ≠ y.2) (hcap : ∀ p ∈ cap, p ∈ ρ) (hno : ∀ a, ¬ Owned cap a)
    (hsee : SeesC fm scope cl cap) (hi : ∀ p ∈ ρi, (∃ v c, p.2 = .val v ∧ (relabel scope fm.env).names.lookup p.1 = some .local ∧ m p.1 = some c ∧ Rel (fun a => Cln P ρ a ∧ Qp a) s3.heap v c)) :
    St G (fun b o => s3.heap.get? b = some o ∧ ¬ G.isTab b ∧ b ≠ C) (fun a => Cln P ρ a ∧ Qp a) (compFm scope cl C fm) (ρi ++ cap) s3 := by
  have nw : ∀ b o, ¬ IterObj o → s2.heap.get? b = some o → b ∉ wr := fun b o q e z => by
    obtain ⟨⟨o', e', h'⟩, _⟩ := hw b z; rw [e] at e'; cases e'; exact q h'
  have no' : ∀ a, ¬ Owned (ρi ++ cap) a := fun a ⟨p, hp, e⟩ => by
    rcases List.mem_append.mp hp with hp | hp
    · obtain ⟨v, c, q, _⟩ := hi p hp; rw [q] at e; cases e
    · exact hno a ⟨p, hp, e⟩
  have baseNe : ∀ b o, G.B.get? b = some o → b ≠ C := fun b o e z => by rw [z] at e; rw [S2.gst.base _ _ e] at hC; cases hC
  exact {
    gst := g
    kind := hkind
    glob := S2.glob
    blt := S2.blt
    baseD := fun b o e => ⟨g.base b o e, S2.tabD b o (S2.baseD b o e), baseNe b o e⟩
    keep := fun b o e => e.1
    tabD := fun b o e => e.2.1
    locD := fun o e => e.2.2 rfl
    wcD := fun a ha => nomatch ha
    ownD := fun a ha => (no' a ha).elim
    loc := ⟨m, hn⟩
    wcs := fun a ha => nomatch ha
    apart := hap
    vars := fun p hp => by
      rcases List.mem_append.mp hp with hp | hp
      · obtain ⟨y, sl⟩ := p
        obtain ⟨v, c, q, h1, h2, h3⟩ := hi _ hp
        simp only at q h1 h2
        subst q
        exact ⟨c, .inl ⟨h1, m, hn, h2⟩, h3.mono fun a o hP _ e => ⟨e, hP, no' a⟩⟩
      · obtain ⟨c, hv, hsl⟩ := S2.vars p (hcap p hp)
        obtain ⟨a, q1, q2, q3, q5⟩ := hsee p hp
        refine ⟨c, .inr ⟨?_, a, q2, ?_⟩, hsl.mono (fun a o hP q e => ⟨k a o (S2.noTab e (.inr (.inl (.inl q)))) (nw a o q.notIter e) e, ⟨hP, hQ2 a o e⟩, no' a⟩) (fun a ha => (hno a ⟨p, hp, ha⟩).elim) fun a o q e => k a o (S2.noTab e (.inr (.inr q))) (nw a o q.notIter e) e⟩
        · rcases q3 with q3 | ⟨q3, q4⟩
          · exact .inl q3
          · exact .inr ⟨q3, q4⟩
        · rcases hv with ⟨e, _⟩ | ⟨_, a', hl', o, ho, hd⟩
          · exact absurd e q5
          · have e1 : fm.env.cells.lookup p.1 = some a := q1
            rw [e1] at hl'; cases hl'
            exact ⟨o, k _ _ (S2.noTab ho (.inl (.inr ⟨_, hd⟩))) (nw _ _ (fun z => z.notVar (.inr ⟨_, hd⟩)) ho) ho, hd⟩
    ownP := fun a ha => (no' a ha).elim
    ownNe := fun p hp q hq a ha => (no' a ⟨p, hp, ha⟩).elim
    top := fun a ha => by
      refine ⟨S2.topCln a ?_, hQ3 a ha⟩
      cases q : s2.heap.get? a with
      | none => rfl
      | some o =>
        by_cases zt : G.isTab a
        · obtain ⟨t, ht, rfl⟩ := zt
          obtain ⟨ps, e'⟩ := tabOk_at (g.tabs t ht)
          rw [ha] at e'; cases e'
        · by_cases zw : a ∈ wr
          · obtain ⟨_, o', e'⟩ := hw a zw; rw [ha] at e'; cases e'
          · rw [k a o zt zw q] at ha; cases ha }

theorem St.aside {h' : Heap} {C : Addr} {m : Str → Option Value} (S : St G D P fm ρ s) (hs : Heap.SameBut C s.heap h') (hn : s.heap.Ns C m) (hCl : C ≠ fm.env.locals) (hD : ∀ o, ¬ D C o) (hP : P C) : St G D P fm ρ { s with heap := h' } := by
  obtain ⟨oC, esC, epC, eC, dC, _⟩ := id hn
  have kk : ∀ b o, b ≠ C → s.heap.get? b = some o → h'.get? b = some o := fun b o q e => (hs.2 b q).trans e
  have nd : ∀ b o, (∀ es n, o.data ≠ .dict es n) → s.heap.get? b = some o → h'.get? b = some o := fun b o q e => kk b o (fun z => by
    subst z; rw [e] at eC; cases eC; exact q _ _ dC) e
  have kD : ∀ b o, D b o → h'.get? b = some o := fun b o e => kk b o (fun z => hD o (z ▸ e)) (S.keep b o e)
  have kq : ∀ b o, SeqObj o → s.heap.get? b = some o → h'.get? b = some o := fun b o ⟨i, n, d⟩ e => nd b o (fun es n d' => by rw [d] at d'; cases d') e
  have kf : ∀ b o, Firm o → s.heap.get? b = some o → h'.get? b = some o := fun b o q e => nd b o (fun es n d' => by rcases q with ⟨fd, d⟩ | ⟨vs, _, _, d, _⟩ <;> (rw [d] at d'; cases d')) e
  exact {
    gst := ⟨fun b o e => kD b o (S.baseD b o e), fun t ht => (S.gst.tabs t ht).keeps (fun b o q e => nd b o (fun es n d => q fun vs e => by rw [d] at e; cases e) e), S.gst.gens, S.gst.os⟩
    kind := S.kind
    glob := S.glob
    blt := S.blt
    baseD := S.baseD
    keep := kD
    tabD := S.tabD
    locD := S.locD
    wcD := S.wcD
    ownD := S.ownD
    loc := let ⟨m, o, es, ep, e, d, r⟩ := S.loc; ⟨m, o, es, ep, kk _ _ (fun z => hCl z.symm) e, d, r⟩
    wcs := fun a ha => let ⟨v, o, e, d⟩ := S.wcs a ha; ⟨v, o, nd _ _ (fun es n d' => by rw [d] at d'; cases d') e, d⟩
    apart := S.apart
    vars := fun p hp => by
      obtain ⟨c, hv, y⟩ := S.vars p hp
      refine ⟨c, ?_, y.mono (fun a o hP q e => ⟨kq a o q e, hP⟩) (fun a ha o e => ?_) kf⟩
      · rcases hv with ⟨e, m', ⟨o, es, ep, ho, r⟩, hq⟩ | ⟨e, a, hl, o, ho, hd⟩
        · exact .inl ⟨e, m', ⟨o, es, ep, kk _ _ (fun z => hCl z.symm) ho, r⟩, hq⟩
        · exact .inr ⟨e, a, hl, o, nd _ _ (fun es n d' => by rw [hd] at d'; cases d') ho, hd⟩
      · obtain ⟨o', e', h''⟩ := S.ownAt ⟨p, hp, ha⟩
        rw [e] at e'; cases e'
        exact nd a o (fun es n d' => by rcases h'' with ⟨i, n, d⟩ | ⟨b, n, d⟩ <;> (rw [d] at d'; cases d')) e
    ownP := S.ownP
    ownNe := S.ownNe
    top := fun a ha => by
      by_cases z : a = C
      · exact z ▸ hP
      · exact S.top a (by rw [← hs.2 a z]; exact ha) }

theorem c_comprehensionU {M : Model} {A : Around} {E : Value → Shared → Prop} {env : Env} {e : Expr} {scope : Scope} {pos : Pos} {newAcc first : Sem Value} {g : Comprehension} {gs : List Comprehension} {cl : List (Str × Addr)} {u : Value → Sem Unit} {Q : Value → Shared → Prop}
    (hcl : clausesOf e = g :: gs) (hs : ∀ x, foldedSetIterable g.iter env x = pure x) (hclos : closureFor scope env = pure cl)
    (hkind : scope.kind = .function) (hnames : ∀ x ∈ scope.names, x.2 = .local → scope.names.lookup x.1 = some .local)
    (h : wpC M A first (fun x s₁ => wpC M A (pyIter x) (fun it s₂ => wpC M A newAcc (fun acc s₃ =>
      wpC M A (newFunctionEnv scope env.globals cl [] env.qual none .none (some env)) (fun cenv s₄ =>
        codeC M A (.compStart e 0 it acc { cenv with scope := relabel scope env }) (fun r s' => match r with
          | .ok _ => wpC M A (u acc) (fun _ s'' => ∃ m, s''.heap.Ns cenv.locals m ∧ ∀ h', Heap.SameBut cenv.locals s''.heap h' → Q .none { s'' with heap := h' }) E s'
          | .error _ => False) s₄) E s₃) E s₂) E s₁) E s) :
    wpC M A (comprehension e scope env pos newAcc false first (some u)) Q E s := by
  unfold comprehension
  rw [hclos, hcl]
  refine c_bind (c_mono h (fun x s₁ h₁ => c_bind (c_stand (c_bind (up (wpAny_of_eq (hs x) (c_bind (c_holding (c_mono h₁ (fun it s₂ h₂ =>
    c_standIf (c_bind (c_mono h₂ (fun acc s₃ h₃ => c_bind (c_pure (c_bind (c_mono h₃ (fun cenv s₄ h₄ => ?_) fun _ _ h' => h')))) fun _ _ h' => h')))
      fun _ _ h' => h')))))))) fun _ _ h' => h')
  dsimp only
  have hv : ∀ x ∈ (scope.names.filter fun x => (x.2 == .local || x.2 == .cell) && x.1 != (".0" : Str)).reverse, x.2 = .local →
      Env.kindOf { cenv with scope := relabel scope env } x.1 = some .local := fun x hx hl => lookup_relabel_local (hnames x (List.mem_filter.mp (List.mem_reverse.mp hx)).1 hl)
  have hv' : ∀ x ∈ (scope.names.filter fun x => (x.2 == .local || x.2 == .cell) && x.1 != (".0" : Str)).reverse.drop 1 ++ (scope.names.filter fun x => (x.2 == .local || x.2 == .cell) && x.1 != (".0" : Str)).reverse.take 1,
      x.2 = .local → Env.kindOf { cenv with scope := relabel scope env } x.1 = some .local := fun x hx hl => by
    rcases List.mem_append.mp hx with h1 | h1
    · exact hv x (List.mem_of_mem_drop h1) hl
    · exact hv x (List.mem_of_mem_take h1) hl
  refine c_holding (c_bind (c_attempt (c_holding (c_run rfl ?_))))
  refine fun Γ p hc hΓ ok => wpCode_mono (fun r s' hr => ?_) (h₄ Γ p hc hΓ ok)
  cases r with
  | ok f =>
    refine c_bind (up (wpAny_rule (c_bind (c_holding (c_mono hr (fun _ s'' hr' => ?_) fun _ _ h' => h')))))
    obtain ⟨m, hn, hr'⟩ := hr'
    exact c_bind (up (wpAny_comp_letGo (cenv := { cenv with scope := relabel scope env }) hkind _ s'' m hv' hn fun h' m' _ hs' => c_pure (hr' h' hs')))
  | error x => exact hr.elim

end
end Mine
end
section
open PySem PySem.W PySem.Calls PyProof.Rows
set_option Elab.async false
set_option maxRecDepth 100000
set_option linter.unusedVariables false
namespace Mine
/-! ### a list unpacked into names -/
section
variable {prog : Program} {w : World} {A : Around} {E : Value → Shared → Prop} {s : Shared}
end
section
variable {G : Gb} {n : Nat} {fm : Fm} {ρ : Rho} {φ : Post}
end
end Mine
end
section
open PySem PySem.W PySem.Calls PyProof.Rows
set_option Elab.async false
set_option maxRecDepth 100000
set_option linter.unusedVariables false
namespace Mine
section
variable {G : Gb} {n : Nat} {fm : Fm} {ρ : Rho} {φ : Post}
end
end Mine
end
section
open PySem PySem.W PySem.Calls PyProof.Rows
set_option Elab.async false
set_option maxRecDepth 100000
set_option linter.unusedVariables false
namespace Mine
/-! ### iterators that give tuples -/
noncomputable def Walky (o : Obj) : Prop := (Tame o ∧ ∃ vs, o.data = .fields vs) ∨ SeqObj o
theorem Walky.notVar {o : Obj} (x : Walky o) : ¬ VarObj o := fun q => by
  rcases x with ⟨_, vs, d⟩ | ⟨i, n, d⟩ <;> rcases q with ⟨es, n', d'⟩ | ⟨v, d'⟩ <;> (rw [d] at d'; cases d')
theorem Walky.notFirm {o : Obj} (x : Walky o) : ¬ Firm o := fun q => by
  rcases x with ⟨t, vs, d⟩ | ⟨i, n, d⟩ <;> rcases q with ⟨fd, d'⟩ | ⟨vs', q, u, d', hv⟩
  · rw [d] at d'; cases d'
  · exact (t vs' d').2 q u hv
  · rw [d] at d'; cases d'
  · rw [d] at d'; cases d'
theorem Walky.tame {o : Obj} (x : Walky o) : Tame o := x.elim (fun q => q.1) fun q => q.tame
section
variable {G : Gb} {D : Addr → Obj → Prop} {P P' : Addr → Prop} {fm : Fm} {ρ : Rho} {s : Shared} {n : Nat} {φ : Post}
/-- an iterator at hand that gives tuples, still to give all of xs -/
noncomputable def IterAtT (G : Gb) (n : Nat) (D : Addr → Obj → Prop) (P P' : Addr → Prop) (fm : Fm) (ρ : Rho) (xs : List (List V)) (it : Value) (s : Shared) : Prop :=
  ∃ I fp wr Pt St' Mid, it = .ref I ∧ (∀ A, AOk n A → WalksU G.prog G.w A I fp wr xs.length Pt St' Mid) ∧ St' 0 s.heap ∧
    (∀ b ∈ fp, b ≠ fm.env.locals ∧ b ∉ fm.wc ∧ ¬ Owned ρ b ∧ ¬ G.isTab b) ∧ (∀ b ∈ wr, (∀ o, ¬ D b o) ∧ P b ∧ ¬ P' b) ∧ (∀ i h, St' i h → ∀ b ∈ wr, ∃ o, h.get? b = some o ∧ Walky o) ∧ (∀ i T h, Mid i T h → ∀ b ∈ wr, ∃ o, h.get? b = some o ∧ Walky o) ∧
    (∀ (i : Nat) x vals, xs[i]? = some x → Pt i vals → ∀ h, (∀ b o, Cln P' ρ b → SeqObj o → s.heap.get? b = some o → h.get? b = some o) → RelL (Cln P' ρ) h x vals.toList) ∧ (∀ b ∈ fp, b < s.heap.objs.size)
noncomputable def EvItT (G : Gb) (n : Nat) (fm : Fm) (ρ : Rho) (e : Expr) (xs : List (List V)) : Prop :=
  ∀ A s D P, AOk n A → St G D P fm ρ s → wpC G.M A (eval e fm.env) (fun x s1 => wpC G.M A (pyIter x) (fun it s2 => ∃ P', (∀ a, P' a → P a) ∧ St G D P' fm ρ s2 ∧ IterAtT G n D P P' fm ρ xs it s2) (fun _ _ => False) s1) (fun _ _ => False) s
noncomputable def OpItT (G : Gb) (n : Nat) (f : List Value → Sem Value) (vs : List V) (xs : List (List V)) : Prop :=
  ∀ A s D P fm ρ cs, AOk n A → St G D P fm ρ s → RelL (Cln P ρ) s.heap vs cs →
    wpC G.M A (f cs) (fun x s1 => wpC G.M A (pyIter x) (fun it s2 => ∃ P', (∀ a, P' a → P a) ∧ St G D P' fm ρ s2 ∧ IterAtT G n D P P' fm ρ xs it s2) (fun _ _ => False) s1) (fun _ _ => False) s
end
end Mine
end
section
open PySem PySem.W PySem.Calls PyProof.Rows
set_option Elab.async false
set_option maxRecDepth 100000
set_option linter.unusedVariables false
namespace Mine
section
variable {G : Gb} {D : Addr → Obj → Prop} {P P' : Addr → Prop} {fm : Fm} {ρ : Rho} {s : Shared} {n : Nat} {φ : Post}
/-- what stands above the old end may leave P -/
theorem St.growP {h' : Heap} {tk : Nat} {wr : List Addr} (S : St G D P fm ρ s) (k : ∀ b o, s.heap.get? b = some o → h'.get? b = some o) (hwr : ∀ b ∈ wr, s.heap.get? b = none ∧ ∃ o, h'.get? b = some o) :
    St G D (fun a => P a ∧ a ∉ wr) fm ρ { s with heap := h', toks := tk } :=
  let S1 : St G D P fm ρ { s with heap := h', toks := tk } := S.grow k
  have old : ∀ a o, s.heap.get? a = some o → a ∉ wr := fun a o e z => by rw [(hwr a z).1] at e; cases e
  { S1 with
    vars := fun p hp => let ⟨c, x, y⟩ := S.vars p hp; ⟨c, x.keeps fun b o _ e => k b o e, y.mono (fun a o hP q e => ⟨k a o e, ⟨hP.1, old a o e⟩, hP.2⟩) (fun a _ o e => k a o e) fun a o _ e => k a o e⟩
    ownP := fun a ha => ⟨S.ownP a ha, let ⟨o, e, _⟩ := S.ownAt ha; old a o e⟩
    top := fun a ha => ⟨S1.top a ha, fun z => by obtain ⟨o, e⟩ := (hwr a z).2; rw [ha] at e; cases e⟩ }

end
end Mine
end
section
open PySem PySem.W PySem.Calls PyProof.Rows
set_option Elab.async false
set_option maxRecDepth 100000
set_option linter.unusedVariables false
namespace Mine
/-! ### comprehensions whose loop unpacks tuples, or whose variable is a cell -/
section
variable {G : Gb} {D : Addr → Obj → Prop} {P P' : Addr → Prop} {fm : Fm} {ρ : Rho} {s : Shared} {n : Nat} {φ : Post}
structure SrcW (G : Gb) (A : Around) (tgt : Expr) (I : Addr) (fp wr : List Addr) (n : Nat) (Pt : Nat → Value → Heap → Prop) (St' : Nat → Heap → Prop) (Mid : Nat → Value → Heap → Prop) : Prop where
  frame : ∀ i h h', St' i h → (∀ b ∈ fp, ∀ o, h.get? b = some o → h'.get? b = some o) → St' i h'
  item : ∀ i (s : Shared) (Q : Option Value → Shared → Prop) (E : Value → Shared → Prop), i < n → St' i s.heap →
    (∀ v h' tk, Mid i v h' → (∀ b o, b ∉ wr → s.heap.get? b = some o → h'.get? b = some o) → Q (some v) { s with heap := h', toks := tk }) → wpAny G.M A (pyNext (.ref I)) Q E s
  go : ∀ i v (s : Shared) (Q : Unit → Shared → Prop) (E : Value → Shared → Prop), Mid i v s.heap →
    (∀ h', St' (i + 1) h' → Pt i v h' → (∀ b o, b ∉ wr → s.heap.get? b = some o → h'.get? b = some o) → Q () { s with heap := h' }) → wpAny G.M A (letOwnedTupleGo tgt (.ref I) v) Q E s
  done : ∀ (s : Shared) (Q : Option Value → Shared → Prop) (E : Value → Shared → Prop), St' n s.heap →
    (∀ h' tk, (∀ b o, b ∉ wr → s.heap.get? b = some o → h'.get? b = some o) → Q none { s with heap := h', toks := tk }) → wpAny G.M A (pyNext (.ref I)) Q E s
  self : ∀ i (s : Shared) (Q : Value → Shared → Prop) (E : Value → Shared → Prop), St' i s.heap → Q (.ref I) s → wpAny G.M A (pyIter (.ref I)) Q E s

/-- what a target takes of a value -/
noncomputable def GotN (h : Heap) (v : Value) (vals : List Value) : Prop := vals = [v]
noncomputable def GotT (h : Heap) (v : Value) (vals : List Value) : Prop := ∃ T, v = .ref T ∧ h.IsTuple T vals.toArray
abbrev GotR := Heap → Value → List Value → Prop

noncomputable def SrcAt (G : Gb) (n : Nat) (D : Addr → Obj → Prop) (P P' : Addr → Prop) (fm : Fm) (ρ : Rho) (tgt : Expr) (got : GotR) (xs : List (List V)) (it : Value) (s : Shared) : Prop :=
  ∃ I fp wr Pt St' Mid, it = .ref I ∧ (∀ A, AOk n A → SrcW G A tgt I fp wr xs.length Pt St' Mid) ∧ St' 0 s.heap ∧
    (∀ b ∈ fp, b ≠ fm.env.locals ∧ b ∉ fm.wc ∧ ¬ Owned ρ b ∧ ¬ G.isTab b) ∧ (∀ b ∈ wr, (∀ o, ¬ D b o) ∧ P b ∧ ¬ P' b) ∧ (∀ i h, St' i h → ∀ b ∈ wr, ∃ o, h.get? b = some o ∧ Walky o) ∧ (∀ i v h, Mid i v h → ∀ b ∈ wr, ∃ o, h.get? b = some o ∧ Walky o) ∧
    (∀ (i : Nat) x v h, xs[i]? = some x → Pt i v h → ∃ vals, got h v vals ∧ RelL (Cln P' ρ) s.heap x vals) ∧ (∀ b ∈ fp, b < s.heap.objs.size)
noncomputable def EvSrc (G : Gb) (n : Nat) (fm : Fm) (ρ : Rho) (e tgt : Expr) (got : GotR) (xs : List (List V)) : Prop :=
  ∀ A s D P, AOk n A → St G D P fm ρ s → wpC G.M A (eval e fm.env) (fun x s1 => wpC G.M A (pyIter x) (fun it s2 => ∃ P', (∀ a, P' a → P a) ∧ St G D P' fm ρ s2 ∧ SrcAt G n D P P' fm ρ tgt got xs it s2) (fun _ _ => False) s1) (fun _ _ => False) s

theorem St.noWr {wr : List Addr} (S : St G D P fm ρ s) (h : ∀ b ∈ wr, ∃ o, s.heap.get? b = some o ∧ IterObj o) : St G D (fun a => P a ∧ a ∉ wr) fm ρ s :=
  { S with
    vars := fun p hp => let ⟨c, x, y⟩ := S.vars p hp; ⟨c, x, y.mono (fun a o hP q e => ⟨e, ⟨hP.1, fun z => by obtain ⟨o', e', h'⟩ := h a z; rw [e] at e'; cases e'; exact q.notIter h'⟩, hP.2⟩) (fun a _ o e => e) fun a o _ e => e⟩
    ownP := fun a ha => ⟨S.ownP a ha, fun z => by obtain ⟨o', e', h'⟩ := h a z; obtain ⟨o, e, q⟩ := S.ownAt ha; rw [e] at e'; cases e'; exact h'.notOwn q⟩
    top := fun a ha => ⟨S.top a ha, fun z => by obtain ⟨o', e', _⟩ := h a z; rw [ha] at e'; cases e'⟩ }
theorem EvIt.src {e : Expr} {x : Str} {px : Pos} {xs : List V} (h : EvIt G n fm ρ e xs) : EvSrc G n fm ρ e (.Name x px) GotN (xs.map fun x => [x]) := fun A s D P hA S => by
  refine c_mono (h A s D P hA S) (fun c s1 h1 => c_mono h1 (fun it s2 h2 => ?_) no) no
  obtain ⟨S2, I, fp, wr, Pv, St', rfl, W, st0, hfp, hwr, hob, hval, hlt⟩ := h2
  refine ⟨fun a => P a ∧ a ∉ wr, fun a q => q.1, S2.noWr (hob 0 _ st0), I, fp, wr, fun i v _ => Pv i v, St', fun i v h => Pv i v ∧ St' (i + 1) h, rfl, ?_, st0, hfp, fun b hb => ⟨(hwr b hb).1, (hwr b hb).2, fun q => q.2 hb⟩, fun i h st b hb => ?_, fun i v h st b hb => ?_, ?_, hlt⟩
  · intro A hA
    have W' := W A hA
    rw [List.length_map]
    exact {
      frame := W'.frame
      item := fun i s Q E hi st hQ => W'.item i s Q E hi st fun v h' tk hP st' hk => hQ v h' tk ⟨hP, st'⟩ hk
      go := fun i v s Q E hm hQ => wpAny_pure (hQ s.heap hm.2 hm.1 fun _ _ _ e => e)
      done := W'.done
      self := W'.self }
  · obtain ⟨o, e, q⟩ := hob i h st b hb; exact ⟨o, e, .inl q⟩
  · obtain ⟨o, e, q⟩ := hob (i + 1) h st.2 b hb; exact ⟨o, e, .inl q⟩
  · intro i x v h hx hp
    rw [List.getElem?_map] at hx
    cases q : xs[i]? with
    | none => rw [q] at hx; cases hx
    | some y =>
      rw [q] at hx; cases hx
      refine ⟨[v], rfl, .cons ((hval i v y q hp s2.heap fun _ _ _ _ e => e).mono fun a o hP qs e => ?_) .nil⟩
      have hw : a ∉ wr := fun z => by obtain ⟨o', e', h'⟩ := hob 0 _ st0 a z; rw [e] at e'; cases e'; exact qs.notIter h'
      exact ⟨e, ⟨hP.1, hw⟩, hP.2⟩
theorem EvItT.src {e : Expr} {es : List Expr} {k : Nat} {tpos : Pos} {xs : List (List V)} (h : EvItT G n fm ρ e xs) : EvSrc G n fm ρ e (.Tuple es k tpos) GotT xs := fun A s D P hA S => by
  refine c_mono (h A s D P hA S) (fun c s1 h1 => c_mono h1 (fun it s2 h2 => ?_) no) no
  obtain ⟨P', hPP, S2, I, fp, wr, Pt, St', Mid, rfl, W, st0, hfp, hwr, hob, hmid, hval, hlt⟩ := h2
  refine ⟨P', hPP, S2, I, fp, wr, fun i v h => ∃ T vals, v = .ref T ∧ Pt i vals ∧ h.IsTuple T vals, St', fun i v h => ∃ T vals, v = .ref T ∧ Pt i vals ∧ h.IsTuple T vals ∧ Mid i T h, rfl, ?_, st0, hfp, hwr, hob, ?_, ?_, hlt⟩
  · intro A hA
    have W' := W A hA
    exact {
      frame := W'.frame
      item := fun i s Q E hi st hQ => W'.item i s Q E hi st fun T vals h' tk hP hT hm hk => hQ (.ref T) h' tk ⟨T, vals, rfl, hP, hT, hm⟩ hk
      go := fun i v s Q E hm hQ => by
        obtain ⟨T, vals, rfl, hP, hT, hm⟩ := hm
        exact W'.go es k tpos i T s Q E hm fun h' st hk => hQ h' st ⟨T, vals, rfl, hP, let ⟨o, e, r⟩ := hT; ⟨o, hk T o (W'.apart i T _ hm) e, r⟩⟩ hk
      done := W'.done
      self := W'.self }
  · rintro i v h ⟨T, vals, rfl, hP, hT, hm⟩ b hb
    exact hmid i T h hm b hb
  · rintro i x v h hx ⟨T, vals, rfl, hP, hT⟩
    exact ⟨vals.toList, ⟨T, rfl, by simpa using hT⟩, hval i x vals hx hP s2.heap fun _ _ _ _ e => e⟩

/-! the frame of such a comprehension -/
noncomputable def ownC (C : Addr) (scope : Scope) : List (Str × Addr) := cellsFrom (C + 1) scope.names []
noncomputable def compEnvG (scope : Scope) (cl : List (Str × Addr)) (C : Addr) (env : Env) : Env := { compEnvC scope cl C env with cells := cellsFrom (C + 1) scope.names cl }
noncomputable def compFmG (scope : Scope) (cl : List (Str × Addr)) (C : Addr) (fm : Fm) : Fm := ⟨compEnvG scope cl C fm.env, (ownC C scope).map (·.2)⟩
theorem cellsFrom_acc : ∀ (names : List (Str × NameKind)) (k : Nat) (acc : List (Str × Addr)), cellsFrom k names acc = cellsFrom k names [] ++ acc
  | [], _, _ => rfl
  | (x, kd) :: r, k, acc => by
    unfold cellsFrom
    split
    · rw [cellsFrom_acc r (k + 1) ((x, k) :: acc), cellsFrom_acc r (k + 1) [(x, k)]]; simp
    · exact cellsFrom_acc r k acc
theorem lookup_behind {α : Type} {x : Str} : ∀ {l l' : List (Str × α)}, x ∉ l.map (·.1) → (l ++ l').lookup x = l'.lookup x
  | [], _, _ => rfl
  | (y, a) :: l, l', h => by
    simp only [List.map_cons, List.mem_cons, not_or] at h
    rw [List.cons_append, List.lookup_cons, show (x == y) = false from beq_false_of_ne h.1]
    exact lookup_behind h.2
theorem wpAny_newFunctionEnv_around {M : Model} {A : Around} {E : Value → Shared → Prop} {scope : Scope} {globals builtins : Addr} {cl : List (Str × Addr)} {qual : Str} {env : Env} {Q : Env → Shared → Prop}
    (h : Q { scope := scope, locals := s.heap.objs.size, globals := globals, cells := cellsFrom (s.heap.objs.size + 1) scope.names cl, qual := qual, func := none, code := env.code, frame := env.frame, builtins := env.builtins }
      { s with heap := pushCells (s.heap.push { cls := .type "dict", data := .dict #[] }) scope.names }) :
    wpAny M A (newFunctionEnv scope globals cl [] qual none .none (some env) builtins) Q E s := by
  simp only [newFunctionEnv, Option.isSome_some, if_true]
  refine wpAny_bind (wpAny_alloc ?_)
  refine wpAny_bind (wpAny_layCells _ (fun name kind cells => by cases hkc : kind == NameKind.cell <;> simp [hkc]) _ _ _ _ ?_)
  rw [show ({ s with heap := s.heap.push { cls := .type "dict", data := .dict #[] } } : Shared).heap.objs.size = s.heap.objs.size + 1 from Heap.size_push ..]
  refine wpAny_bind ?_
  rw [List.forIn_nil]
  exact wpAny_pure (wpAny_pure h)

theorem St.innerG {s2 s3 : Shared} {wr : List Addr} {scope : Scope} {cl : List (Str × Addr)} {C : Addr} {cap : Rho} {m : Str → Option Value} {Qp : Addr → Prop} (S2 : St G D P fm ρ s2) (g : Gst G s3) (hQ2 : ∀ a o, s2.heap.get? a = some o → Qp a) (hQ3 : ∀ a, s3.heap.get? a = none → Qp a) (k : ∀ b o, ¬ G.isTab b → b ∉ wr → s2.heap.get? b = some o → s3.heap.get? b = some o)
    (hw : ∀ b ∈ wr, (∃ o, s2.heap.get? b = some o ∧ Walky o) ∧ (∃ o, s3.heap.get? b = some o) ∧ ¬ P b) (hC : s2.heap.get? C = none) (hCz : s2.heap.objs.size ≤ C) (hn : s3.heap.Ns C m) (hkind : scope.kind = .function) (hap : cl.Pairwise fun x y => x.2 ≠ y.2) (hcap : ∀ p ∈ cap, p ∈ ρ) (hno : ∀ a, ¬ Owned cap a)
    (hsee : SeesC fm scope cl cap) (hcov : cl.map (·.1) = cap.map (·.1)) (hnd : (cl.map (·.1)).Nodup) (hdis : ∀ p ∈ cap, p.1 ∉ (cellsFrom 0 scope.names []).map (·.1))
    (hcells : ∀ a ∈ (ownC C scope).map (·.2), ∃ v, s3.heap.IsCell a v) (hown : ∀ x ∈ ownC C scope, C + 1 ≤ x.2) (hoa : (ownC C scope).Pairwise fun x y => x.2 ≠ y.2) :
    St G (fun b o => s3.heap.get? b = some o ∧ ¬ G.isTab b ∧ b ≠ C ∧ b ∉ (ownC C scope).map (·.2)) (fun a => Cln P ρ a ∧ Qp a) (compFmG scope cl C fm) cap s3 := by
  have nw : ∀ b o, ¬ Walky o → s2.heap.get? b = some o → b ∉ wr := fun b o q e z => by
    obtain ⟨⟨o', e', h'⟩, _⟩ := hw b z; rw [e] at e'; cases e'; exact q h'
  have old : ∀ b o, s2.heap.get? b = some o → b ≠ C ∧ b ∉ (ownC C scope).map (·.2) := fun b o e => ⟨fun z => (by rw [z, hC] at e; cases e), fun z => by
    obtain ⟨x, hx, e'⟩ := List.mem_map.mp z
    have h1 : C + 1 ≤ b := e' ▸ hown x hx
    exact Nat.lt_irrefl _ (Nat.lt_of_lt_of_le (Heap.lt_size e) (Nat.le_trans hCz (Nat.le_of_succ_le h1)))⟩
  have capAt : ∀ p ∈ cap, ∃ c a, cl.lookup p.1 = some a ∧ s2.heap.IsCell a (some c) ∧ SlotOk (Cln P ρ) s2.heap p.2 c := fun p hp => by
    obtain ⟨c, hv, hsl⟩ := S2.vars p (hcap p hp)
    obtain ⟨a, q1, q2, q3, q5⟩ := hsee p hp
    rcases hv with ⟨e, _⟩ | ⟨_, a', hl', o, ho, hd⟩
    · exact absurd e q5
    · have e1 : fm.env.cells.lookup p.1 = some a := q1
      rw [e1] at hl'; cases hl'
      exact ⟨c, a, q2, ⟨o, ho, hd⟩, hsl⟩
  have clAt : ∀ y ∈ cl, y.2 < C := fun y hy => by
    have h1 : y.1 ∈ cap.map (·.1) := by rw [← hcov]; exact List.mem_map.mpr ⟨y, hy, rfl⟩
    obtain ⟨p, hp, e⟩ := List.mem_map.mp h1
    obtain ⟨c, a, h2, h3, _⟩ := capAt p hp
    have h4 := lookup_of_mem_nodup hnd hy
    rw [← e, h2] at h4
    cases h4
    exact Nat.lt_of_lt_of_le h3.lt hCz
  have lk : ∀ p ∈ cap, (cellsFrom (C + 1) scope.names cl).lookup p.1 = cl.lookup p.1 := fun p hp => by
    rw [cellsFrom_acc]
    refine lookup_behind ?_
    rw [cellsFrom_names scope.names 0 (C + 1) [] [] rfl |>.symm]
    exact hdis p hp
  exact {
    gst := g
    kind := hkind
    glob := S2.glob
    blt := S2.blt
    baseD := fun b o e => ⟨g.base b o e, S2.tabD b o (S2.baseD b o e), old b o (S2.gst.base b o e)⟩
    keep := fun b o e => e.1
    tabD := fun b o e => e.2.1
    locD := fun o e => e.2.2.1 rfl
    wcD := fun a ha o e => e.2.2.2 ha
    ownD := fun a ha => (hno a ha).elim
    loc := ⟨m, hn⟩
    wcs := hcells
    apart := by
      show (cellsFrom (C + 1) scope.names cl).Pairwise _
      rw [cellsFrom_acc]
      refine List.pairwise_append.mpr ⟨hoa, hap, fun x hx y hy e => ?_⟩
      have h1 := hown x hx
      have h2 := clAt y hy
      rw [e] at h1
      exact Nat.lt_irrefl _ (Nat.lt_of_lt_of_le h2 (Nat.le_of_succ_le h1))
    vars := fun p hp => by
      obtain ⟨c, a, h1, ⟨o, ho, hd⟩, hsl⟩ := capAt p hp
      obtain ⟨_, q1, q2, q3, q5⟩ := hsee p hp
      refine ⟨c, .inr ⟨?_, a, (lk p hp).trans h1, o, k _ _ (S2.noTab ho (.inl (.inr ⟨_, hd⟩))) (nw _ _ (fun z => z.notVar (.inr ⟨_, hd⟩)) ho) ho, hd⟩,
        hsl.mono (fun a o hP q e => ⟨k a o (S2.noTab e (.inr (.inl (.inl q)))) (fun z => (hw a z).2.2 hP.1) e, ⟨hP, hQ2 a o e⟩, hno a⟩) (fun a ha => (hno a ⟨p, hp, ha⟩).elim) fun a o q e => k a o (S2.noTab e (.inr (.inr q))) (nw a o (fun z => z.notFirm q) e) e⟩
      rcases q3 with q3 | ⟨q3, q4⟩
      · exact .inl q3
      · exact .inr ⟨q3, q4⟩
    ownP := fun a ha => (hno a ha).elim
    ownNe := fun p hp q hq a ha => (hno a ⟨p, hp, ha⟩).elim
    top := fun a ha => by
      refine ⟨S2.topCln a ?_, hQ3 a ha⟩
      cases q : s2.heap.get? a with
      | none => rfl
      | some o =>
        by_cases zt : G.isTab a
        · obtain ⟨t, ht, rfl⟩ := zt
          obtain ⟨ps, e'⟩ := tabOk_at (g.tabs t ht)
          rw [ha] at e'; cases e'
        · by_cases zw : a ∈ wr
          · obtain ⟨_, ⟨o', e'⟩, _⟩ := hw a zw; rw [ha] at e'; cases e'
          · rw [k a o zt zw q] at ha; cases ha }

/-- the target in the inner frame -/
noncomputable def Asg (G : Gb) (n : Nat) (fm : Fm) (tgt : Expr) (got : GotR) (names : List Str) (k : Nat) : Prop :=
  ∀ A s D P ρ x v vals, AOk n A → St G D P fm ρ s → got s.heap v vals → RelL (Cln P ρ) s.heap x vals → x.length = k → wpC G.M A (assign tgt fm.env v) (fun _ s' => St G D P fm (putAll ρ names x) s') (fun _ _ => False) s
theorem Asg.name {x : Str} {px : Pos} (hw : Wrt fm x) : Asg G n fm (.Name x px) GotN [x] 1 := fun A s D P ρ xs v vals hA S g r hl => by
  cases xs with
  | nil => cases hl
  | cons y t =>
    cases t with
    | cons z t => simp at hl
    | nil =>
      have g : vals = [v] := g
      subst g
      cases r with
      | cons r1 r2 => exact c_assign_Name (S.storeV hw r1)
theorem Asg.tuple {es : List Expr} {xs : List Str} {k : Nat} {tpos : Pos} (hx : Nms fm es xs) : Asg G n fm (.Tuple es k tpos) GotT xs xs.length := fun A s D P ρ vs v vals hA S g r hl => by
  obtain ⟨T, rfl, hT⟩ := g
  obtain ⟨ts, e1, e2, e3⟩ := nms_each (G := G) hx
  have hlen := r.length
  refine c_assign_Tuple hA.handled hT (by rw [e1]; simp [e2, hl, hlen]) (by rw [e1]; rw [List.findIdx?_eq_none_iff]; intro y hy; obtain ⟨t, _, rfl⟩ := List.mem_map.mp hy; rfl) fun h' hk => ?_
  have kk : ∀ b o, s.heap.get? b = some o → h'.get? b = some o := fun b o e => hk b o (Nat.ne_of_lt (Heap.lt_size e)) e
  rw [e1, List.map_map]
  have : (List.map ((fun x => x.2) ∘ fun t => (false, t)) ts) = ts := by simp [Function.comp_def]
  rw [this]
  exact asgNames (xs := xs) hl.symm e2 (e3 A) (S.grow (tk := s.toks) kk) (by simpa using r.mono fun a o hP _ e => ⟨kk a o e, hP⟩)

/-- behind something that has turned code tables and what the loop draws from alone -/
theorem St.call3 {s' : Shared} {wr : List Addr} (S : St G D P' fm ρ s) (g : Gst G s') (hPP : ∀ a, P' a → P a) (k : ∀ b o, ¬ G.isTab b → b ∉ wr → s.heap.get? b = some o → s'.heap.get? b = some o)
    (hw : ∀ b ∈ wr, (∀ o, ¬ D b o) ∧ P b ∧ ¬ P' b ∧ ∃ o, s.heap.get? b = some o ∧ Walky o) : St G D P fm ρ s' := by
  have nw : ∀ b o, ¬ Walky o → s.heap.get? b = some o → b ∉ wr := fun b o q e z => by
    obtain ⟨_, _, _, o', e', h'⟩ := hw b z; rw [e] at e'; cases e'; exact q h'
  have kv : ∀ b o, VarObj o → s.heap.get? b = some o → s'.heap.get? b = some o := fun b o v e => k b o (S.noTab e (.inl v)) (nw b o (fun z => z.notVar v) e) e
  have kf : ∀ b o, Firm o → s.heap.get? b = some o → s'.heap.get? b = some o := fun b o v e => k b o (S.noTab e (.inr (.inr v))) (nw b o (fun z => z.notFirm v) e) e
  have kp : ∀ b o, P' b → OwnObj o → s.heap.get? b = some o → s'.heap.get? b = some o := fun b o q v e => k b o (S.noTab e (.inr (.inl v))) (fun z => (hw b z).2.2.1 q) e
  exact {
    gst := g
    kind := S.kind
    glob := S.glob
    blt := S.blt
    baseD := S.baseD
    keep := fun b o e => k b o (S.tabD b o e) (fun z => (hw b z).1 o e) (S.keep b o e)
    tabD := S.tabD
    locD := S.locD
    wcD := S.wcD
    ownD := S.ownD
    loc := let ⟨m, o, es, ep, e, d, r⟩ := S.loc; ⟨m, o, es, ep, kv _ _ (.inl ⟨_, _, d⟩) e, d, r⟩
    wcs := fun a ha => let ⟨v, o, e, d⟩ := S.wcs a ha; ⟨v, o, kv _ _ (.inr ⟨_, d⟩) e, d⟩
    apart := S.apart
    vars := fun p hp => let ⟨c, x, y⟩ := S.vars p hp; ⟨c, x.keeps kv, y.mono (fun a o hP q e => ⟨kp a o hP.1 (.inl q) e, hPP a hP.1, hP.2⟩) (fun a ha o e => by
      obtain ⟨o', e', h'⟩ := S.ownAt ⟨p, hp, ha⟩
      rw [e] at e'; cases e'
      exact kp a o (S.ownP a ⟨p, hp, ha⟩) h' e) kf⟩
    ownP := fun a ha => hPP a (S.ownP a ha)
    ownNe := S.ownNe
    top := fun a ha => by
      by_cases z : a ∈ wr
      · exact (hw a z).2.1
      · refine hPP a (S.top a ?_)
        cases q : s.heap.get? a with
        | none => rfl
        | some o =>
          by_cases zt : G.isTab a
          · obtain ⟨t, ht, rfl⟩ := zt
            obtain ⟨ps, e'⟩ := tabOk_at (g.tabs t ht)
            rw [ha] at e'; cases e'
          · rw [k a o zt z q] at ha; cases ha }

theorem comp_coreG {A : Around} {s2 : Shared} {it : Value} {E : Value → Shared → Prop} {elt iter tgt : Expr} {names : List Str} {nk : Nat} {pos : Pos} {scope : Scope} {cl : List (Str × Addr)} {cap : Rho} {got : GotR} {xs : List (List V)} {ys : List V} {R : Value → Addr → Result → Shared → Prop} (hA : AOk n A)
    (hPP : ∀ a, P' a → P a) (S2 : St G D P' fm ρ s2) (hsrc : SrcAt G n D P P' fm ρ tgt got xs it s2)
    (hap : cl.Pairwise fun x y => x.2 ≠ y.2) (hcap : ∀ p ∈ cap, p ∈ ρ) (hno : ∀ a, ¬ Owned cap a) (hsee : SeesC fm scope cl cap) (hcov : cl.map (·.1) = cap.map (·.1)) (hnd : (cl.map (·.1)).Nodup) (hdis : ∀ p ∈ cap, p.1 ∉ (cellsFrom 0 scope.names []).map (·.1))
    (hlen : ys.length = xs.length) (hz : xs.length ≤ sizeLine) (hk : ∀ x ∈ xs, x.length = nk)
    (hasg : ∀ C, Asg G n (compFmG scope cl C fm) tgt got names nk)
    (h : ∀ (i : Nat) x y, xs[i]? = some x → ys[i]? = some y → ∀ C, Ev G n (compFmG scope cl C fm) (putAll cap names x) elt y)
    (hR : ∀ D0 C s' m f, St G D P fm ρ s' → Rel (Cln P ρ) s'.heap (.list ys) (.ref D0) → s'.heap.Ns C m → C ≠ fm.env.locals → C ∉ fm.wc → (∀ o, ¬ D C o) → P C → R (.ref D0) C (.ok f) s')
    (hkind : scope.kind = .function) :
    wpC G.M A (newList []) (fun acc s₃ => wpC G.M A (newFunctionEnv scope fm.env.globals cl [] fm.env.qual none .none (some fm.env)) (fun cenv s₄ =>
      codeC G.M A (.compStart (.ListComp elt [⟨tgt, iter, [], 0⟩] scope pos) 0 it acc { cenv with scope := relabel scope fm.env }) (R acc cenv.locals) s₄) E s₃) E s2 := by
  obtain ⟨I, fp, wr, Pt, St', Mid, rfl, W, st0, hfp, hwr, hob, hmid, hval, hlt⟩ := hsrc
  have hwr' : ∀ b ∈ wr, ∃ o, s2.heap.get? b = some o ∧ Walky o := fun b hb => hob 0 _ st0 b hb
  refine up (wpAny_newObj_type (up (wpAny_newFunctionEnv_around ?_)))
  dsimp only
  generalize hH2 : s2.heap.push { cls := .type "list", dict := none, data := .seq ([] : List Value).toArray } = H2
  have hCs : H2.objs.size = s2.heap.objs.size + 1 := by rw [← hH2, Heap.size_push]
  have hns₁ : (pushCells (H2.push { cls := .type "dict", data := .dict #[] }) scope.names).Ns H2.objs.size (fun _ => none) := (Heap.Ns.new H2 (.type "dict")).keeps (pushCells_keeps _ _)
  have ok := cellsFrom_ok scope.names (H2.push { cls := .type "dict", data := .dict #[] }) (H2.objs.size + 1) [] ⟨fun _ _ hm => (nomatch hm), List.Pairwise.nil⟩ (by rw [Heap.size_push]; exact Nat.le_refl _)
  rw [Heap.size_push] at ok
  have hk₁ : ∀ b o, H2.get? b = some o → (pushCells (H2.push { cls := .type "dict", data := .dict #[] }) scope.names).get? b = some o := fun b o e => pushCells_keeps _ _ _ _ (Heap.get?_push_of_some _ e)
  generalize pushCells (H2.push { cls := .type "dict", data := .dict #[] }) scope.names = h₁ at hns₁ ok hk₁ ⊢
  generalize hCC : H2.objs.size = C at hns₁ hCs ok ⊢
  generalize hDD : s2.heap.objs.size = D0 at hCs hlt ⊢
  have hDC : D0 ≠ C := by lia
  have hDn : s2.heap.get? D0 = none := Heap.get?_none_of_le (by lia)
  have hCn : s2.heap.get? C = none := Heap.get?_none_of_le (by lia)
  have old : ∀ b o, s2.heap.get? b = some o → h₁.get? b = some o := fun b o e => hk₁ b o (hH2 ▸ Heap.get?_push_of_some _ e)
  have hacc₁ : h₁.PlainList D0 #[] := ⟨_, hk₁ _ _ (by rw [← hH2, ← hDD]; exact Heap.get?_push_size _ rfl)⟩
  have ownGe : ∀ x ∈ ownC C scope, C + 1 ≤ x.2 := fun x hx => (ok.empty x.1 x.2 hx).2
  have ownAp : (ownC C scope).Pairwise fun x y => x.2 ≠ y.2 := ok.apart
  have own₁ : ∀ a ∈ (ownC C scope).map (·.2), ∃ v, h₁.IsCell a v := fun a ha => by
    obtain ⟨x, hx, rfl⟩ := List.mem_map.mp ha; exact ⟨_, (ok.empty x.1 x.2 hx).1⟩
  have ownC' : ∀ a ∈ (ownC C scope).map (·.2), C + 1 ≤ a := fun a ha => by obtain ⟨x, hx, rfl⟩ := List.mem_map.mp ha; exact ownGe x hx
  have ownN : ∀ a ∈ (ownC C scope).map (·.2), s2.heap.get? a = none := fun a ha => Heap.get?_none_of_le (by have := ownC' a ha; lia)
  have hDo : D0 ∉ (ownC C scope).map (·.2) := fun z => by have := ownC' _ z; lia
  have hCo : C ∉ (ownC C scope).map (·.2) := fun z => by have := ownC' _ z; lia
  generalize hOO : (ownC C scope).map (·.2) = O at own₁ ownC' ownN hDo hCo
  have hDw : D0 ∉ wr := fun z => by obtain ⟨o, e, _⟩ := hwr' D0 z; rw [hDn] at e; cases e
  have hCw : C ∉ wr := fun z => by obtain ⟨o, e, _⟩ := hwr' C z; rw [hCn] at e; cases e
  have hOw : ∀ a ∈ O, a ∉ wr := fun a ha z => by obtain ⟨o, e, _⟩ := hwr' a z; rw [ownN a ha] at e; cases e
  have hDf : D0 ∉ fp := fun z => Nat.lt_irrefl _ (hlt _ z)
  have hCf : C ∉ fp := fun z => absurd (hlt C z) (by rw [hCs]; exact Nat.not_lt.mpr (Nat.le_succ _))
  have hOf : ∀ a ∈ O, a ∉ fp := fun a ha z => absurd (hlt a z) (Nat.not_lt.mpr (by have h2 := ownC' a ha; lia))
  have tabOld : ∀ b, G.isTab b → ∃ o, s2.heap.get? b = some o := fun b ⟨t, ht, e⟩ => by
    obtain ⟨ps, e'⟩ := tabOk_at (S2.gst.tabs t ht); exact ⟨_, e ▸ e'⟩
  have hDt : ¬ G.isTab D0 := fun q => by obtain ⟨o, e⟩ := tabOld _ q; rw [hDn] at e; cases e
  have hOt : ∀ a ∈ O, ¬ G.isTab a := fun a ha q => by obtain ⟨o, e⟩ := tabOld _ q; rw [ownN a ha] at e; cases e
  have hCbase : ∀ b o, G.B.get? b = some o → b ≠ C ∧ b ≠ D0 ∧ b ∉ O := fun b o e => by
    have e := S2.gst.base _ _ e
    exact ⟨fun z => (by rw [z, hCn] at e; cases e), fun z => (by rw [z, hDn] at e; cases e), fun z => by rw [ownN b z] at e; cases e⟩
  have hwrb : ∀ b o, G.B.get? b = some o → b ∉ wr := fun b o e z => (hwr b z).1 o (S2.baseD b o e)
  have loop : ∀ s₃ : Shared, s₃ = { s2 with heap := h₁ } →
      codeC G.M A (.compLoop (.ListComp elt [⟨tgt, iter, [], 0⟩] scope pos) 0 (.ref I) (.ref D0) (compEnvG scope cl C fm.env))
        (R (.ref D0) C) s₃ := by
    rintro s₃ rfl
    refine codeC_compLoop (fun k s' => ∃ i, ∃ zs : List Value, i ≤ xs.length ∧ k = xs.length - i ∧ Gst G s' ∧ (∀ b o, ¬ G.isTab b → b ∉ wr → s2.heap.get? b = some o → s'.heap.get? b = some o) ∧ St' i s'.heap ∧
      s'.heap.PlainList D0 zs.toArray ∧ RelL (fun a => Cln P' ρ a ∧ a ≠ D0 ∧ a ≠ C ∧ a ∉ O) s'.heap (ys.take i) zs ∧ (∃ m, s'.heap.Ns C m) ∧ ∀ a ∈ O, ∃ v, s'.heap.IsCell a v) (fun k s' hI => ?_) xs.length
      ⟨0, [], Nat.zero_le _, rfl, S2.gst.keeps (tk := s2.toks) (fun b o _ e => old b o e) (fun b o _ e => old b o e), fun b o _ _ e => old b o e, (W A hA).frame _ _ _ st0 fun b _ o e => old b o e, hacc₁, .nil, ⟨_, hns₁⟩, own₁⟩
    obtain ⟨i, zs, hi, rfl, g', k', sti, hacc, hzs, ⟨m', hn'⟩, ho'⟩ := hI
    have W' := W A hA
    have hzl : zs.length = i := by rw [hzs.length, List.length_take]; lia
    by_cases hlt' : i < xs.length
    · refine up (W'.item i s' _ _ hlt' sti fun v h' tk hmd hk1 => ?_)
      refine up (W'.go i v _ _ _ hmd fun h₂ st2 hPt hk2 => ?_)
      have kk : ∀ b o, b ∉ wr → s'.heap.get? b = some o → h₂.get? b = some o := fun b o q e => hk2 b o q (hk1 b o q e)
      have hx' : xs[i]? = some xs[i] := List.getElem?_eq_getElem hlt'
      have hy' : ys[i]? = some (ys[i]'(by lia)) := List.getElem?_eq_getElem (by lia)
      generalize hxi : xs[i] = xi at hx'
      generalize hyi : ys[i]'(by lia) = yi at hy'
      have g2 : Gst G { s' with heap := h₂, toks := tk } := g'.keeps (fun b o e1 e => kk b o (hwrb b o e1) e) (fun b o q e => by
        refine kk b o (fun z => q ?_) e
        obtain ⟨o', e', h''⟩ := hob i _ sti b z; rw [e] at e'; cases e'; exact h''.tame)
      have k2 : ∀ b o, ¬ G.isTab b → b ∉ wr → s2.heap.get? b = some o → h₂.get? b = some o := fun b o q1 q2 e => kk b o q2 (k' b o q1 q2 e)
      have hn₂ : h₂.Ns C m' := hn'.at' fun o e => kk _ o hCw e
      have hacc2 : h₂.PlainList D0 zs.toArray := hacc.at fun o e => kk _ _ hDw e
      have ho2 : ∀ a ∈ O, ∃ v, h₂.IsCell a v := fun a ha => by obtain ⟨v, o, e, d⟩ := ho' a ha; exact ⟨v, o, kk _ _ (hOw a ha) e, d⟩
      have hQ2 : ∀ a o, s2.heap.get? a = some o → a ≠ D0 ∧ a ≠ C ∧ a ∉ O := fun a o e => ⟨fun z => (by rw [z, hDn] at e; cases e), fun z => (by rw [z, hCn] at e; cases e), fun z => by rw [ownN a z] at e; cases e⟩
      have hQ3 : ∀ a, h₂.get? a = none → a ≠ D0 ∧ a ≠ C ∧ a ∉ O := fun a e => ⟨fun z => (by obtain ⟨n', e'⟩ := hacc2; rw [z, e'] at e; cases e), fun z => (by obtain ⟨o', es, ep, e', _⟩ := hn₂; rw [z] at e; erw [e'] at e; cases e), fun z => by obtain ⟨v, o, e', _⟩ := ho2 a z; rw [e] at e'; cases e'⟩
      have Si := S2.innerG (s3 := { s' with heap := h₂, toks := tk }) (wr := wr) (scope := scope) (cl := cl) (C := C) (cap := cap) (Qp := fun a => a ≠ D0 ∧ a ≠ C ∧ a ∉ O) g2 hQ2 hQ3 k2 (fun b hb => ⟨hwr' b hb, let ⟨o, e, _⟩ := hob _ _ st2 b hb; ⟨o, e⟩, (hwr b hb).2.2⟩) hCn (by lia) hn₂ hkind hap hcap hno hsee hcov hnd hdis (by rw [hOO]; exact ho2) ownGe ownAp
      rw [hOO] at Si
      obtain ⟨vals, hg, hr⟩ := hval i xi v h₂ hx' hPt
      have hr2 : RelL (Cln (fun a => Cln P' ρ a ∧ a ≠ D0 ∧ a ≠ C ∧ a ∉ O) cap) h₂ xi vals := hr.mono fun a o hP q e => ⟨k2 a o (S2.seqApart e q).2.2 (fun z => (hwr a z).2.2 hP.1) e, ⟨hP, hQ2 a o e⟩, hno a⟩
      refine c_mono (hasg C A _ _ _ _ _ _ _ hA Si hg hr2 (hk xi (List.mem_of_getElem? hx'))) (fun _ s3 S3 => ?_) no
      refine c_mono (h i xi yi hx' hy' C A _ _ _ hA S3) (fun y s4 h4 => ?_) no
      obtain ⟨S4, r4⟩ := h4
      have k4 : ∀ b o, ¬ G.isTab b → b ≠ C → b ∉ O → h₂.get? b = some o → s4.heap.get? b = some o := fun b o q1 q2 q3 e => S4.keep b o ⟨e, q1, q2, q3⟩
      have hacc4 : s4.heap.PlainList D0 zs.toArray := hacc2.at fun o e => k4 _ _ hDt hDC hDo e
      refine up (wpAny_list_append_plain (hsz := by simp; lia) hacc4 fun h5 hl5 hs5 => ?_)
      have k5 : ∀ b o, ¬ G.isTab b → b ≠ C → b ∉ O → b ≠ D0 → h₂.get? b = some o → h5.get? b = some o := fun b o q1 q2 q3 q4 e => (hs5.2 b q4).trans (k4 b o q1 q2 q3 e)
      refine ⟨xs.length - (i + 1), by lia, i + 1, zs ++ [y], hlt', rfl, ?_, ?_, ?_, by simpa using hl5, ?_, ?_, ?_⟩
      · exact S4.gst.keeps (tk := s4.toks) (fun b o e1 e => (hs5.2 b (hCbase b o e1).2.1).trans e) (fun b o q e => (hs5.2 b (fun z => q (by
          subst z; obtain ⟨n', e'⟩ := hacc4; rw [e] at e'; cases e'; exact fun vs e => by cases e))).trans e)
      · exact fun b o q1 q2 e => k5 b o q1 (hQ2 b o e).2.1 (hQ2 b o e).2.2 (hQ2 b o e).1 (k2 b o q1 q2 e)
      · exact W'.frame _ _ _ st2 fun b hb o e => k5 b o (hfp b hb).2.2.2 (fun z => hCf (z ▸ hb)) (fun z => hOf b z hb) (fun z => hDf (z ▸ hb)) e
      · rw [List.take_add_one, hy']
        refine RelL.append ?_ (.cons ?_ .nil)
        · refine hzs.mono fun a o hP q e => ⟨?_, hP⟩
          have hw : a ∉ wr := fun z => (hwr a z).2.2 hP.1.1
          have nt : ¬ G.isTab a := fun z => by
            obtain ⟨t, ht, rfl⟩ := z; obtain ⟨ps, e'⟩ := tabOk_at (g'.tabs t ht); rw [e] at e'; cases e'; obtain ⟨_, _, d⟩ := q; cases d
          exact k5 a o nt hP.2.2.1 hP.2.2.2 hP.2.1 (kk a o hw e)
        · exact r4.mono fun a o hP q e => ⟨(hs5.2 a hP.1.2.1).trans e, hP.1⟩
      · obtain ⟨m4, hn4⟩ := S4.loc
        exact ⟨m4, hn4.sameBut hs5 (Ne.symm hDC)⟩
      · intro a ha
        obtain ⟨v4, hc4⟩ := S4.wcs a (by show a ∈ (ownC C scope).map (·.2); rw [hOO]; exact ha)
        exact ⟨v4, hc4.sameBut hs5 fun z => hDo (z ▸ ha)⟩
    · have hie : i = xs.length := by lia
      subst hie
      refine up (W'.done s' _ _ sti fun h' tk hk => ?_)
      rw [← hlen, List.take_length] at hzs
      have seqNw : ∀ a o, Cln P' ρ a → s'.heap.get? a = some o → h'.get? a = some o := fun a o hP e => hk a o (fun z => (hwr a z).2.2 hP.1) e
      refine hR D0 C _ m' _ ?_ (.list ⟨hPP _ (S2.topCln _ hDn).1, (S2.topCln _ hDn).2⟩ (hacc.at fun o e => hk _ _ hDw e).isList (hzs.mono fun a o hP q e => ⟨seqNw a o hP.1 e, hPP _ hP.1.1, hP.1.2⟩)) (hn'.at' fun o e => hk _ o hCw e)
        (fun z => ?_) (fun z => ?_) (fun o q => ?_) (hPP _ (S2.top _ hCn))
      · refine S2.call3 (s' := { s' with heap := h', toks := tk }) (wr := wr) (g'.keeps (tk := tk) (fun b o e1 e => hk b o (hwrb b o e1) e) fun b o q e => ?_) hPP (fun b o q1 q2 e => hk b o q2 (k' b o q1 q2 e)) fun b hb => ⟨(hwr b hb).1, (hwr b hb).2.1, (hwr b hb).2.2, hwr' b hb⟩
        refine hk b o (fun z => q ?_) e
        obtain ⟨o', e', h''⟩ := hob _ _ sti b z; rw [e] at e'; cases e'; exact h''.tame
      · obtain ⟨m, o, es, ep, e, _⟩ := S2.loc; rw [← z, hCn] at e; cases e
      · obtain ⟨v, o, e, _⟩ := S2.wcs _ z; rw [hCn] at e; cases e
      · rw [S2.keep _ _ q] at hCn; cases hCn
  exact codeC_compStart (loop _ rfl) (up ((W A hA).self 0 _ _ _ ((W A hA).frame _ _ _ st0 fun b _ o e => old b o e) (loop _ rfl)))
end
end Mine
end
section
open PySem PySem.W PySem.Calls PyProof.Rows
set_option Elab.async false
set_option maxRecDepth 100000
set_option linter.unusedVariables false
namespace Mine
section
variable {G : Gb} {D : Addr → Obj → Prop} {P P' : Addr → Prop} {fm : Fm} {ρ : Rho} {s : Shared} {n : Nat} {φ : Post}
theorem dis_of {cap : Rho} {names : List Str} (h : (cap.all fun p => !(names.contains p.1)) = true) : ∀ p ∈ cap, p.1 ∉ names := fun p hp q => by
  have := List.all_eq_true.mp h p hp
  rw [List.contains_iff_mem.mpr q] at this; cases this
theorem cl_apart {scope : Scope} {cl : List (Str × Addr)} {cap : Rho} (hsee : SeesC fm scope cl cap) (hcov : cl.map (·.1) = cap.map (·.1)) (hnd : (cl.map (·.1)).Nodup) (hap : fm.env.cells.Pairwise fun x y => x.2 ≠ y.2) : cl.Pairwise fun x y => x.2 ≠ y.2 := by
  have at_ : ∀ x ∈ cl, fm.env.cells.lookup x.1 = some x.2 := fun x hx => by
    have h1 : x.1 ∈ cap.map (·.1) := by rw [← hcov]; exact List.mem_map.mpr ⟨x, hx, rfl⟩
    obtain ⟨p, hp, e⟩ := List.mem_map.mp h1
    obtain ⟨a, h2, h3, _⟩ := hsee p hp
    have h4 := lookup_of_mem_nodup hnd hx
    rw [← e, h3] at h4
    cases h4
    rw [← e]; exact h2
  refine List.Pairwise.imp_of_mem (fun {a b} ha hb q e => q ?_) (List.pairwise_map.mp hnd)
  exact name_of_addr hap (mem_of_lookup (at_ a ha)) (e ▸ mem_of_lookup (at_ b hb))
theorem Ev.compG {elt iter tgt : Expr} {names : List Str} {nk : Nat} {pos : Pos} {scope : Scope} {cl : List (Str × Addr)} {cap : Rho} {got : GotR} {xs : List (List V)} {ys : List V} (hit : EvSrc G n fm ρ iter tgt got xs) (hclos : closureFor scope fm.env = pure cl)
    (hcap : ∀ p ∈ cap, p ∈ ρ) (hno : ∀ a, ¬ Owned cap a) (hsee : SeesC fm scope cl cap) (hlen : ys.length = xs.length) (hz : xs.length ≤ sizeLine) (hk : ∀ x ∈ xs, x.length = nk) (hasg : ∀ C, Asg G n (compFmG scope cl C fm) tgt got names nk)
    (h : ∀ (i : Nat) x y, xs[i]? = some x → ys[i]? = some y → ∀ C, Ev G n (compFmG scope cl C fm) (putAll cap names x) elt y)
    (hcov : cl.map (·.1) = cap.map (·.1)) (hnd : decide (cl.map (·.1)).Nodup = true) (hdis : (cap.all fun p => !(((cellsFrom 0 scope.names []).map (·.1)).contains p.1)) = true) (hkind : scope.kind = .function) (hnames : (scope.names.all fun x => decide (x.2 = .local → scope.names.lookup x.1 = some .local)) = true)
    (hs : ∀ x, foldedSetIterable iter fm.env x = pure x) : Ev G n fm ρ (.ListComp elt [⟨tgt, iter, [], 0⟩] scope pos) (.list ys) := fun A s D P hA S => by
  rw [eval_ListComp]
  refine c_comprehension (g := ⟨tgt, iter, [], 0⟩) rfl hs hclos hkind (fun y hy => of_decide_eq_true (List.all_eq_true.mp hnames y hy)) (c_mono (hit A s D P hA S) (fun c s1 h1 => c_mono h1 (fun it s2 h2 => ?_) no) no)
  obtain ⟨P', hPP, S2, hsrc⟩ := h2
  refine comp_coreG (R := fun acc C r s' => match r with
          | .ok _ => ∃ m, s'.heap.Ns C m ∧ ∀ h', Heap.SameBut C s'.heap h' → St G D P fm ρ { s' with heap := h' } ∧ Rel (Cln P ρ) h' (.list ys) acc
          | .error _ => False) hA hPP S2 hsrc (cl_apart hsee hcov (of_decide_eq_true hnd) S2.apart) hcap hno hsee hcov (of_decide_eq_true hnd) (dis_of hdis) hlen hz hk hasg h (fun D0 C s' m f S' r hn h1 h2 h3 h4 => ⟨m, hn, fun h' hs' => ⟨S'.aside hs' hn h1 h3 h4, ?_⟩⟩) hkind
  exact r.mono fun a o hP q e => ⟨(hs'.2 a fun z => by
    obtain ⟨o', es, ep, e', d, _⟩ := hn; rw [z, e'] at e; cases e; obtain ⟨_, _, d'⟩ := q; rw [d] at d'; cases d').trans e, hP⟩
theorem Ex.asgCompG {elt iter tgt : Expr} {names : List Str} {nk : Nat} {y : Str} {py pos spos : Pos} {scope : Scope} {cl : List (Str × Addr)} {cap : Rho} {got : GotR} {xs : List (List V)} {ys : List V} (hit : EvSrc G n fm ρ iter tgt got xs) (hclos : closureFor scope fm.env = pure cl)
    (hcap : ∀ p ∈ cap, p ∈ ρ) (hno : ∀ a, ¬ Owned cap a) (hsee : SeesC fm scope cl cap) (hlen : ys.length = xs.length) (hz : xs.length ≤ sizeLine) (hk : ∀ x ∈ xs, x.length = nk) (hasg : ∀ C, Asg G n (compFmG scope cl C fm) tgt got names nk)
    (h : ∀ (i : Nat) x y, xs[i]? = some x → ys[i]? = some y → ∀ C, Ev G n (compFmG scope cl C fm) (putAll cap names x) elt y) (hw : Wrt fm y) (hn : φ.next (put ρ y (.val (.list ys))))
    (hsw : swapsWith (.ListComp elt [⟨tgt, iter, [], 0⟩] scope pos) (some (.Name y py)) spos.line fm.env = pure true)
    (hcov : cl.map (·.1) = cap.map (·.1)) (hnd : decide (cl.map (·.1)).Nodup = true) (hdis : (cap.all fun p => !(((cellsFrom 0 scope.names []).map (·.1)).contains p.1)) = true) (hkind : scope.kind = .function) (hnames : (scope.names.all fun x => decide (x.2 = .local → scope.names.lookup x.1 = some .local)) = true)
    (hs : ∀ x, foldedSetIterable iter fm.env x = pure x) : Ex G n fm ρ (.Assign [.Name y py] (.ListComp elt [⟨tgt, iter, [], 0⟩] scope pos) spos) φ := fun A s D P hA S => by
  rw [exec_Assign_Name_used _ _ _ _ hsw]
  refine c_bind (c_stand (c_bind ?_))
  show wpC _ _ (do let _ ← comprehension _ _ _ _ _ _ _ (some _)) _ _ _
  refine c_bind (c_comprehensionU (g := ⟨tgt, iter, [], 0⟩) rfl hs hclos hkind (fun y hy => of_decide_eq_true (List.all_eq_true.mp hnames y hy)) (c_mono (hit A s D P hA S) (fun c s1 h1 => c_mono h1 (fun it s2 h2 => ?_) no) no))
  obtain ⟨P', hPP, S2, hsrc⟩ := h2
  refine comp_coreG (R := fun acc C r s' => match r with
          | .ok _ => wpC G.M A (assign (.Name y py) fm.env acc) (fun _ s'' => ∃ m, s''.heap.Ns C m ∧ ∀ h', Heap.SameBut C s''.heap h' → wpC G.M A (pure ()) (fun _ s3 => wpC G.M A (pure Flow.next) (POk G D P fm φ) (fun _ _ => False) s3) (fun _ _ => False) { s'' with heap := h' }) (fun _ _ => False) s'
          | .error _ => False) hA hPP S2 hsrc (cl_apart hsee hcov (of_decide_eq_true hnd) S2.apart) hcap hno hsee hcov (of_decide_eq_true hnd) (dis_of hdis) hlen hz hk hasg h (fun D0 C s' m f S' r hn' h1 h2 h3 h4 => ?_) hkind
  let D1 : Addr → Obj → Prop := fun b o => D b o ∨ (b = C ∧ s'.heap.get? C = some o)
  have ntC : ¬ G.isTab C := fun q => by obtain ⟨t, ht, e⟩ := q; obtain ⟨ps, e'⟩ := tabOk_at (S'.gst.tabs t ht); obtain ⟨o, es, ep, e2, d, _⟩ := hn'; rw [← e, e'] at e2; cases e2; cases d
  have noC : ¬ Owned ρ C := fun q => by obtain ⟨o', e', h'⟩ := S'.ownAt q; obtain ⟨o, es, ep, e2, d, _⟩ := hn'; rw [e2] at e'; cases e'; rcases h' with ⟨_, _, d'⟩ | ⟨_, _, d'⟩ <;> (rw [d] at d'; cases d')
  have S1 : St G D1 P fm ρ s' :=
    { S' with
      baseD := fun b o e => .inl (S'.baseD b o e)
      keep := fun b o e => e.elim (S'.keep b o) fun q => q.1 ▸ q.2
      tabD := fun b o e => e.elim (S'.tabD b o) fun q => q.1 ▸ ntC
      locD := fun o e => e.elim (S'.locD o) fun q => h1 q.1.symm
      wcD := fun a ha o e => e.elim (S'.wcD a ha o) fun q => h2 (q.1 ▸ ha)
      ownD := fun a ha o e => e.elim (S'.ownD a ha o) fun q => noC (q.1 ▸ ha) }
  refine c_assign_Name (c_mono (S1.storeV hw r) (fun _ s'' S'' => ?_) no)
  obtain ⟨oC, es, ep, eC, dC, rest⟩ := id hn'
  have hn2 : s''.heap.Ns C m := ⟨oC, es, ep, S''.keep C oC (.inr ⟨rfl, eC⟩), dC, rest⟩
  refine ⟨m, hn2, fun h' hs' => c_pure (c_pure ⟨_, hn, ?_⟩)⟩
  exact (S''.lessD (fun _ _ e => .inl e) S'.baseD).aside hs' hn2 h1 h3 h4

/-- [.. for x in ..] -/
theorem Ev.compN {elt iter : Expr} {x : Str} {px pos : Pos} {scope : Scope} {cl : List (Str × Addr)} {cap : Rho} {xs ys : List V} (hit : EvIt G n fm ρ iter xs) (hclos : closureFor scope fm.env = pure cl)
    (hcap : ∀ p ∈ cap, p ∈ ρ) (hno : (cap.all fun p => p.2.addr?.isNone) = true) (hsee : SeesC fm scope cl cap) (hlen : ys.length = xs.length) (hz : xs.length ≤ sizeLine) (hw : ∀ C, Wrt (compFmG scope cl C fm) x)
    (h : ∀ (i : Nat) v y, xs[i]? = some v → ys[i]? = some y → ∀ C, Ev G n (compFmG scope cl C fm) (put cap x (.val v)) elt y)
    (hcov : cl.map (·.1) = cap.map (·.1) := by rfl) (hnd : decide (cl.map (·.1)).Nodup = true := by rfl) (hdis : (cap.all fun p => !(((cellsFrom 0 scope.names []).map (·.1)).contains p.1)) = true := by rfl) (hkind : scope.kind = .function := by rfl) (hnames : (scope.names.all fun x => decide (x.2 = .local → scope.names.lookup x.1 = some .local)) = true := by rfl)
    (hs : ∀ x, foldedSetIterable iter fm.env x = pure x := by intro _; rfl) : Ev G n fm ρ (.ListComp elt [⟨.Name x px, iter, [], 0⟩] scope pos) (.list ys) :=
  Ev.compG (names := [x]) (nk := 1) hit.src hclos hcap (fun a q => by obtain ⟨p, hp, e⟩ := q; have := List.all_eq_true.mp hno p hp; rw [e] at this; cases this) hsee (by rw [List.length_map]; exact hlen) (by rw [List.length_map]; exact hz) (fun y hy => by obtain ⟨v, _, rfl⟩ := List.mem_map.mp hy; rfl) (fun C => Asg.name (hw C))
    (fun i vs y h1 h2 C => by
      rw [List.getElem?_map] at h1
      cases q : xs[i]? with
      | none => rw [q] at h1; cases h1
      | some v => rw [q] at h1; cases h1; exact h i v y q h2 C) hcov hnd hdis hkind hnames hs
/-- [.. for x, y in ..] -/
theorem Ev.compT {elt iter : Expr} {es : List Expr} {names : List Str} {k : Nat} {tpos pos : Pos} {scope : Scope} {cl : List (Str × Addr)} {cap : Rho} {xs : List (List V)} {ys : List V} (hit : EvItT G n fm ρ iter xs) (hclos : closureFor scope fm.env = pure cl)
    (hcap : ∀ p ∈ cap, p ∈ ρ) (hno : (cap.all fun p => p.2.addr?.isNone) = true) (hsee : SeesC fm scope cl cap) (hlen : ys.length = xs.length) (hz : xs.length ≤ sizeLine) (hk : ∀ x ∈ xs, x.length = names.length) (hx : ∀ C, Nms (compFmG scope cl C fm) es names)
    (h : ∀ (i : Nat) x y, xs[i]? = some x → ys[i]? = some y → ∀ C, Ev G n (compFmG scope cl C fm) (putAll cap names x) elt y)
    (hcov : cl.map (·.1) = cap.map (·.1) := by rfl) (hnd : decide (cl.map (·.1)).Nodup = true := by rfl) (hdis : (cap.all fun p => !(((cellsFrom 0 scope.names []).map (·.1)).contains p.1)) = true := by rfl) (hkind : scope.kind = .function := by rfl) (hnames : (scope.names.all fun x => decide (x.2 = .local → scope.names.lookup x.1 = some .local)) = true := by rfl)
    (hs : ∀ x, foldedSetIterable iter fm.env x = pure x := by intro _; rfl) : Ev G n fm ρ (.ListComp elt [⟨.Tuple es k tpos, iter, [], 0⟩] scope pos) (.list ys) :=
  Ev.compG hit.src hclos hcap (fun a q => by obtain ⟨p, hp, e⟩ := q; have := List.all_eq_true.mp hno p hp; rw [e] at this; cases this) hsee hlen hz hk (fun C => Asg.tuple (hx C)) h hcov hnd hdis hkind hnames hs
/-- y = [.. for x in ..], y no cell -/
theorem Ex.asgCompN {elt iter : Expr} {x y : Str} {px py pos spos : Pos} {scope : Scope} {cl : List (Str × Addr)} {cap : Rho} {xs ys : List V} (hit : EvIt G n fm ρ iter xs) (hclos : closureFor scope fm.env = pure cl)
    (hcap : ∀ p ∈ cap, p ∈ ρ) (hno : (cap.all fun p => p.2.addr?.isNone) = true) (hsee : SeesC fm scope cl cap) (hlen : ys.length = xs.length) (hz : xs.length ≤ sizeLine) (hw1 : ∀ C, Wrt (compFmG scope cl C fm) x)
    (h : ∀ (i : Nat) v y, xs[i]? = some v → ys[i]? = some y → ∀ C, Ev G n (compFmG scope cl C fm) (put cap x (.val v)) elt y) (hw : Wrt fm y) (hn : φ.next (put ρ y (.val (.list ys))))
    (hsw : swapsWith (.ListComp elt [⟨.Name x px, iter, [], 0⟩] scope pos) (some (.Name y py)) spos.line fm.env = pure true := by rfl)
    (hcov : cl.map (·.1) = cap.map (·.1) := by rfl) (hnd : decide (cl.map (·.1)).Nodup = true := by rfl) (hdis : (cap.all fun p => !(((cellsFrom 0 scope.names []).map (·.1)).contains p.1)) = true := by rfl) (hkind : scope.kind = .function := by rfl) (hnames : (scope.names.all fun x => decide (x.2 = .local → scope.names.lookup x.1 = some .local)) = true := by rfl)
    (hs : ∀ x, foldedSetIterable iter fm.env x = pure x := by intro _; rfl) : Ex G n fm ρ (.Assign [.Name y py] (.ListComp elt [⟨.Name x px, iter, [], 0⟩] scope pos) spos) φ :=
  Ex.asgCompG (names := [x]) (nk := 1) hit.src hclos hcap (fun a q => by obtain ⟨p, hp, e⟩ := q; have := List.all_eq_true.mp hno p hp; rw [e] at this; cases this) hsee (by rw [List.length_map]; exact hlen) (by rw [List.length_map]; exact hz) (fun y hy => by obtain ⟨v, _, rfl⟩ := List.mem_map.mp hy; rfl) (fun C => Asg.name (hw1 C))
    (fun i vs y h1 h2 C => by
      rw [List.getElem?_map] at h1
      cases q : xs[i]? with
      | none => rw [q] at h1; cases h1
      | some v => rw [q] at h1; cases h1; exact h i v y q h2 C) hw hn hsw hcov hnd hdis hkind hnames hs
end
end Mine
end
section
open PySem PySem.W PySem.Calls PyProof.Rows
set_option Elab.async false
set_option maxRecDepth 100000
set_option linter.unusedVariables false
namespace Mine
section
variable {G : Gb} {D : Addr → Obj → Prop} {P P' : Addr → Prop} {fm : Fm} {ρ : Rho} {s : Shared} {n : Nat} {φ : Post}
theorem RelL.tuples {P : Addr → Prop} {h : Heap} : ∀ {xs : List (List V)} {cs : List Value}, RelL P h (xs.map V.tuple) cs → ∀ j, j < cs.length → ∃ T vals, cs[j]? = some (.ref T) ∧ P T ∧ h.IsTuple T vals ∧ ∀ x, xs[j]? = some x → RelL P h x vals.toList
  | [], _, r, j, hj => by cases r; cases hj
  | x :: xs, _, .cons (c := c) r1 r2, j, hj => by
    cases j with
    | zero =>
      cases r1 with
      | @tuple a _ vs hP ht hr => exact ⟨a, vs.toArray, rfl, hP, ht, fun y hy => by simp at hy; subst hy; simpa using hr⟩
    | succ j =>
      obtain ⟨T, vals, h1, h2, h3, h4⟩ := RelL.tuples r2 j (by simpa using hj)
      exact ⟨T, vals, by simpa using h1, h2, h3, fun y hy => h4 y (by simpa using hy)⟩
/-- the tuples of a list -/
theorem EvItT.list {e : Expr} {xs : List (List V)} (h : Ev G n fm ρ e (.list (xs.map V.tuple))) : EvItT G n fm ρ e xs := fun A s D P hA S =>
  c_mono (h A s D P hA S) (fun c s1 x => by
    obtain ⟨S1, r⟩ := x
    cases r with
    | @list a _ vs hP hl hr =>
      refine up (wpAny_pyIter_list hl ?_)
      have hI := size_none s1.heap
      have hne : a ≠ s1.heap.objs.size := fun q => by obtain ⟨o, e, _⟩ := hl; rw [q, hI] at e; cases e
      have hlen : vs.length = xs.length := by have := hr.length; rw [List.length_map] at this; exact this
      have htu := hr.tuples
      obtain ⟨F, hF⟩ := Classical.axiomOfChoice (r := fun (j : Nat) (tv : Addr × Array Value) => j < vs.length → vs[j]? = some (.ref tv.1) ∧ Cln P ρ tv.1 ∧ s1.heap.IsTuple tv.1 tv.2 ∧ ∀ x, xs[j]? = some x → RelL (Cln P ρ) s1.heap x tv.2.toList) (fun j => by
        by_cases q : j < vs.length
        · obtain ⟨T, vals, h1⟩ := htu j q; exact ⟨(T, vals), fun _ => h1⟩
        · exact ⟨(0, #[]), fun z => absurd z q⟩)
      have hTo : ∀ j, j < vs.length → ∃ o, s1.heap.get? (F j).1 = some o ∧ SeqObj o := fun j hj => by
        obtain ⟨o, e, _, k, q⟩ := (hF j hj).2.2.1; exact ⟨o, e, _, k, q⟩
      have hTI : ∀ j, j < vs.length → (F j).1 ≠ s1.heap.objs.size := fun j hj q => by obtain ⟨o, e, _⟩ := hTo j hj; rw [q, hI] at e; cases e
      have hsz : vs.toArray.size = vs.length := by simp
      have hwrE : ∀ b ∈ [s1.heap.objs.size], s1.heap.get? b = none ∧ ∃ o, (s1.heap.push { cls := .type "list_iterator", data := .fields #[.ref a, .int 0 0] }).get? b = some o := fun b hb => by
        rw [List.mem_singleton.mp hb]; exact ⟨hI, _, Heap.get?_push_size _ rfl⟩
      have W := fun A' (hA' : AOk n A') => WalksU.listOfTuples (prog := G.prog) (w := G.w) hA'.handled s1.heap.objs.size a hne vs.toArray (fun j => (F j).1) (fun j => (F j).2) (fun j hj => by have := (hF j (by lia)).1; simpa using this) (fun j hj => hTI j (by lia))
      rw [show vs.toArray.size = xs.length by lia] at W
      refine ⟨fun c => P c ∧ c ∉ [s1.heap.objs.size], fun c q => q.1, S1.growP (tk := s1.toks) (fun b o e => Heap.get?_push_of_some _ e) hwrE, s1.heap.objs.size, s1.heap.objs.size :: a :: (List.range xs.length).map (fun j => (F j).1), [s1.heap.objs.size], fun j v => v = (F j).2, _, _, rfl, W, ?_, ?_, ?_, ?_, ?_, ?_, ?_⟩
      · exact ⟨⟨_, Heap.get?_push_size _ rfl, rfl, rfl⟩, hl.push _, fun k hk => (hF k (by lia)).2.2.1.push _⟩
      · intro b hb
        rcases List.mem_cons.mp hb with rfl | hb
        · exact S1.freshApart hI
        · rcases List.mem_cons.mp hb with rfl | hb
          · obtain ⟨o, e, q⟩ := isList_seq hl
            exact ⟨(S1.seqApart e q).1, (S1.seqApart e q).2.1, hP.2, (S1.seqApart e q).2.2⟩
          · obtain ⟨j, hj, rfl⟩ := List.mem_map.mp hb
            have hj := List.mem_range.mp hj
            obtain ⟨o, e, q⟩ := hTo j (by lia)
            exact ⟨(S1.seqApart e q).1, (S1.seqApart e q).2.1, (hF j (by lia)).2.1.2, (S1.seqApart e q).2.2⟩
      · intro b hb
        rw [List.mem_singleton.mp hb]
        exact ⟨S1.freshD hI, S1.top _ hI, fun q => q.2 (List.mem_singleton.mpr rfl)⟩
      · intro i h st b hb
        rw [List.mem_singleton.mp hb]
        obtain ⟨o, e, hc, hd⟩ := st.1
        exact ⟨o, e, .inl ⟨fun vs' e' => ⟨by rw [hc]; nofun, fun q t => by rw [hd] at e'; cases e'; simp⟩, _, hd⟩⟩
      · intro i T h st b hb
        rw [List.mem_singleton.mp hb]
        obtain ⟨o, e, hc, hd⟩ := st.2.1
        exact ⟨o, e, .inl ⟨fun vs' e' => ⟨by rw [hc]; nofun, fun q t => by rw [hd] at e'; cases e'; simp⟩, _, hd⟩⟩
      · intro i x vals hx hv h hk
        have hi : i < vs.length := by rw [hlen]; exact (List.getElem?_eq_some_iff.mp hx).1
        rw [show vals = (F i).2 from hv]
        refine ((hF i hi).2.2.2 x hx).mono fun b o hP' q e => ?_
        have hb : b ∉ [s1.heap.objs.size] := fun z => by rw [List.mem_singleton.mp z, hI] at e; cases e
        exact ⟨hk b o ⟨⟨hP'.1, hb⟩, hP'.2⟩ q (Heap.get?_push_of_some _ e), ⟨hP'.1, hb⟩, hP'.2⟩
      · intro b hb
        show b < (s1.heap.push _).objs.size
        rw [Heap.size_push]
        rcases List.mem_cons.mp hb with rfl | hb
        · exact Nat.lt_succ_self _
        · rcases List.mem_cons.mp hb with rfl | hb
          · obtain ⟨o, e, _⟩ := hl; exact Nat.lt_succ_of_lt (Heap.lt_size e)
          · obtain ⟨j, hj, rfl⟩ := List.mem_map.mp hb
            obtain ⟨o, e, _⟩ := hTo j (by have := List.mem_range.mp hj; lia)
            exact Nat.lt_succ_of_lt (Heap.lt_size e)) no
end
end Mine
end
section
open PySem PySem.W PySem.Calls PyProof.Rows
set_option Elab.async false
set_option maxRecDepth 100000
set_option linter.unusedVariables false
namespace Mine
/-! ### [e for x in .. for y in .. if t] -/
section
variable {prog : Program} {w : World} {A : Around} {E : Value → Shared → Prop} {R : Result → Shared → Prop} {s : Shared} {env : Env}
theorem turn_outer (elt t0 i0 t1 i1 c : Expr) (scope : Scope) (pos : Pos) (it acc : Value) (env : Env) :
    compTurn (.ListComp elt [⟨t0, i0, [], 0⟩, ⟨t1, i1, [c], 0⟩] scope pos) 0 it acc env = (standAt i0.pos >>= fun _ => pyNext it >>= fun r => match r with
      | none => pure (.done .next)
      | some v => letOwnedTupleGo t0 it v >>= fun _ => assign t0 env v >>= fun _ =>
        (eval i1 env >>= fun x => standAt i1.pos >>= fun _ => foldedSetIterable i1 env x >>= fun x => holding [x] (pyIter x) >>= fun it' =>
          runOwn (.compStart (.ListComp elt [⟨t0, i0, [], 0⟩, ⟨t1, i1, [c], 0⟩] scope pos) 1 it' acc env) env >>= fun _ => again (.compLoop (.ListComp elt [⟨t0, i0, [], 0⟩, ⟨t1, i1, [c], 0⟩] scope pos) 0 it acc env))) := by rfl
theorem turn_inner (elt t0 i0 t1 i1 c : Expr) (scope : Scope) (pos : Pos) (it acc : Value) (env : Env) :
    compTurn (.ListComp elt [⟨t0, i0, [], 0⟩, ⟨t1, i1, [c], 0⟩] scope pos) 1 it acc env = (do
      standAt i1.pos
      match ← pyNext it with
      | none => pure (.done .next)
      | some v =>
        letOwnedTupleGo t1 it v
        assign t1 env v
        let mut ok := true
        for c in [c] do
          if ok then ok ← isTrue c env (eval c env)
        if ok then
          (do let _ ← call (.builtin "list.append") [acc, ← eval elt env])
        again (.compLoop (.ListComp elt [⟨t0, i0, [], 0⟩, ⟨t1, i1, [c], 0⟩] scope pos) 1 it acc env)) := by rfl
theorem codeC_compInner {elt t0 i0 t1 i1 c : Expr} {scope : Scope} {pos : Pos} {it acc : Value} (I : Nat → Shared → Prop)
    (turn : ∀ n s, I n s → wpC (model prog w) A (pyNext it) (fun r s₁ => match r with
      | none => R (.ok .next) s₁
      | some v => wpC (model prog w) A (letOwnedTupleGo t1 it v) (fun _ s₁' => wpC (model prog w) A (assign t1 env v) (fun _ s₂ =>
          wpC (model prog w) A (isTrue c env (eval c env)) (fun b s₃ => if b = true then wpC (model prog w) A (eval elt env) (fun x s₄ =>
              wpC (model prog w) A (PySem.call (.builtin "list.append") [acc, x]) (fun _ s₅ => ∃ m, m < n ∧ I m s₅) (fun _ _ => False) s₄) (fun _ _ => False) s₃ else ∃ m, m < n ∧ I m s₃) (fun _ _ => False) s₂)
          (fun _ _ => False) s₁') (fun _ _ => False) s₁) (fun _ _ => False) s)
    (n : Nat) (h : I n s) : codeC (model prog w) A (.compLoop (.ListComp elt [⟨t0, i0, [], 0⟩, ⟨t1, i1, [c], 0⟩] scope pos) 1 it acc env) R s := by
  refine codeC_loop rfl rfl I (fun n s hI => ?_) n h
  show wpC _ A ((compTurn (.ListComp elt [⟨t0, i0, [], 0⟩, ⟨t1, i1, [c], 0⟩] scope pos) 1 it acc env).onRaise (fun x => do noteFrame x env; theTreesLotGoes x)) _ _ s
  refine c_onRaise ?_
  rw [turn_inner]
  refine c_bind (c_stand (c_bind (c_mono (turn n s hI) (fun r s₁ h₁ => ?_) fun _ _ h' => h')))
  cases r with
  | none => exact c_pure h₁
  | some v =>
    refine c_bind (c_mono h₁ (fun _ s₁' h₁' => ?_) fun _ _ h' => h')
    refine c_bind (c_mono h₁' (fun _ s₂ h₂ => ?_) fun _ _ h' => h')
    dsimp only
    rw [List.forIn_cons]
    refine c_bind (c_bind ?_)
    rw [if_pos rfl]
    refine c_bind (c_mono h₂ (fun b s₃ h₃ => ?_) fun _ _ h' => h')
    refine c_pure ?_
    dsimp only
    rw [List.forIn_nil]
    refine c_pure ?_
    cases b with
    | true =>
      rw [if_pos rfl] at h₃ ⊢
      exact c_bind (c_bind (c_mono h₃ (fun x s₄ h₄ => c_bind (c_mono h₄ (fun _ s₅ h₅ => c_pure (c_pure (.inl ⟨rfl, h₅⟩))) fun _ _ h' => h')) fun _ _ h' => h'))
    | false =>
      rw [if_neg (by decide)] at h₃ ⊢
      exact c_bind (c_pure (c_pure (.inl ⟨rfl, h₃⟩)))
theorem codeC_compOuter {elt t0 i0 t1 i1 c : Expr} {scope : Scope} {pos : Pos} {it acc : Value} (hs : ∀ x, foldedSetIterable i1 env x = pure x) (I : Nat → Shared → Prop)
    (turn : ∀ n s, I n s → wpC (model prog w) A (pyNext it) (fun r s₁ => match r with
      | none => R (.ok .next) s₁
      | some v => wpC (model prog w) A (letOwnedTupleGo t0 it v) (fun _ s₁' => wpC (model prog w) A (assign t0 env v) (fun _ s₂ =>
          wpC (model prog w) A (eval i1 env) (fun x s₃ => wpC (model prog w) A (pyIter x) (fun it' s₄ =>
            codeC (model prog w) A (.compStart (.ListComp elt [⟨t0, i0, [], 0⟩, ⟨t1, i1, [c], 0⟩] scope pos) 1 it' acc env) (fun r s₅ => match r with | .ok _ => ∃ m, m < n ∧ I m s₅ | .error _ => False) s₄) (fun _ _ => False) s₃) (fun _ _ => False) s₂)
          (fun _ _ => False) s₁') (fun _ _ => False) s₁) (fun _ _ => False) s)
    (n : Nat) (h : I n s) : codeC (model prog w) A (.compLoop (.ListComp elt [⟨t0, i0, [], 0⟩, ⟨t1, i1, [c], 0⟩] scope pos) 0 it acc env) R s := by
  refine codeC_loop rfl rfl I (fun n s hI => ?_) n h
  show wpC _ A ((compTurn (.ListComp elt [⟨t0, i0, [], 0⟩, ⟨t1, i1, [c], 0⟩] scope pos) 0 it acc env).onRaise (fun x => do noteFrame x env; theTreesLotGoes x)) _ _ s
  refine c_onRaise ?_
  rw [turn_outer]
  refine c_bind (c_stand (c_bind (c_mono (turn n s hI) (fun r s₁ h₁ => ?_) fun _ _ h' => h')))
  cases r with
  | none => exact c_pure h₁
  | some v =>
    refine c_bind (c_mono h₁ (fun _ s₁' h₁' => ?_) fun _ _ h' => h')
    refine c_bind (c_mono h₁' (fun _ s₂ h₂ => ?_) fun _ _ h' => h')
    refine c_bind (c_mono h₂ (fun x s₃ h₃ => c_bind (c_stand ?_)) fun _ _ h' => h')
    rw [hs]
    refine c_bind (c_pure (c_bind (c_holding (c_mono h₃ (fun it' s₄ h₄ => ?_) fun _ _ h' => h'))))
    refine c_bind (c_runOwn rfl ?_)
    refine fun Γ p hc hΓ ok => wpCode_mono (fun r s' hr => ?_) (h₄ Γ p hc hΓ ok)
    cases r with
    | ok f => exact c_pure (.inl ⟨rfl, hr⟩)
    | error e => exact hr.elim
theorem codeC_compStart1 {elt t0 i0 t1 i1 c : Expr} {scope : Scope} {pos : Pos} {it acc : Value}
    (h0 : codeC (model prog w) A (.compLoop (.ListComp elt [⟨t0, i0, [], 0⟩, ⟨t1, i1, [c], 0⟩] scope pos) 1 it acc env) R s)
    (h : wpC (model prog w) A (pyIter it) (fun it' s' => codeC (model prog w) A (.compLoop (.ListComp elt [⟨t0, i0, [], 0⟩, ⟨t1, i1, [c], 0⟩] scope pos) 1 it' acc env) R s') (fun _ _ => False) s) :
    codeC (model prog w) A (.compStart (.ListComp elt [⟨t0, i0, [], 0⟩, ⟨t1, i1, [c], 0⟩] scope pos) 1 it acc env) R s := by
  refine codeC_of_tree ?_
  show wpC _ A ((compStart (.ListComp elt [⟨t0, i0, [], 0⟩, ⟨t1, i1, [c], 0⟩] scope pos) 1 it acc env).onRaise (fun x => do noteFrame x env; standAt theWindowsPlace)) _ _ s
  refine c_onRaise ?_
  unfold compStart
  show wpC _ _ (ask >>= _) _ _ s
  refine c_bind (up (wpAny_askSetting ?_))
  split
  · first
      | exact c_bind (c_pure (c_pure (And.intro rfl (And.intro rfl h0))))
      | exact c_pure (And.intro rfl (And.intro rfl h0))
  · first
      | exact c_bind (up (wpAny_rule (c_bind (c_stand (c_bind (c_mono h (fun it' s' h' => c_pure (And.intro rfl (And.intro rfl h'))) fun _ _ x => x.elim))))))
      | (refine c_bind (up (wpAny_rule ?_)); show wpC _ _ (standAt i1.pos >>= _) _ _ s; exact c_bind (c_stand (c_bind (c_mono h (fun it' s' h' => c_pure (And.intro rfl (And.intro rfl h'))) fun _ _ x => x.elim))))
end
end Mine
end
section
open PySem PySem.W PySem.Calls PyProof.Rows
set_option Elab.async false
set_option maxRecDepth 100000
set_option linter.unusedVariables false
namespace Mine
section
variable {G : Gb} {D : Addr → Obj → Prop} {P P' : Addr → Prop} {fm : Fm} {ρ : Rho} {s : Shared} {n : Nat} {φ : Post}
/-- an iterator of ints at hand, made just now -/
noncomputable def IterAtF (G : Gb) (n : Nat) (D : Addr → Obj → Prop) (P : Addr → Prop) (fm : Fm) (ρ : Rho) (xs : List Int) (it : Value) (s : Shared) : Prop :=
  ∃ I Pv St', it = .ref I ∧ (∀ A, AOk n A → Walks G.prog G.w A I [I] [I] xs.length Pv St') ∧ St' 0 s.heap ∧ (I ≠ fm.env.locals ∧ I ∉ fm.wc ∧ ¬ Owned ρ I ∧ ¬ G.isTab I) ∧ ((∀ o, ¬ D I o) ∧ P I) ∧ (∀ i h, St' i h → ∃ o, h.get? I = some o ∧ IterObj o) ∧
    (∀ (i : Nat) v x, xs[i]? = some x → Pv i v → ∃ t, v = .int x t)
noncomputable def OpItF (G : Gb) (n : Nat) (f : List Value → Sem Value) (vs : List V) (xs : List Int) : Prop :=
  ∀ A s D P fm ρ cs, AOk n A → St G D P fm ρ s → RelL (Cln P ρ) s.heap vs cs →
    wpC G.M A (f cs) (fun x s1 => wpC G.M A (pyIter x) (fun it s2 => St G D P fm ρ s2 ∧ IterAtF G n D P fm ρ xs it s2) (fun _ _ => False) s1) (fun _ _ => False) s
noncomputable def EvItF (G : Gb) (n : Nat) (fm : Fm) (ρ : Rho) (e : Expr) (xs : List Int) : Prop :=
  ∀ A s D P, AOk n A → St G D P fm ρ s → wpC G.M A (eval e fm.env) (fun x s1 => wpC G.M A (pyIter x) (fun it s2 => St G D P fm ρ s2 ∧ IterAtF G n D P fm ρ xs it s2) (fun _ _ => False) s1) (fun _ _ => False) s
theorem EvItF.callB {x : Str} {npos pos : Pos} {es : List Expr} {f : Value} {vs : List V} {xs : List Int} (hG : GbOk G) (hm : G.mg x = none) (hb : bootBuiltins x = some f) (hf : Callee G f) (hs : EvL G n fm ρ es vs) (h : OpItF G n (fun cs => PySem.call f cs) vs xs)
    (hn : x ≠ "__name__" := by decide) (hx : fm.env.kindOf x = some .globalImplicit := by rfl) (hd : (x == ("__debug__" : Str)) = false := by decide)
    (hplain : (backTo pos (starEach es fm.env)).any (·.1) = false := by rfl) (hne : es ≠ [] := by simp)
    (he : eval (.Call (.Name x npos) es [] pos) fm.env = (do callWith pos (← eval (.Name x npos) fm.env) [] (backTo pos (starEach es fm.env)) (backToKw pos (keywordEach [] fm.env))) := by rfl) :
    EvItF G n fm ρ (.Call (.Name x npos) es [] pos) xs := fun A s D P hA S =>
  c_Call (up (Name_function_global S.kind hx (loadGlobal_builtin (S.glob ▸ hG.g.keeps S.gst.base) hm (S.blt ▸ hG.b.keeps S.gst.base) ((hG.builtins x hn).trans hb) (callWith_q hf hA S hs (fun cs s1 S1 r => h A s1 D P fm ρ cs hA S1 r) hplain hne)) hd)) he
theorem iter_rangeF {A : Around} {r : Addr} {a b c : Int} {t u v : Tok} (S : St G D P fm ρ s) (hr : IsRange s.heap r a b c t u v) (hsm : Builtin.Range.small a b c = true) (hk : 0 ≤ Builtin.Range.rangeSize a b c) :
    wpC G.M A (pyIter (.ref r)) (fun it s2 => St G D P fm ρ s2 ∧ IterAtF G n D P fm ρ (rangeV a c (Builtin.Range.rangeSize a b c).toNat) it s2) (fun _ _ => False) s := by
  refine up (wpAny_pyIter_range hr hsm ?_)
  have hI := size_none s.heap
  refine ⟨S.push (tk := s.toks) _, s.heap.objs.size, fun i v => ∃ t, v = .int (a + i * c) t, fun i h => IsRangeIter h s.heap.objs.size (a + (i : Nat) * c) (((Builtin.Range.rangeSize a b c).toNat : Int) - (i : Nat)) c, rfl, fun A' hA' => ?_, ?_, S.freshApart hI, ⟨S.freshD hI, S.top _ hI⟩, ?_, ?_⟩
  · have := Walks.range (prog := G.prog) (w := G.w) hA'.handled s.heap.objs.size a c (Builtin.Range.rangeSize a b c).toNat
    rw [show (rangeV a c (Builtin.Range.rangeSize a b c).toNat).length = (Builtin.Range.rangeSize a b c).toNat by simp [rangeV]]
    exact this
  · have : (((Builtin.Range.rangeSize a b c).toNat : Nat) : Int) = Builtin.Range.rangeSize a b c := Int.toNat_of_nonneg hk
    show (s.heap.push _).get? _ = _
    rw [Heap.get?_push_size _ rfl]
    simp [this]
  · intro i h st
    exact ⟨_, st, fun vs' e' => ⟨nofun, fun q t => by cases e'; simp [rawInt]⟩, _, rfl⟩
  · rintro i v x hx ⟨t, rfl⟩
    rw [rangeV, List.getElem?_map] at hx
    cases hq : (List.range (Builtin.Range.rangeSize a b c).toNat)[i]? with
    | none => rw [hq] at hx; cases hx
    | some j =>
      obtain ⟨h1, h2⟩ := List.getElem?_eq_some_iff.mp hq
      rw [List.getElem_range] at h2
      rw [hq] at hx; cases hx; subst h2
      exact ⟨t, rfl⟩
theorem OpItF.range1 {b : Int} (hb : -(2 ^ 40) ≤ b ∧ b ≤ 2 ^ 40) : OpItF G n (fun cs => PySem.call (.type "range") cs) [.int b] (rangeV 0 1 b.toNat) := fun A s D P fm ρ cs hA S r => by
  obtain ⟨c90, rfl, r90⟩ := RelL.one r
  obtain ⟨t, rfl⟩ := Rel.intAt r90
  refine up (call_range_1 ?_)
  have hs := small_pos (a := 0) (b := b) (c := 1) (by lia) (by lia) hb (by lia)
  have := iter_rangeF (n := n) (A := A) (S.push (tk := s.toks + 1 + 1) _) (IsRange.new s.heap 0 b 1 s.toks t (s.toks + 1)) hs.1 hs.2
  have e : (Builtin.Range.rangeSize 0 b 1).toNat = b.toNat := by rw [rangeSize_one]; split <;> lia
  rw [e] at this
  exact this
/-! what the two loops give -/
noncomputable def res2 (pick : Nat → Nat → Bool) (out : Nat → Nat → Int) (i : Nat) : Nat → List Int
  | 0 => []
  | j + 1 => res2 pick out i j ++ (if pick i j then [out i j] else [])
noncomputable def tot2 (pick : Nat → Nat → Bool) (out : Nat → Nat → Int) (cnt : Nat → Nat) : Nat → List Int
  | 0 => []
  | i + 1 => tot2 pick out cnt i ++ res2 pick out i (cnt i)
theorem int_snoc {zs : List Value} {ls : List Int} {e : Int} {t : Tok} (h : ∀ P h, RelL P h (vi ls) zs) : ∀ P h, RelL P h (vi (ls ++ [e])) (zs ++ [.int e t]) := fun P hp => by
  rw [show vi (ls ++ [e]) = vi ls ++ [.int e] from List.map_append ..]
  exact RelL.append (h P hp) (.cons (.int e t) .nil)
theorem comp2_core {A : Around} {s2 : Shared} {it : Value} {E : Value → Shared → Prop} {elt i0 i1 c : Expr} {x y : Str} {px py pos : Pos} {scope : Scope} {cl : List (Str × Addr)} {cap : Rho} {xs : List Int} {xs2 : Nat → List Int} {pick : Nat → Nat → Bool} {out : Nat → Nat → Int} {R : Value → Addr → Result → Shared → Prop} (hA : AOk n A)
    (h2 : St G D P fm ρ s2 ∧ IterAtF G n D P fm ρ xs it s2)
    (hap : cl.Pairwise fun x y => x.2 ≠ y.2) (hcap : ∀ p ∈ cap, p ∈ ρ) (hno : ∀ a, ¬ Owned cap a) (hsee : SeesC fm scope cl cap) (hxy : y ≠ x)
    (hz : ∀ i j, i < xs.length → j ≤ (xs2 i).length → (tot2 pick out (fun i => (xs2 i).length) i ++ res2 pick out i j).length ≤ sizeLine)
    (hit : ∀ (i : Nat) a, xs[i]? = some a → ∀ C, EvItF G n (compFm scope cl C fm) ((x, .val (.int a)) :: cap) i1 (xs2 i))
    (ht : ∀ (i j : Nat) a b, xs[i]? = some a → (xs2 i)[j]? = some b → ∀ C, Tst G n (compFm scope cl C fm) ((y, .val (.int b)) :: (x, .val (.int a)) :: cap) c (pick i j))
    (h : ∀ (i j : Nat) a b, xs[i]? = some a → (xs2 i)[j]? = some b → pick i j = true → ∀ C, Ev G n (compFm scope cl C fm) ((y, .val (.int b)) :: (x, .val (.int a)) :: cap) elt (.int (out i j)))
    (hR : ∀ D0 C s' m f, St G D P fm ρ s' → Rel (Cln P ρ) s'.heap (.list (vi (tot2 pick out (fun i => (xs2 i).length) xs.length))) (.ref D0) → s'.heap.Ns C m → C ≠ fm.env.locals → C ∉ fm.wc → (∀ o, ¬ D C o) → P C → R (.ref D0) C (.ok f) s')
    (hcell : (scope.names.all fun x => decide (x.2 ≠ .cell)) = true) (hkind : scope.kind = .function) (hx : scope.names.lookup x = some .local) (hy : scope.names.lookup y = some .local) (hs1 : ∀ C v, foldedSetIterable i1 (compFm scope cl C fm).env v = pure v) :
    wpC G.M A (newList []) (fun acc s₃ => wpC G.M A (newFunctionEnv scope fm.env.globals cl [] fm.env.qual none .none (some fm.env)) (fun cenv s₄ =>
      codeC G.M A (.compStart (.ListComp elt [⟨.Name x px, i0, [], 0⟩, ⟨.Name y py, i1, [c], 0⟩] scope pos) 0 it acc { cenv with scope := relabel scope fm.env }) (R acc cenv.locals) s₄) E s₃) E s2 := by
  obtain ⟨S2, I, Pv, St', rfl, W, st0, hfp, hwr, hob, hval⟩ := h2
  have hob0 := hob 0 _ st0
  have seqNw : ∀ b o, ¬ IterObj o → s2.heap.get? b = some o → b ≠ I := fun b o q e z => by
    obtain ⟨o', e', h'⟩ := hob0; rw [z, e'] at e; cases e; exact q h'
  refine up (wpAny_newObj_type (up (wpAny_newFunctionEnv (fun y hy => by simpa using List.all_eq_true.mp hcell y hy) (by intro y hy; simp at hy) (fun h₁ hns₁ hsb₁ => ?_) hkind)))
  dsimp only at hns₁ hsb₁ ⊢
  generalize hH2 : s2.heap.push { cls := .type "list", dict := none, data := .seq ([] : List Value).toArray } = H2 at hns₁ hsb₁ ⊢
  have hCs : H2.objs.size = s2.heap.objs.size + 1 := by rw [← hH2, Heap.size_push]
  generalize hCC : H2.objs.size = C at hns₁ hsb₁ hCs ⊢
  generalize hDD : s2.heap.objs.size = D0 at hCs ⊢
  have hDC : D0 ≠ C := by lia
  have hDn : s2.heap.get? D0 = none := Heap.get?_none_of_le (by lia)
  have hCn : s2.heap.get? C = none := Heap.get?_none_of_le (by lia)
  have old : ∀ b o, s2.heap.get? b = some o → h₁.get? b = some o := fun b o e => hsb₁.extBut b o (fun z => by rw [z, hCn] at e; cases e) (Heap.get?_push_of_some _ (hH2 ▸ Heap.get?_push_of_some _ e))
  have hacc₁ : h₁.PlainList D0 #[] := ⟨_, hsb₁.extBut _ _ hDC (Heap.get?_push_of_some _ (by rw [← hH2, ← hDD]; exact Heap.get?_push_size _ rfl))⟩
  have hDI : D0 ≠ I := fun z => by obtain ⟨o, e, _⟩ := hob0; rw [← z, hDn] at e; cases e
  have hCI : C ≠ I := fun z => by obtain ⟨o, e, _⟩ := hob0; rw [← z, hCn] at e; cases e
  have tabOld : ∀ b, G.isTab b → ∃ o, s2.heap.get? b = some o := fun b ⟨t, ht, e⟩ => by
    obtain ⟨ps, e'⟩ := tabOk_at (S2.gst.tabs t ht); exact ⟨_, e ▸ e'⟩
  have hDt : ¬ G.isTab D0 := fun q => by obtain ⟨o, e⟩ := tabOld _ q; rw [hDn] at e; cases e
  have hbase : ∀ b o, G.B.get? b = some o → b ≠ C ∧ b ≠ D0 ∧ b ≠ I := fun b o e => by
    have e2 := S2.gst.base _ _ e
    exact ⟨fun z => (by rw [z, hCn] at e2; cases e2), fun z => (by rw [z, hDn] at e2; cases e2), fun z => hwr.1 o (z ▸ S2.baseD b o e)⟩
  have hQ2 : ∀ a o, s2.heap.get? a = some o → a ≠ D0 ∧ a ≠ C := fun a o e => ⟨fun z => (by rw [z, hDn] at e; cases e), fun z => (by rw [z, hCn] at e; cases e)⟩
  have loop : ∀ s₃ : Shared, s₃ = { s2 with heap := h₁, toks := s2.toks + ([] : List (Str × Value)).length } →
      codeC G.M A (.compLoop (.ListComp elt [⟨.Name x px, i0, [], 0⟩, ⟨.Name y py, i1, [c], 0⟩] scope pos) 0 (.ref I) (.ref D0) (compEnvC scope cl C fm.env)) (R (.ref D0) C) s₃ := by
    rintro s₃ rfl
    refine codeC_compOuter (hs1 C) (fun k s' => ∃ i, ∃ zs : List Value, i ≤ xs.length ∧ k = xs.length - i ∧ Gst G s' ∧ (∀ b o, ¬ G.isTab b → b ≠ I → s2.heap.get? b = some o → s'.heap.get? b = some o) ∧ St' i s'.heap ∧
      s'.heap.PlainList D0 zs.toArray ∧ (∀ P h, RelL P h (vi (tot2 pick out (fun i => (xs2 i).length) i)) zs) ∧ ∃ m, s'.heap.Ns C m) (fun k s' hI => ?_) xs.length
      ⟨0, [], Nat.zero_le _, rfl, S2.gst.keeps (fun b o _ e => old b o e) (fun b o _ e => old b o e), fun b o _ _ e => old b o e, (W A hA).frame _ _ _ st0 fun b _ o e => old b o e, hacc₁, fun _ _ => .nil, _, hns₁⟩
    obtain ⟨i, zs, hi, rfl, g', k', sti, hacc, hzs, m', hn'⟩ := hI
    have W' := W A hA
    by_cases hlt' : i < xs.length
    · refine up (W'.item i s' _ _ hlt' sti fun v h' tk hPv st' hk => ?_)
      have hk : ∀ b o, b ≠ I → s'.heap.get? b = some o → h'.get? b = some o := fun b o q e => hk b o (fun z => q (List.mem_singleton.mp z)) e
      obtain ⟨a, hxa⟩ : ∃ a, xs[i]? = some a := ⟨_, List.getElem?_eq_getElem hlt'⟩
      obtain ⟨ta, rfl⟩ := hval i v a hxa hPv
      refine c_pure (c_assign_Name (up (wpAny_storeName_local (lookup_relabel_local hx) (hn'.at' fun o e => hk _ o hCI e) (fun h₂ hn₂ hs₂ => ?_) (by simp [compEnvC, relabel, hkind]))))
      have kC : ∀ b o, b ≠ C → b ≠ I → s'.heap.get? b = some o → h₂.get? b = some o := fun b o hb hw e => (hs₂.2 b hb).trans (hk b o hw e)
      have g2 : Gst G { s' with heap := h₂, toks := tk + 1 } := g'.keeps (fun b o e1 e => kC b o (hbase b o e1).1 (hbase b o e1).2.2 e) (fun b o q e => by
        refine kC b o (fun z => q ?_) (fun z => q ?_) e
        · subst z; obtain ⟨o', es, ep, e', d, _⟩ := hn'; rw [e] at e'; cases e'; exact fun vs e => by rw [d] at e; cases e
        · obtain ⟨o', e', h'⟩ := hob i _ sti; rw [z, e'] at e; cases e; exact h'.1)
      have k2 : ∀ b o, ¬ G.isTab b → b ≠ I → s2.heap.get? b = some o → h₂.get? b = some o := fun b o q1 q2 e => kC b o (fun z => by rw [z, hCn] at e; cases e) q2 (k' b o q1 q2 e)
      have st2 : St' (i + 1) h₂ := W'.frame _ _ _ st' fun b hb o e => (hs₂.2 b (fun z => hCI (z.symm.trans (List.mem_singleton.mp hb)))).trans e
      have hacc2 : h₂.PlainList D0 zs.toArray := hacc.at fun o e => kC _ _ hDC hDI e
      have hQ3 : ∀ {hh : Heap} {m : Str → Option Value} {zz : Array Value}, hh.PlainList D0 zz → hh.Ns C m → ∀ a, hh.get? a = none → a ≠ D0 ∧ a ≠ C := fun p q a e => ⟨fun z => (by obtain ⟨n', e'⟩ := p; rw [z, e'] at e; cases e), fun z => (by obtain ⟨o', es, ep, e', _⟩ := q; rw [z] at e; erw [e'] at e; cases e)⟩
      have Si := S2.inner (s3 := { s' with heap := h₂, toks := tk + 1 }) (wr := [I]) (C := C) (ρi := [(x, .val (.int a))]) (cap := cap) (Qp := fun a => a ≠ D0 ∧ a ≠ C) g2 hQ2 (hQ3 hacc2 hn₂) (fun b o q1 q2 e => k2 b o q1 (fun z => q2 (List.mem_singleton.mpr z)) e) (fun b hb => by rw [List.mem_singleton.mp hb]; exact ⟨hob0, let ⟨o, e, _⟩ := hob _ _ st2; ⟨o, e⟩⟩) hCn hn₂ hkind hap hcap hno hsee (fun p hp => by
        rw [List.mem_singleton.mp hp]
        exact ⟨.int a, .int a ta, rfl, lookup_relabel_local hx, by simp, .int _ _⟩)
      refine c_mono (hit i a hxa C A _ _ _ hA Si) (fun r s3 h3 => c_mono h3 (fun it2 s4 h4 => ?_) no) no
      obtain ⟨S4, I2, Pv2, St2, rfl, W2, sj0, ⟨q1, _, _, q4⟩, ⟨q5, q6⟩, hob2, hval2⟩ := h4
      have k4 : ∀ b o, ¬ G.isTab b → b ≠ C → h₂.get? b = some o → s4.heap.get? b = some o := fun b o q1 q2 e => S4.keep b o ⟨e, q1, q2⟩
      have fresh2 : ∀ b o, ¬ G.isTab b → b ≠ C → h₂.get? b = some o → b ≠ I2 := fun b o q1 q2 e z => q5 o ⟨z ▸ e, z ▸ q1, z ▸ q2⟩
      have hD2 : D0 ≠ I2 := by obtain ⟨n', e'⟩ := hacc2; exact fresh2 _ _ hDt hDC e'
      have hC2 : C ≠ I2 := fun z => q1 z.symm
      have hII : I ≠ I2 := by obtain ⟨o, e, _⟩ := hob _ _ st2; exact fresh2 _ _ hfp.2.2.2 (fun z => hCI z.symm) e
      have old2 : ∀ b o, ¬ G.isTab b → b ≠ I → s2.heap.get? b = some o → b ≠ I2 := fun b o q1 q2 e => fresh2 b o q1 (fun z => by rw [z, hCn] at e; cases e) (k2 b o q1 q2 e)
      obtain ⟨m4, hn4, t4, hm4⟩ : ∃ m4, s4.heap.Ns C m4 ∧ ∃ t, m4 x = some (.int a t) := by
        obtain ⟨c', hv, hr⟩ := S4.vars (x, .val (.int a)) (List.mem_append_left _ (List.mem_singleton.mpr rfl))
        rcases hv with ⟨_, m, hm, hq⟩ | ⟨e, _⟩
        · obtain ⟨t, rfl⟩ := Rel.intAt hr; exact ⟨m, hm, t, hq⟩
        · exact absurd (lookup_relabel_local (env := fm.env) hx) (by rcases e with e | ⟨e, _⟩ <;> (intro z; exact absurd (z.symm.trans e) (by decide)))
      have loop2 : ∀ s₅ : Shared, s₅.heap = s4.heap → Gst G s₅ →
          codeC G.M A (.compLoop (.ListComp elt [⟨.Name x px, i0, [], 0⟩, ⟨.Name y py, i1, [c], 0⟩] scope pos) 1 (.ref I2) (.ref D0) (compEnvC scope cl C fm.env))
            (fun r s₅ => match r with | .ok _ => ∃ m, m < xs.length - i ∧ (∃ i, ∃ zs : List Value, i ≤ xs.length ∧ m = xs.length - i ∧ Gst G s₅ ∧ (∀ b o, ¬ G.isTab b → b ≠ I → s2.heap.get? b = some o → s₅.heap.get? b = some o) ∧ St' i s₅.heap ∧
              s₅.heap.PlainList D0 zs.toArray ∧ (∀ P h, RelL P h (vi (tot2 pick out (fun i => (xs2 i).length) i)) zs) ∧ ∃ m, s₅.heap.Ns C m) | .error _ => False) s₅ := by
        intro s₅ e5 g5
        have W2' := W2 A hA
        refine codeC_compInner (fun k s' => ∃ j, ∃ zs : List Value, j ≤ (xs2 i).length ∧ k = (xs2 i).length - j ∧ Gst G s' ∧ (∀ b o, ¬ G.isTab b → b ≠ I → s2.heap.get? b = some o → s'.heap.get? b = some o) ∧ St' (i + 1) s'.heap ∧ St2 j s'.heap ∧
          s'.heap.PlainList D0 zs.toArray ∧ (∀ P h, RelL P h (vi (tot2 pick out (fun i => (xs2 i).length) i ++ res2 pick out i j)) zs) ∧ ∃ m, s'.heap.Ns C m ∧ ∃ t, m x = some (.int a t)) (fun k s' hI => ?_) (xs2 i).length
          ⟨0, zs, Nat.zero_le _, rfl, g5, fun b o q1 q2 e => by rw [e5]; exact k4 b o q1 (fun z => by rw [z, hCn] at e; cases e) (k2 b o q1 q2 e), by rw [e5]; exact W'.frame _ _ _ st2 fun b hb o e => k4 b o (by rw [List.mem_singleton.mp hb]; exact hfp.2.2.2) (by rw [List.mem_singleton.mp hb]; exact fun z => hCI z.symm) e, by rw [e5]; exact sj0,
            by rw [e5]; exact hacc2.at fun o e => k4 _ _ hDt hDC e, by simpa [res2] using hzs, m4, by rw [e5]; exact hn4, t4, hm4⟩
        obtain ⟨j, zs, hj, rfl, g', k', sti, stj, hacc, hzs, m', hn', t', hm'⟩ := hI
        have hzl : zs.length = (tot2 pick out (fun i => (xs2 i).length) i ++ res2 pick out i j).length := by have := (hzs (fun _ => True) s2.heap).length; rw [List.length_map] at this; exact this
        have hzz := hz i j hlt' hj
        by_cases hltj : j < (xs2 i).length
        · refine up (W2'.item j s' _ _ hltj stj fun v h' tk hPv st' hk => ?_)
          have hk : ∀ b o, b ≠ I2 → s'.heap.get? b = some o → h'.get? b = some o := fun b o q e => hk b o (fun z => q (List.mem_singleton.mp z)) e
          obtain ⟨b, hyb⟩ : ∃ b, (xs2 i)[j]? = some b := ⟨_, List.getElem?_eq_getElem hltj⟩
          obtain ⟨tb, rfl⟩ := hval2 j v b hyb hPv
          refine c_pure (c_assign_Name (up (wpAny_storeName_local (lookup_relabel_local hy) (hn'.at' fun o e => hk _ o hC2 e) (fun h₃ hn₃ hs₃ => ?_) (by simp [compEnvC, relabel, hkind]))))
          have kC : ∀ b o, b ≠ C → b ≠ I2 → s'.heap.get? b = some o → h₃.get? b = some o := fun b o hb hw e => (hs₃.2 b hb).trans (hk b o hw e)
          have baseI2 : ∀ b o, G.B.get? b = some o → b ≠ I2 := fun b o e => old2 b o (S2.tabD b o (S2.baseD b o e)) (hbase b o e).2.2 (S2.gst.base _ _ e)
          have g3 : Gst G { s' with heap := h₃, toks := tk + 1 } := g'.keeps (fun b o e1 e => kC b o (hbase b o e1).1 (baseI2 b o e1) e) (fun b o q e => by
            refine kC b o (fun z => q ?_) (fun z => q ?_) e
            · subst z; obtain ⟨o', es, ep, e', d, _⟩ := hn'; rw [e] at e'; cases e'; exact fun vs e => by rw [d] at e; cases e
            · obtain ⟨o', e', h'⟩ := hob2 j _ stj; rw [z, e'] at e; cases e; exact h'.1)
          have k3 : ∀ b o, ¬ G.isTab b → b ≠ I → s2.heap.get? b = some o → h₃.get? b = some o := fun b o q1 q2 e => kC b o (fun z => by rw [z, hCn] at e; cases e) (old2 b o q1 q2 e) (k' b o q1 q2 e)
          have st3 : St2 (j + 1) h₃ := W2'.frame _ _ _ st' fun b hb o e => (hs₃.2 b (fun z => hC2 (z.symm.trans (List.mem_singleton.mp hb)))).trans e
          have sti3 : St' (i + 1) h₃ := W'.frame _ _ _ sti fun b hb o e => by
            rw [List.mem_singleton.mp hb] at e ⊢
            exact kC I o (fun z => hCI z.symm) hII e
          have hacc3 : h₃.PlainList D0 zs.toArray := hacc.at fun o e => kC _ _ hDC hD2 e
          have Sj := S2.inner (s3 := { s' with heap := h₃, toks := tk + 1 }) (wr := [I]) (C := C) (ρi := [(y, .val (.int b)), (x, .val (.int a))]) (cap := cap) (Qp := fun a => a ≠ D0 ∧ a ≠ C) g3 hQ2 (hQ3 hacc3 hn₃) (fun b o q1 q2 e => k3 b o q1 (fun z => q2 (List.mem_singleton.mpr z)) e) (fun b hb => by rw [List.mem_singleton.mp hb]; exact ⟨hob0, let ⟨o, e, _⟩ := hob _ _ sti3; ⟨o, e⟩⟩) hCn hn₃ hkind hap hcap hno hsee (fun p hp => by
            rcases List.mem_cons.mp hp with rfl | hp
            · exact ⟨.int b, .int b tb, rfl, lookup_relabel_local hy, by simp, .int _ _⟩
            · rw [List.mem_singleton.mp hp]
              exact ⟨.int a, .int a t', rfl, lookup_relabel_local hx, by simp [Ne.symm hxy, hm'], .int _ _⟩)
          have fin : ∀ {s₆ : Shared} {h₇ : Heap} {zs' : List Value}, Gst G s₆ → (∀ b o, ¬ G.isTab b → b ≠ C → b ≠ D0 → h₃.get? b = some o → s₆.heap.get? b = some o) → s₆.heap.PlainList D0 zs'.toArray → (∀ P h, RelL P h (vi (tot2 pick out (fun i => (xs2 i).length) i ++ res2 pick out i (j + 1))) zs') → (∃ m, s₆.heap.Ns C m ∧ ∃ t, m x = some (.int a t)) →
              ∃ m, m < (xs2 i).length - j ∧ (∃ j, ∃ zs : List Value, j ≤ (xs2 i).length ∧ m = (xs2 i).length - j ∧ Gst G s₆ ∧ (∀ b o, ¬ G.isTab b → b ≠ I → s2.heap.get? b = some o → s₆.heap.get? b = some o) ∧ St' (i + 1) s₆.heap ∧ St2 j s₆.heap ∧
                s₆.heap.PlainList D0 zs.toArray ∧ (∀ P h, RelL P h (vi (tot2 pick out (fun i => (xs2 i).length) i ++ res2 pick out i j)) zs) ∧ ∃ m, s₆.heap.Ns C m ∧ ∃ t, m x = some (.int a t)) := fun {s₆ _ zs'} g6 k6 a6 r6 n6 =>
            ⟨(xs2 i).length - (j + 1), by lia, j + 1, zs', hltj, rfl, g6, fun b o q1 q2 e => k6 b o q1 (hQ2 b o e).2 (hQ2 b o e).1 (k3 b o q1 q2 e), W'.frame _ _ _ sti3 fun b hb o e => k6 b o (by rw [List.mem_singleton.mp hb]; exact hfp.2.2.2) (by rw [List.mem_singleton.mp hb]; exact fun z => hCI z.symm) (by rw [List.mem_singleton.mp hb]; exact fun z => hDI z.symm) e,
              W2'.frame _ _ _ st3 fun b hb o e => k6 b o (by rw [List.mem_singleton.mp hb]; exact q4) (by rw [List.mem_singleton.mp hb]; exact q1) (by rw [List.mem_singleton.mp hb]; exact fun z => hD2 z.symm) e, a6, r6, n6⟩
          have xAt : ∀ {D' : Addr → Obj → Prop} {P' : Addr → Prop} {s₆ : Shared}, St G D' P' (compFm scope cl C fm) ([(y, .val (.int b)), (x, .val (.int a))] ++ cap) s₆ → ∃ m, s₆.heap.Ns C m ∧ ∃ t, m x = some (.int a t) := fun S6 => by
            obtain ⟨c', hv, hr⟩ := S6.vars (x, .val (.int a)) (List.mem_append_left _ (List.mem_cons_of_mem _ (List.mem_singleton.mpr rfl)))
            rcases hv with ⟨_, m, hm, hq⟩ | ⟨e, _⟩
            · obtain ⟨t, rfl⟩ := Rel.intAt hr; exact ⟨m, hm, t, hq⟩
            · exact absurd (lookup_relabel_local (env := fm.env) hx) (by rcases e with e | ⟨e, _⟩ <;> (intro z; exact absurd (z.symm.trans e) (by decide)))
          refine c_mono (ht i j a b hxa hyb C A _ _ _ _ rfl hA Sj) (fun bb s5 h5 => ?_) no
          obtain ⟨rfl, S5⟩ := h5
          have k5 : ∀ b o, ¬ G.isTab b → b ≠ C → h₃.get? b = some o → s5.heap.get? b = some o := fun b o q1 q2 e => S5.keep b o ⟨e, q1, q2⟩
          cases hpk : pick i j with
          | false =>
            rw [if_neg (by decide)]
            exact fin (h₇ := h₃) S5.gst (fun b o q1 q2 _ e => k5 b o q1 q2 e) (hacc3.at fun o e => k5 _ _ hDt hDC e) (by simpa [res2, hpk] using hzs) (xAt S5)
          | true =>
            rw [if_pos rfl]
            refine c_mono (h i j a b hxa hyb hpk C A _ _ _ hA S5) (fun r s6 h6 => ?_) no
            obtain ⟨S6, r6⟩ := h6
            obtain ⟨te, rfl⟩ := Rel.intAt r6
            have k6 : ∀ b o, ¬ G.isTab b → b ≠ C → h₃.get? b = some o → s6.heap.get? b = some o := fun b o q1 q2 e => S6.keep b o ⟨e, q1, q2⟩
            have hacc6 : s6.heap.PlainList D0 zs.toArray := hacc3.at fun o e => k6 _ _ hDt hDC e
            refine up (wpAny_list_append_plain (hsz := by simp; lia) hacc6 fun h7 hl7 hs7 => ?_)
            refine fin (h₇ := h₃) (zs' := zs ++ [.int (out i j) te]) (s₆ := { s6 with heap := h7 }) (S6.gst.keeps (tk := s6.toks) (fun b o e1 e => (hs7.2 b (hbase b o e1).2.1).trans e) (fun b o q e => (hs7.2 b (fun z => q (by
              subst z; obtain ⟨n', e'⟩ := hacc6; rw [e] at e'; cases e'; exact fun vs e => by cases e))).trans e)) (fun b o q1 q2 q3 e => (hs7.2 b q3).trans (k6 b o q1 q2 e)) (by simpa using hl7) ?_ ?_
            · have := int_snoc (e := out i j) (t := te) hzs
              simpa [res2, hpk] using this
            · obtain ⟨m6, hn6, t6, hm6⟩ := xAt S6
              exact ⟨m6, hn6.sameBut hs7 (Ne.symm hDC), t6, hm6⟩
        · have hje : j = (xs2 i).length := by lia
          subst hje
          refine up (W2'.done s' _ _ stj fun h' tk hk => ?_)
          have hk : ∀ b o, b ≠ I2 → s'.heap.get? b = some o → h'.get? b = some o := fun b o q e => hk b o (fun z => q (List.mem_singleton.mp z)) e
          have baseI2 : ∀ b o, G.B.get? b = some o → b ≠ I2 := fun b o e => old2 b o (S2.tabD b o (S2.baseD b o e)) (hbase b o e).2.2 (S2.gst.base _ _ e)
          refine ⟨xs.length - (i + 1), by lia, i + 1, zs, hlt', rfl, g'.keeps (tk := tk) (fun b o e1 e => hk b o (baseI2 b o e1) e) (fun b o q e => ?_), fun b o q1 q2 e => hk b o (old2 b o q1 q2 e) (k' b o q1 q2 e), W'.frame _ _ _ sti fun b hb o e => by
            rw [List.mem_singleton.mp hb] at e ⊢
            exact hk I o hII e, hacc.at fun o e => hk _ _ hD2 e, hzs, m', hn'.at' fun o e => hk _ o hC2 e⟩
          refine hk b o (fun z => q ?_) e
          obtain ⟨o', e', h'⟩ := hob2 _ _ stj; rw [z, e'] at e; cases e; exact h'.1
      exact codeC_compStart1 (loop2 s4 rfl S4.gst) (up ((W2 A hA).self 0 _ _ _ sj0 (loop2 s4 rfl S4.gst)))
    · have hie : i = xs.length := by lia
      subst hie
      refine up (W'.done s' _ _ sti fun h' tk hk => ?_)
      have hk : ∀ b o, b ≠ I → s'.heap.get? b = some o → h'.get? b = some o := fun b o q e => hk b o (fun z => q (List.mem_singleton.mp z)) e
      refine hR D0 C _ m' _ (S2.call2 (wr := [I]) ?_ (fun b o q1 q2 e => hk b o (fun z => q2 (List.mem_singleton.mpr z)) (k' b o q1 (fun z => q2 (List.mem_singleton.mpr z)) e)) (fun b hb => by rw [List.mem_singleton.mp hb]; exact ⟨hwr.1, hwr.2, hob0⟩)) (.list (S2.topCln _ hDn) (hacc.at fun o e => hk _ _ hDI e).isList (hzs _ _)) (hn'.at' fun o e => hk _ o hCI e)
        (fun z => ?_) (fun z => ?_) (fun o q => ?_) (S2.top _ hCn)
      · exact g'.keeps (tk := tk) (fun b o e1 e => hk b o (hbase b o e1).2.2 e) (fun b o q e => by
          refine hk b o (fun z => q ?_) e
          obtain ⟨o', e', h'⟩ := hob _ _ sti; rw [z, e'] at e; cases e; exact h'.1)
      · obtain ⟨m, o, es, ep, e, _⟩ := S2.loc; rw [← z, hCn] at e; cases e
      · obtain ⟨v, o, e, _⟩ := S2.wcs _ z; rw [hCn] at e; cases e
      · rw [S2.keep _ _ q] at hCn; cases hCn
  exact codeC_compStart (loop _ rfl) (up ((W A hA).self 0 _ _ _ ((W A hA).frame _ _ _ st0 fun b _ o e => old b o e) (loop _ rfl)))
theorem Ev.comp2 {elt i0 i1 c : Expr} {x y : Str} {px py pos : Pos} {scope : Scope} {cl : List (Str × Addr)} {cap : Rho} {xs : List Int} {xs2 : Nat → List Int} {pick : Nat → Nat → Bool} {out : Nat → Nat → Int} (hi : EvItF G n fm ρ i0 xs) (hclos : closureFor scope fm.env = pure cl)
    (hap : cl.Pairwise fun x y => x.2 ≠ y.2) (hcap : ∀ p ∈ cap, p ∈ ρ) (hno : ∀ a, ¬ Owned cap a) (hsee : SeesC fm scope cl cap) (hxy : y ≠ x)
    (hz : ∀ i j, i < xs.length → j ≤ (xs2 i).length → (tot2 pick out (fun i => (xs2 i).length) i ++ res2 pick out i j).length ≤ sizeLine)
    (hit : ∀ (i : Nat) a, xs[i]? = some a → ∀ C, EvItF G n (compFm scope cl C fm) ((x, .val (.int a)) :: cap) i1 (xs2 i))
    (ht : ∀ (i j : Nat) a b, xs[i]? = some a → (xs2 i)[j]? = some b → ∀ C, Tst G n (compFm scope cl C fm) ((y, .val (.int b)) :: (x, .val (.int a)) :: cap) c (pick i j))
    (h : ∀ (i j : Nat) a b, xs[i]? = some a → (xs2 i)[j]? = some b → pick i j = true → ∀ C, Ev G n (compFm scope cl C fm) ((y, .val (.int b)) :: (x, .val (.int a)) :: cap) elt (.int (out i j)))
    (hcell : (scope.names.all fun x => decide (x.2 ≠ .cell)) = true := by rfl) (hkind : scope.kind = .function := by rfl) (hnames : (scope.names.all fun x => decide (x.2 = .local → scope.names.lookup x.1 = some .local)) = true := by rfl) (hx : scope.names.lookup x = some .local := by rfl) (hy : scope.names.lookup y = some .local := by rfl)
    (hs : ∀ x, foldedSetIterable i0 fm.env x = pure x := by intro _; rfl) (hs1 : ∀ C v, foldedSetIterable i1 (compFm scope cl C fm).env v = pure v := by intro _ _; rfl) :
    Ev G n fm ρ (.ListComp elt [⟨.Name x px, i0, [], 0⟩, ⟨.Name y py, i1, [c], 0⟩] scope pos) (.list (vi (tot2 pick out (fun i => (xs2 i).length) xs.length))) := fun A s D P hA S => by
  rw [eval_ListComp]
  refine c_comprehension (g := ⟨.Name x px, i0, [], 0⟩) rfl hs hclos hkind (fun y hy => of_decide_eq_true (List.all_eq_true.mp hnames y hy)) (c_mono (hi A s D P hA S) (fun c s1 h1 => c_mono h1 (fun it s2 h2 => ?_) no) no)
  refine comp2_core (R := fun acc C r s' => match r with
          | .ok _ => ∃ m, s'.heap.Ns C m ∧ ∀ h', Heap.SameBut C s'.heap h' → St G D P fm ρ { s' with heap := h' } ∧ Rel (Cln P ρ) h' (.list (vi (tot2 pick out (fun i => (xs2 i).length) xs.length))) acc
          | .error _ => False) hA h2 hap hcap hno hsee hxy hz hit ht h (fun D0 C s' m f S' r hn h1 h2 h3 h4 => ⟨m, hn, fun h' hs' => ⟨S'.aside hs' hn h1 h3 h4, ?_⟩⟩) hcell hkind hx hy hs1
  exact r.mono fun a o hP q e => ⟨(hs'.2 a fun z => by
    obtain ⟨o', es, ep, e', d, _⟩ := hn; rw [z, e'] at e; cases e; obtain ⟨_, _, d'⟩ := q; rw [d] at d'; cases d').trans e, hP⟩
end
end Mine
end
section
open PySem PySem.W PySem.Calls PyProof.Rows
set_option Elab.async false
set_option maxRecDepth 100000
set_option linter.unusedVariables false
namespace Mine
/-! ### sorted(.., key=lambda ..) -/
section
variable {prog : Program} {w : World} {A : Around} {E : Value → Shared → Prop} {s : Shared} {R : Result → Shared → Prop} {env : Env}
theorem c_call_fn {id : String} {b : Builtin} {args : List Value} {kw : List (Str × Value)} {Q : Value → Shared → Prop} (hk : builtinKind id = none) (hp : plainId id = true) (hd : holders.contains id = false)
    (hb : entryFor table id = some b) (ha : argsOk id ⟨args, kw⟩) (hc : wpC (model prog w) A.in1 (b ⟨args, kw⟩) (fun fin s' => ∃ v, fin = .done (.ret v) ∧ Q v s') (fun _ _ => False) s) : wpC (model prog w) A (PySem.call (.builtin id) args kw) Q E s := by
  refine c_call (codeC_of_tree ?_)
  show wpC _ A.in1 (do checkBuiltinCall id ⟨args, kw⟩; again (.builtin id ⟨args, kw⟩)) _ _ s
  have go : wpC (model prog w) A.in1 (again (.builtin id ⟨args, kw⟩)) (fun fin s' => match fin with
      | .done f => (match (Except.ok f : Result) with | .ok (.ret v) => Q v s' | .ok _ => False | .error e => E e s')
      | .again c' => c'.quiet = true ∧ decoder c' = false ∧ codeC (model prog w) A c' (fun r s' => match r with | .ok (.ret v) => Q v s' | .ok _ => False | .error e => E e s') s') (fun e s' => E e s') s := by
    refine c_pure ⟨plainId_quiet hp _, hd, codeC_builtin hb ?_⟩
    rw [Around.under_plainId hp]
    exact c_mono hc (fun fin s' h' => by obtain ⟨v, rfl, hv⟩ := h'; exact hv) fun _ _ h' => h'.elim
  refine c_bind ?_
  simp only [checkBuiltinCall, hk]
  cases hsig : Manifest.signature? id with
  | none => exact c_pure go
  | some sig =>
    have ha' : Bind.checkArgs id sig ⟨args, kw⟩ = pure () := by simpa only [argsOk, hsig] using ha
    simp only [ha']
    exact c_pure go
theorem c_call_slot {T : String} {name : Str} {id : String} {b : Builtin} {self : Value} {rest : List Value} {kw : List (Str × Value)} {Q : Value → Shared → Prop} (h : PySem.Slot T name id) (hT : s.TypeIs self T) (hd : holders.contains id = false)
    (hb : entryFor table id = some b) (ha : argsOk id ⟨self :: rest, kw⟩) (hc : wpC (model prog w) A.in1 (b ⟨self :: rest, kw⟩) (fun fin s' => ∃ v, fin = .done (.ret v) ∧ Q v s') (fun _ _ => False) s) : wpC (model prog w) A (PySem.call (.builtin id) (self :: rest) kw) Q E s := by
  refine c_call (codeC_of_tree ?_)
  show wpC _ A.in1 (do checkBuiltinCall id ⟨self :: rest, kw⟩; again (.builtin id ⟨self :: rest, kw⟩)) _ _ s
  refine c_bind (up (h.check _ _ _ _ _ _ _ _ hT ha ?_))
  refine c_pure ⟨plainId_quiet h.plain _, hd, codeC_builtin hb ?_⟩
  rw [Around.under_plainId h.plain]
  exact c_mono hc (fun fin s' h' => by obtain ⟨v, rfl, hv⟩ := h'; exact hv) fun _ _ h' => h'.elim
theorem c_evalArgs_kw {f : Value} {x t : Sem Value} {k : Str} {Q : Args → Shared → Prop}
    (h : wpC (model prog w) A (spliced [(false, x)]) (fun vs s₁ => wpC (model prog w) A t (fun v s₂ => Q ⟨vs, [(k, v)]⟩ s₂) E s₁) E s) : wpC (model prog w) A (evalArgs f true [(false, x)] [(some k, t)]) Q E s := by
  unfold evalArgs
  show wpC _ A (spliced [(false, x)] >>= _) Q E s
  refine c_bind (c_mono h (fun vs s' h' => ?_) fun _ _ x => x)
  refine c_holding ?_
  have hall : ([(some k, t)] : List (Option Str × Sem Value)).all (·.1.isSome) = true := rfl
  rw [if_pos hall]
  show wpC _ A (evalAll [t] >>= _) Q E s'
  refine c_bind (c_bind (c_mono h' (fun v s₂ h₂ => c_bind (c_holding (c_pure (c_pure ?_)))) fun _ _ x => x))
  exact c_bind (c_pure (c_pure h₂))
theorem c_callWith_kw {pos : Pos} {id : String} {x t : Sem Value} {k : Str} {Q : Value → Shared → Prop}
    (h : wpC (model prog w) A (spliced [(false, x)]) (fun vs s₁ => wpC (model prog w) A t (fun v s₂ => wpC (model prog w) A (PySem.call (.builtin id) vs [(k, v)]) Q E s₂) E s₁) E s) :
    wpC (model prog w) A (callWith pos (.builtin id) [] [(false, x)] [(some k, t)]) Q E s := by
  unfold callWith
  refine c_bind (c_holding (c_mono (c_evalArgs_kw (Q := fun a s₂ => wpC (model prog w) A (PySem.call (.builtin id) ([] ++ a.pos) a.kw) Q E s₂) h) (fun a s₁ h₁ => c_bind (c_stand ?_)) fun _ _ x => x))
  refine c_bind (c_pure ?_)
  exact c_bind (c_mono h₁ (fun r s₂ hr => c_bind (c_holding (up (wpAny_point (c_pure hr))))) fun _ _ x => x)
theorem codeC_callE {a : Addr} {o : Obj} {fd : FuncData} {body : Expr} {vals : List Value} {binds : List (Str × Value)}
    (hroom : A.depth < recursionLimit) (ho : s.heap.get? a = some o) (hdata : o.data = .func fd) (hlim : s.heap.NoLimit) (hcd : s.heap.CodeRec fd.code fd.qualname)
    (hbody : fd.body = .expr body) (hbind : bindArgs fd ⟨vals, []⟩ = pure binds) (hcell : ∀ x ∈ fd.scope.names, x.2 ≠ .cell) (hl : ∀ x ∈ binds, fd.scope.names.lookup x.1 = some .local)
    (h : ∀ h₁ tk, h₁.Ns s.heap.objs.size (fun x => binds.reverse.lookup x) → (∀ b o, s.heap.get? b = some o → h₁.get? b = some o) →
      wpC (model prog w) (A.deeper (nestEnv fd s.heap.objs.size a)) (eval body (nestEnv fd s.heap.objs.size a)) (fun v s' => R (.ok (.ret v)) s') (fun _ _ => False) { s with heap := h₁, toks := tk })
    (hco : fd.scope.isCoroutine = false) (hgen : fd.scope.isGenerator = false) (hk : fd.scope.kind = .function) : codeC (model prog w) A (.call (.ref a) ⟨vals, []⟩) R s := by
  refine codeC_of_tree ?_
  show wpC _ A.in1 (callAny (.ref a) ⟨vals, []⟩) _ _ s
  simp only [callAny]
  refine c_bind (up (wpAny_load ho ?_))
  obtain ⟨c, oc, vs, tq, hc, hoc, hdc, hq⟩ := hcd
  simp only [hdata, callFunction, hco, hgen, hbody, hc]
  refine c_bind (m := field (.ref c) 1) (up (wpAny_field hoc hdc hq (c_bind (c_pure ?_))))
  rw [hbind]
  refine c_bind (c_pure (c_bind (up (wpAny_newFunctionEnv hcell hl (fun h₁ hns hsb => ?_) hk))))
  have kk : ∀ b o, s.heap.get? b = some o → h₁.get? b = some o := fun b o e => hsb.extBut b o (Nat.ne_of_lt (Heap.lt_size e)) (Heap.get?_push_of_some _ e)
  refine c_bind (up (wpAny_enterFrame (hlim.keeps kk) hroom (c_pure (And.intro rfl (And.intro rfl ?_)))))
  have h' := h h₁ (s.toks + binds.length) hns kk
  unfold nestEnv at h'
  rw [hc] at h'
  refine codeC_of_tree ?_
  show wpC _ (A.deeper _) (do point; ret (← (eval body _).onRaise (leaving _))) _ _ _
  exact c_bind (up (wpAny_point (c_bind (c_onRaise (c_mono h' (fun v s' h' => c_pure h') fun _ _ h' => h')))))
end
end Mine
end
section
open PySem PySem.W PySem.Calls PyProof.Rows
set_option Elab.async false
set_option maxRecDepth 100000
set_option linter.unusedVariables false
set_option maxHeartbeats 4000000
namespace Mine
section
variable {prog : Program} {w : World} {A : Around} {E : Value → Shared → Prop} {s : Shared}
theorem collect_range {Q : List Value → Shared → Prop} {r : Addr} {a b c : Int} {t u v : Tok} {n : Nat} (hh : A.handled = none) (hr : IsRange s.heap r a b c t u v) (hsmall : Builtin.Range.small a b c = true) (hn : Builtin.Range.rangeSize a b c = n) (hlen : n ≤ 2 ^ 24)
    (hQ : ∀ h' tk (vs : List Value), (∀ b o, s.heap.get? b = some o → h'.get? b = some o) → vs.length = n → (∀ (j : Nat) v, vs[j]? = some v → ∃ t, v = .int (a + j * c) t) → Q vs { s with heap := h', toks := tk }) :
    wpAny (model prog w) A (collect (.ref r)) Q E s := by
  unfold collect
  refine wpAny_bind (wpAny_runValue (codeAny_builtin F.entry_proto_collect ?_))
  rw [Around.under_plainId F.plain_proto_collect _]
  show wpAny _ A.in1 (newList [] >>= fun l => again (.builtin "list.__iadd__" ⟨[l, .ref r], []⟩)) _ _ s
  refine wpAny_bind (wpAny_newObj_type ?_)
  refine wpAny_pure ⟨plainId_quiet F.plain_list_iadd _, codeAny_builtin F.entry_list_iadd ?_⟩
  rw [Around.under_plainId F.plain_list_iadd _]
  show wpAny _ A.in1 (Builtin.List.listExtendWith (.ref s.heap.objs.size) (.ref r) (.ref s.heap.objs.size)) _ _ _
  have hS : (s.heap.push { cls := .type "list", data := .seq ([] : List Value).toArray }).get? s.heap.objs.size = some { cls := .type "list", data := .seq #[] 0 } := Heap.get?_push_size _ rfl
  let K : Shared → Prop := fun s' => ∃ h' tk acc' c', s' = { s with heap := h', toks := tk } ∧ (∀ b o, s.heap.get? b = some o → h'.get? b = some o) ∧ h'.get? s.heap.objs.size = some { cls := .type "list", dict := none, data := .seq acc' c', slots := #[] } ∧ ItemsOf (fun i v => ∃ t, v = .int (a + i * c) t) acc' n
  have fin' : ∀ s', K s' → wpAny (model prog w) A (match Value.ref s.heap.objs.size with
      | Value.ref a => do
        match (← load a).data with
          | Data.seq xs _ => pure xs.toList
          | _ => unsupported "internal:collect"
      | _ => unsupported "internal:collect") Q E s' := by
    rintro s' ⟨h', tk, acc', c', rfl, hk, hS', hacc⟩
    show wpAny _ A (load s.heap.objs.size >>= _) _ _ _
    refine wpAny_bind (wpAny_load hS' ?_)
    refine wpAny_pure (hQ h' tk acc'.toList hk (by simpa using hacc.1) fun j v e => ?_)
    exact hacc.2 j v (by simpa using e)
  refine wpAny_mono (wpAny_extend_range (A := A) (R := fun r s' => r = .ok (.ret (.ref s.heap.objs.size)) ∧ K s') (s := { s with heap := s.heap.push { cls := .type "list", data := .seq ([] : List Value).toArray } }) hh (Heap.get?_push_of_some _ hr) hsmall hn hlen _ _ 0 hS
    fun h' tk acc' c' hk hS' hacc => ⟨rfl, h', tk, acc', c', rfl, fun b o e => hk b o (Nat.ne_of_lt (Heap.lt_size e)) (Heap.get?_push_of_some _ e), hS', hacc⟩) (fun fin s' h => ?_) (fun e s' h => ?_)
  · cases fin with
    | done f =>
      obtain ⟨e, h⟩ := h
      cases e
      exact fin' _ h
    | again c' => exact ⟨h.1, codeAny_mono h.2 fun r s'' hr => by obtain ⟨rfl, hr⟩ := hr; exact fin' _ hr⟩
  · exact absurd h.1 (by simp)
/-! the sort itself, by keys at hand -/
theorem sort_tail {a kS : Addr} {vs : List Value} {kz : List Int} {keys : Array Value} {e e1 : Nat} {P : PySem.Fin → Shared → Prop} {st : SortSt} (hkS : s.heap.get? kS = some (seqObj "list" keys e)) (ha : s.heap.get? a = some (seqObj "list" #[] e1)) (hka : kS ≠ a)
    (hk : IntsAre keys.toList kz) (hsz : keys.size = vs.length) (h64 : vs.length < 64) (hp : (arrOf st).Perm (keys.zip vs.toArray)) (hf : failedOf st = none) (hs : SortedTo (arrOf st) (arrOf st).size)
    (h : ∀ h' tk out c, h'.get? a = some (seqObj "list" out c) → (∀ b o, b ≠ a → b ≠ kS → s.heap.get? b = some o → h'.get? b = some o) → KskOut false kz vs out.toList → P (.done (.ret .none)) { s with heap := h', toks := tk }) :
    wpAny (model prog w) A (ksk_tail a false e1 (.ref kS) st) P E s := by
  have hzs : (keys.zip vs.toArray).size = vs.length := by rw [Array.size_zip, hsz, List.size_toArray, Nat.min_self]
  have hsz2 : (arrOf st).size = vs.length := by rw [hp.size_eq, hzs]
  have s1 := Heap.SameBut.update s.heap kS (Obj.mapSeq fun _ => (#[] : Array Value))
  have na1 : (s.heap.update kS (Obj.mapSeq fun _ => (#[] : Array Value))).get? a = some (seqObj "list" #[] e1) := (s1.2 a hka.symm).trans ha
  have s2 := Heap.SameBut.update (s.heap.update kS (Obj.mapSeq fun _ => (#[] : Array Value))) a (Obj.mapSeq fun _ => (arrOf st).map (·.2))
  obtain ⟨c2, hc2⟩ : ∃ c2, ((s.heap.update kS (Obj.mapSeq fun _ => (#[] : Array Value))).update a (Obj.mapSeq fun _ => (arrOf st).map (·.2))).get? a = some (seqObj "list" ((arrOf st).map (·.2)) c2) := ⟨_, get?_update_seq na1 fun _ => (arrOf st).map (·.2)⟩
  unfold ksk_tail
  refine wpAny_bind (listUpdate_at hkS rfl ?_ (by rw [hsz, sizeLine_eq]; lia) (Nat.zero_le _))
  refine wpAny_bind (wpAny_letGo ?_)
  refine wpAny_bind (seqEpoch_at na1 rfl ?_)
  refine wpAny_bind (listUpdate_at na1 rfl ?_ (Nat.zero_le _) (by rw [if_neg (by decide), Array.size_map, hsz2, sizeLine_eq]; lia))
  rw [hf]
  simp only [bne_self_eq_false, Bool.false_eq_true, if_false]
  exact wpAny_pure (h _ _ _ c2 hc2 (fun b o h1 h2 e => (s2.2 b h1).trans ((s1.2 b h2).trans e)) (ksk_out (b := false) hk hp hs))
theorem sort_end {a kS : Addr} {vs : List Value} {kz : List Int} {keys : Array Value} {e e1 : Nat} {P : PySem.Fin → Shared → Prop} (hkS : s.heap.get? kS = some (seqObj "list" keys e)) (ha : s.heap.get? a = some (seqObj "list" #[] e1)) (hka : kS ≠ a)
    (hk : IntsAre keys.toList kz) (hlen : kz.length = vs.length) (h64 : vs.length < 64)
    (h : ∀ h' tk out c, h'.get? a = some (seqObj "list" out c) → (∀ b o, b ≠ a → b ≠ kS → s.heap.get? b = some o → h'.get? b = some o) → KskOut false kz vs out.toList → P (.done (.ret .none)) { s with heap := h', toks := tk }) :
    wpAny (model prog w) A (ksk_end a false vs.toArray e1 (.ref kS) keys) P E s := by
  have hsz : keys.size = vs.length := by
    have h1 := hk.length
    rw [Array.length_toList] at h1
    lia
  have hzs : (keys.zip vs.toArray).size = vs.length := by rw [Array.size_zip, hsz, List.size_toArray, Nat.min_self]
  unfold ksk_end
  dsimp only
  rw [if_neg (by decide)]
  by_cases h2 : vs.toArray.size < 2
  · rw [if_pos h2, if_pos h2, if_neg (by decide)]
    refine wpAny_bind (wpAny_pure ?_)
    rw [StateT.run_pure]
    refine wpAny_bind (wpAny_pure ?_)
    refine sort_tail (st := SortSt.mk' general' (keys.zip vs.toArray) #[] 7 none) hkS ha hka hk hsz h64 (Array.Perm.refl _) rfl ?_ h
    intro i j hij hj
    have hj2 : j < (keys.zip vs.toArray).size := hj
    rw [hzs] at hj2
    rw [List.size_toArray] at h2
    have : i = j := by lia
    subst this
    exact Int.le_refl _
  · rw [if_neg h2, if_neg h2, if_neg (by decide)]
    rw [List.size_toArray] at h2
    rw [ksk_kind hk (by lia)]
    refine wpAny_bind (wpAny_pure ?_)
    refine wpAny_bind (wpAny_mono (wpS_sortRuns (a₀ := keys.zip vs.toArray) (st := SortSt.mk' oneType' (keys.zip vs.toArray) #[] 7 none)
      (Q := fun _ st' => (arrOf st').Perm (keys.zip vs.toArray) ∧ failedOf st' = none ∧ SortedTo (arrOf st') (keys.zip vs.toArray).size)
      (ksk_intKeys hk) ⟨Array.Perm.refl _, rfl, rfl, rfl⟩ (by rw [hzs]; lia) (by rw [hzs]; exact h64) fun st' a1 a2 a3 => ⟨a1, a2, a3⟩) ?_ fun _ _ e => e)
    rintro ⟨⟨⟩, st⟩ s' ⟨rfl, hp, hf, hs⟩
    dsimp only
    exact sort_tail hkS ha hka hk hsz h64 hp hf (by rw [hp.size_eq]; exact hs) h
theorem c_fold {M : Model} {body : Value → PUnit → Sem (ForInStep PUnit)} {Q : PUnit → Shared → Prop} (I : Nat → Shared → Prop) : ∀ (vs : List Value) (i : Nat) (s : Shared), I i s →
    (∀ j x s', vs[j]? = some x → I (i + j) s' → wpC M A (body x ⟨⟩) (fun r s'' => r = .yield ⟨⟩ ∧ I (i + j + 1) s'') E s') →
    (∀ s', I (i + vs.length) s' → Q ⟨⟩ s') → wpC M A (forIn vs PUnit.unit body) Q E s
  | [], i, s, hI, _, done => by
    rw [List.forIn_nil]
    exact c_pure (done s (by simpa using hI))
  | x :: vs, i, s, hI, step, done => by
    rw [List.forIn_cons]
    refine c_bind (c_mono (step 0 x s (by simp) hI) (fun r s' h' => ?_) fun _ _ e => e)
    obtain ⟨rfl, hI'⟩ := h'
    show wpC M A (forIn vs PUnit.unit body) Q E s'
    refine c_fold I vs (i + 1) s' hI' (fun j y s'' hy hJ => ?_) fun s'' hd => done s'' ?_
    · have e : i + (j + 1) = i + 1 + j := by lia
      have h1 := step (j + 1) y s'' (by simpa using hy) (by rw [e]; exact hJ)
      rw [e] at h1
      exact h1
    · have e : i + (x :: vs).length = i + 1 + vs.length := by rw [List.length_cons]; lia
      rw [e]; exact hd
end
end Mine
end
section
open PySem PySem.W PySem.Calls PyProof.Rows
set_option Elab.async false
set_option maxRecDepth 100000
set_option linter.unusedVariables false
set_option maxHeartbeats 4000000
namespace Mine
section
variable {G : Gb} {D : Addr → Obj → Prop} {P P' : Addr → Prop} {fm : Fm} {ρ : Rho} {s : Shared} {n : Nat} {φ : Post}
theorem lamCall {A : Around} {f : Addr} {fd : FuncData} {body : Expr} {x : Str} {i r : Int} {t : Tok} {cap : Rho} (hG : GbOk G) (hA : AOk (n + 1) A) (S : St G D P fm ρ s) (hfn : FnOk s.heap f fd) (hb : fd.body = .expr body)
    (hgl : fd.globals = mainGlobals) (hbl : fd.builtins = builtinsNs) (hbind : ∀ c, bindArgs fd ⟨[c], []⟩ = pure [(x, c)]) (hcell : ∀ x ∈ fd.scope.names, x.2 ≠ .cell) (hl : fd.scope.names.lookup x = some .local) (hap : fd.closure.Pairwise fun x y => x.2 ≠ y.2)
    (hcap : ∀ p ∈ cap, p ∈ ρ) (hsee : Sees fm fd cap) (hno : ∀ a, ¬ Owned cap a) (h : ∀ L, Ev G n (frameN fd L f) ((x, .val (.int i)) :: cap) body (.int r))
    (hco : fd.scope.isCoroutine = false) (hgen : fd.scope.isGenerator = false) (hk : fd.scope.kind = .function) :
    wpC G.M A (PySem.call (.ref f) [.int i t]) (fun c s' => (∃ t', c = .int r t') ∧ Gst G s' ∧ ∀ b o, ¬ G.isTab b → s.heap.get? b = some o → s'.heap.get? b = some o) (fun _ _ => False) s := by
  obtain ⟨⟨of, hof, hdf⟩, hcd⟩ := hfn
  have no' : ∀ a, ¬ Owned ((x, .val (.int i)) :: cap) a := fun a ⟨p, hp, e⟩ => by
    rcases List.mem_cons.mp hp with rfl | hp
    · cases e
    · exact hno a ⟨p, hp, e⟩
  refine c_call (codeC_callE (fd := fd) (binds := [(x, .int i t)]) hA.room hof hdf (hG.nolimit.keeps S.gst.base) hcd hb (hbind _) hcell (fun y hy => by rw [List.mem_singleton.mp hy]; exact hl) (fun h₁ tk hns kk => ?_) hco hgen hk)
  generalize hL : s.heap.objs.size = L at hns ⊢
  have hLnone : s.heap.get? L = none := Heap.get?_none_of_le (by rw [hL]; exact Nat.le_refl _)
  have S1 : St G (fun b o => s.heap.get? b = some o ∧ ¬ G.isTab b) P (frameN fd L f) ((x, .val (.int i)) :: cap) { s with heap := h₁, toks := tk } :=
    { gst := S.gst.keeps (fun b o _ e => kk b o e) (fun b o _ e => kk b o e)
      kind := hk
      glob := hgl
      blt := hbl
      baseD := fun b o e => ⟨S.gst.base b o e, S.tabD b o (S.baseD b o e)⟩
      keep := fun b o e => kk b o e.1
      tabD := fun b o e => e.2
      locD := fun o e => by have : s.heap.get? L = some o := e.1; rw [hLnone] at this; cases this
      wcD := fun a ha => nomatch ha
      ownD := fun a ha => (no' a ha).elim
      loc := ⟨_, hns⟩
      wcs := fun a ha => nomatch ha
      apart := hap
      vars := fun p hp => by
        rcases List.mem_cons.mp hp with rfl | hp
        · exact ⟨.int i t, .inl ⟨hl, _, hns, by simp⟩, .int _ _⟩
        · obtain ⟨c, hv, hsl⟩ := S.vars _ (hcap _ hp)
          obtain ⟨a, q1, q2, q3, q4, q5⟩ := hsee _ hp
          refine ⟨c, .inr ⟨.inr ⟨q3, q4⟩, a, q2, ?_⟩, hsl.mono (fun a o hP _ e => ⟨kk a o e, hP.1, no' a⟩) (fun a _ o e => kk a o e) fun a o _ e => kk a o e⟩
          rcases hv with ⟨e, _⟩ | ⟨_, a', hl', hc'⟩
          · exact absurd e q5
          · have e1 : fm.env.cells.lookup p.1 = some a := q1
            rw [e1] at hl'; cases hl'; exact hc'.keeps kk
      ownP := fun a ha => (no' a ha).elim
      ownNe := fun p hp q hq a ha => (no' a ⟨p, hp, ha⟩).elim
      top := fun a ha => S.top a (none_back kk ha) }
  refine c_mono (h L _ _ _ P hA.deeper S1) (fun c s' y => ?_) no
  obtain ⟨S', r'⟩ := y
  obtain ⟨t', rfl⟩ := Rel.intAt r'
  exact ⟨⟨t', rfl⟩, S'.gst, fun b o q e => S'.keep b o ⟨e, q⟩⟩
noncomputable def num : Value → Int
  | .int i _ => i
  | _ => 0
/-- list.sort(key=lambda ..) on a list of ints made just now -/
theorem sortKey {A : Around} {f a : Addr} {fd : FuncData} {body : Expr} {x : Str} {cap : Rho} {vs : List Value} {ns kz : List Int} {m : Nat} {s0 : Shared} (hG : GbOk G) (hA : AOk (n + 1) A) (S0 : St G D P fm ρ s0) (hf0 : FnOk s0.heap f fd) (hb : fd.body = .expr body)
    (hgl : fd.globals = mainGlobals) (hbl : fd.builtins = builtinsNs) (hbind : ∀ c, bindArgs fd ⟨[c], []⟩ = pure [(x, c)]) (hcell : ∀ x ∈ fd.scope.names, x.2 ≠ .cell) (hl : fd.scope.names.lookup x = some .local) (hap : fd.closure.Pairwise fun x y => x.2 ≠ y.2)
    (hcap : ∀ p ∈ cap, p ∈ ρ) (hsee : Sees fm fd cap) (hno : ∀ a, ¬ Owned cap a) (hlen : kz.length = ns.length) (hvl : vs.length = ns.length) (h64 : ns.length < 64) (hv : ∀ (j : Nat) v, vs[j]? = some v → ∃ t, v = .int (ns.getD j 0) t)
    (h : ∀ j, j < ns.length → ∀ L, Ev G n (frameN fd L f) ((x, .val (.int (ns.getD j 0))) :: cap) body (.int (kz.getD j 0)))
    (hco : fd.scope.isCoroutine = false) (hgen : fd.scope.isGenerator = false) (hk : fd.scope.kind = .function)
    (g : Gst G s) (k : ∀ b o, ¬ G.isTab b → s0.heap.get? b = some o → s.heap.get? b = some o) (ha : s.heap.get? a = some (seqObj "list" vs.toArray m)) (ha0 : s0.heap.get? a = none) :
    wpC G.M A (ksk_tree a (.ref f) false) (fun fin s' => fin = .done (.ret .none) ∧ Gst G s' ∧ (∀ b o, ¬ G.isTab b → s0.heap.get? b = some o → s'.heap.get? b = some o) ∧ ∃ out c, s'.heap.get? a = some (seqObj "list" out c) ∧ KskOut false kz vs out.toList) (fun _ _ => False) s := by
  have hkeepF : ∀ {s' : Shared}, Gst G s' → (∀ b o, ¬ G.isTab b → s0.heap.get? b = some o → s'.heap.get? b = some o) → FnOk s'.heap f fd := fun g' k' =>
    hf0.keeps fun b o q e => k' b o (S0.noTab e (.inr (.inr q))) e
  have nt : ∀ {s' : Shared} {b : Addr} {xs : Array Value} {c : Nat}, Gst G s' → s'.heap.get? b = some (seqObj "list" xs c) → ¬ G.isTab b := fun g' e q => by
    obtain ⟨t, ht, rfl⟩ := q
    obtain ⟨ps, e'⟩ := tabOk_at (g'.tabs t ht)
    rw [e] at e'; cases e'
  have stepK : ∀ {s' : Shared} {h' : Heap} {tk : Nat} {b : Addr} {xs : Array Value} {c : Nat}, Gst G s' → (∀ b o, ¬ G.isTab b → s0.heap.get? b = some o → s'.heap.get? b = some o) → s0.heap.get? b = none → s'.heap.get? b = some (seqObj "list" xs c) → Heap.SameBut b s'.heap h' →
      Gst G { s' with heap := h', toks := tk } ∧ ∀ b o, ¬ G.isTab b → s0.heap.get? b = some o → h'.get? b = some o := fun {s' h' tk b xs c} g' k' hb0 hb hs =>
    ⟨g'.keeps (fun b' o e1 e => (hs.2 b' (fun z => by rw [z] at e1; rw [S0.gst.base _ _ e1] at hb0; cases hb0)).trans e) (fun b' o q e => (hs.2 b' (fun z => q (by rw [z, hb] at e; cases e; exact SeqObj.tame ⟨_, _, rfl⟩))).trans e),
      fun b' o q e => (hs.2 b' (fun z => by rw [z, hb0] at e; cases e)).trans (k' b' o q e)⟩
  have pushK : ∀ {s' : Shared} {tk : Nat} (ob : Obj), Gst G s' → (∀ b o, ¬ G.isTab b → s0.heap.get? b = some o → s'.heap.get? b = some o) →
      Gst G { s' with heap := s'.heap.push ob, toks := tk } ∧ ∀ b o, ¬ G.isTab b → s0.heap.get? b = some o → (s'.heap.push ob).get? b = some o := fun ob g' k' =>
    ⟨g'.keeps (fun b o _ e => Heap.get?_push_of_some _ e) (fun b o _ e => Heap.get?_push_of_some _ e), fun b o q e => Heap.get?_push_of_some _ (k' b o q e)⟩
  have fresh0 : ∀ {s' : Shared}, (∀ b o, ¬ G.isTab b → s0.heap.get? b = some o → s'.heap.get? b = some o) → Gst G s' → s0.heap.get? s'.heap.objs.size = none := fun {s'} k' g' => by
    cases q : s0.heap.get? s'.heap.objs.size with
    | none => rfl
    | some o =>
      by_cases z : G.isTab s'.heap.objs.size
      · obtain ⟨t, ht, e⟩ := z
        obtain ⟨ps, e'⟩ := tabOk_at (g'.tabs t ht)
        rw [e, size_none] at e'; cases e'
      · have := k' _ _ z q; rw [size_none] at this; cases this
  unfold ksk_tree
  refine c_bind (up (listItems_at ha rfl ?_))
  refine c_bind (up (listUpdate_at ha rfl ?_ (by rw [List.size_toArray, sizeLine_eq]; lia) (Nat.zero_le _)))
  obtain ⟨e1, ha1⟩ : ∃ e1, (s.heap.update a (Obj.mapSeq fun _ => (#[] : Array Value))).get? a = some (seqObj "list" #[] e1) := ⟨_, get?_update_seq ha fun _ => #[]⟩
  have K1 := stepK (tk := s.toks) g k ha0 ha (Heap.SameBut.update s.heap a (Obj.mapSeq fun _ => (#[] : Array Value)))
  generalize s.heap.update a (Obj.mapSeq fun _ => (#[] : Array Value)) = h1 at ha1 K1 ⊢
  refine c_bind (up (seqEpoch_at ha1 rfl ?_))
  refine c_bind (up (wpAny_newTuple ?_ (by show vs.length ≤ _; rw [sizeLine_eq]; lia)))
  have K2 := pushK (tk := s.toks) (seqObj "tuple" vs.toArray 0) K1.1 K1.2
  have ha2 : (h1.push (seqObj "tuple" vs.toArray 0)).get? a = some (seqObj "list" #[] e1) := Heap.get?_push_of_some _ ha1
  refine c_bind (up (wpAny_newList ?_ (Nat.zero_le _)))
  have K3 := pushK (tk := s.toks) (seqObj "list" #[] 0) K2.1 K2.2
  have hk0 : s0.heap.get? (h1.push (seqObj "tuple" vs.toArray 0)).objs.size = none := fresh0 K2.2 K2.1
  show wpC G.M A (holding [_, Value.ref (h1.push (seqObj "tuple" vs.toArray 0)).objs.size] (ksk_rest a (.ref f) false vs.toArray e1 (.ref (h1.push (seqObj "tuple" vs.toArray 0)).objs.size))) _ _ { s with heap := (h1.push (seqObj "tuple" vs.toArray 0)).push (seqObj "list" #[] 0) }
  have hkl : ((h1.push (seqObj "tuple" vs.toArray 0)).push (seqObj "list" #[] 0)).get? (h1.push (seqObj "tuple" vs.toArray 0)).objs.size = some (seqObj "list" #[] 0) := Heap.get?_push_size _ rfl
  have ha3 := Heap.get?_push_of_some (seqObj "list" #[] 0) ha2
  have hka : (h1.push (seqObj "tuple" vs.toArray 0)).objs.size ≠ a := fun z => by rw [← z, size_none] at ha2; cases ha2
  generalize (h1.push (seqObj "tuple" vs.toArray 0)).objs.size = kS at hk0 hkl hka ⊢
  generalize (h1.push (seqObj "tuple" vs.toArray 0)).push (seqObj "list" #[] 0) = h3 at K3 hkl ha3 ⊢
  refine c_holding ?_
  unfold ksk_rest
  refine c_bind (up (wpAny_rule ?_))
  rw [List.forIn_toArray]
  refine c_bind (c_fold (fun i s' => Gst G s' ∧ (∀ b o, ¬ G.isTab b → s0.heap.get? b = some o → s'.heap.get? b = some o) ∧ ∃ kA e, s'.heap.get? kS = some (seqObj "list" kA e) ∧ s'.heap.get? a = some (seqObj "list" #[] e1) ∧ IntsAre kA.toList (kz.take i)) vs 0 _
    ⟨K3.1, K3.2, #[], 0, hkl, ha3, by simpa using IntsAre.nil⟩ ?_ ?_)
  · rintro j v s' hxv ⟨g', k', kA, e, hkA, haA, hints⟩
    simp only [Nat.zero_add] at hints ⊢
    have hj : j < ns.length := by have := (List.getElem?_eq_some_iff.mp hxv).1; lia
    obtain ⟨t, rfl⟩ := hv j v hxv
    have hkj : kz[j]? = some (kz.getD j 0) := by rw [List.getD_eq_getElem?_getD, List.getElem?_eq_getElem (by lia)]; rfl
    have hz : kA.size ≤ ns.length := by
      have h1 := hints.length
      rw [Array.length_toList, List.length_take] at h1
      lia
    refine c_bind (c_attempt (c_mono (lamCall hG hA (S0.call g' k') (hkeepF g' k') hb hgl hbl hbind hcell hl hap hcap hsee hno (h j hj) hco hgen hk) (fun c s'' y => ?_) no))
    obtain ⟨⟨t', rfl⟩, g2, k2⟩ := y
    dsimp only
    have hkA2 := k2 _ _ (nt g' hkA) hkA
    have haA2 := k2 _ _ (nt g' haA) haA
    have hs := Heap.SameBut.update s''.heap kS (Obj.mapSeq (·.push (.int (kz.getD j 0) t')))
    obtain ⟨c2, hc2⟩ : ∃ c2, (s''.heap.update kS (Obj.mapSeq (·.push (.int (kz.getD j 0) t')))).get? kS = some (seqObj "list" (kA.push (.int (kz.getD j 0) t')) c2) := ⟨_, get?_update_seq hkA2 (·.push (.int (kz.getD j 0) t'))⟩
    have KK := stepK (tk := s''.toks) g2 (fun b o q e => k2 b o q (k' b o q e)) hk0 hkA2 hs
    refine c_bind (up (listUpdate_at hkA2 rfl ?_ (by rw [sizeLine_eq]; lia) (Nat.le_trans (Nat.le_of_eq (Array.size_push ..)) (by rw [sizeLine_eq]; lia))))
    refine c_pure ⟨rfl, KK.1, KK.2, _, c2, hc2, (hs.2 a hka.symm).trans haA2, ?_⟩
    have ek : kz.take (j + 1) = kz.take j ++ [kz.getD j 0] := by rw [List.take_add_one, hkj]; rfl
    rw [ek, Array.toList_push]
    exact ksk_snoc hints
  · rintro s' ⟨g', k', kA, e, hkA, haA, hints⟩
    have hints' : IntsAre kA.toList kz := by
      rwa [List.take_of_length_le (by lia)] at hints
    refine c_bind (up (listItems_at hkA rfl ?_))
    refine up (sort_end (s := s') hkA haA hka hints' (by lia) (by lia) fun h' tk out c hout hkeep hko => ⟨rfl, ?_, ?_, out, c, hout, hko⟩)
    · refine g'.keeps (fun b o e1 e => hkeep b o (fun z => ?_) (fun z => ?_) e) (fun b o q e => hkeep b o (fun z => q ?_) (fun z => q ?_) e)
      · rw [z] at e1; rw [S0.gst.base _ _ e1] at ha0; cases ha0
      · rw [z] at e1; rw [S0.gst.base _ _ e1] at hk0; cases hk0
      · rw [z, haA] at e; cases e; exact SeqObj.tame ⟨_, _, rfl⟩
      · rw [z, hkA] at e; cases e; exact SeqObj.tame ⟨_, _, rfl⟩
    · intro b o q e
      exact hkeep b o (fun z => by rw [z, ha0] at e; cases e) (fun z => by rw [z, hk0] at e; cases e) (k' b o q e)
end
end Mine
end
section
open PySem PySem.W PySem.Calls PyProof.Rows
set_option Elab.async false
set_option maxRecDepth 100000
set_option linter.unusedVariables false
set_option maxHeartbeats 4000000
namespace Mine
theorem ints_rel : ∀ {l : List Value}, (∀ v ∈ l, ∃ i t, v = .int i t) → ∀ P h, RelL P h (vi (l.map num)) l
  | [], _, _, _ => .nil
  | v :: l, hv, P, h => by
    obtain ⟨i, t, rfl⟩ := hv v List.mem_cons_self
    exact .cons (.int i t) (ints_rel (fun w hw => hv w (List.mem_cons_of_mem _ hw)) P h)
section
variable {G : Gb} {D : Addr → Obj → Prop} {P P' : Addr → Prop} {fm : Fm} {ρ : Rho} {s : Shared} {n : Nat} {φ : Post}
theorem c_spliced1 {M : Model} {A : Around} {E : Value → Shared → Prop} {x : Sem Value} {Q : List Value → Shared → Prop} (h : wpC M A x (fun v s₁ => Q [v] s₁) E s) : wpC M A (spliced [(false, x)]) Q E s := by
  rw [spliced]
  refine c_bind (c_mono h (fun v s₁ h₁ => ?_) fun _ _ x => x)
  simp only [Bool.false_eq_true, if_false]
  exact c_bind (c_pure (c_bind (c_holding (c_pure (c_pure h₁)))))
theorem call_sortedKey {A : Around} {f r : Addr} {fd : FuncData} {body : Expr} {x : Str} {cap : Rho} {a b : Int} {t u v : Tok} {N : Nat} {kz ls : List Int} (hG : GbOk G) (hA : AOk (n + 3) A) (S0 : St G D P fm ρ s) (hf0 : FnOk s.heap f fd) (hb : fd.body = .expr body)
    (hgl : fd.globals = mainGlobals) (hbl : fd.builtins = builtinsNs) (hbind : ∀ c, bindArgs fd ⟨[c], []⟩ = pure [(x, c)]) (hcell : ∀ x ∈ fd.scope.names, x.2 ≠ .cell) (hl : fd.scope.names.lookup x = some .local) (hap : fd.closure.Pairwise fun x y => x.2 ≠ y.2)
    (hcap : ∀ p ∈ cap, p ∈ ρ) (hsee : Sees fm fd cap) (hno : ∀ a, ¬ Owned cap a) (hlen : kz.length = N) (h64 : N < 64)
    (hr : IsRange s.heap r a b 1 t u v) (hsm : Builtin.Range.small a b 1 = true) (hN : Builtin.Range.rangeSize a b 1 = N)
    (h : ∀ j : Nat, j < N → ∀ L, Ev G n (frameN fd L f) ((x, .val (.int (a + j))) :: cap) body (.int (kz.getD j 0)))
    (hu : ∀ ps : List (Int × Int), ps.Perm (kz.zip (rangeV a 1 N)) → ps.Pairwise (fun p q => p.1 ≤ q.1) → ps.map Prod.snd = ls)
    (hco : fd.scope.isCoroutine = false) (hgen : fd.scope.isGenerator = false) (hk : fd.scope.kind = .function) :
    wpC G.M A (PySem.call (.builtin "sorted") [.ref r] [(Str.ofString "key", .ref f)]) (fun c s' => St G D P fm ρ s' ∧ Rel (Cln P ρ) s'.heap (.list (vi ls)) c) (fun _ _ => False) s := by
  refine c_call_fn kind_sorted plain_sorted (by decide +kernel) entry_sorted (ksk_s1 _ _) ?_
  unfold Builtin.«sorted»
  refine c_bind (m := checkCount "sorted" 1 1 _) (c_pure ?_)
  refine c_bind (up (collect_range hA.handled hr hsm hN (by lia) fun h1 tk vs hk1 hvl hv => ?_))
  refine c_bind (up (wpAny_newList ?_ (by rw [hvl, sizeLine_eq]; lia)))
  have hnsl : (rangeV a 1 N).length = N := by simp [rangeV]
  have hns : ∀ j : Nat, j < N → (rangeV a 1 N).getD j 0 = a + j := fun j hj => by
    rw [List.getD_eq_getElem?_getD, rangeV, List.getElem?_map, List.getElem?_range hj]; simp
  have k1 : ∀ b o, ¬ G.isTab b → s.heap.get? b = some o → (h1.push (seqObj "list" vs.toArray 0)).get? b = some o := fun b o _ e => Heap.get?_push_of_some _ (hk1 b o e)
  have g1 : Gst G { s with heap := h1.push (seqObj "list" vs.toArray 0), toks := tk } := S0.gst.keeps (fun b o _ e => Heap.get?_push_of_some _ (hk1 b o e)) (fun b o _ e => Heap.get?_push_of_some _ (hk1 b o e))
  have ha : (h1.push (seqObj "list" vs.toArray 0)).get? h1.objs.size = some (seqObj "list" vs.toArray 0) := Heap.get?_push_size _ rfl
  have ha0 : s.heap.get? h1.objs.size = none := by
    cases q : s.heap.get? h1.objs.size with
    | none => rfl
    | some o => have := hk1 _ _ q; rw [size_none] at this; cases this
  have hv' : ∀ (j : Nat) w, vs[j]? = some w → ∃ t, w = .int ((rangeV a 1 N).getD j 0) t := fun j w e => by
    obtain ⟨t, ht⟩ := hv j w e
    have hj : j < N := by rw [← hvl]; exact (List.getElem?_eq_some_iff.mp e).1
    exact ⟨t, by rw [hns j hj, ht]; simp⟩
  show wpC G.M A.in1 (holding [Value.ref h1.objs.size] (PySem.call (.builtin "list.sort") [Value.ref h1.objs.size] [(Str.ofString "key", .ref f)]) >>= _) _ _ { s with heap := h1.push (seqObj "list" vs.toArray 0), toks := tk }
  refine c_bind (c_holding (c_call_slot slot_list_sort ⟨_, ha, rfl⟩ (by decide +kernel) entry_list_sort (ksk_l1 _ _) ?_))
  rw [ksk_t1]
  refine c_mono (sortKey (s := { s with heap := h1.push (seqObj "list" vs.toArray 0), toks := tk }) (s0 := s) (vs := vs) (ns := rangeV a 1 N) (kz := kz) hG hA.in1.in1 S0 hf0 hb hgl hbl hbind hcell hl hap hcap hsee hno (by rw [hlen, hnsl]) (by rw [hvl, hnsl]) (by rw [hnsl]; exact h64) hv'
    (fun j hj L => by rw [hnsl] at hj; rw [hns j hj]; exact h j hj L) hco hgen hk g1 k1 ha ha0) (fun fin s' y => ?_) no
  obtain ⟨rfl, g2, k2, out, c, hout, ps, hperm, hps, hpw⟩ := y
  refine ⟨_, rfl, c_pure ⟨_, rfl, S0.call g2 k2, ?_⟩⟩
  have hvn : vs.map num = rangeV a 1 N := by
    refine List.ext_getElem (by rw [List.length_map, hvl, hnsl]) fun j q1 q2 => ?_
    rw [List.length_map] at q1
    obtain ⟨t, ht⟩ := hv' j _ (List.getElem?_eq_getElem q1)
    rw [List.getElem_map, ht, List.getD_eq_getElem?_getD, List.getElem?_eq_getElem q2]; rfl
  have hall : ∀ w ∈ out.toList, ∃ i t, w = .int i t := fun w hw => by
    rw [hps] at hw
    obtain ⟨q, hq, rfl⟩ := List.mem_map.mp hw
    have hm := hperm.mem_iff.mp hq
    have hm2 : q.2 ∈ vs := (List.of_mem_zip hm).2
    obtain ⟨j, hj⟩ := List.getElem?_of_mem hm2
    obtain ⟨t, ht⟩ := hv' j _ hj
    exact ⟨_, t, ht⟩
  have hls := hu (ps.map fun q => (q.1, num q.2)) (by
    have e : (kz.zip vs).map (fun q => (q.1, num q.2)) = kz.zip (rangeV a 1 N) := by
      rw [← hvn, List.zip_map_right]; rfl
    rw [← e]; exact hperm.map _) (by
    rw [List.pairwise_map]
    exact hpw.imp fun {p q} h => by simpa using h)
  have e : vi ls = vi (out.toList.map num) := by
    rw [← hls, hps, List.map_map, List.map_map]; rfl
  rw [e]
  refine .list (vs := out.toList) (S0.topCln _ ha0) ⟨_, hout, rfl, c, ?_⟩ (ints_rel hall _ _)
  show Data.seq out c = Data.seq out.toList.toArray c
  rw [Array.toArray_toList]
theorem Ev.sortedKey {p1 p2 p3 p4 kp lpos : Pos} {ea eb body : Expr} {a b : Int} {params : Arguments} {scope : Scope} {t : Tab} {clos : List (Str × Addr)} {cap : Rho} {x : Str} {N : Nat} {kz ls : List Int} (hG : GbOk G) (hm1 : G.mg "sorted" = none) (hm2 : G.mg "range" = none)
    (hea : EvL G (n + 3) fm ρ [ea, eb] [.int a, .int b]) (hsm : Builtin.Range.small a b 1 = true) (hN : Builtin.Range.rangeSize a b 1 = N) (hlen : kz.length = N) (h64 : N < 64)
    (ht : t ∈ G.tabs) (hc : fm.env.code = .ref t.c) (hlin : t.line = (lpos.line : Int)) (hcol : t.col = (lpos.col : Int)) (hq : fm.env.qual ++ "<lambda>" = t.qual) (hcl : closureFor scope fm.env = pure clos) (hdef : defaultsOf params fm.env = ([], []))
    (hcap : ∀ p ∈ cap, p ∈ ρ) (hno : ∀ a, ¬ Owned cap a) (hsee : ∀ pm cv ct, Sees fm (kla_fn "<lambda>" t.qual params body scope clos pm cv ct) cap) (hap : clos.Pairwise fun x y => x.2 ≠ y.2)
    (hbind : ∀ pm cv ct c, bindArgs (kla_fn "<lambda>" t.qual params body scope clos pm cv ct) ⟨[c], []⟩ = pure [(x, c)]) (hcell : ∀ x ∈ scope.names, x.2 ≠ .cell) (hl : scope.names.lookup x = some .local)
    (h : ∀ j : Nat, j < N → ∀ pm cv ct f L, Ev G n (frameN (kla_fn "<lambda>" t.qual params body scope clos pm cv ct) L f) ((x, .val (.int (a + j))) :: cap) body (.int (kz.getD j 0)))
    (hu : ∀ ps : List (Int × Int), ps.Perm (kz.zip (rangeV a 1 N)) → ps.Pairwise (fun p q => p.1 ≤ q.1) → ps.map Prod.snd = ls)
    (hco : scope.isCoroutine = false := by rfl) (hgen : scope.isGenerator = false := by rfl) (hk : scope.kind = .function := by rfl)
    (hx1 : fm.env.kindOf "sorted" = some .globalImplicit := by rfl) (hx2 : fm.env.kindOf "range" = some .globalImplicit := by rfl)
    (hplain : (backTo p3 (starEach [ea, eb] fm.env)).any (·.1) = false := by rfl)
    (he1 : eval (.Call (.Name "sorted" p1) [.Call (.Name "range" p2) [ea, eb] [] p3] [⟨some "key", .Lambda params body scope lpos, kp⟩] p4) fm.env = (eval (.Name "sorted" p1) fm.env >>= fun f => callWith p4 f [] [(false, eval (.Call (.Name "range" p2) [ea, eb] [] p3) fm.env)] [(some "key", do let v ← eval (.Lambda params body scope lpos) fm.env; standAt p4; pure v)]) := by rfl)
    (he2 : eval (.Call (.Name "range" p2) [ea, eb] [] p3) fm.env = (do callWith p3 (← eval (.Name "range" p2) fm.env) [] (backTo p3 (starEach [ea, eb] fm.env)) (backToKw p3 (keywordEach [] fm.env))) := by rfl) :
    Ev G (n + 3) fm ρ (.Call (.Name "sorted" p1) [.Call (.Name "range" p2) [ea, eb] [] p3] [⟨some "key", .Lambda params body scope lpos, kp⟩] p4) (.list (vi ls)) := fun A s D P hA S => by
  rw [he1]
  refine c_bind (up (Name_function_global S.kind hx1 (loadGlobal_builtin (v := .builtin "sorted") (S.glob ▸ hG.g.keeps S.gst.base) hm1 (S.blt ▸ hG.b.keeps S.gst.base) ((hG.builtins _ (by decide)).trans (by rfl)) ?_) (by decide)))
  refine c_callWith_kw (c_spliced1 ?_)
  refine c_Call (up (Name_function_global S.kind hx2 (loadGlobal_builtin (v := .type "range") (S.glob ▸ hG.g.keeps S.gst.base) hm2 (S.blt ▸ hG.b.keeps S.gst.base) ((hG.builtins _ (by decide)).trans (by rfl)) (callWith_q (.inr (.inl ⟨_, rfl⟩)) hA S hea (fun cs s1 S1 r => ?_) hplain (by simp))) (by decide))) he2
  obtain ⟨c90, c91, rfl, r90, r91⟩ := RelL.two r
  obtain ⟨ta, rfl⟩ := Rel.intAt r90
  obtain ⟨tb, rfl⟩ := Rel.intAt r91
  refine up (call_range_2 ?_)
  have hr := IsRange.new s1.heap a b 1 ta tb s1.toks
  have S2 := S1.push (tk := s1.toks + 1) { cls := .type "range", data := .fields #[.int a ta, .int b tb, .int 1 s1.toks] }
  generalize s1.heap.push { cls := .type "range", data := .fields #[.int a ta, .int b tb, .int 1 s1.toks] } = h2' at hr S2 ⊢
  generalize s1.heap.objs.size = r at hr ⊢
  have fin : ∀ {s3 : Shared} {f : Addr} {pm cv ct : Value}, St G D P fm ρ s3 → FnOk s3.heap f (kla_fn "<lambda>" t.qual params body scope clos pm cv ct) → IsRange s3.heap r a b 1 ta tb s1.toks →
      wpC G.M A (standAt p4 >>= fun _ => pure (Value.ref f)) (fun v s₂ => wpC G.M A (PySem.call (.builtin "sorted") [.ref r] [((Str.ofString "key"), v)]) (fun c s' => St G D P fm ρ s' ∧ Rel (Cln P ρ) s'.heap (.list (vi ls)) c) (fun _ _ => False) s₂) (fun _ _ => False) s3 := fun {s3 f pm cv ct} S3 hf hr3 =>
    c_bind (c_stand (c_pure (call_sortedKey hG hA S3 hf rfl rfl rfl (hbind pm cv ct) hcell hl hap hcap (hsee pm cv ct) hno hlen h64 hr3 hsm hN (fun j hj L => h j hj pm cv ct f L) hu hco hgen hk)))
  refine c_bind (up (kla_eval hdef ?_))
  rw [hq]
  have C := (hG.codes t ht).keeps S2.gst.base
  have hg := hG.g.keeps S2.gst.base
  have tabAt := tabOk_at (S2.gst.tabs t ht)
  have hgP : mainGlobals ≠ t.P := fun q => by
    obtain ⟨ps, e'⟩ := tabAt
    obtain ⟨o, es, ep, e, hd, _⟩ := hg
    rw [q, e'] at e; cases e; cases hd
  have hB : h2'.BuiltinsAt G.mg t.P := by
    obtain ⟨bm, ob, b1, b2, b3, b4, b5, b6⟩ := hG.bmain
    refine ⟨bm, ob, b1, b2, fun q => ?_, fun q => ?_, S2.gst.base _ _ b3, b4, b5, b6⟩
    · obtain ⟨o, es, ep, e, hd, _⟩ := hG.g
      rw [q, e] at b3; cases b3; rw [hd] at b6; cases b6
    · obtain ⟨ps, e'⟩ := tabAt
      have e := S2.gst.base _ _ b3
      rw [q, e'] at e; cases e; cases b4
  have hrP : r ≠ t.P := fun q => by
    obtain ⟨ps, e'⟩ := tabAt
    have hr' : h2'.get? r = some _ := hr
    rw [q, e'] at hr'; cases hr'
  rcases S2.gst.tabs t ht with e | ⟨c', e, hrec⟩
  · refine kla_makeFunction (mg := G.mg) hcl S.glob hg hc C e trivial rfl hgP hB fun c' ctv h' tk hx hge hlt hrec htb => ?_
    have htb' : h'.get? t.P = some (tabObj #[rawInt t.line, rawInt t.col, .ref c']) := by rw [hlin, hcol]; simpa using htb
    have S3 := S2.tabbed (tk := tk) hG ht (fun b o hb e => hx b o hb e) (.inr ⟨c', htb', hrec⟩)
    exact fin (S3.push (tk := tk) _) ⟨⟨_, Heap.get?_push_size _ rfl, rfl⟩, hrec.keeps fun b o e => Heap.get?_push_of_some _ e⟩ (Heap.get?_push_of_some _ (hx r _ hrP hr))
  · have hf : codeAmong lpos (#[rawInt t.line, rawInt t.col, Value.ref c']).toList = some (.ref c') := by
      rw [hlin, hcol]; simp [codeAmong, rawInt]
    refine kla_makeFunctionHit (mg := G.mg) hcl S.glob hg hc C e (by simp [TriplesOk, rawInt]) hf hB fun ctv h' tk hk' hsz => ?_
    have S3 := S2.grow (tk := tk) hk'
    exact fin (S3.push (tk := tk) _) ⟨⟨_, Heap.get?_push_size _ rfl, rfl⟩, hrec.keeps fun b o e => Heap.get?_push_of_some _ (hk' b o e)⟩ (Heap.get?_push_of_some _ (hk' r _ hr))
end
end Mine
end
section
open PySem PySem.W PySem.Calls PyProof.Rows
set_option Elab.async false
namespace Mine
/-! plain: more of digits -/
/-! words turned about -/
theorem swap_chunk {ns : List Int} {w i : Nat} (hw : 0 < w) (h : (i + 1) * w ≤ ns.length) : ((swapL ns w).drop (i * w)).take w = ((ns.drop (i * w)).take w).reverse := by
  have hiw : (i + 1) * w = i * w + w := by rw [Nat.add_mul, Nat.one_mul]
  apply List.ext_getElem
  · simp [swapL]
  · intro k h1 h2
    have hk : k < w := by simp [swapL] at h1; lia
    rw [List.getElem_take, List.getElem_drop, List.getElem_reverse, List.getElem_take, List.getElem_drop]
    unfold swapL
    rw [List.getElem_map, List.getElem_range]
    have q1 : (i * w + k) / w = i := by
      rw [Nat.add_comm, Nat.add_mul_div_right _ _ hw, Nat.div_eq_of_lt hk, Nat.zero_add]
    have q2 : (i * w + k) % w = k := by
      rw [Nat.add_comm, Nat.add_mul_mod_self_right, Nat.mod_eq_of_lt hk]
    rw [q1, q2]
    have e : ((ns.drop (i * w)).take w).length - 1 - k = w - 1 - k := by simp; lia
    have hx : i * w + (w - 1 - k) < ns.length := by lia
    rw [List.getD_eq_getElem?_getD, List.getElem?_eq_getElem hx, Option.getD_some]
    congr 1
    lia
theorem swap_all {ns : List Int} (h : 0 < ns.length) : swapL ns ns.length = ns.reverse := by
  have := swap_chunk (ns := ns) (w := ns.length) (i := 0) h (by lia)
  rw [Nat.zero_mul, List.drop_zero, List.drop_zero, List.take_length] at this
  rw [← this, List.take_of_length_le (by simp [swapL])]
/-- a word read with its highest digit ahead -/
noncomputable def horner (B : Int) (ds : List Int) : Int := ds.foldl (fun a d => a * B + d) 0
end Mine
end
section
open PySem PySem.W PySem.Calls PyProof.Rows
set_option Elab.async false
set_option maxRecDepth 100000
namespace Mine
/-! plain: what the law of row 04 reckons -/
noncomputable def quo (l u : Int) : Nat → List Int × Int × Int
  | 0 => ([], l, u)
  | k + 1 => if (quo l u k).2.2 = 0 then quo l u k else ((quo l u k).1 ++ [(quo l u k).2.1 / (quo l u k).2.2], (quo l u k).2.2, (quo l u k).2.1 % (quo l u k).2.2)
noncomputable def frac (row : List Int) : Int × Int := row.reverse.foldl (fun s q => (s.2, q * s.2 + s.1)) (0, 1)
noncomputable def rests4 (h lo : Int) : List Int := ((List.range (lo.toNat - 1)).map fun (j : Nat) => (-h * ((j : Int) + 1)) % lo).reverse
noncomputable def pick4 (r : List Int) (i j : Nat) : Bool := decide (r.getD i 0 < r.getD j 0)
noncomputable def cnt4 (i : Nat) : Nat := (rangeV 0 1 i).length
noncomputable def pairs4 (r : List Int) : Int := (tot2 (pick4 r) (fun _ _ => 1) cnt4 r.length).sum
noncomputable def due4 (R : List Int) (h lo ot : Int) : Int := (lo - 1) * (lo - 2) - h - lo * ((pickL R none none (some 2)).sum - (pickL R (some 1) none (some 2)).sum) + (if decide (((R.length : Int)).fmod 2 = 1) then 3 * lo - ot else ot)
noncomputable def others4 (lo ot : Int) : List Int := (List.range (lo.toNat - 1)).map fun (j : Nat) => (ot * ((j : Int) + 1)) % lo
noncomputable def places4 (R : List Int) (lo ot : Int) : List Int := if decide (((R.length : Int)).fmod 2 = 1) then others4 lo ot else (others4 lo ot).reverse
noncomputable def sorted4 : List (Int × Int) → Bool
  | [] => true
  | p :: l => l.all (fun q => decide (p.1 < q.1)) && sorted4 l
noncomputable def keys4 (r pl : List Int) : List (Int × Int) := pl.map fun p => (r.getD (p.toNat - 1) 0, p)
/-- all that the walk asks of one fraction -/
noncomputable def chk04 (l u : Int) : Bool :=
  (List.range 9).all (fun k => decide (0 ≤ (quo l u k).2.1) && decide ((quo l u k).2.1 ≤ 20) && decide (0 ≤ (quo l u k).2.2) && decide ((quo l u k).2.2 ≤ 20) && decide ((quo l u k).1.length ≤ 8)) &&
  (quo l u 8).1.all (fun q => decide (0 ≤ q) && decide (q ≤ 20)) && decide (1 ≤ (quo l u 8).1.length) &&
  decide (0 ≤ (frac (quo l u 8).1).1) && decide ((frac (quo l u 8).1).1 ≤ 20) && decide (2 ≤ (frac (quo l u 8).1).2) && decide ((frac (quo l u 8).1).2 ≤ 20) &&
  decide (0 ≤ (frac (quo l u 8).1.reverse).1) && decide ((frac (quo l u 8).1.reverse).1 ≤ 20) && decide ((frac (quo l u 8).1.reverse).2 = (frac (quo l u 8).1).2) &&
  decide (4 * pairs4 (rests4 (frac (quo l u 8).1).1 (frac (quo l u 8).1).2) = due4 (quo l u 8).1 (frac (quo l u 8).1).1 (frac (quo l u 8).1).2 (frac (quo l u 8).1.reverse).1) &&
  sorted4 (keys4 (rests4 (frac (quo l u 8).1).1 (frac (quo l u 8).1).2) (places4 (quo l u 8).1 (frac (quo l u 8).1).2 (frac (quo l u 8).1.reverse).1)) &&
  (keys4 (rests4 (frac (quo l u 8).1).1 (frac (quo l u 8).1).2) (places4 (quo l u 8).1 (frac (quo l u 8).1).2 (frac (quo l u 8).1.reverse).1)).isPerm ((rests4 (frac (quo l u 8).1).1 (frac (quo l u 8).1).2).zip (rangeV 1 1 ((frac (quo l u 8).1).2.toNat - 1))) &&
  decide ((frac (quo l u 8).1).1 * l = (frac (quo l u 8).1).2 * u) &&
  decide (rests4 (frac (quo l u 8).1).1 (frac (quo l u 8).1).2 = (List.range ((frac (quo l u 8).1).2.toNat - 1)).map fun (j : Nat) => ((frac (quo l u 8).1).1 * ((j : Int) + 1)) % (frac (quo l u 8).1).2)
noncomputable def row04 (a : Nat) : Bool := (List.range (a + 2)).all fun b => chk04 (3 + (a : Int)) (1 + (b : Int))
theorem row04_0 : row04 0 = true := by decide +kernel
theorem row04_1 : row04 1 = true := by decide +kernel
theorem row04_2 : row04 2 = true := by decide +kernel
theorem row04_3 : row04 3 = true := by decide +kernel
theorem row04_4 : row04 4 = true := by decide +kernel
theorem row04_5 : row04 5 = true := by decide +kernel
theorem row04_6 : row04 6 = true := by decide +kernel
theorem row04_7 : row04 7 = true := by decide +kernel
theorem row04_8 : row04 8 = true := by decide +kernel
theorem row04_9 : row04 9 = true := by decide +kernel
theorem row04_10 : row04 10 = true := by decide +kernel
theorem row04_11 : row04 11 = true := by decide +kernel
theorem row04_12 : row04 12 = true := by decide +kernel
theorem row04_13 : row04 13 = true := by decide +kernel
theorem row04_14 : row04 14 = true := by decide +kernel
theorem row04_15 : row04 15 = true := by decide +kernel
theorem row04_16 : row04 16 = true := by decide +kernel
theorem row04_17 : row04 17 = true := by decide +kernel
theorem row04_true : ∀ a, a < 18 → row04 a = true
  | 0, _ => row04_0
  | 1, _ => row04_1
  | 2, _ => row04_2
  | 3, _ => row04_3
  | 4, _ => row04_4
  | 5, _ => row04_5
  | 6, _ => row04_6
  | 7, _ => row04_7
  | 8, _ => row04_8
  | 9, _ => row04_9
  | 10, _ => row04_10
  | 11, _ => row04_11
  | 12, _ => row04_12
  | 13, _ => row04_13
  | 14, _ => row04_14
  | 15, _ => row04_15
  | 16, _ => row04_16
  | 17, _ => row04_17
  | n + 18, h => absurd h (by lia)
theorem chk04_at {l u : Int} (h3 : 3 ≤ l) (h20 : l ≤ 20) (h1 : 1 ≤ u) (hu : u < l) : chk04 l u = true := by
  have h := List.all_eq_true.mp (row04_true (l.toNat - 3) (by lia)) (u.toNat - 1) (List.mem_range.mpr (by lia))
  rwa [show 3 + ((l.toNat - 3 : Nat) : Int) = l by lia, show 1 + ((u.toNat - 1 : Nat) : Int) = u by lia] at h
/-- a row sorted by unlike keys is the only one -/
theorem sorted_only : ∀ {qs ps : List (Int × Int)}, ps.Perm qs → ps.Pairwise (fun p q => p.1 ≤ q.1) → sorted4 qs = true → ps = qs
  | [], ps, hp, _, _ => List.Perm.eq_nil hp
  | q :: qs, ps, hp, hs, hq => by
    obtain ⟨h1, h2⟩ := Bool.and_eq_true_iff.mp hq
    cases ps with
    | nil => exact absurd hp.length_eq (by simp)
    | cons p ps =>
      have hs' := List.pairwise_cons.mp hs
      have e : p = q := by
        have m1 : p ∈ q :: qs := hp.mem_iff.mp List.mem_cons_self
        have m2 : q ∈ p :: ps := hp.mem_iff.mpr List.mem_cons_self
        rcases List.mem_cons.mp m1 with e | m1
        · exact e
        · rcases List.mem_cons.mp m2 with e | m2
          · exact e.symm
          · have a1 := of_decide_eq_true (List.all_eq_true.mp h1 p m1)
            have a2 := hs'.1 q m2
            lia
      subst e
      rw [sorted_only (List.Perm.cons_inv hp) hs'.2 h2]
end Mine
end
section
open PySem PySem.W PySem.Calls PyProof.Rows
set_option Elab.async false
set_option maxRecDepth 100000
namespace Mine
/-! row 04: what the walk asks of one fraction, in the walk's own words -/
theorem facts04 {l u : Int} (h3 : 3 ≤ l) (h20 : l ≤ 20) (h1 : 1 ≤ u) (hu : u < l) : ∃ (R : List Int) (h ot : Int) (N : Nat), R = (quo l u 8).1 ∧ frac R = (h, (N : Int)) ∧ frac R.reverse = (ot, (N : Int)) ∧
    (∀ k, k < 9 → 0 ≤ (quo l u k).2.1 ∧ (quo l u k).2.1 ≤ 20 ∧ 0 ≤ (quo l u k).2.2 ∧ (quo l u k).2.2 ≤ 20 ∧ (quo l u k).1.length ≤ 8) ∧
    (∀ q ∈ R, 0 ≤ q ∧ q ≤ 20) ∧ 1 ≤ R.length ∧ R.length ≤ 8 ∧ 0 ≤ h ∧ h ≤ 20 ∧ 2 ≤ N ∧ N ≤ 20 ∧ 0 ≤ ot ∧ ot ≤ 20 ∧
    4 * pairs4 (rests4 h N) = due4 R h N ot ∧ sorted4 (keys4 (rests4 h N) (places4 R N ot)) = true ∧
    (keys4 (rests4 h N) (places4 R N ot)).Perm ((rests4 h N).zip (rangeV 1 1 (N - 1))) ∧ h * l = N * u ∧
    rests4 h N = (List.range (N - 1)).map fun (j : Nat) => (h * ((j : Int) + 1)) % (N : Int) := by
  have c := chk04_at h3 h20 h1 hu
  simp only [chk04, Bool.and_eq_true, decide_eq_true_eq, List.all_eq_true, List.isPerm_iff] at c
  obtain ⟨⟨⟨⟨⟨⟨⟨⟨⟨⟨⟨⟨⟨⟨c1, c2⟩, c3⟩, c4⟩, c5⟩, c6⟩, c7⟩, c8⟩, c9⟩, c10⟩, c11⟩, c12⟩, c13⟩, c14⟩, c15⟩ := c
  have c1' : ∀ k, k < 9 → 0 ≤ (quo l u k).2.1 ∧ (quo l u k).2.1 ≤ 20 ∧ 0 ≤ (quo l u k).2.2 ∧ (quo l u k).2.2 ≤ 20 ∧ (quo l u k).1.length ≤ 8 := fun k hk => by
    obtain ⟨⟨⟨⟨a1, a2⟩, a3⟩, a4⟩, a5⟩ := c1 k (List.mem_range.mpr hk)
    exact ⟨a1, a2, a3, a4, a5⟩
  have e : (((frac (quo l u 8).1).2.toNat : Nat) : Int) = (frac (quo l u 8).1).2 := by lia
  refine ⟨(quo l u 8).1, (frac (quo l u 8).1).1, (frac (quo l u 8).1.reverse).1, (frac (quo l u 8).1).2.toNat, rfl, Prod.ext rfl e.symm, Prod.ext rfl (by rw [e]; exact c10), c1', c2, c3, (c1' 8 (by decide)).2.2.2.2, c4, c5, by lia, by lia, c8, c9, ?_, ?_, ?_, ?_, ?_⟩
  · rw [e]; exact c11
  · rw [e]; exact c12
  · rw [e]; exact c13
  · rw [e]; exact c14
  · rw [e]; exact c15
theorem rangeV_at {k i : Nat} {a : Int} (h : (rangeV 0 1 k)[i]? = some a) : i < k ∧ a = i := by
  have hi : i < k := by have := (List.getElem?_eq_some_iff.mp h).1; simpa [rangeV] using this
  refine ⟨hi, ?_⟩
  simp [rangeV, hi] at h
  lia
theorem res2_len (pick : Nat → Nat → Bool) (out : Nat → Nat → Int) (i : Nat) : ∀ j, (res2 pick out i j).length ≤ j
  | 0 => Nat.le_refl _
  | j + 1 => by
    rw [res2, List.length_append]
    have := res2_len pick out i j
    split <;> simp <;> lia
theorem tot2_len (pick : Nat → Nat → Bool) (out : Nat → Nat → Int) (cnt : Nat → Nat) (m : Nat) : ∀ i, (∀ k, k < i → cnt k ≤ m) → (tot2 pick out cnt i).length ≤ i * m
  | 0, _ => Nat.zero_le _
  | i + 1, h => by
    rw [tot2, List.length_append, Nat.succ_mul]
    have h1 := tot2_len pick out cnt m i fun k hk => h k (by lia)
    have h2 := res2_len pick out i (cnt i)
    have h3 := h i (by lia)
    lia
end Mine
end
section
open PySem PySem.W PySem.Calls PyProof.Rows
set_option Elab.async false
set_option maxRecDepth 100000
set_option maxHeartbeats 8000000
namespace MineHead
open_top hd for PySem.Challenge.rw_pg0122_04
end MineHead
end
open PySem PySem.W PySem.Calls PyProof.Rows
set_option Elab.async false
set_option compiler.extract_closed false
set_option maxRecDepth 100000
set_option linter.unusedVariables false
namespace Mine
local macro_rules | `(tactic| walk_at "m:in") => `(tactic| first
  | with_reducible exact put_self
  | with_reducible exact List.mem_cons_self
  | (with_reducible refine mem_put_of_ne ?_ ?_; (· walk_at "m:in"); decide)
  | (with_reducible refine List.mem_cons_of_mem _ ?_; walk_at "m:in"))
local macro_rules | `(tactic| walk_at "m:sub") => `(tactic| first
  | with_reducible exact sub_nil
  | (with_reducible refine sub_cons ?_ ?_; (· walk_at "m:in"); walk_at "m:sub"))
local macro_rules | `(tactic| walk_at "m:own") => `(tactic| first
  | with_reducible exact own_nil
  | (with_reducible refine own_val ?_; walk_at "m:own")
  | (with_reducible refine own_fn ?_; walk_at "m:own")
  | (with_reducible apply own_own; (· walk_at "m:in"); walk_at "m:own")
  | (with_reducible apply own_ba; (· walk_at "m:in"); walk_at "m:own"))
local macro_rules | `(tactic| walk_at "m:mem") => `(tactic| first
  | exact List.Mem.head _
  | (refine List.Mem.tail _ ?_; walk_at "m:mem"))
local macro_rules | `(tactic| walk_at "m:wrt") => `(tactic| first
  | exact Or.inl rfl
  | exact Or.inr ⟨rfl, _, by walk_at "m:mem", rfl⟩)
local macro_rules | `(tactic| walk_at "m:sees") => `(tactic| first
  | exact Sees.nil
  | (refine Sees.cons _ rfl rfl rfl (by decide) (by decide) ?_; walk_at "m:sees")
  | (refine Sees.cons _ rfl rfl rfl (by decide) (by intro h; cases h) ?_; walk_at "m:sees"))
local macro_rules | `(tactic| walk_at "m:side") => `(tactic| first
  | assumption
  | lia
  | decide
  | exact IntMulOk.of_right (intBits_le_64 (by lia) (by lia))
  | exact IntMulOk.of_left (intBits_le_64 (by lia) (by lia)))
local macro_rules | `(tactic| walk_at "m:op") => `(tactic| first
  | with_reducible first | exact Op2.add | exact Op2.sub | exact Op2.iadd | exact Op2.xor | exact Op2.eq | exact Op2.ne | exact Op2.lt | exact Op2.le | exact Op2.gt | exact Op2.ge | exact Op1.neg | exact Op1.inv
  | ((with_reducible first | refine Op2.mod ?_ | refine Op2.shr ?_ | refine Op2.mul ?_ | refine Op2.div ?_ ?_ | refine Op2.shl ?_ ?_ | refine Op2.pow ?_ ?_) <;> walk_at "m:side"))
local macro_rules | `(tactic| walk_at "m:len") => `(tactic| first
  | decide
  | (rw [sizeLine_eq]; simp; done))
local macro_rules | `(tactic| walk_at "m:ev") => `(tactic| first
  | ((with_reducible show Ev _ _ _ _ (PySem.Expr.Constant _ _ _) _); (first | with_reducible exact Ev.int | with_reducible exact Ev.bool))
  | ((with_reducible show Ev _ _ _ _ (PySem.Expr.Name _ _) _); exact Ev.name (by walk_at "m:in") (by decide))
  | ((with_reducible show Ev _ _ _ _ (PySem.Expr.BinOp _ _ _ _) _); exact Ev.binop (by walk_at "m:ev") (by walk_at "m:ev") (by walk_at "m:op"))
  | ((with_reducible show Ev _ _ _ _ (PySem.Expr.UnaryOp _ _ _) _); exact Ev.unary (by walk_at "m:ev") (by walk_at "m:op"))
  | ((with_reducible show Ev _ _ _ _ (PySem.Expr.Call (PySem.Expr.Attribute _ _ _) [] [] _) _); exact Ev.bitLen (by walk_at "m:in"))
  | ((with_reducible show Ev _ _ _ _ (PySem.Expr.List _ _) _); exact Ev.list (by walk_at "m:evl") (by walk_at "m:len"))
  | ((with_reducible show Ev _ _ _ _ (PySem.Expr.Tuple _ _ _) _); exact Ev.tup (by walk_at "m:evl") (by walk_at "m:len")))
local macro_rules | `(tactic| walk_at "m:evl") => `(tactic| first
  | ((with_reducible show EvL _ _ _ _ [] _); exact EvL.nil)
  | ((with_reducible show EvL _ _ _ _ (_ :: _) _); exact EvL.cons (by walk_at "m:ev") (by walk_at "m:evl")))
local macro_rules | `(tactic| walk_at "m:tst") => `(tactic| first
  | ((with_reducible show Tst _ _ _ _ (PySem.Expr.Compare _ _ _ _) _); exact Tst.cmp (by walk_at "m:ev") (by walk_at "m:ev") (by walk_at "m:op"))
  | ((with_reducible show Tst _ _ _ _ (PySem.Expr.UnaryOp PySem.UnaryOp.Not _ _) _); exact Tst.not (by walk_at "m:tst")))
local macro_rules | `(tactic| walk_at "m:seesc") => `(tactic| first
  | exact SeesC.nil
  | (refine SeesC.cons _ rfl rfl rfl (by decide) ?_; walk_at "m:seesc")
  | (refine SeesC.cons _ rfl rfl rfl (by intro h; cases h) ?_; walk_at "m:seesc"))
section
open PySem PySem.W PySem.Calls PyProof.Rows
set_option Elab.async false
set_option maxRecDepth 100000
set_option linter.unusedVariables false
set_option maxHeartbeats 4000000
section
variable {G : Gb} {P : Params}
theorem fn_i2d (hG : GbOk G) (X : (MineHead.hd.heap_39 P).In G.B) (hmg : ∀ x, nsIn (MineHead.hd.heap_39 P) mainGlobals x = some none → G.mg x = none) (ht : ⟨34, 30, 32, 4, "_int2digits.<locals>.inner"⟩ ∈ G.tabs)
    {a : Int} {nn : Nat} (h0 : 0 ≤ a) (hn : 1 ≤ nn) (hn2 : nn ≤ 8000) (hb : Builtin.Int.intBits a ≤ 8000) : Fn G 40 35 [.int a, .int nn] (.list (vi (i2d nn a))) := by
  have d := defAt_of (x := "_int2digits") (f := 35) hG X (by kernel_rfl) rfl (by kernel_rfl) rfl rfl rfl
  obtain ⟨o, h1, h2⟩ := d.at_
  have hc1 := dcount_le (n := nn) (x := a) hn
  have hc2 := lt_digits hn h0
  have hdc : ((Builtin.Int.intBits a : Int) + nn - 1).fdiv nn = dcount nn a := by
    rw [fdiv_cast]; unfold dcount
    rw [show (Builtin.Int.intBits a : Int) + nn - 1 = ((Builtin.Int.intBits a + nn - 1 : Nat) : Int) by lia, ← Int.natCast_ediv]
  refine Fn.body (n := 39) (xs := ["a", "n"]) hG h1 h2 rfl d.code rfl rfl rfl ?_ rfl (by decide) (by decide) ?_ ?_
  · exact len2 fun a b => rfl
  · intro L x hx
    rcases List.mem_cons.mp hx with rfl | hx
    · exact .inl rfl
    · rcases List.mem_cons.mp hx with rfl | hx
      · exact .inr ⟨rfl, rfl⟩
      · cases hx
  · clear d h1 h2
    intro L
    refine Run.weak (ρ' := [("a", .val (.int a)), ("n", .val (.int nn))]) (fun p hp => hp) ?_
    refine Run.cons (Ex.asgNew (xs := List.replicate (dcount nn a) 0) ?_ (by walk_at "m:wrt") fun ad => ?_)
    · exact EvNew.rep0 (Ev.list (EvL.cons Ev.int EvL.nil) (by decide)) (Ev.eqI (Ev.binop (by walk_at "m:ev") (by walk_at "m:ev") (Op2.div (by lia) (PyProof.noPylong_small (by lia)))) hdc) (by lia)
    refine Run.cons (Ex.defn (clos := [("n", L + 1), ("inner", L + 3), ("a_digits", L + 2)]) hG ht rfl rfl rfl rfl (by with_unfolding_all rfl) (by walk_at "m:wrt") fun f doc pm c' ctv => ?_)
    refine Run.haveFn (fun fd => ∀ (k : Nat) (fm : Fm) (ρ : Rho) (us : List Int) (l r : Nat) (x : Int), (("inner" : Str), Slot.fn f fd) ∈ ρ → (∀ p ∈ [(("a_digits" : Str), Slot.own ad us), ("n", .val (.int nn)), ("inner", .fn f fd)], p ∈ ρ) → Sees fm fd [("a_digits", Slot.own ad us), ("n", .val (.int nn)), ("inner", .fn f fd)] →
      l < r → r ≤ us.length → us.length ≤ 8000 → 2 * (r - l) ≤ 2 ^ k → 0 ≤ x → x < 2 ^ (nn * (r - l)) → NCall G (k + 1) fm ρ (put ρ "a_digits" (.own ad (setR us l (digs nn (r - l) x)))) f [.int x, .int l, .int r] .none) ?_ ?_
    · intro k
      induction k with
      | zero => intro fm ρ us l r x _ _ _ h1 _ _ h2; lia
      | succ k ih =>
        intro fm ρ us l r x hfn hsub hsee hlr hru hus hk hx0 hx1
        refine NCall.own (n := k + 1) (xs := ["x", "L", "R"]) (y := "a_digits") (a := ad) (us := us) hG hfn rfl rfl rfl ?_ rfl (by decide) (cell_of rfl) (loc_of rfl) (by simp [fnX]) hsub hsee (.inl rfl) (hsub _ List.mem_cons_self) ?_ ?_
        · exact len3 fun a b c => rfl
        · rintro b ⟨p, hp, e⟩
          rcases List.mem_cons.mp hp with rfl | hp
          · cases e; rfl
          · rcases List.mem_cons.mp hp with rfl | hp
            · cases e
            · rcases List.mem_cons.mp hp with rfl | hp
              · cases e
              · cases hp
        · intro L'
          refine Run.weak (ρ' := [("x", .val (.int x)), ("L", .val (.int l)), ("R", .val (.int r)), ("a_digits", .own ad us), ("n", .val (.int nn)), ("inner", .fn f _)]) (fun p hp => hp) ?_
          refine Run.cons (Ex.ite (c := ((l : Int) + 1 == (r : Int))) (by walk_at "m:tst") ?_ ?_)
          · intro h
            have hr1 : r = l + 1 := by have := beq_iff_eq.mp h; lia
            subst hr1
            have e : setR us l (digs nn (l + 1 - l) x) = us.set l x := by
              rw [Nat.add_sub_cancel_left] at hx1 ⊢
              rw [digs_one hx0 (by simpa using hx1), setR_one (by lia)]
            refine Run.cons (Ex.setOwn (a := ad) (xs := us) (v := x) (k := (l : Int)) (by walk_at "m:in") (by walk_at "m:ev") (by walk_at "m:ev") (by lia) (by lia) (by lia) ?_)
            refine Run.cons (Ex.retNone ⟨rfl, ?_⟩)
            rw [e, Int.toNat_natCast]
            walk_at "m:in"
          · intro h
            have hlr2 : l + 1 < r := by
              have : ¬ ((l : Int) + 1 = r) := by simpa using h
              lia
            refine Run.nil ?_
            obtain ⟨m, hm⟩ : ∃ m, m = (l + r) / 2 := ⟨_, rfl⟩
            obtain ⟨j, hj⟩ : ∃ j, k = j + 1 := ⟨k - 1, by
              rcases k with _ | k
              · lia
              · lia⟩
            have hpj : 2 ^ (k + 1) = 2 * 2 ^ k := by rw [Nat.pow_succ]; lia
            have hpj2 : 2 ^ k = 2 * 2 ^ j := by rw [hj, Nat.pow_succ]; lia
            obtain ⟨sh, hsh⟩ : ∃ sh, sh = nn * (m - l) := ⟨_, rfl⟩
            have hb1 : nn * (r - l) ≤ 64000000 := by
              have : nn * (r - l) ≤ 8000 * 8000 := Nat.mul_le_mul hn2 (by lia)
              lia
            have hsl : sh ≤ nn * (r - l) := by rw [hsh]; exact Nat.mul_le_mul_left _ (by lia)
            have hxb : x.natAbs < 2 ^ (nn * (r - l)) := by
              have : ((x.natAbs : Nat) : Int) < ((2 ^ (nn * (r - l)) : Nat) : Int) := by rw [kbt_cast]; lia
              exact Int.ofNat_lt.mp this
            have hub : Builtin.Int.intBits (x / 2 ^ sh) ≤ nn * (r - l) := by
              rw [← fdiv_two]; exact intBits_fdiv_le (bits_le hxb)
            have hsplit : digs nn (r - l) x = digs nn (m - l) (x % 2 ^ sh) ++ digs nn (r - m) (x / 2 ^ sh) := by
              rw [show r - l = (m - l) + (r - m) by lia, digs_split, hsh]
            have hp1 : (2 : Int) ^ (nn * (r - l)) = 2 ^ sh * 2 ^ (nn * (r - m)) := by
              rw [← Int.pow_add, hsh, ← Nat.mul_add]; congr 2; lia
            have hmod0 : 0 ≤ x % 2 ^ sh := Int.emod_nonneg _ (Int.ne_of_gt (two_pos sh))
            have hmod1 : x % 2 ^ sh < 2 ^ (nn * (m - l)) := by rw [← hsh]; exact Int.emod_lt_of_pos _ (two_pos sh)
            have hdiv0 : 0 ≤ x / 2 ^ sh := Int.ediv_nonneg hx0 (Int.le_of_lt (two_pos sh))
            have hdiv1 : x / 2 ^ sh < 2 ^ (nn * (r - m)) := by
              refine Int.ediv_lt_of_lt_mul (two_pos sh) ?_
              rw [Int.mul_comm, ← hp1]; exact hx1
            refine Run.cons (Ex.asg (v := .int m) (Ev.eqI (by walk_at "m:ev") (by rw [show (1 : Int).toNat = 1 from rfl, fdiv_two]; lia)) (by walk_at "m:wrt") ?_)
            refine Run.cons (Ex.asg (v := .int sh) (Ev.eqI (by walk_at "m:ev") (by rw [hsh, Int.natCast_mul, Int.mul_comm]; congr 1; lia)) (by walk_at "m:wrt") ?_)
            refine Run.cons (Ex.asg (v := .int (x / 2 ^ sh)) (Ev.eqI (by walk_at "m:ev") (by rw [Int.toNat_natCast, fdiv_two])) (by walk_at "m:wrt") ?_)
            refine Run.cons (Ex.asg (v := .int (x % 2 ^ sh)) (Ev.eqI (by walk_at "m:ev") (by rw [Int.toNat_natCast, xor_low])) (by walk_at "m:wrt") ?_)
            refine Run.cons (Ex.callN (by walk_at "m:in") (by walk_at "m:evl") (ih _ _ us l m (x % 2 ^ sh) (by walk_at "m:in") (by walk_at "m:sub") (by walk_at "m:sees") (by lia) (by lia) hus (by lia) hmod0 hmod1) (Nat.le_refl _) ?_)
            have hlen : (setR us l (digs nn (m - l) (x % 2 ^ sh))).length = us.length := setR_length (by rw [digs_length]; lia)
            refine Run.cons (Ex.callN (by walk_at "m:in") (by walk_at "m:evl") (ih _ _ (setR us l (digs nn (m - l) (x % 2 ^ sh))) m r (x / 2 ^ sh) (by walk_at "m:in") (by walk_at "m:sub") (by walk_at "m:sees") (by lia) (by lia) (by lia) (by lia) hdiv0 hdiv1) (Nat.le_refl _) ?_)
            refine Run.nil ⟨rfl, ?_⟩
            have e : setR us l (digs nn (r - l) x) = setR (setR us l (digs nn (m - l) (x % 2 ^ sh))) m (digs nn (r - m) (x / 2 ^ sh)) := by
              have := setR_two (us := us) (L := l) (a := digs nn (m - l) (x % 2 ^ sh)) (b := digs nn (r - m) (x / 2 ^ sh)) (by rw [digs_length, digs_length]; lia)
              rw [digs_length, show l + (m - l) = m by lia] at this
              rw [hsplit, this]
            rw [e]
            walk_at "m:in"
    · intro hin
      refine Run.cons' [("a_digits", .own ad (i2d nn a))] (Ex.ite (c := (a != 0)) (Tst.plain (by walk_at "m:ev") Tru.int) ?_ ?_) ?_
      · intro h
        have ha : a ≠ 0 := by simpa using h
        have hd1 : 0 < dcount nn a := by
          rcases Nat.eq_zero_or_pos (dcount nn a) with q | q
          · rw [q] at hc2; simp at hc2; lia
          · exact q
        have e : i2d nn a = setR (List.replicate (dcount nn a) 0) 0 (digs nn (dcount nn a - 0) a) := by
          rw [setR_all (by simp [digs_length])]; rfl
        refine Run.cons (Ex.callN (by walk_at "m:in") (EvL.cons (by walk_at "m:ev") (EvL.cons (Ev.eqI (i := 0) Ev.int rfl) (EvL.cons (Ev.eqI (Ev.lenO hG (hmg _ (by kernel_rfl)) (by walk_at "m:in") (by simp; lia)) (j := (dcount nn a : Int)) (by simp)) EvL.nil))) (m := 15)
          (hin 14 _ _ (List.replicate (dcount nn a) 0) 0 (dcount nn a) a (by walk_at "m:in") (by walk_at "m:sub") (by walk_at "m:sees") (by lia) (by simp) (by simp; lia) (by lia) h0 hc2) (by lia) ?_)
        · rw [e]
          exact Run.nil (by walk_at "m:sub")
      · intro h
        have ha : a = 0 := by simpa using h
        subst ha
        have e : i2d nn 0 = List.replicate (dcount nn 0) 0 := by
          have : dcount nn 0 = 0 := by unfold dcount Builtin.Int.intBits; simp; lia
          rw [i2d, this]; rfl
        rw [e]
        exact Run.nil (by walk_at "m:sub")
      · refine Run.freeze (by walk_at "m:in") ?_
        exact Run.cons (Ex.ret (by walk_at "m:ev") rfl)
end
end
section
open PySem PySem.W PySem.Calls PyProof.Rows
set_option Elab.async false
set_option maxRecDepth 100000
set_option linter.unusedVariables false
set_option maxHeartbeats 4000000
section
variable {G : Gb} {P : Params}
theorem seg_append {ds : List Int} {l m r : Nat} (h1 : l ≤ m) (h2 : m ≤ r) : (ds.drop l).take (r - l) = (ds.drop l).take (m - l) ++ (ds.drop m).take (r - m) := by
  rw [show r - l = (m - l) + (r - m) by lia, List.take_add, List.drop_drop, show l + (m - l) = m by lia]
theorem fn_d2i (hG : GbOk G) (X : (MineHead.hd.heap_39 P).In G.B) (hmg : ∀ x, nsIn (MineHead.hd.heap_39 P) mainGlobals x = some none → G.mg x = none) (ht : ⟨41, 37, 47, 4, "_digits2int.<locals>.inner"⟩ ∈ G.tabs)
    {ds : List Int} {nn M : Nat} (hn : 1 ≤ nn) (hn2 : nn ≤ 8000) (hl : ds.length ≤ 8000) (hM : M ≤ 1000000) (hd : ∀ d ∈ ds, d.natAbs ≤ 2 ^ M) : Fn G 40 42 [.list (vi ds), .int nn] (.int (undig nn ds)) := by
  have d := defAt_of (x := "_digits2int") (f := 42) hG X (by kernel_rfl) rfl (by kernel_rfl) rfl rfl rfl
  obtain ⟨o, h1, h2⟩ := d.at_
  refine Fn.body (n := 39) (xs := ["digits", "n"]) hG h1 h2 rfl d.code rfl rfl rfl ?_ rfl (by decide) (by decide) ?_ ?_
  · exact len2 fun a b => rfl
  · intro L x hx
    rcases List.mem_cons.mp hx with rfl | hx
    · exact .inr ⟨rfl, rfl⟩
    · rcases List.mem_cons.mp hx with rfl | hx
      · exact .inr ⟨rfl, rfl⟩
      · cases hx
  · clear d h1 h2
    intro L
    refine Run.weak (ρ' := [("digits", .val (.list (vi ds))), ("n", .val (.int nn))]) (fun p hp => hp) ?_
    refine Run.cons (Ex.defn (clos := [("n", L + 2), ("inner", L + 3), ("digits", L + 1)]) hG ht rfl rfl rfl rfl (by with_unfolding_all rfl) (by walk_at "m:wrt") fun f doc pm c' ctv => ?_)
    refine Run.haveFn (fun fd => ∀ (k : Nat) (fm : Fm) (ρ : Rho) (l r : Nat), (("inner" : Str), Slot.fn f fd) ∈ ρ → (∀ p ∈ [(("digits" : Str), Slot.val (.list (vi ds))), ("n", .val (.int nn)), ("inner", .fn f fd)], p ∈ ρ) → Sees fm fd [("digits", Slot.val (.list (vi ds))), ("n", .val (.int nn)), ("inner", .fn f fd)] →
      l < r → r ≤ ds.length → 2 * (r - l) ≤ 2 ^ k → NCall G (k + 1) fm ρ ρ f [.int l, .int r] (.int (undig nn ((ds.drop l).take (r - l))))) ?_ ?_
    · intro k
      induction k with
      | zero => intro fm ρ l r _ _ _ h1 _ h2; lia
      | succ k ih =>
        intro fm ρ l r hfn hsub hsee hlr hru hk
        refine NCall.pure (n := k + 1) (xs := ["L", "R"]) hG hfn rfl rfl rfl ?_ rfl (by decide) (cell_of rfl) (loc_of rfl) (by simp) hsub hsee (.inr ⟨_, rfl⟩) ?_ ?_
        · exact len2 fun a b => rfl
        · rintro b ⟨p, hp, e⟩
          rcases List.mem_cons.mp hp with rfl | hp
          · cases e
          · rcases List.mem_cons.mp hp with rfl | hp
            · cases e
            · rcases List.mem_cons.mp hp with rfl | hp
              · cases e
              · cases hp
        · intro L'
          refine Run.weak (ρ' := [("L", .val (.int l)), ("R", .val (.int r)), ("digits", .val (.list (vi ds))), ("n", .val (.int nn)), ("inner", .fn f _)]) (fun p hp => hp) ?_
          refine Run.cons (Ex.ite (c := ((l : Int) + 1 == (r : Int))) (by walk_at "m:tst") ?_ ?_)
          · intro h
            have hr1 : r = l + 1 := by have := beq_iff_eq.mp h; lia
            subst hr1
            refine Run.cons (Ex.ret (v := .int ds[l]) (Ev.item (xs := vi ds) (k := (l : Int)) (by walk_at "m:ev") (by walk_at "m:ev") (by lia) (by lia) (by simp)) ?_)
            rw [show l + 1 - l = 1 by lia, List.drop_eq_getElem_cons (by lia), List.take_succ_cons, List.take_zero]
            simp only [undig, Int.mul_zero, Int.add_zero]
          · intro h
            have hlr2 : l + 1 < r := by
              have : ¬ ((l : Int) + 1 = r) := by simpa using h
              lia
            refine Run.nil ?_
            obtain ⟨m, hm⟩ : ∃ m, m = (l + r) / 2 := ⟨_, rfl⟩
            obtain ⟨j, hj⟩ : ∃ j, k = j + 1 := ⟨k - 1, by
              rcases k with _ | k
              · lia
              · lia⟩
            have hpj : 2 ^ (k + 1) = 2 * 2 ^ k := by rw [Nat.pow_succ]; lia
            have hpj2 : 2 ^ k = 2 * 2 ^ j := by rw [hj, Nat.pow_succ]; lia
            obtain ⟨sh, hsh⟩ : ∃ sh, sh = nn * (m - l) := ⟨_, rfl⟩
            have hb1 : nn * (r - l) ≤ 64000000 := by
              have : nn * (r - l) ≤ 8000 * 8000 := Nat.mul_le_mul hn2 (by lia)
              lia
            have hb2 : sh + nn * (r - m) = nn * (r - l) := by rw [hsh, ← Nat.mul_add]; congr 1; lia
            have hub : Builtin.Int.intBits (undig nn ((ds.drop m).take (r - m))) ≤ M + nn * (r - m) := by
              refine bits_le ?_
              have q := undig_bound (n := nn) (M := M) hn (ds := (ds.drop m).take (r - m)) fun e he => hd e (List.mem_of_mem_drop (List.mem_of_mem_take he))
              have hlen : ((ds.drop m).take (r - m)).length = r - m := by simp; lia
              rw [hlen] at q
              refine Nat.lt_of_le_of_lt q ?_
              rw [Nat.pow_add]
              exact Nat.mul_lt_mul_of_pos_left (by have := Nat.one_le_two_pow (n := nn * (r - m)); lia) (Nat.two_pow_pos M)
            refine Run.cons (Ex.asg (v := .int m) (Ev.eqI (by walk_at "m:ev") (by rw [show (1 : Int).toNat = 1 from rfl, fdiv_two]; lia)) (by walk_at "m:wrt") ?_)
            refine Run.cons (Ex.asg (v := .int sh) (Ev.eqI (by walk_at "m:ev") (by rw [hsh, Int.natCast_mul, Int.mul_comm]; congr 1; lia)) (by walk_at "m:wrt") ?_)
            refine Run.cons (Ex.ret (v := .int (undig nn ((ds.drop m).take (r - m)) * 2 ^ (sh : Int).toNat + undig nn ((ds.drop l).take (m - l)))) ?_ ?_)
            · refine Ev.binop (Ev.binop (Ev.callN (by walk_at "m:in") (by walk_at "m:evl") (ih _ _ m r (by walk_at "m:in") (by walk_at "m:sub") (by walk_at "m:sees") (by lia) (by lia) (by lia)) (Nat.le_refl _)) (by walk_at "m:ev") (Op2.shl (by lia) (by lia)))
                (Ev.callN (by walk_at "m:in") (by walk_at "m:evl") (ih _ _ l m (by walk_at "m:in") (by walk_at "m:sub") (by walk_at "m:sees") (by lia) (by lia) (by lia)) (Nat.le_refl _)) Op2.add
            · rw [seg_append (show l ≤ m by lia) (show m ≤ r by lia), undig_append, Int.toNat_natCast, hsh, show ((ds.drop l).take (m - l)).length = m - l by simp; lia, Int.mul_comm, Int.add_comm]
    · intro hin
      refine Run.cons (Ex.ret (v := .int (undig nn ds)) (Ev.ite (c := decide (vi ds ≠ [])) (Tst.plain (by walk_at "m:ev") (Tru.list (by simp; lia))) ?_ ?_) rfl)
      · intro h
        have hne : ds ≠ [] := by simpa using h
        have hlen : 0 < ds.length := List.length_pos_iff.mpr hne
        exact Ev.eqI (i := undig nn ((ds.drop 0).take (ds.length - 0))) (Ev.callN (by walk_at "m:in") (EvL.cons (Ev.eqI (i := 0) Ev.int rfl) (EvL.cons (Ev.eqI (j := (ds.length : Int)) (Ev.callB hG (hmg _ (by kernel_rfl)) (by rfl) (.inl ⟨_, rfl⟩) (EvL.cons (by walk_at "m:ev") EvL.nil) (OpL.len (xs := vi ds) (by simp; lia))) (by simp)) EvL.nil)) (m := 15)
          (hin 14 _ _ 0 ds.length (by walk_at "m:in") (by walk_at "m:sub") (by walk_at "m:sees") (by lia) (by lia) (by lia)) (by lia)) (by simp)
      · intro h
        have hne : ds = [] := by simpa using h
        subst hne
        exact Ev.int
end
end
section
open PySem PySem.W PySem.Calls PyProof.Rows
set_option Elab.async false
set_option maxRecDepth 100000
set_option linter.unusedVariables false
set_option maxHeartbeats 4000000
section
variable {G : Gb} {P : Params}
theorem fn_d2n (hG : GbOk G) (X : (MineHead.hd.heap_39 P).In G.B) (hmg : ∀ x, nsIn (MineHead.hd.heap_39 P) mainGlobals x = some none → G.mg x = none)
    {a b n : Int} (hb : b ≠ 0) (hb2 : b.natAbs.log2 < 9000) (hn : (Builtin.Int.intBits a : Int) - n ≤ 4000) : Fn G 10 21 [.int a, .int b, .int n] (.tuple [.int (a.fdiv b), .int (a.fmod b)]) := by
  have d := defAt_of (x := "_div2n1n") (f := 21) hG X (by kernel_rfl) rfl (by kernel_rfl) rfl rfl rfl
  obtain ⟨o, h1, h2⟩ := d.at_
  refine Fn.body (n := 9) (xs := ["a", "b", "n"]) hG h1 h2 rfl d.code rfl rfl rfl ?_ rfl (by decide) (by decide) ?_ ?_
  · exact len3 fun a b c => rfl
  · intro L x hx
    rcases List.mem_cons.mp hx with rfl | hx
    · exact .inl rfl
    · rcases List.mem_cons.mp hx with rfl | hx
      · exact .inl rfl
      · rcases List.mem_cons.mp hx with rfl | hx
        · exact .inl rfl
        · cases hx
  · clear d h1 h2
    intro L
    refine Run.weak (ρ' := [("a", .val (.int a)), ("b", .val (.int b)), ("n", .val (.int n))]) (fun p hp => hp) ?_
    obtain ⟨tk, hk⟩ := int_of_ns (K := MineHead.hd.heap_39 P) (x := "_DIV_LIMIT") (i := 4000) (by kernel_rfl)
    refine Run.cons (Ex.ite (c := true) (Tst.eq (Tst.cmp (by walk_at "m:ev") (Ev.globI (i := 4000) hG (mg_of X hG.g hk)) (by walk_at "m:op")) (by simpa using hn)) ?_ (fun h => by cases h))
    intro _
    refine Run.cons (Ex.ret (v := .tuple [.int (a.fdiv b), .int (a.fmod b)]) ?_ rfl)
    exact Ev.callB hG (hmg _ (by kernel_rfl)) (by rfl) (.inl ⟨_, rfl⟩) (by walk_at "m:evl") (OpL.divmod hb (PyProof.noPylong_of_log2 hb2))
end
end
section
open PySem PySem.W PySem.Calls PyProof.Rows
set_option Elab.async false
set_option maxRecDepth 100000
set_option linter.unusedVariables false
set_option maxHeartbeats 4000000
section
variable {G : Gb} {P : Params}
theorem fn_dmp (hG : GbOk G) (X : (MineHead.hd.heap_39 P).In G.B) (hmg : ∀ x, nsIn (MineHead.hd.heap_39 P) mainGlobals x = some none → G.mg x = none)
    (ht1 : ⟨34, 30, 32, 4, "_int2digits.<locals>.inner"⟩ ∈ G.tabs) (ht2 : ⟨41, 37, 47, 4, "_digits2int.<locals>.inner"⟩ ∈ G.tabs)
    {a b : Int} (ha : 0 ≤ a) (hb : 0 < b) (hba : Builtin.Int.intBits a ≤ 8000) (hbb : Builtin.Int.intBits b ≤ 4000) : Fn G 50 49 [.int a, .int b] (.tuple [.int (a.fdiv b), .int (a.fmod b)]) := by
  have d := defAt_of (x := "_divmod_pos") (f := 49) hG X (by kernel_rfl) rfl (by kernel_rfl) rfl rfl rfl
  have di := defAt_of (x := "_int2digits") (f := 35) hG X (by kernel_rfl) rfl (by kernel_rfl) rfl rfl rfl
  have dd := defAt_of (x := "_digits2int") (f := 42) hG X (by kernel_rfl) rfl (by kernel_rfl) rfl rfl rfl
  have dn := defAt_of (x := "_div2n1n") (f := 21) hG X (by kernel_rfl) rfl (by kernel_rfl) rfl rfl rfl
  obtain ⟨o, h1, h2⟩ := d.at_
  obtain ⟨nn, hnn⟩ : ∃ nn, nn = Builtin.Int.intBits b := ⟨_, rfl⟩
  have hn1 : 1 ≤ nn := by rw [hnn]; exact bits_pos (by lia)
  have hn2 : nn ≤ 4000 := by lia
  have hb2 : b ≤ 2 ^ nn := by rw [hnn]; exact Int.le_of_lt (bits_lt (by lia))
  have hlog : b.natAbs.log2 < 9000 := by
    have : Builtin.Int.intBits b = b.natAbs.log2 + 1 := by unfold Builtin.Int.intBits; rw [if_neg (by simp; lia)]
    lia
  have hlen : (i2d nn a).length ≤ 8000 := by rw [i2d, digs_length]; exact Nat.le_trans (dcount_le hn1) hba
  have hdig : ∀ e ∈ (i2d nn a).reverse, 0 ≤ e ∧ e < 2 ^ nn := fun e he => digs_range e (List.mem_reverse.mp he)
  refine Fn.body (n := 49) (xs := ["a", "b"]) hG h1 h2 rfl d.code rfl rfl rfl ?_ rfl (by decide) (by decide) ?_ ?_
  · exact len2 fun a b => rfl
  · intro L x hx
    rcases List.mem_cons.mp hx with rfl | hx
    · exact .inl rfl
    · rcases List.mem_cons.mp hx with rfl | hx
      · exact .inl rfl
      · cases hx
  · clear d h1 h2
    intro L
    refine Run.weak (ρ' := [("a", .val (.int a)), ("b", .val (.int b))]) (fun p hp => hp) ?_
    refine Run.cons (Ex.asg (v := .int nn) (Ev.eqI (by walk_at "m:ev") (by rw [hnn])) (by walk_at "m:wrt") ?_)
    refine Run.cons (Ex.asg (v := .list (vi (i2d nn a))) (Ev.callG hG di.mg di.callee (by walk_at "m:evl") ((fn_i2d hG X hmg ht1 ha hn1 (by lia) hba).op (by lia))) (by walk_at "m:wrt") ?_)
    refine Run.cons (Ex.asg (v := .int 0) (by walk_at "m:ev") (by walk_at "m:wrt") ?_)
    refine Run.cons (Ex.asgNew (xs := []) (EvNew.list EvL.nil (by decide)) (by walk_at "m:wrt") fun qa => ?_)
    refine Run.cons (Ex.for_ (xs := vi (i2d nn a).reverse) ?_ (fun i => [("b", .val (.int b)), ("n", .val (.int nn)), ("r", .val (.int (dmF nn b ((i2d nn a).reverse.take i)).2)), ("q_digits", .own qa (dmF nn b ((i2d nn a).reverse.take i)).1)]) ?_ ?_ (by walk_at "m:wrt") ?_ ?_)
    · have q := OpIt.reversed (G := G) (n := 49) (xs := vi (i2d nn a))
      rw [← List.map_reverse] at q
      exact EvIt.callB hG (hmg _ (by kernel_rfl)) (by rfl) (.inr (.inl ⟨_, rfl⟩)) (by walk_at "m:evl") q
    · rw [List.take_zero]
      show ∀ p ∈ ([("b", .val (.int b)), ("n", .val (.int nn)), ("r", .val (.int 0)), ("q_digits", .own qa [])] : Rho), p ∈ _
      walk_at "m:sub"
    · intro i; (try dsimp only); walk_at "m:own"
    · intro i v hv
      dsimp only
      obtain ⟨e, he, rfl⟩ : ∃ e, (i2d nn a).reverse[i]? = some e ∧ V.int e = v := by
        rw [List.getElem?_map] at hv
        simpa using hv
      have hi : i < (i2d nn a).reverse.length := (List.getElem?_eq_some_iff.mp he).1
      have het := hdig e (List.mem_of_getElem? he)
      have hts : (i2d nn a).reverse.take (i + 1) = (i2d nn a).reverse.take i ++ [e] := by rw [List.take_add_one, he]; rfl
      have htb := dmF_t hb hb2 (l := (i2d nn a).reverse.take i) het.1 het.2
      have hR := (dmF_eq (nn := nn) hb ((i2d nn a).reverse.take i)).2
      have hql : (dmF nn b ((i2d nn a).reverse.take i)).1.length ≤ 8000 := by rw [dmF_len]; simp; lia
      have hnx := dmF_snoc nn b ((i2d nn a).reverse.take i) e
      rw [← hts] at hnx
      generalize hF' : dmF nn b ((i2d nn a).reverse.take (i + 1)) = F' at hnx ⊢
      generalize hF : dmF nn b ((i2d nn a).reverse.take i) = F at hnx htb hR hql ⊢
      obtain ⟨qs, r⟩ := F
      simp only at hnx htb hR hql ⊢
      subst hnx
      obtain ⟨t, ht⟩ : ∃ t, t = r * 2 ^ nn + e := ⟨_, rfl⟩
      rw [← ht] at htb ⊢
      have htbits : Builtin.Int.intBits t ≤ 2 * nn := bits_le (by
        have : ((t.natAbs : Nat) : Int) < ((2 ^ (2 * nn) : Nat) : Int) := by rw [kbt_cast]; lia
        exact Int.ofNat_lt.mp this)
      have hrb : Builtin.Int.intBits r ≤ nn := bits_le (by
        have : ((r.natAbs : Nat) : Int) < ((2 ^ nn : Nat) : Int) := by rw [kbt_cast]; lia
        exact Int.ofNat_lt.mp this)
      refine Run.cons (Ex.asgT (xs := ["q_digit", "r"]) (vs := [.int (t / b), .int (t % b)]) ?_ (.cons (by walk_at "m:wrt") (.cons (by walk_at "m:wrt") .nil)) rfl ?_)
      · have q := (fn_d2n (a := t) (b := b) (n := (nn : Int)) hG X hmg (by lia) hlog (by lia)).op (n := 49) (by lia)
        rw [Int.fdiv_eq_ediv_of_nonneg _ (by lia), Int.fmod_eq_emod_of_nonneg _ (by lia)] at q
        exact Ev.callG hG dn.mg dn.callee (EvL.cons (Ev.eqI (j := t) (Ev.binop (Ev.binop (by walk_at "m:ev") (by walk_at "m:ev") (Op2.shl (by lia) (by lia))) (by walk_at "m:ev") Op2.add) (by rw [ht, Int.toNat_natCast])) (by walk_at "m:evl")) q
      · simp only [putAll]
        refine Run.cons (Ex.append (a := qa) (xs := qs) (by walk_at "m:in") (by walk_at "m:ev") (by rw [sizeLine_eq]; lia) ?_)
        exact Run.nil (by walk_at "m:sub")
    · rw [show (vi (i2d nn a).reverse).length = (i2d nn a).reverse.length by simp, List.take_length]
      obtain ⟨hend1, hend2⟩ := dmF_end (nn := nn) hb (i2d nn a)
      rw [undig_i2d hn1 ha] at hend1 hend2
      have hql := dmF_len nn b (i2d nn a).reverse
      have hqq := dmF_q hb hb2 (i2d nn a).reverse hdig
      generalize hF : dmF nn b (i2d nn a).reverse = F at *
      obtain ⟨qs, r⟩ := F
      simp only at hend1 hend2 hql hqq ⊢
      subst hend2
      rw [List.length_reverse] at hql
      refine Run.cons (Ex.revO (a := qa) (xs := qs) (by walk_at "m:in") (by rw [sizeLine_eq]; lia) ?_)
      refine Run.freeze (by walk_at "m:in") ?_
      refine Run.cons (Ex.asg (v := .int (a / b)) (Ev.eqI (Ev.callG hG dd.mg dd.callee (by walk_at "m:evl") ((fn_d2i hG X hmg ht2 (M := 2 * nn) (ds := qs.reverse) hn1 (by lia) (by simp; lia) (by lia) (fun q hq => hqq q (List.mem_reverse.mp hq))).op (by lia))) hend1) (by walk_at "m:wrt") ?_)
      refine Run.cons (Ex.ret (v := .tuple [.int (a / b), .int (a % b)]) (by walk_at "m:ev") ?_)
      rw [Int.fdiv_eq_ediv_of_nonneg _ (by lia), Int.fmod_eq_emod_of_nonneg _ (by lia)]
end
end
section
open PySem PySem.W PySem.Calls PyProof.Rows
set_option Elab.async false
set_option maxRecDepth 100000
set_option linter.unusedVariables false
set_option maxHeartbeats 4000000
section
variable {G : Gb} {P : Params}
theorem fn_dm0 (hG : GbOk G) (X : (MineHead.hd.heap_39 P).In G.B) (hmg : ∀ x, nsIn (MineHead.hd.heap_39 P) mainGlobals x = some none → G.mg x = none)
    (ht1 : ⟨34, 30, 32, 4, "_int2digits.<locals>.inner"⟩ ∈ G.tabs) (ht2 : ⟨41, 37, 47, 4, "_digits2int.<locals>.inner"⟩ ∈ G.tabs)
    {a b : Int} (ha : 0 ≤ a) (hb : 0 < b) (hba : Builtin.Int.intBits a ≤ 8000) (hbb : Builtin.Int.intBits b ≤ 4000) : Fn G 60 56 [.int a, .int b] (.tuple [.int (a.fdiv b), .int (a.fmod b)]) := by
  have d := defAt_of (x := "int_divmod") (f := 56) hG X (by kernel_rfl) rfl (by kernel_rfl) rfl rfl rfl
  have dp := defAt_of (x := "_divmod_pos") (f := 49) hG X (by kernel_rfl) rfl (by kernel_rfl) rfl rfl rfl
  obtain ⟨o, h1, h2⟩ := d.at_
  refine Fn.body (n := 59) (xs := ["a", "b"]) hG h1 h2 rfl d.code rfl rfl rfl ?_ rfl (by decide) (by decide) ?_ ?_
  · exact len2 fun a b => rfl
  · intro L x hx
    rcases List.mem_cons.mp hx with rfl | hx
    · exact .inl rfl
    · rcases List.mem_cons.mp hx with rfl | hx
      · exact .inl rfl
      · cases hx
  · clear d h1 h2
    intro L
    refine Run.weak (ρ' := [("a", .val (.int a)), ("b", .val (.int b))]) (fun p hp => hp) ?_
    refine Run.cons (Ex.ite (c := false) (Tst.eq (by walk_at "m:tst") (by simp; lia)) (fun h => by cases h) fun _ => ?_)
    refine Run.cons (Ex.ite (c := false) (Tst.eq (by walk_at "m:tst") (by simp; lia)) (fun h => by cases h) fun _ => ?_)
    refine Run.cons (Ex.ite (c := false) (Tst.eq (by walk_at "m:tst") (by simp; lia)) (fun h => by cases h) fun _ => ?_)
    exact Run.cons (Ex.ret (Ev.callG hG dp.mg dp.callee (by walk_at "m:evl") ((fn_dmp hG X hmg ht1 ht2 ha hb hba hbb).op (by lia))) rfl)
theorem fn_dm (hG : GbOk G) (X : (MineHead.hd.heap_39 P).In G.B) (hmg : ∀ x, nsIn (MineHead.hd.heap_39 P) mainGlobals x = some none → G.mg x = none)
    (ht1 : ⟨34, 30, 32, 4, "_int2digits.<locals>.inner"⟩ ∈ G.tabs) (ht2 : ⟨41, 37, 47, 4, "_digits2int.<locals>.inner"⟩ ∈ G.tabs)
    {a b : Int} (hb : 0 < b) (hba : Builtin.Int.intBits a ≤ 8000) (hbb : Builtin.Int.intBits b ≤ 4000) : Fn G 70 56 [.int a, .int b] (.tuple [.int (a.fdiv b), .int (a.fmod b)]) := by
  have d := defAt_of (x := "int_divmod") (f := 56) hG X (by kernel_rfl) rfl (by kernel_rfl) rfl rfl rfl
  have dp := defAt_of (x := "_divmod_pos") (f := 49) hG X (by kernel_rfl) rfl (by kernel_rfl) rfl rfl rfl
  obtain ⟨o, h1, h2⟩ := d.at_
  refine Fn.body (n := 69) (xs := ["a", "b"]) hG h1 h2 rfl d.code rfl rfl rfl ?_ rfl (by decide) (by decide) ?_ ?_
  · exact len2 fun a b => rfl
  · intro L x hx
    rcases List.mem_cons.mp hx with rfl | hx
    · exact .inl rfl
    · rcases List.mem_cons.mp hx with rfl | hx
      · exact .inl rfl
      · cases hx
  · clear h1 h2
    intro L
    refine Run.weak (ρ' := [("a", .val (.int a)), ("b", .val (.int b))]) (fun p hp => hp) ?_
    refine Run.cons (Ex.ite (c := false) (Tst.eq (by walk_at "m:tst") (by simp; lia)) (fun h => by cases h) fun _ => ?_)
    refine Run.cons (Ex.ite (c := false) (Tst.eq (by walk_at "m:tst") (by simp; lia)) (fun h => by cases h) fun _ => ?_)
    refine Run.cons (Ex.ite (c := decide (a < 0)) (by walk_at "m:tst") (fun h => ?_) fun h => ?_)
    · have ha : a < 0 := by simpa using h
      have hnb : Builtin.Int.intBits (-a - 1) ≤ 8000 := intBits_le_of_natAbs (y := a) (by lia) hba
      refine Run.cons (Ex.asgT (xs := ["q", "r"]) (vs := [.int ((-a - 1) / b), .int ((-a - 1) % b)]) ?_ (.cons (by walk_at "m:wrt") (.cons (by walk_at "m:wrt") .nil)) rfl ?_)
      · have q := (fn_dm0 (a := -a - 1) (b := b) hG X hmg ht1 ht2 (by lia) hb hnb hbb).op (n := 69) (by lia)
        rw [Int.fdiv_eq_ediv_of_nonneg _ (by lia), Int.fmod_eq_emod_of_nonneg _ (by lia)] at q
        exact Ev.callG hG d.mg d.callee (EvL.cons (Ev.eqI (by walk_at "m:ev") (kbt_not a)) (by walk_at "m:evl")) q
      · simp only [putAll]
        refine Run.cons (Ex.ret (by walk_at "m:ev") ?_)
        have hu := (Int.ediv_emod_unique (a := a) (b := b) (r := b - (-a - 1) % b - 1) (q := -((-a - 1) / b) - 1) hb).mpr (by
          have e := Int.mul_ediv_add_emod (-a - 1) b
          have h0 := Int.emod_nonneg (-a - 1) (Int.ne_of_gt hb)
          have h1 := Int.emod_lt_of_pos (-a - 1) hb
          refine ⟨?_, by lia, by lia⟩
          have : b * (-((-a - 1) / b) - 1) = -(b * ((-a - 1) / b)) - b := by rw [Int.mul_sub, Int.mul_neg, Int.mul_one]
          lia)
        rw [Int.fdiv_eq_ediv_of_nonneg _ (by lia), Int.fmod_eq_emod_of_nonneg _ (by lia), hu.1, hu.2, kbt_not, kbt_not]
        congr 3
        congr 1
        lia
    · have ha : 0 ≤ a := by simpa using h
      exact Run.cons (Ex.ret (Ev.callG hG dp.mg dp.callee (by walk_at "m:evl") ((fn_dmp hG X hmg ht1 ht2 ha hb hba hbb).op (by lia))) rfl)
theorem op_dm (hG : GbOk G) (X : (MineHead.hd.heap_39 P).In G.B) (hmg : ∀ x, nsIn (MineHead.hd.heap_39 P) mainGlobals x = some none → G.mg x = none)
    (ht1 : ⟨34, 30, 32, 4, "_int2digits.<locals>.inner"⟩ ∈ G.tabs) (ht2 : ⟨41, 37, 47, 4, "_digits2int.<locals>.inner"⟩ ∈ G.tabs)
    {n : Nat} {a b : Int} (hn : 70 ≤ n) (hb : 0 < b) (hba : Builtin.Int.intBits a ≤ 8000) (hbb : Builtin.Int.intBits b ≤ 4000) : OpL G n (fun cs => PySem.call (.ref 56) cs) [.int a, .int b] (.tuple [.int (a / b), .int (a % b)]) := by
  have q := (fn_dm (a := a) (b := b) hG X hmg ht1 ht2 hb hba hbb).op hn
  rwa [Int.fdiv_eq_ediv_of_nonneg _ (by lia), Int.fmod_eq_emod_of_nonneg _ (by lia)] at q
end
end
section
open PySem PySem.W PySem.Calls PyProof.Rows
set_option Elab.async false
set_option maxRecDepth 100000
set_option linter.unusedVariables false
set_option maxHeartbeats 4000000
section
variable {G : Gb} {P : Params}
theorem fn_byteswap (hG : GbOk G) (X : (MineHead.hd.heap_39 P).In G.B) (hmg : ∀ x, nsIn (MineHead.hd.heap_39 P) mainGlobals x = some none → G.mg x = none) {ns : List Int} {w m : Nat} (hw : 0 < w) (hw2 : w ≤ 65536) (hm : ns.length = m * w) (hr : ∀ n ∈ ns, 0 ≤ n ∧ n < 256) (hz : ns.length ≤ 65536) :
    Fn G 10 63 [.bytes (byteArr ns), .int w] (.bytes (byteArr (swapL ns w))) := by
  have d := defAt_of (x := "_byteswap") (f := 63) hG X (by kernel_rfl) rfl (by kernel_rfl) rfl rfl rfl
  obtain ⟨o, h1, h2⟩ := d.at_
  refine Fn.body (n := 9) (xs := ["data", "width"]) hG h1 h2 rfl d.code rfl rfl rfl ?_ rfl (by decide) (by decide) ?_ ?_
  · exact len2 fun a b => rfl
  · intro L x hx
    refine .inl ?_
    rcases List.mem_cons.mp hx with rfl | hx
    · rfl
    · rcases List.mem_cons.mp hx with rfl | hx
      · rfl
      · cases hx
  · clear d h1 h2
    intro L
    refine Run.weak (ρ' := [("data", .val (.bytes (byteArr ns))), ("width", .val (.int w))]) (fun p hp => hp) ?_
    refine Run.cons (Ex.asgBA (b := byteArr (bsL ns w 0 0)) ?_ (.inl rfl) fun a => ?_)
    · rw [bsL_zero]
      refine EvBA.call (k := (ns.length : Int)) hG (hmg _ (by kernel_rfl)) ?_ (by lia) (by lia)
      refine Ev.callB hG (hmg _ (by kernel_rfl)) (by rfl) (.inl ⟨_, rfl⟩) (EvL.cons (Ev.name (by walk_at "m:in")) EvL.nil) ?_
      have := OpL.lenB (G := G) (n := 9) (b := byteArr ns) (by rw [byteArr_size]; lia)
      rw [byteArr_size] at this
      exact this
    · have hsz : (byteArr ns).size = ns.length := byteArr_size ns
      have hrs : Builtin.Range.rangeSize 0 (byteArr ns).size w = m := by
        unfold Builtin.Range.rangeSize
        rw [hsz, hm, if_pos (by lia)]
        by_cases h0 : m = 0
        · subst h0; simp
        · have h1 : 0 < m * w := Nat.mul_pos (by lia) hw
          rw [if_pos (by lia)]
          have h2 : ((m * w : Nat) : Int) - 0 - 1 = ((m - 1) * w + (w - 1) : Nat) := by
            have : m * w = (m - 1) * w + w := by rw [← Nat.succ_mul]; congr 1; lia
            lia
          rw [h2, ← Int.natCast_ediv, Nat.add_comm, Nat.add_mul_div_right _ _ hw, Nat.div_eq_of_lt (by lia)]
          lia
      refine Run.cons (Ex.for_ (xs := vi (rangeV 0 w m)) ?_ (fun i => [("data", .val (.bytes (byteArr ns))), ("width", .val (.int w)), ("swapped_data", .ba a (byteArr (bsL ns w i 0)))]) (by walk_at "m:sub") ?_ (.inl rfl) ?_ ?_)
      · refine EvIt.callB hG (hmg _ (by kernel_rfl)) (by rfl) (.inr (.inl ⟨_, rfl⟩)) (EvL.cons Ev.int (EvL.cons (Ev.callB hG (hmg _ (by kernel_rfl)) (by rfl) (.inl ⟨_, rfl⟩) (EvL.cons (Ev.name (by walk_at "m:in")) EvL.nil) (OpL.lenB (b := byteArr ns) (by lia))) (EvL.cons (Ev.name (by walk_at "m:in")) EvL.nil))) ?_
        have := OpIt.range3 (G := G) (n := 9) (a := 0) (b := (byteArr ns).size) (c := w) (by lia) (by lia) (by lia) (by lia)
        rw [hrs] at this
        exact this
      · intro i; (try dsimp only); walk_at "m:own"
      · intro i v hv
        have hi : i < m := by
          have := (List.getElem?_eq_some_iff.mp hv).1
          simpa [rangeV] using this
        have ev : v = .int ((i * w : Nat) : Int) := by
          simp [rangeV, hi] at hv
          rw [← hv]; simp
        subst ev
        have hiw : (i + 1) * w ≤ ns.length := by rw [hm]; exact Nat.mul_le_mul_right _ hi
        have hiw' : (i + 1) * w = i * w + w := by rw [Nat.add_mul, Nat.one_mul]
        refine Run.cons (Ex.for_ (xs := vi (rangeV 0 1 w)) ?_ (fun j => [("data", .val (.bytes (byteArr ns))), ("width", .val (.int w)), ("i", .val (.int ((i * w : Nat) : Int))), ("swapped_data", .ba a (byteArr (bsL ns w i j)))]) (by walk_at "m:sub") ?_ (.inl rfl) ?_ ?_)
        · exact EvIt.callB hG (hmg _ (by kernel_rfl)) (by rfl) (.inr (.inl ⟨_, rfl⟩)) (EvL.cons (Ev.name (by walk_at "m:in")) EvL.nil) (OpIt.range1 (b := (w : Int)) (by lia))
        · intro j; (try dsimp only); walk_at "m:own"
        · intro j v hv
          have hj : j < w := by
            have := (List.getElem?_eq_some_iff.mp hv).1
            simpa [rangeV] using this
          have ev : v = .int (j : Int) := by
            simp [rangeV, hj] at hv
            rw [← hv]
          subst ev
          refine Run.cons (Ex.setBA (a := a) (b := byteArr (bsL ns w i j)) (v := ns.getD (i * w + j) 0) (k := ((i * w + w - 1 - j : Nat) : Int)) (by walk_at "m:in") ?_ ?_ ?_ ?_ ?_ ?_ ?_ ?_)
          · refine Ev.itemB (b := byteArr ns) (Ev.name (by walk_at "m:in")) (Ev.binop (Ev.name (by walk_at "m:in")) (Ev.name (by walk_at "m:in")) Op2.add) (by lia) (by lia) (by lia) ?_
            rw [bi_byteArr hr, show ((i * w : Nat) + (j : Nat) : Int).toNat = i * w + j by lia, List.getD_eq_getElem?_getD, List.getElem?_eq_getElem (by lia)]
            rfl
          · refine Ev.eq (Ev.binop (Ev.binop (Ev.binop (Ev.name (by walk_at "m:in")) (Ev.name (by walk_at "m:in")) Op2.add) Ev.int Op2.sub) (Ev.name (by walk_at "m:in")) Op2.sub) ?_
            congr 1
            lia
          · lia
          · rw [byteArr_size]; simp [bsL]; lia
          · rw [byteArr_size]; simp [bsL]; lia
          · exact (KBw.getD_in hr).1
          · exact (KBw.getD_in hr).2
          · rw [Int.toNat_natCast, bsL_set hw hj hiw]
            exact Run.nil (by walk_at "m:sub")
        · rw [show (vi (rangeV 0 1 w)).length = w by simp [rangeV], bsL_row hw]
          exact Run.nil (by walk_at "m:sub")
      · refine Run.cons (Ex.ret (Ev.bytesBA hG (hmg _ (by kernel_rfl)) (a := a) (b := byteArr (bsL ns w m 0)) ?_ ?_) ?_)
        · rw [show (vi (rangeV 0 w m)).length = m by simp [rangeV]]
          walk_at "m:in"
        · simp [byteArr_size, bsL]; lia
        · rw [bsL_end hw hm]
end
end
section
open PySem PySem.W PySem.Calls PyProof.Rows
set_option Elab.async false
set_option maxRecDepth 100000
set_option linter.unusedVariables false
set_option maxHeartbeats 4000000
theorem own_vals {a : Addr} {l : Rho} (h : (l.all fun p => p.2.addr?.isNone) = true) : ¬ Owned l a := fun ⟨p, hp, e⟩ => by
  have := List.all_eq_true.mp h p hp
  rw [e] at this; cases this
theorem swapL_range {ns : List Int} {w : Nat} (h : ∀ n ∈ ns, 0 ≤ n ∧ n < 256) : ∀ n ∈ swapL ns w, 0 ≤ n ∧ n < 256 := fun n hn => by
  obtain ⟨k, _, rfl⟩ := List.mem_map.mp hn
  exact KBw.getD_in h
theorem swapL_length {ns : List Int} {w : Nat} : (swapL ns w).length = ns.length := by simp [swapL]
section
variable {G : Gb} {P : Params}
theorem ev_swapped {n : Nat} {fm : Fm} {ρ : Rho} {e1 e2 : Expr} {p1 p2 p3 p4 : Pos} (hG : GbOk G) (X : (MineHead.hd.heap_39 P).In G.B) (hmg : ∀ x, nsIn (MineHead.hd.heap_39 P) mainGlobals x = some none → G.mg x = none)
    {ns : List Int} {w m : Nat} (hn : 10 ≤ n) (h1 : Ev G n fm ρ e1 (.bytes (byteArr ns))) (h2 : Ev G n fm ρ e2 (.int w)) (hw : 0 < w) (hw2 : w ≤ 65536) (hm : ns.length = m * w) (hr : ∀ n ∈ ns, 0 ≤ n ∧ n < 256) (hz : ns.length ≤ 65536)
    (k1 : fm.env.kindOf "list" = some .globalImplicit) (k2 : fm.env.kindOf "_byteswap" = some .globalImplicit)
    (q1 : starEach [e1, e2] fm.env = [(false, eval e1 fm.env), (false, eval e2 fm.env)]) (q2 : starEach [e2] fm.env = [(false, eval e2 fm.env)]) :
    Ev G n fm ρ (.Call (.Name "list" p1) [.Call (.Name "_byteswap" p2) [e1, e2] [] p3] [] p4) (.list (vi (swapL ns w))) := by
  have d := defAt_of (x := "_byteswap") (f := 63) hG X (by kernel_rfl) rfl (by kernel_rfl) rfl rfl rfl
  have q := OpL.listB (G := G) (n := n) (b := byteArr (swapL ns w)) (by rw [byteArr_size, swapL_length]; exact hz)
  rw [bi_byteArr (swapL_range hr)] at q
  exact Ev.callB hG (hmg _ (by kernel_rfl)) (by rfl) (.inr (.inl ⟨_, rfl⟩)) (EvL.cons (Ev.callG hG d.mg d.callee (EvL.cons h1 (EvL.cons h2 EvL.nil q2) (by rw [q1, q2])) ((fn_byteswap hG X hmg hw hw2 hm hr hz).op hn) (hx := k2) (hplain := by rw [q1]; rfl)) EvL.nil) q (hx := k1)
end
end
section
open PySem PySem.W PySem.Calls PyProof.Rows
set_option Elab.async false
set_option maxRecDepth 100000
set_option linter.unusedVariables false
set_option maxHeartbeats 4000000
section
variable {G : Gb} {P : Params} {n : Nat} {fm : Fm} {ρ : Rho}
theorem Ev.itemI {e i : Expr} {pos : Pos} {xs : List Int} {k : Nat} {j x : Int} (he : Ev G n fm ρ e (.list (vi xs))) (hi : Ev G n fm ρ i (.int j)) (hj : j = k) (hx : xs[k]? = some x) (hz : k ≤ 1000000)
    (hs : ∀ o j, subscripted i false o j = operate [o, j] (getItem o j) := by intro _ _; rfl) : Ev G n fm ρ (.Subscript e i pos) (.int x) := by
  subst hj
  exact Ev.item he hi (by lia) (by lia) (by rw [Int.toNat_natCast, List.getElem?_map, hx]; rfl) hs
theorem Ev.sliceI {e : Expr} {lo hi st : Option Expr} {p pos : Pos} {xs : List Int} {a b c : Option Int} (he : Ev G n fm ρ e (.list (vi xs))) (h1 : EvP G n fm ρ lo a) (h2 : EvP G n fm ρ hi b) (h3 : EvP G n fm ρ st c) (hc : c ≠ some 0) (hz : xs.length ≤ sizeLine)
    (hs : ∀ o j, ∃ ops, subscripted (.Slice lo hi st p) false o j = operate ops (getItem o j) := by intro _ _; exact ⟨_, rfl⟩) : Ev G n fm ρ (.Subscript e (.Slice lo hi st p) pos) (.list (vi (pickL xs a b c))) :=
  Ev.eq (Ev.slice he h1 h2 h3 hc (by simpa using hz) hs) (by rw [pickL_map])
theorem sl100 {k : Nat} (h : k ≤ 100) : k ≤ sizeLine := by rw [sizeLine_eq]; lia
theorem fn_quo (hG : GbOk G) (X : (MineHead.hd.heap_39 P).In G.B) (hmg : ∀ x, nsIn (MineHead.hd.heap_39 P) mainGlobals x = some none → G.mg x = none)
    (ht1 : ⟨34, 30, 32, 4, "_int2digits.<locals>.inner"⟩ ∈ G.tabs) (ht2 : ⟨41, 37, 47, 4, "_digits2int.<locals>.inner"⟩ ∈ G.tabs)
    {l u : Int} (hq : ∀ k, k < 9 → 0 ≤ (quo l u k).2.1 ∧ (quo l u k).2.1 ≤ 20 ∧ 0 ≤ (quo l u k).2.2 ∧ (quo l u k).2.2 ≤ 20 ∧ (quo l u k).1.length ≤ 8) : Fn G 80 70 [.int l, .int u] (.list (vi (quo l u 8).1)) := by
  have d := defAt_of (x := "_law_quotients") (f := 70) hG X (by kernel_rfl) rfl (by kernel_rfl) rfl rfl rfl
  have dp := defAt_of (x := "int_divmod") (f := 56) hG X (by kernel_rfl) rfl (by kernel_rfl) rfl rfl rfl
  obtain ⟨o, g1, g2⟩ := d.at_
  refine Fn.body (n := 79) (xs := ["lower", "upper"]) hG g1 g2 rfl d.code rfl rfl rfl (len2 fun a b => rfl) rfl (by decide) (by decide) ?_ ?_
  · intro L x hx
    rcases List.mem_cons.mp hx with rfl | hx
    · exact .inl rfl
    · rcases List.mem_cons.mp hx with rfl | hx
      · exact .inl rfl
      · cases hx
  · clear d g1 g2
    intro L
    refine Run.weak (ρ' := [("lower", .val (.int l)), ("upper", .val (.int u))]) (fun p hp => hp) ?_
    refine Run.cons (Ex.asgNew (xs := []) (EvNew.list EvL.nil (by decide)) (by walk_at "m:wrt") fun ra => ?_)
    refine Run.cons (Ex.for_ (xs := vi (rangeV 0 1 8)) (EvIt.callB hG (hmg _ (by kernel_rfl)) (by rfl) (.inr (.inl ⟨_, rfl⟩)) (by walk_at "m:evl") (OpIt.range1 (b := 8) (by decide)))
      (fun i => [("row", .own ra (quo l u i).1), ("lower", .val (.int (quo l u i).2.1)), ("upper", .val (.int (quo l u i).2.2))]) ?_ (fun i => by (try dsimp only); walk_at "m:own") (by walk_at "m:wrt") ?_ ?_)
    · show ∀ q ∈ ([("row", .own ra []), ("lower", .val (.int l)), ("upper", .val (.int u))] : Rho), q ∈ _
      walk_at "m:sub"
    · intro i v hv
      obtain ⟨hi, rfl⟩ := rangeV_get hv
      dsimp only
      have hb := hq i (by lia)
      rw [quo]
      generalize quo l u i = st at hb ⊢
      obtain ⟨R, a, b⟩ := st
      dsimp only at hb ⊢
      refine Run.cons (Ex.ite (c := (b != 0)) (by walk_at "m:tst") (fun h => ?_) fun h => ?_)
      · have h0 : b ≠ 0 := by simpa using h
        rw [if_neg h0]
        dsimp only
        have qd := op_dm (G := G) (n := 79) hG X hmg ht1 ht2 (a := a) (b := b) (by lia) (by lia) (Nat.le_trans (intBits_le_64 (by lia) (by lia)) (by lia)) (Nat.le_trans (intBits_le_64 (by lia) (by lia)) (by lia))
        refine Run.cons (Ex.asgT (xs := ["quotient", "rest"]) (vs := [.int (a / b), .int (a % b)]) (Ev.callG hG dp.mg dp.callee (by walk_at "m:evl") qd) (.cons (by walk_at "m:wrt") (.cons (by walk_at "m:wrt") .nil)) rfl ?_)
        simp only [putAll]
        refine Run.cons (Ex.append (a := ra) (xs := R) (k := a / b) (by walk_at "m:in") (by walk_at "m:ev") (sl100 (by lia)) ?_)
        refine Run.cons (Ex.asgS (xs := ["lower", "upper"]) (vs := [.int b, .int (a % b)]) (by walk_at "m:ev") (fun x hx => by
          rcases List.mem_cons.mp hx with rfl | hx
          · walk_at "m:wrt"
          · rcases List.mem_cons.mp hx with rfl | hx
            · walk_at "m:wrt"
            · cases hx) rfl ?_)
        simp only [List.reverse_cons, List.reverse_nil, List.nil_append, List.cons_append, putAll]
        exact Run.nil (Run.nil (by walk_at "m:sub"))
      · have h0 : b = 0 := by simpa using h
        rw [if_pos h0]
        exact Run.nil (Run.nil (by walk_at "m:sub"))
    · rw [rangeV_len]
      refine Run.freeze (x := "row") (a := ra) (xs := (quo l u 8).1) (by walk_at "m:in") ?_
      exact Run.cons (Ex.ret (by walk_at "m:ev") rfl)
theorem fn_frac (hG : GbOk G) (X : (MineHead.hd.heap_39 P).In G.B) (hmg : ∀ x, nsIn (MineHead.hd.heap_39 P) mainGlobals x = some none → G.mg x = none)
    {R : List Int} (hr : ∀ q ∈ R, 0 ≤ q ∧ q ≤ 20) : Fn G 20 77 [.list (vi R)] (.tuple [.int (frac R).1, .int (frac R).2]) := by
  have d := defAt_of (x := "_law_fraction") (f := 77) hG X (by kernel_rfl) rfl (by kernel_rfl) rfl rfl rfl
  obtain ⟨o, g1, g2⟩ := d.at_
  refine Fn.body (n := 19) (xs := ["row"]) hG g1 g2 rfl d.code rfl rfl rfl (len1 fun a => rfl) rfl (by decide) (by decide) ?_ ?_
  · intro L x hx
    rcases List.mem_cons.mp hx with rfl | hx
    · exact .inl rfl
    · cases hx
  · clear d g1 g2
    intro L
    refine Run.weak (ρ' := [("row", .val (.list (vi R)))]) (fun p hp => hp) ?_
    refine Run.cons (Ex.asgT (xs := ["upper", "lower"]) (vs := [.int 0, .int 1]) (by walk_at "m:ev") (.cons (by walk_at "m:wrt") (.cons (by walk_at "m:wrt") .nil)) rfl ?_)
    simp only [putAll]
    obtain ⟨F, hF⟩ : ∃ F : Nat → Int × Int, F = fun i => (R.reverse.take i).foldl (fun s q => (s.2, q * s.2 + s.1)) (0, 1) := ⟨_, rfl⟩
    have hF0 : F 0 = (0, 1) := by rw [hF]; rfl
    have hFl : F R.length = frac R := by rw [hF]; simp only [frac]; rw [List.take_of_length_le (by simp)]
    have hFs : ∀ i q, R.reverse[i]? = some q → F (i + 1) = ((F i).2, q * (F i).2 + (F i).1) := fun i q e => by
      rw [hF]; simp only
      rw [List.take_add_one, e, List.foldl_append]; rfl
    clear hF
    refine Run.cons (Ex.for_ (xs := (vi R).reverse) (EvIt.callB hG (hmg _ (by kernel_rfl)) (by rfl) (.inr (.inl ⟨_, rfl⟩)) (by walk_at "m:evl") OpIt.reversed)
      (fun i => [("upper", .val (.int (F i).1)), ("lower", .val (.int (F i).2))]) ?_ (fun i => by (try dsimp only); walk_at "m:own") (by walk_at "m:wrt") ?_ ?_)
    · rw [hF0]
      show ∀ q ∈ ([("upper", .val (.int 0)), ("lower", .val (.int 1))] : Rho), q ∈ _
      walk_at "m:sub"
    · intro i v hv
      rw [← List.map_reverse] at hv
      obtain ⟨q, hq, rfl⟩ := vi_get hv
      have hqr := hr q (List.mem_reverse.mp (List.mem_of_getElem? hq))
      dsimp only
      rw [hFs i q hq]
      dsimp only
      have hmo : IntMulOk q (F i).2 := IntMulOk.of_left (intBits_le_64 (by lia) (by lia))
      refine Run.cons (Ex.asgS (xs := ["upper", "lower"]) (vs := [.int (F i).2, .int (q * (F i).2 + (F i).1)]) (by walk_at "m:ev") (fun x hx => by
        rcases List.mem_cons.mp hx with rfl | hx
        · walk_at "m:wrt"
        · rcases List.mem_cons.mp hx with rfl | hx
          · walk_at "m:wrt"
          · cases hx) rfl ?_)
      simp only [List.reverse_cons, List.reverse_nil, List.nil_append, List.cons_append, putAll]
      exact Run.nil (by walk_at "m:sub")
    · rw [List.length_reverse, List.length_map, hFl]
      exact Run.cons (Ex.ret (by walk_at "m:ev") rfl)
theorem fn_turn (hG : GbOk G) (X : (MineHead.hd.heap_39 P).In G.B) (hmg : ∀ x, nsIn (MineHead.hd.heap_39 P) mainGlobals x = some none → G.mg x = none)
    {R : List Int} (hr : ∀ q ∈ R, 0 ≤ q ∧ q < 256) (h1 : 1 ≤ R.length) (h2 : R.length ≤ 100) : Fn G 20 84 [.list (vi R)] (.list (vi R.reverse)) := by
  have d := defAt_of (x := "_law_turned") (f := 84) hG X (by kernel_rfl) rfl (by kernel_rfl) rfl rfl rfl
  obtain ⟨o, g1, g2⟩ := d.at_
  refine Fn.body (n := 19) (xs := ["row"]) hG g1 g2 rfl d.code rfl rfl rfl (len1 fun a => rfl) rfl (by decide) (by decide) ?_ ?_
  · intro L x hx
    rcases List.mem_cons.mp hx with rfl | hx
    · exact .inl rfl
    · cases hx
  · clear d g1 g2
    intro L
    refine Run.weak (ρ' := [("row", .val (.list (vi R)))]) (fun p hp => hp) ?_
    exact Run.cons (Ex.ret (Ev.eq (ev_swapped hG X hmg (ns := R) (w := R.length) (m := 1) (by lia) (Ev.callB hG (hmg _ (by kernel_rfl)) (by rfl) (.inr (.inl ⟨_, rfl⟩)) (by walk_at "m:evl") (OpL.bytes hr (by lia))) (Ev.eqI (Ev.callB hG (hmg _ (by kernel_rfl)) (by rfl) (.inl ⟨_, rfl⟩) (by walk_at "m:evl") (OpL.len (xs := vi R) (by simp; lia))) (by simp)) (by lia) (by lia) (by lia) hr (by lia) rfl rfl rfl rfl) (by rw [swap_all (by lia)])) rfl)
end
end
section
open PySem PySem.W PySem.Calls PyProof.Rows
set_option Elab.async false
set_option maxRecDepth 100000
set_option linter.unusedVariables false
set_option maxHeartbeats 4000000
theorem getD_at {cs : List Int} {k : Nat} (h : k < cs.length) : cs[k]? = some (cs.getD k 0) := by
  rw [List.getD_eq_getElem?_getD, List.getElem?_eq_getElem h]; rfl
theorem map_at {f : Nat → Int} {k i : Nat} {y : V} (h : (vi ((List.range k).map f))[i]? = some y) : i < k ∧ y = .int (f i) := by
  have hi : i < k := by have := (List.getElem?_eq_some_iff.mp h).1; simpa using this
  refine ⟨hi, ?_⟩
  rw [List.getElem?_map, List.getElem?_map, List.getElem?_range hi] at h
  cases h; rfl
section
variable {G : Gb} {P : Params} {n : Nat} {fm : Fm} {ρ : Rho}
theorem EvIt.eq {e : Expr} {xs ys : List V} (h : EvIt G n fm ρ e xs) (q : xs = ys) : EvIt G n fm ρ e ys := q ▸ h
theorem EvItF.eq {e : Expr} {xs ys : List Int} (h : EvItF G n fm ρ e xs) (q : xs = ys) : EvItF G n fm ρ e ys := q ▸ h
theorem fn_law (hG : GbOk G) (X : (MineHead.hd.heap_39 P).In G.B) (hmg : ∀ x, nsIn (MineHead.hd.heap_39 P) mainGlobals x = some none → G.mg x = none)
    (ht1 : ⟨34, 30, 32, 4, "_int2digits.<locals>.inner"⟩ ∈ G.tabs) (ht2 : ⟨41, 37, 47, 4, "_digits2int.<locals>.inner"⟩ ∈ G.tabs) (ht3 : ⟨88, 86, 117, 43, "law.<locals>.<lambda>"⟩ ∈ G.tabs)
    {ns : List Int} (hl : ns.length ≤ 63) : Fn G 250 89 [.list (vi ns)] (.bool true) := by
  have d := defAt_of (x := "law") (f := 89) hG X (by kernel_rfl) rfl (by kernel_rfl) rfl rfl rfl
  have dq := defAt_of (x := "_law_quotients") (f := 70) hG X (by kernel_rfl) rfl (by kernel_rfl) rfl rfl rfl
  have df := defAt_of (x := "_law_fraction") (f := 77) hG X (by kernel_rfl) rfl (by kernel_rfl) rfl rfl rfl
  have dt := defAt_of (x := "_law_turned") (f := 84) hG X (by kernel_rfl) rfl (by kernel_rfl) rfl rfl rfl
  have dp := defAt_of (x := "int_divmod") (f := 56) hG X (by kernel_rfl) rfl (by kernel_rfl) rfl rfl rfl
  obtain ⟨o, g1, g2⟩ := d.at_
  refine Fn.body (n := 249) (xs := ["script"]) hG g1 g2 rfl d.code rfl rfl rfl (len1 fun a => rfl) rfl (by decide) (by decide) ?_ ?_
  · intro L x hx
    rcases List.mem_cons.mp hx with rfl | hx
    · exact .inl rfl
    · cases hx
  · clear d g1 g2
    intro L
    refine Run.weak (ρ' := [("script", .val (.list (vi ns)))]) (fun p hp => hp) ?_
    refine Run.cons (Ex.for_ (xs := vi ([87, 115] ++ ns.take 2)) (EvIt.list (Ev.eq (Ev.binop (Ev.eq (v' := .list (vi [87, 115])) (by walk_at "m:ev") rfl) (Ev.eq (v' := .list (vi (ns.take 2))) (Ev.sliceI (xs := ns) (a := none) (b := some 2) (c := none) (by walk_at "m:ev") trivial Ev.int trivial (by simp) (sl100 (by lia))) (by rw [show (some (2 : Int)) = some ((2 : Nat) : Int) from rfl, pick_to'])) (Op2.cat (sl100 (by simp; lia)))) (by rw [← List.map_append])))
      (fun i => []) (fun p hp => by cases hp) (fun i => by (try dsimp only); walk_at "m:own") (by walk_at "m:wrt") ?_ ?_)
    · intro i v hv
      obtain ⟨x, hx, rfl⟩ := vi_get hv
      clear hx hv
      obtain ⟨l, hl⟩ : ∃ l, l = 3 + x % 18 := ⟨_, rfl⟩
      obtain ⟨u, hu⟩ : ∃ u, u = 1 + x / 18 % (l - 1) := ⟨_, rfl⟩
      have q1 := Int.emod_nonneg (x / 18) (show l - 1 ≠ 0 by lia)
      have q2 := Int.emod_lt_of_pos (x / 18) (show 0 < l - 1 by lia)
      obtain ⟨R, h, ot, N, hR, hfr, hfo, hq, hRr, hR1, hR8, hh0, hh1, hN2, hN20, ho0, ho1, hdue, hsrt, hprm, hcross, hrest⟩ := facts04 (l := l) (u := u) (by lia) (by lia) (by lia) (by lia)
      have hRr2 : ∀ q ∈ R, 0 ≤ q ∧ q < 256 := fun q hq => by have := hRr q hq; lia
      have hRr3 : ∀ q ∈ R.reverse, 0 ≤ q ∧ q ≤ 20 := fun q hq => hRr q (List.mem_reverse.mp hq)
      refine Run.weak (ρ' := [("x", .val (.int x))]) (by walk_at "m:sub") ?_
      refine Run.cons (Ex.asg (v := .int l) (Ev.eqI (by walk_at "m:ev") (by rw [hl, Int.fmod_eq_emod_of_nonneg _ (by decide)])) (by walk_at "m:wrt") ?_)
      refine Run.cons (Ex.asg (v := .int u) (Ev.eqI (Ev.binop (by walk_at "m:ev") (Ev.binop (Ev.binop (by walk_at "m:ev") (by walk_at "m:ev") (Op2.div (by decide) (PyProof.noPylong_small (by decide)))) (by walk_at "m:ev") (Op2.mod (by lia))) Op2.add) (by rw [hu, Int.fmod_eq_emod_of_nonneg _ (by lia), Int.fdiv_eq_ediv_of_nonneg _ (by decide)])) (by walk_at "m:wrt") ?_)
      refine Run.cons (Ex.asg (v := .list (vi R)) (Ev.eq (Ev.callG hG dq.mg dq.callee (by walk_at "m:evl") ((fn_quo hG X hmg ht1 ht2 (l := l) (u := u) hq).op (by lia))) (by rw [hR])) (by walk_at "m:wrt") ?_)
      refine Run.cons (Ex.asgT (xs := ["high", "low"]) (vs := [.int h, .int N]) (Ev.eq (Ev.callG hG df.mg df.callee (by walk_at "m:evl") ((fn_frac hG X hmg hRr).op (by lia))) (by simp only [hfr])) (.cons (by walk_at "m:wrt") (.cons (by walk_at "m:wrt") .nil)) rfl ?_)
      simp only [putAll]
      refine Run.cons (Ex.asgT (xs := ["other", "same"]) (vs := [.int ot, .int N]) (Ev.eq (Ev.callG hG df.mg df.callee (EvL.cons (Ev.callG hG dt.mg dt.callee (by walk_at "m:evl") ((fn_turn hG X hmg hRr2 hR1 (by lia)).op (by lia))) EvL.nil) ((fn_frac hG X hmg hRr3).op (by lia))) (by simp only [hfo])) (.cons (by walk_at "m:wrt") (.cons (by walk_at "m:wrt") .nil)) rfl ?_)
      simp only [putAll]
      refine Run.weak (ρ' := [("lower", .val (.int l)), ("upper", .val (.int u)), ("row", .val (.list (vi R))), ("high", .val (.int h)), ("low", .val (.int N)), ("other", .val (.int ot)), ("same", .val (.int N))]) (by walk_at "m:sub") ?_
      clear hq hl hu q1 q2 hfr hfo hRr3 hRr2
      obtain ⟨fM, hfM⟩ : ∃ fM : Nat → Int, fM = fun (j : Nat) => -h * ((j : Int) + 1) := ⟨_, rfl⟩
      obtain ⟨M, hM⟩ : ∃ M, M = (List.range N).map fM := ⟨_, rfl⟩
      have hMl : M.length = N := by rw [hM]; simp
      have hbN : Builtin.Int.intBits (N : Int) ≤ 64 := intBits_le_64 (by lia) (by lia)
      have hbh : Builtin.Int.intBits h ≤ 64 := intBits_le_64 (by lia) (by lia)
      have hbh' : Builtin.Int.intBits (-h) ≤ 64 := intBits_le_64 (by lia) (by lia)
      have hbo : Builtin.Int.intBits ot ≤ 64 := intBits_le_64 (by lia) (by lia)
      refine Run.cons (Ex.asgCompN (cl := [("high", L + 1)]) (cap := [("high", .val (.int h))]) (xs := vi (rangeV 1 1 N)) (ys := vi M) (EvIt.eq (EvIt.callB hG (hmg _ (by kernel_rfl)) (by rfl) (.inr (.inl ⟨_, rfl⟩)) (by walk_at "m:evl") (OpIt.range2 (a := 1) (b := (N : Int) + 1) (by decide) (by lia))) (by rw [show ((N : Int) + 1 - 1).toNat = N by lia]))
        (by with_unfolding_all rfl) (by walk_at "m:sub") rfl (by walk_at "m:seesc") (by rw [rangeV_len, List.length_map, hMl]) (by rw [rangeV_len]; exact sl100 (by lia)) (fun C => by walk_at "m:wrt") ?_ (by walk_at "m:wrt") ?_)
      · intro i v y hv hy C
        obtain ⟨hi, rfl⟩ := rangeV_getc hv
        rw [hM] at hy
        obtain ⟨_, rfl⟩ := map_at hy
        have hmo : IntMulOk (-h) (1 + (i : Int) * 1) := IntMulOk.of_left hbh'
        exact Ev.eqI (by walk_at "m:ev") (by rw [hfM]; simp only [Int.mul_one, Int.add_comm])
      obtain ⟨TL, hTL⟩ : ∃ TL : List (List V), TL = (List.range N).map fun j => [V.int (fM j / N), V.int (fM j % N)] := ⟨_, rfl⟩
      have hTLl : TL.length = N := by rw [hTL]; simp
      have hTLg : ∀ {j : Nat} {t : List V}, TL[j]? = some t → j < N ∧ t = [V.int (fM j / N), V.int (fM j % N)] := fun {j t} e => by
        have hj : j < N := by have := (List.getElem?_eq_some_iff.mp e).1; lia
        refine ⟨hj, ?_⟩
        rw [hTL, List.getElem?_map, List.getElem?_range hj] at e; cases e; rfl
      have hfMr : ∀ j, j < N → -400 ≤ fM j ∧ fM j ≤ 0 := fun j hj => by
        rw [hfM]
        have a1 : h * ((j : Int) + 1) ≤ 20 * 20 := Int.mul_le_mul hh1 (by lia) (by lia) (by decide)
        have a2 : 0 ≤ h * ((j : Int) + 1) := Int.mul_nonneg hh0 (by lia)
        simp only [Int.neg_mul]
        lia
      refine Run.cons (Ex.asgCompN (cl := [("low", L + 2)]) (cap := [("low", .val (.int N))]) (xs := vi M) (ys := TL.map V.tuple) (EvIt.list (by walk_at "m:ev"))
        (by with_unfolding_all rfl) (by walk_at "m:sub") rfl (by walk_at "m:seesc") (by rw [List.length_map, List.length_map, hTLl, hMl]) (by rw [List.length_map]; exact sl100 (by lia)) (fun C => by walk_at "m:wrt") ?_ (by walk_at "m:wrt") ?_)
      · intro i v y hv hy C
        rw [hM] at hv
        obtain ⟨hi, rfl⟩ := map_at hv
        have hfi := hfMr i hi
        have hy' : y = .tuple [.int (fM i / N), .int (fM i % N)] := by
          rw [hTL, List.getElem?_map, List.getElem?_map, List.getElem?_range hi] at hy; cases hy; rfl
        subst hy'
        exact Ev.callG hG dp.mg dp.callee (by walk_at "m:evl") (op_dm (G := G) (n := 249) hG X hmg ht1 ht2 (a := fM i) (b := (N : Int)) (by lia) (by lia) (Nat.le_trans (intBits_le_64 (by lia) (by lia)) (by lia)) (Nat.le_trans hbN (by lia)))
      refine Run.cons (Ex.ite (c := false) (Tst.or (.ff (Tst.eq (Tst.cmp (v1 := .list (vi M)) (v2 := .list (vi M)) (Ev.compT (names := ["quotient", "rest"]) (cl := [("low", L + 2)]) (cap := [("low", .val (.int N))]) (xs := TL) (ys := vi M) (EvItT.list (by walk_at "m:ev"))
        (by with_unfolding_all rfl) (by walk_at "m:sub") rfl (by walk_at "m:seesc") (by rw [List.length_map, hMl, hTLl]) (sl100 (by lia)) (fun x hx => by obtain ⟨i, hi⟩ := List.getElem?_of_mem hx; obtain ⟨_, rfl⟩ := hTLg hi; rfl) (fun C => .cons (by walk_at "m:wrt") (.cons (by walk_at "m:wrt") .nil)) ?_) (by walk_at "m:ev") Op2.neL) (by simp))
        (.ff (Tst.eq (Tst.cmp (v1 := .int 0) (v2 := .int 0) (Ev.itemT (k := 1) (j := 1) (Ev.item (xs := TL.map V.tuple) (k := (N : Int) - 1) (by walk_at "m:ev") (by walk_at "m:ev") (by lia) (by lia) (x := .tuple [.int (fM (N - 1) / N), .int (fM (N - 1) % N)]) ?_) Ev.int (by lia) (by lia) (by rfl) ?_) Ev.int Op2.ne) (by simp)) .nil))) (fun h => nomatch h) fun _ => Run.nil ?_)
      · intro i x y hx hy C
        obtain ⟨hi, rfl⟩ := hTLg hx
        rw [hM] at hy
        obtain ⟨_, rfl⟩ := map_at hy
        simp only [putAll]
        have hmo : IntMulOk (fM i / N) (N : Int) := IntMulOk.of_right hbN
        exact Ev.eqI (by walk_at "m:ev") (by rw [Int.mul_comm, Int.add_comm]; exact Int.emod_add_mul_ediv ..)
      · rw [show ((N : Int) - 1).toNat = N - 1 by lia, List.getElem?_map, hTL, List.getElem?_map, List.getElem?_range (by lia)]; rfl
      · have e : fM (N - 1) % N = 0 := by
          rw [hfM]
          simp only
          rw [show (((N - 1 : Nat) : Int) + 1) = N by lia, Int.mul_emod_left]
        rw [e]; rfl
      obtain ⟨Zr, hZr⟩ : ∃ Zr, Zr = (List.range (N - 1)).map fun j => fM j % (N : Int) := ⟨_, rfl⟩
      obtain ⟨Z, hZ⟩ : ∃ Z, Z = rests4 h N := ⟨_, rfl⟩
      have hZe : Zr.reverse = Z := by rw [hZ, rests4, hZr, hfM, Int.toNat_natCast]
      have hZrl : Zr.length = N - 1 := by rw [hZr]; simp
      have hZl : Z.length = N - 1 := by rw [← hZe, List.length_reverse, hZrl]
      have hZrr : ∀ q ∈ Zr, 0 ≤ q ∧ q < 256 := fun q hq => by
        rw [hZr] at hq; obtain ⟨j, _, rfl⟩ := List.mem_map.mp hq
        have := Int.emod_nonneg (fM j) (show (N : Int) ≠ 0 by lia)
        have := Int.emod_lt_of_pos (fM j) (show 0 < (N : Int) by lia)
        lia
      rw [← hZ] at hdue hsrt hprm hrest
      refine Run.cons (Ex.asg (v := .list (vi Z)) (Ev.eq (Ev.callG hG dt.mg dt.callee (EvL.cons (Ev.compT (names := ["quotient", "rest"]) (cl := []) (cap := []) (xs := TL.take (N - 1)) (ys := vi Zr)
        (EvItT.list (Ev.eq (Ev.slice (xs := TL.map V.tuple) (a := none) (b := some ((N - 1 : Nat) : Int)) (c := none) (by walk_at "m:ev") trivial (EvP.some (Ev.eqI (by walk_at "m:ev") (by lia))) trivial (by simp) (by rw [List.length_map]; exact sl100 (by lia))) (by rw [pickL_map, pick_to'])))
        (by with_unfolding_all rfl) (by walk_at "m:sub") rfl (by walk_at "m:seesc") (by rw [List.length_map, hZrl, List.length_take, hTLl]; lia) (by rw [List.length_take]; exact sl100 (by lia)) (fun x hx => by obtain ⟨i, hi⟩ := List.getElem?_of_mem (List.mem_of_mem_take hx); obtain ⟨_, rfl⟩ := hTLg hi; rfl) (fun C => .cons (by walk_at "m:wrt") (.cons (by walk_at "m:wrt") .nil)) ?_) EvL.nil)
        ((fn_turn hG X hmg hZrr (by lia) (by lia)).op (by lia))) (by rw [hZe])) (by walk_at "m:wrt") ?_)
      · intro i x y hx hy C
        rw [List.getElem?_take] at hx
        split at hx
        case isFalse => cases hx
        obtain ⟨hi, rfl⟩ := hTLg hx
        rw [hZr] at hy
        obtain ⟨_, rfl⟩ := map_at hy
        simp only [putAll]
        walk_at "m:ev"
      refine Run.weak (ρ' := [("lower", .val (.int l)), ("upper", .val (.int u)), ("row", .val (.list (vi R))), ("high", .val (.int h)), ("low", .val (.int N)), ("other", .val (.int ot)), ("same", .val (.int N)), ("rests", .val (.list (vi Z)))]) (by walk_at "m:sub") ?_
      clear hTL hTLl hTLg hfMr hM hMl hZr hZe hZrl hZrr hZ hfM
      clear TL Zr M fM
      obtain ⟨od, hod⟩ : ∃ od, od = decide (((R.length : Int)).fmod 2 = 1) := ⟨_, rfl⟩
      refine Run.cons (Ex.asg (v := .bool od) (Ev.eq (Ev.cmp (Ev.binop (Ev.callB hG (hmg _ (by kernel_rfl)) (by rfl) (.inl ⟨_, rfl⟩) (by walk_at "m:evl") (OpL.len (xs := vi R) (by simp; lia))) Ev.int (Op2.mod (by decide))) Ev.int Op2.eq) (by rw [hod, List.length_map]; rfl)) (by walk_at "m:wrt") ?_)
      refine Run.cons (Ex.asg (v := .int (pairs4 Z)) (Ev.eq (Ev.callB hG (hmg _ (by kernel_rfl)) (by rfl) (.inl ⟨_, rfl⟩) (EvL.cons (Ev.comp2 (cl := [("rests", L + 4)]) (cap := [("rests", .val (.list (vi Z)))]) (xs := rangeV 0 1 (N - 1)) (xs2 := fun i => rangeV 0 1 i) (pick := pick4 Z) (out := fun _ _ => 1)
        (EvItF.eq (EvItF.callB hG (hmg _ (by kernel_rfl)) (by rfl) (.inr (.inl ⟨_, rfl⟩)) (by walk_at "m:evl") (OpItF.range1 (b := (N : Int) - 1) (by lia))) (by rw [show ((N : Int) - 1).toNat = N - 1 by lia]))
        (by with_unfolding_all rfl) (by simp) (by walk_at "m:sub") (fun a => own_vals rfl) (by walk_at "m:seesc") (by decide) ?_ ?_ ?_ ?_) EvL.nil) OpL.sum) (by rw [pairs4, hZl, show (rangeV 0 1 (N - 1)).length = N - 1 by simp [rangeV]]; rfl)) (by walk_at "m:wrt") ?_)
      · intro i j hi hj
        have k1 : (rangeV 0 1 (N - 1)).length = N - 1 := by simp [rangeV]
        have k2 : ∀ m, (rangeV 0 1 m).length = m := fun m => by simp [rangeV]
        rw [k1] at hi
        rw [k2] at hj
        rw [List.length_append]
        have a1 := tot2_len (pick4 Z) (fun _ _ => 1) (fun i => (rangeV 0 1 i).length) 20 i (fun k hk => by rw [k2]; lia)
        have a2 := res2_len (pick4 Z) (fun _ _ => 1) i j
        rw [sizeLine_eq]; lia
      · intro i a ha C
        obtain ⟨hi, rfl⟩ := rangeV_at ha
        exact EvItF.eq (EvItF.callB hG (hmg _ (by kernel_rfl)) (by rfl) (.inr (.inl ⟨_, rfl⟩)) (by walk_at "m:evl") (OpItF.range1 (b := (i : Int)) (by lia))) (by rw [Int.toNat_natCast])
      · intro i j a b ha hb C
        obtain ⟨hi, rfl⟩ := rangeV_at ha
        obtain ⟨hj, rfl⟩ := rangeV_at hb
        exact Tst.eq (Tst.cmp (Ev.itemI (xs := Z) (k := j) (by walk_at "m:ev") (by walk_at "m:ev") rfl (getD_at (by lia)) (by lia)) (Ev.itemI (xs := Z) (k := i) (by walk_at "m:ev") (by walk_at "m:ev") rfl (getD_at (by lia)) (by lia)) Op2.gt) rfl
      · intro i j a b ha hb hp C
        exact Ev.int
      have hmo1 : IntMulOk ((N : Int) - 1) ((N : Int) - 2) := IntMulOk.of_left (intBits_le_64 (by lia) (by lia))
      have hmo2 : ∀ z, IntMulOk (N : Int) z := fun z => IntMulOk.of_left hbN
      have hmo3 : ∀ z, IntMulOk z (N : Int) := fun z => IntMulOk.of_right hbN
      refine Run.cons (Ex.asg (v := .int (((N : Int) - 1) * ((N : Int) - 2) - h - N * ((pickL R none none (some 2)).sum - (pickL R (some 1) none (some 2)).sum))) (Ev.binop (by walk_at "m:ev") (Ev.binop (by walk_at "m:ev") (Ev.binop
        (Ev.callB hG (hmg _ (by kernel_rfl)) (by rfl) (.inl ⟨_, rfl⟩) (EvL.cons (Ev.sliceI (xs := R) (a := none) (b := none) (c := some 2) (by walk_at "m:ev") trivial trivial Ev.int (by simp) (sl100 (by lia))) EvL.nil) OpL.sum)
        (Ev.callB hG (hmg _ (by kernel_rfl)) (by rfl) (.inl ⟨_, rfl⟩) (EvL.cons (Ev.sliceI (xs := R) (a := some 1) (b := none) (c := some 2) (by walk_at "m:ev") Ev.int trivial Ev.int (by simp) (sl100 (by lia))) EvL.nil) OpL.sum) Op2.sub) (Op2.mul (hmo2 _))) Op2.sub) (by walk_at "m:wrt") ?_)
      have hmo4 : IntMulOk 3 (N : Int) := hmo3 _
      refine Run.cons (Ex.aug (v2 := .int (if od then 3 * (N : Int) - ot else ot)) (by walk_at "m:in") (Ev.ite (Tst.plain (by walk_at "m:ev") Tru.bool) (fun e => Ev.eqI (by walk_at "m:ev") (by rw [e]; rfl)) fun e => Ev.eqI (by walk_at "m:ev") (by rw [e]; rfl)) Op2.iadd (by walk_at "m:wrt") ?_)
      have hmo5 : IntMulOk 4 (pairs4 Z) := IntMulOk.of_left (intBits_le_64 (by lia) (by lia))
      refine Run.cons (Ex.ite (c := false) (Tst.eq (Tst.cmp (by walk_at "m:ev") (by walk_at "m:ev") Op2.ne) (by rw [hdue, due4, ← hod]; simp)) (fun h => nomatch h) fun _ => Run.nil ?_)
      refine Run.weak (ρ' := [("lower", .val (.int l)), ("upper", .val (.int u)), ("high", .val (.int h)), ("low", .val (.int N)), ("other", .val (.int ot)), ("same", .val (.int N)), ("rests", .val (.list (vi Z))), ("odd", .val (.bool od))]) (by walk_at "m:sub") ?_
      obtain ⟨PL, hPL⟩ : ∃ PL, PL = places4 R N ot := ⟨_, rfl⟩
      rw [← hPL] at hsrt hprm
      refine Run.cons (Ex.asg (v := .list (vi PL)) (Ev.sortedKey (n := 246) (a := 1) (b := (N : Int)) (x := "j") (N := N - 1) (kz := Z) (ls := PL) (clos := [("rests", L + 4)]) (cap := [("rests", .val (.list (vi Z)))]) hG (hmg _ (by kernel_rfl)) (hmg _ (by kernel_rfl)) (by walk_at "m:evl") (small_pos (a := 1) (b := (N : Int)) (c := 1) (by lia) (by lia) (by lia) (by lia)).1 (by rw [rangeSize_one]; split <;> lia) hZl (by lia)
        ht3 rfl rfl rfl rfl (by with_unfolding_all rfl) rfl (by walk_at "m:sub") (fun a => own_vals rfl) (fun _ _ _ => by walk_at "m:sees") (by simp) (fun _ _ _ _ => rfl) (by decide) rfl ?_ ?_) (by walk_at "m:wrt") ?_)
      · intro j hj pm cv ct f L'
        exact Ev.itemI (xs := Z) (k := j) (by walk_at "m:ev") (by walk_at "m:ev") (by lia) (getD_at (by lia)) (by lia)
      · intro ps hp hs
        rw [sorted_only (hp.trans hprm.symm) hs hsrt, keys4, List.map_map]
        exact List.map_id _
      obtain ⟨OT, hOT⟩ : ∃ OT, OT = others4 N ot := ⟨_, rfl⟩
      have hOTl : OT.length = N - 1 := by rw [hOT, others4]; simp
      have hOTr : ∀ q ∈ OT, 0 ≤ q ∧ q < 256 := fun q hq => by
        rw [hOT, others4] at hq; obtain ⟨j, _, rfl⟩ := List.mem_map.mp hq
        have := Int.emod_nonneg (ot * ((j : Int) + 1)) (show (N : Int) ≠ 0 by lia)
        have := Int.emod_lt_of_pos (ot * ((j : Int) + 1)) (show 0 < (N : Int) by lia)
        lia
      refine Run.cons (Ex.asgCompN (cl := [("other", L + 3), ("low", L + 2)]) (cap := [("other", .val (.int ot)), ("low", .val (.int N))]) (xs := vi (rangeV 1 1 (N - 1))) (ys := vi OT) (EvIt.eq (EvIt.callB hG (hmg _ (by kernel_rfl)) (by rfl) (.inr (.inl ⟨_, rfl⟩)) (by walk_at "m:evl") (OpIt.range2 (a := 1) (b := (N : Int)) (by decide) (by lia))) (by rw [show ((N : Int) - 1).toNat = N - 1 by lia]))
        (by with_unfolding_all rfl) (by walk_at "m:sub") rfl (by walk_at "m:seesc") (by rw [rangeV_len, List.length_map, hOTl]) (by rw [rangeV_len]; exact sl100 (by lia)) (fun C => by walk_at "m:wrt") ?_ (by walk_at "m:wrt") ?_)
      · intro i v y hv hy C
        obtain ⟨hi, rfl⟩ := rangeV_getc hv
        rw [hOT, others4, Int.toNat_natCast] at hy
        obtain ⟨_, rfl⟩ := map_at hy
        have hmo : IntMulOk ot (1 + (i : Int) * 1) := IntMulOk.of_left hbo
        exact Ev.eqI (Ev.binop (by walk_at "m:ev") (by walk_at "m:ev") (Op2.mod (by lia))) (by rw [Int.fmod_eq_emod_of_nonneg _ (by lia)]; simp only [Int.mul_one, Int.add_comm])
      refine Run.cons (Ex.ite (c := false) (Tst.eq (Tst.cmp (v1 := .list (vi PL)) (v2 := .list (vi PL)) (by walk_at "m:ev") (Ev.ite (c := od) (Tst.plain (by walk_at "m:ev") Tru.bool) (fun e => Ev.eq (v := .list (vi OT)) (by walk_at "m:ev") (by rw [hPL, places4, ← hod, e, hOT]; rfl))
        fun e => Ev.eq (v := .list (vi OT.reverse)) (Ev.callG hG dt.mg dt.callee (by walk_at "m:evl") ((fn_turn hG X hmg hOTr (by lia) (by lia)).op (by lia))) (by rw [hPL, places4, ← hod, e, hOT]; rfl)) Op2.neL) (by simp)) (fun h => nomatch h) fun _ => Run.nil ?_)
      have hmo6 : IntMulOk h l := IntMulOk.of_left hbh
      have hmo7 : IntMulOk (N : Int) u := hmo2 _
      refine Run.cons (Ex.ite (c := false) (Tst.or (.ff (Tst.eq (Tst.cmp (by walk_at "m:ev") (by walk_at "m:ev") Op2.ne) (by simp)) (.ff (Tst.eq (Tst.cmp (by walk_at "m:ev") (by walk_at "m:ev") Op2.ne) (by rw [hcross]; simp)) (.ff (Tst.eq (Tst.cmp (v1 := .list (vi Z)) (v2 := .list (vi Z)) (by walk_at "m:ev")
        (Ev.compN (cl := [("low", L + 2), ("high", L + 1)]) (cap := [("low", .val (.int N)), ("high", .val (.int h))]) (xs := vi (rangeV 1 1 (N - 1))) (ys := vi Z) (EvIt.eq (EvIt.callB hG (hmg _ (by kernel_rfl)) (by rfl) (.inr (.inl ⟨_, rfl⟩)) (by walk_at "m:evl") (OpIt.range2 (a := 1) (b := (N : Int)) (by decide) (by lia))) (by rw [show ((N : Int) - 1).toNat = N - 1 by lia]))
          (by with_unfolding_all rfl) (by walk_at "m:sub") rfl (by walk_at "m:seesc") (by rw [rangeV_len, List.length_map, hZl]) (by rw [rangeV_len]; exact sl100 (by lia)) (fun C => by walk_at "m:wrt") ?_) Op2.neL) (by simp)) .nil)))) (fun h => nomatch h) fun _ => Run.nil (Run.nil (by walk_at "m:sub")))
      intro i v y hv hy C
      obtain ⟨hi, rfl⟩ := rangeV_getc hv
      rw [hrest] at hy
      obtain ⟨_, rfl⟩ := map_at hy
      have hmo : IntMulOk h (1 + (i : Int) * 1) := IntMulOk.of_left hbh
      exact Ev.eqI (Ev.binop (by walk_at "m:ev") (by walk_at "m:ev") (Op2.mod (by lia))) (by rw [Int.fmod_eq_emod_of_nonneg _ (by lia)]; simp only [Int.mul_one, Int.add_comm])
    · exact Run.cons (Ex.ret (by walk_at "m:ev") rfl)
end
end
end Mine
section
open PySem PySem.W PySem.Calls PyProof.Rows
set_option Elab.async false
--CLAIM
set_option maxRecDepth 100000 in
set_option maxHeartbeats 8000000 in
theorem PySem.Challenge.cw_pg0122_04_holds : PySem.Challenge.rw_pg0122_04.Holds := by
  refine MineHead.hd ?_
  intro w s₀ s₁ mg mb G Y fa o pm cd doc dV kV ho hd hcd hD hmg hg args vals as hpre hlay hrd hwl hlo
  have KX := km_in_of Y
  have KT := km_tabs_of Y
  refine Ground.open G ?_
  intro T B D TE TW
  clear hd hcd hD ho G Y B D TE TW
  have hfa : mg "law" = some (.ref 89) := mg_of KX T.g (by kernel_rfl)
  obtain rfl : fa = 89 := by
    have e := hmg.symm.trans hfa
    cases e; rfl
  clear hmg hfa
  wrow_args hpre hlay hrd hwl hlo
  rename_i ns _ _ _ _ _ _ _ l vs _ hL _ _ _ hI _ hlen _
  let ts : List Mine.Tab := [⟨34, 30, 32, 4, "_int2digits.<locals>.inner"⟩, ⟨41, 37, 47, 4, "_digits2int.<locals>.inner"⟩, ⟨88, 86, 117, 43, "law.<locals>.<lambda>"⟩]
  have hT : TabsAt (Mine.tabPairs ts) s₁.heap :=
    List.forall_mem_cons.mpr ⟨⟨codeHd_of_K (c := 34) (P := 30) KX (by kernel_rfl), KT 30 (by simp)⟩, List.forall_mem_cons.mpr ⟨⟨codeHd_of_K (c := 41) (P := 37) KX (by kernel_rfl), KT 37 (by simp)⟩, List.forall_mem_cons.mpr ⟨⟨codeHd_of_K (c := 88) (P := 86) KX (by kernel_rfl), KT 86 (by simp)⟩, fun _ h => nomatch h⟩⟩⟩
  have hG : Mine.GbOk (Mine.gbOf PySem.Challenge.rw_pg0122_04.row.prog w s₁ mg mb ts) := Mine.gbOf_ok T hT (by simp [ts])
  have XB : (MineHead.hd.heap_39 w.params).In (Mine.gbOf PySem.Challenge.rw_pg0122_04.row.prog w s₁ mg mb ts).B := ghost_K hT KX (by kernel_rfl)
  refine Mine.law_call hT hg (fun _ => ?_) ?_ hL hI (Mine.fn_law hG XB (fun x h => mg_none_of XB hG.g h) (List.mem_cons_self ..) (List.mem_cons_of_mem _ (List.mem_cons_self ..)) (List.mem_cons_of_mem _ (List.mem_cons_of_mem _ (List.mem_cons_self ..))) (by lia))
  · rfl
  · wrow_post
end
