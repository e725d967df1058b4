import PyProof.Rows.All
import Wide.All
import OpenK.AllK
import Wide.FinOn
import Lean
import PySem.Challenge.RW_wf0043_01
open PySem PySem.W PyProof.Rows PySem.Calls PySem.Spec
set_option Elab.async false
set_option maxRecDepth 100000
set_option compiler.extract_closed false
namespace Mine
section
/-- the claim's caller stands on this stack -/
def Cal (l : List (Code × Pos)) : Prop := l.any (fun c => c.1.isCaller) = true
def HC (Γ : PySem.Ctx) (p : Pos) : Prop := Cal ((Γ.code, p) :: Γ.below)
/-- the weakest precondition at every context within A that the claim's caller stands under -/
def wpC {α : Type} (M : Model) (A : Around) (t : Sem α) (Q : α → Shared → Prop) (E : Value → Shared → Prop) (s : Shared) : Prop :=
  ∀ Γ p, Γ.In A → Γ.code.isCaller = true ∨ Cal Γ.below → Sem.wp M Γ t (fun a _ s' => Q a s') (fun e _ s' => E e s') p s
def codeC (M : Model) (A : Around) (c : Code) (R : Result → Shared → Prop) (s : Shared) : Prop :=
  ∀ Γ p, Γ.code = c → Γ.Below A → Cal Γ.below → wpCode M Γ R p s
theorem cal_cons {c : Code} {p : Pos} {l : List (Code × Pos)} (h : c.isCaller = true ∨ Cal l) : Cal ((c, p) :: l) := by
  unfold Cal at h ⊢
  rw [List.any_cons]
  rcases h with h | h
  · rw [h]; rfl
  · rw [h, Bool.or_true]
section
variable {α β : Type} {M : Model} {A : Around} {E : Value → Shared → Prop} {s : Shared}
theorem wpC_any {t : Sem α} {Q : α → Shared → Prop} (h : wpAny M A t Q E s) : wpC M A t Q E s := fun Γ p hΓ _ => h Γ p hΓ
theorem codeC_any {c : Code} {R : Result → Shared → Prop} (h : codeAny M A c R s) : codeC M A c R s := fun Γ p hc hΓ _ => h Γ p hc hΓ
theorem wpC_mono {t : Sem α} {Q Q' : α → Shared → Prop} {E' : Value → Shared → Prop} (h : wpC M A t Q E s)
    (hQ : ∀ a s, Q a s → Q' a s) (hE : ∀ e s, E e s → E' e s) : wpC M A t Q' E' s :=
  fun Γ p hΓ hc => Sem.wp_mono M Γ t (fun a _ s => hQ a s) (fun e _ s => hE e s) p s (h Γ p hΓ hc)
theorem wpC_bind {m : Sem α} {f : α → Sem β} {Q : β → Shared → Prop} (h : wpC M A m (fun a s' => wpC M A (f a) Q E s') E s) :
    wpC M A (m >>= f) Q E s := fun Γ p hΓ hc => by
  rw [Sem.wp_bind']
  exact Sem.wp_mono M Γ m (fun a p' s' h' => h' Γ p' hΓ hc) (fun _ _ _ h' => h') p s (h Γ p hΓ hc)
theorem wpC_onRaise {m : Sem α} {k : Value → Sem Unit} {Q : α → Shared → Prop}
    (h : wpC M A m Q (fun e s' => wpC M A (k e) (fun _ s'' => E e s'') E s') s) : wpC M A (m.onRaise k) Q E s := fun Γ p hΓ hc => by
  rw [Sem.wp_onRaise]
  exact Sem.wp_mono M Γ m (fun _ _ _ h' => h') (fun e p' s' h' => h' Γ p' hΓ hc) p s (h Γ p hΓ hc)
theorem wpC_attempt {m : Sem α} {Q : Except Value α → Shared → Prop} (h : wpC M A m (fun a => Q (.ok a)) (fun e => Q (.error e)) s) :
    wpC M A m.attempt Q E s := fun Γ p hΓ hc => by rw [Sem.wp_attempt]; exact h Γ p hΓ hc
theorem wpC_holding {vs : List Value} {m : Sem α} {Q : α → Shared → Prop} (h : wpC M A m Q E s) : wpC M A (holding vs m) Q E s :=
  fun Γ p hΓ hc => by rw [Sem.wp_holding]; exact h Γ p hΓ hc
theorem wpC_stack {Q : List (Code × Pos) → Shared → Prop} (h : ∀ st : List (Code × Pos), Cal st → Q st s) : wpC M A stack Q E s := fun Γ p _ hc => by
  show Q ((Γ.code, p) :: Γ.below) s
  exact h _ (cal_cons hc)
theorem codeC_mono {c : Code} {R R' : Result → Shared → Prop} (h : codeC M A c R s) (hR : ∀ r s, R r s → R' r s) : codeC M A c R' s :=
  fun Γ p hc hΓ hk => wpCode_mono hR (h Γ p hc hΓ hk)
theorem wpC_run {c : Code} {h : Option Value} {Q : Flow → Shared → Prop}
    (hc : codeC M (A.mark h) c (fun r s' => match r with | .ok f => Q f s' | .error e => E e s') s) (hnb : h ≠ some byPass := by intro x; cases x) :
    wpC M A (run c h) Q E s :=
  fun Γ p hΓ hk => by rw [Sem.wp_run]; exact hc _ p rfl (hΓ.enter c h p hnb) (cal_cons hk)
theorem wpC_runValue {c : Code} {Q : Value → Shared → Prop}
    (hc : codeC M A c (fun r s' => match r with | .ok (.ret v) => Q v s' | .ok _ => False | .error e => E e s') s) :
    wpC M A (runValue c) Q E s := fun Γ p hΓ hk => by rw [Sem.wp_runValue]; exact hc _ p rfl (hΓ.enter c none p (by intro x; cases x)) (cal_cons hk)
theorem wpC_call {f : Value} {pos : List Value} {kw : List (Str × Value)} {Q : Value → Shared → Prop}
    (hc : codeC M A (.call f ⟨pos, kw⟩) (fun r s' => match r with | .ok (.ret v) => Q v s' | .ok _ => False | .error e => E e s') s) :
    wpC M A (call f pos kw) Q E s := wpC_runValue hc
theorem codeC_of_tree {c : Code} {R : Result → Shared → Prop}
    (h : wpC M (A.under c) (M.den c) (fun fin s' => match fin with | .done f => R (.ok f) s' | .again c' => c'.quiet = true ∧ codeC M A c' R s')
      (fun e s' => R (.error e) s') s) : codeC M A c R s := fun Γ p hc hΓ hk => by
  rw [wpCode_iff_wp, hc]
  refine Sem.wp_mono M Γ _ (fun fin p' s' h' => ?_) (fun _ _ _ h' => h') p s (h Γ p (hc ▸ hΓ.in) (.inr hk))
  cases fin with
  | done f => exact h'
  | again c' => exact ⟨h'.1, h'.2 (Γ.goto c') p' rfl (hΓ.goto c') hk⟩
theorem codeC_loop {c : Code} {R : Result → Shared → Prop} (hq : c.quiet = true) (I : Nat → Shared → Prop)
    (turn : ∀ n s, I n s → wpC M (A.under c) (M.den c)
      (fun fin s' => match fin with
        | .done f => R (.ok f) s'
        | .again c' => (c' = c ∧ ∃ m, m < n ∧ I m s') ∨ (c'.quiet = true ∧ codeC M A c' R s')) (fun e s' => R (.error e) s') s)
    (n : Nat) (h : I n s) : codeC M A c R s := by
  induction n using Nat.strongRecOn generalizing s with
  | ind n ih =>
    refine codeC_of_tree (wpC_mono (turn n s h) (fun fin s' hf => ?_) fun _ _ h' => h')
    cases fin with
    | done f => exact hf
    | again c' =>
      rcases hf with ⟨rfl, m, hm, hI⟩ | hf
      · exact ⟨hq, ih m hm hI⟩
      · exact hf
end
section
variable {M : Model} {A : Around} {E : Value → Shared → Prop} {s : Shared} {env : Env}
theorem wpC_execs_cons {st : Stmt} {rest : List Stmt} {Q : Flow → Shared → Prop}
    (h : wpC M A (exec st env) (fun f s' => match f with | .next => wpC M A (execs rest env) Q E s' | f => Q f s') E s) : wpC M A (execs (st :: rest) env) Q E s := by
  rw [execs_cons]
  refine wpC_bind (wpC_mono h (fun f s' h' => ?_) fun _ _ x => x)
  cases f <;> first | exact h' | exact wpC_any (wpAny_pure h')
theorem wpC_If {test : PySem.Expr} {body orelse : List Stmt} {pos : Pos} {Q : Flow → Shared → Prop}
    (h : wpC M A (isTrue test env (eval test env)) (fun b s₂ => if b then wpC M A (execs body env) Q E s₂ else wpC M A (execs orelse env) Q E s₂) E s) :
    wpC M A (exec (.If test body orelse pos) env) Q E s := by
  rw [exec_If]
  refine wpC_bind (wpC_any (wpAny_standAt ?_))
  refine wpC_bind (wpC_mono h (fun b s' h' => ?_) fun _ _ x => x)
  cases b <;> exact h'
theorem wpC_tryStmt {body orelse : Sem Flow} {h₀ : ExceptHandler} {hs : List ExceptHandler} {Q : Flow → Shared → Prop}
    (h : wpC M A body (fun f s₁ => match f with | .next => wpC M A orelse Q E s₁ | f => Q f s₁)
      (fun e s₁ => wpAny M A (noteFrame e env) (fun _ s₂ => wpAny M A (setFlight e none) (fun _ s₃ => wpAny M A (handleBy e env (h₀ :: hs)) Q E s₃) E s₂) E s₁) s) :
    wpC M A (tryStmt false body (h₀ :: hs) orelse [] env) Q E s := by
  unfold tryStmt
  simp only [List.isEmpty_nil, if_true, List.isEmpty_cons, Bool.false_and, Bool.false_eq_true, if_false]
  refine wpC_bind (wpC_attempt (wpC_mono h (fun f s₁ h₁ => ?_) fun e s₁ h₁ => ?_))
  · cases f <;> first | exact h₁ | exact wpC_any (wpAny_pure h₁)
  · exact wpC_any (wpAny_bind (wpAny_mono h₁ (fun _ _ h₂ => wpAny_bind h₂) fun _ _ x => x))
theorem wpC_runOwn {c : Code} {h : Option Value} {Q : Flow → Shared → Prop}
    (hc : codeC M (A.mark h) c (fun r s' => match r with | .ok f => Q f s' | .error e => cameBackBy M A env E e s') s) (hnb : h ≠ some byPass := by intro x; cases x) :
    wpC M A (runOwn c env h) Q E s := by
  unfold runOwn
  exact wpC_onRaise (wpC_mono (wpC_run hc hnb) (fun _ _ x => x) fun _ _ x => wpC_any x)
theorem wpC_For {target iter : PySem.Expr} {body orelse : List Stmt} {pos : Pos} {Q : Flow → Shared → Prop}
    (h : wpC M A (eval iter env) (fun x s₁ => wpC M A (pyIter x) (fun it s₂ =>
      codeC M A (.forLoop target it body orelse env) (fun r s' => match r with | .ok f => Q f s' | .error e => cameBackBy M A env E e s') s₂) E s₁) E s)
    (hs : ∀ x, foldedSetIterable iter env x = pure x := by intro _; rfl) :
    wpC M A (exec (.For target iter body orelse pos) env) Q E s := by
  rw [exec_For]
  exact wpC_bind (wpC_any (wpAny_standAt (wpC_bind (wpC_mono h (fun x s₁ h₁ => wpC_bind (wpC_any (wpAny_of_eq (hs x) (wpC_bind (wpC_any (wpAny_standAt (wpC_bind (wpC_holding
    (wpC_mono h₁ (fun it s₂ h₂ => wpC_runOwn h₂) fun _ _ h' => h')))))))) ) fun _ _ h' => h'))))
end
end
section
section
variable {M : Model} {A : Around} {E : Value → Shared → Prop} {s : Shared} {env : Env} {pos : Pos} {f : Value} {first : List Value}
theorem wpC_keep {α : Type} {vs : List Value} {m : Sem α} {Q : α → Shared → Prop} (h : wpC M A m Q E s) : wpC M A (m.keep vs) Q E s :=
  fun Γ p hΓ hc => by rw [Sem.wp_keep]; exact h Γ p hΓ hc
theorem wpC_spliced_cons {x : Sem Value} {rest : List (Bool × Sem Value)} {Q : List Value → Shared → Prop}
    (h : wpC M A x (fun v s₁ => wpC M A (spliced rest) (fun vs s₂ => Q (v :: vs) s₂) E s₁) E s) : wpC M A (spliced ((false, x) :: rest)) Q E s := by
  rw [spliced]
  refine wpC_bind (wpC_mono h (fun v s₁ h₁ => ?_) fun _ _ x => x)
  simp only [Bool.false_eq_true, if_false]
  exact wpC_bind (wpC_any (wpAny_pure (wpC_bind (wpC_holding (wpC_mono h₁ (fun vs s₂ h₂ => wpC_any (wpAny_pure h₂)) fun _ _ x => x)))))
theorem wpC_args_cons {e : PySem.Expr} {rest : List PySem.Expr} {Q : List Value → Shared → Prop}
    (h : wpC M A (eval e env) (fun v s₁ => wpC M A (spliced (backTo pos (starEach rest env))) (fun vs s₂ => Q (v :: vs) s₂) E s₁) E s)
    (he : starEach (e :: rest) env = (false, eval e env) :: starEach rest env := by rfl) : wpC M A (spliced (backTo pos (starEach (e :: rest) env))) Q E s := by
  rw [he]; exact wpC_spliced_cons h
theorem wpC_evalArgs {x : Sem Value} {rest : List (Bool × Sem Value)} {Q : Args → Shared → Prop}
    (h : wpC M A (spliced ((false, x) :: rest)) (fun vs s' => Q ⟨vs, []⟩ s') E s) : wpC M A (evalArgs f true ((false, x) :: rest) []) Q E s := by
  unfold evalArgs
  show wpC M A (spliced ((false, x) :: rest) >>= _) Q E s
  refine wpC_bind (wpC_mono h (fun vs s' h' => ?_) fun _ _ x => x)
  refine wpC_holding ?_
  exact wpC_bind (wpC_any (wpAny_pure (wpC_bind (wpC_any (wpAny_pure (wpC_any (wpAny_pure h')))))))
theorem wpC_callWith_of {P : Heap → Prop} {args : List (Bool × Sem Value)} {Q : Value → Shared → Prop} (hplain : args.any (·.1) = false)
    (hk : ∀ h, P h → ∃ k, (k = Keeper.frame ∨ k = Keeper.machine ∨ k = Keeper.boundFrame) ∧ Looks M h (keeperOf f) k)
    (h : wpC M A (evalArgs f true args []) (fun a s₁ => P s₁.heap ∧ wpC M A (call f (first ++ a.pos) a.kw) Q E s₁) E s) : wpC M A (callWith pos f first args []) Q E s := by
  unfold callWith
  refine wpC_bind (wpC_holding (wpC_mono h (fun a s₁ h₁ => wpC_bind (wpC_any (wpAny_standAt ?_))) fun _ _ x => x))
  obtain ⟨k, hk', L⟩ := hk _ h₁.1
  have hp : (args.any (·.1) || ([] : List (Option Str × Sem Value)).any (·.1.isNone)) = false := by rw [hplain]; rfl
  simp only [hp]
  refine wpC_bind (wpC_any (L.here ?_))
  have tail : ∀ {t : Sem Value}, wpC M A t Q E s₁ → wpC M A (t >>= fun r => holding [r] point >>= fun _ => pure r) Q E s₁ :=
    fun ht => wpC_bind (wpC_mono ht (fun r s₂ hr => wpC_any (wpAny_bind (wpAny_holding (wpAny_point (wpAny_pure hr))))) fun _ _ x => x)
  have marked (mk : Value) : wpC M A (callMarked mk f (first ++ a.pos) a.kw) Q E s₁ := by unfold callMarked; exact wpC_keep h₁.2
  rcases hk' with rfl | rfl | rfl <;> dsimp only <;> first | exact tail h₁.2 | (split <;> first | exact tail h₁.2 | exact tail (marked _))
/-- a call whose arguments are written out -/
theorem wpC_callWith {K : Frag} {e : PySem.Expr} {rest : List PySem.Expr} {Q : Value → Shared → Prop} (hk : keepIn K f = true)
    (h : wpC M A (spliced (backTo pos (starEach (e :: rest) env))) (fun vs s₁ => K.In s₁.heap ∧ wpC M A (call f (first ++ vs)) Q E s₁) E s)
    (he : starEach (e :: rest) env = (false, eval e env) :: starEach rest env := by rfl) (hplain : (backTo pos (starEach rest env)).any (·.1) = false := by rfl) :
    wpC M A (callWith pos f first (backTo pos (starEach (e :: rest) env)) []) Q E s := by
  rw [he] at h ⊢
  exact wpC_callWith_of (by show (false || (backTo pos (starEach rest env)).any (·.1)) = false; rw [hplain]; rfl) (keeps_K hk) (wpC_evalArgs h)
theorem wpC_Call {func : PySem.Expr} {args : List PySem.Expr} {Q : Value → Shared → Prop}
    (h : wpC M A (eval func env) (fun f s₁ => wpC M A (callWith pos f [] (backTo pos (starEach args env)) []) Q E s₁) E s)
    (he : eval (.Call func args [] pos) env = (do callWith pos (← eval func env) [] (backTo pos (starEach args env)) (backToKw pos (keywordEach [] env))) := by rfl) :
    wpC M A (eval (.Call func args [] pos) env) Q E s := by
  rw [he]; exact wpC_bind h
theorem wpC_MethodCall {o : PySem.Expr} {name : Str} {apos : Pos} {args : List PySem.Expr} {pl : Sem Bool} {Q : Value → Shared → Prop}
    (h : wpC M A (eval o env) (fun ov s₁ => wpC M A (getMethod ov name pl) (fun fx s₂ => wpC M A (callWith pos fx.1 fx.2 (backTo pos (starEach args env)) []) Q E s₂) E s₁) E s)
    (he : eval (.Call (.Attribute o name apos) args [] pos) env = (do
      let ov ← eval o env
      standAt apos.atName
      let (f, first) ← holding [ov] (getMethod ov name pl)
      callWith pos f first (backTo pos (starEach args env)) []) := by rfl) :
    wpC M A (eval (.Call (.Attribute o name apos) args [] pos) env) Q E s := by
  rw [he]
  refine wpC_bind (wpC_mono h (fun ov s₁ h₁ => wpC_bind (wpC_any (wpAny_standAt (wpC_bind (wpC_holding (wpC_mono h₁ (fun fx s₂ h₂ => ?_) fun _ _ x => x)))))) fun _ _ x => x)
  exact h₂
theorem wpC_Expr {e : PySem.Expr} {Q : Flow → Shared → Prop} (h : wpC M A (eval e env) (fun v s' => v = .none ∧ Q .next s') E s)
    (hi : interactive env = false := by rfl) (hs : swapsWith e none pos.line env = pure false := by rfl) :
    wpC M A (exec (.Expr e pos) env) Q E s := by
  rw [exec_Expr env e pos hi hs]
  refine wpC_bind (wpC_any (wpAny_standAt (wpC_bind (wpC_mono h (fun v s' h' => ?_) fun _ _ x => x))))
  obtain ⟨rfl, h'⟩ := h'
  rw [dropValue_plain (fun a hva => by cases hva)]
  exact wpC_any (wpAny_pure h')
theorem wpC_Assign_Name {x : Str} {pos' : Pos} {value : PySem.Expr} {Q : Flow → Shared → Prop}
    (h : wpC M A (eval value env) (fun v s₁ => wpAny M A (storeName env x v) (fun _ => Q .next) E s₁) E s)
    (hs : swapsWith value (some (.Name x pos')) pos.line env = pure false := by rfl) :
    wpC M A (exec (.Assign [.Name x pos'] value pos) env) Q E s := fun Γ p hΓ hc => by
  simp only [exec_Assign_Name env x pos' value pos hs, Sem.wp_bind', Sem.wp_cmd_standAt, Sem.wp_bindName, Sem.wp_pure']
  exact Sem.wp_mono M Γ _ (fun v _ s₁ h₁ => h₁ Γ _ hΓ) (fun _ _ _ h' => h') _ _ (h Γ _ hΓ hc)
theorem wpC_Assign_Tuple {elts : List PySem.Expr} {k : Nat} {tpos : Pos} {value : PySem.Expr} {Q : Flow → Shared → Prop}
    (h : wpC M A (eval value env) (fun v s₁ => wpAny M A (assign (.Tuple elts k tpos) env v) (fun _ => Q .next) E s₁) E s)
    (hs : swapsWithSole [.Tuple elts k tpos] value pos.line env = pure false := by rfl)
    (hw : swappedStores [.Tuple elts k tpos] value env = pure none := by rfl) :
    wpC M A (exec (.Assign [.Tuple elts k tpos] value pos) env) Q E s := by
  rw [exec_Assign]
  refine wpC_bind (wpC_any (wpAny_standAt ?_))
  rw [hs]
  refine wpC_bind (wpC_any (wpAny_pure ?_))
  rw [if_neg (by decide)]
  refine wpC_bind (wpC_mono h (fun v s₁ h₁ => ?_) fun _ _ x => x)
  rw [hw]
  refine wpC_bind (wpC_any (wpAny_pure ?_))
  show wpC M A (do assignAll v [assign (.Tuple elts k tpos) env]; pure .next) Q E s₁
  exact wpC_any (wpAny_bind (wpAny_mono h₁ (fun _ _ x => wpAny_pure x) fun _ _ x => x))
theorem wpC_Try {body orelse : List Stmt} {h₀ : ExceptHandler} {hs : List ExceptHandler} {Q : Flow → Shared → Prop}
    (h : wpC M A (execs body env) (fun f s₁ => match f with | .next => wpC M A (execs orelse env) Q E s₁ | f => Q f s₁)
      (fun e s₁ => wpAny M A (noteFrame e env) (fun _ s₂ => wpAny M A (setFlight e none) (fun _ s₃ => wpAny M A (handleBy e env (h₀ :: hs)) Q E s₃) E s₂) E s₁) s) :
    wpC M A (exec (.Try body (h₀ :: hs) orelse [] pos) env) Q E s := by
  rw [arm_exec_Try]
  exact wpC_bind (wpC_any (wpAny_standAt (wpC_tryStmt h)))
end
section
variable {prog : Program} {w : World} {A : Around} {E : Value → Shared → Prop} {s : Shared} {env : Env} {R : Result → Shared → Prop}
theorem codeC_func {body : List Stmt} {env : Env}
    (h : wpC (model prog w) (A.deeper env) (execs body env) (fun f s' => R (.ok (.ret (match f with | .ret v => v | _ => .none))) s')
      (fun e s' => wpAny (model prog w) (A.deeper env) (leaving env e) (fun _ s'' => R (.error e) s'') (fun e' s'' => R (.error e') s'') s') s) :
    codeC (model prog w) A (.func body env) R s := by
  refine codeC_of_tree ?_
  show wpC _ (A.deeper env) (do point; match ← (execs body env).onRaise (leaving env) with | .ret v => ret v | _ => ret .none) _ _ s
  refine wpC_bind (wpC_any (wpAny_point (wpC_bind (wpC_onRaise (wpC_mono h (fun f s' h' => ?_) fun _ _ h' => wpC_any h')))))
  cases f <;> exact wpC_any (wpAny_pure h')
theorem codeC_call_function {a : Addr} {args : Args} {o : Obj} {fd : FuncData} {body : List Stmt} (hroom : A.depth < recursionLimit)
    (ho : s.heap.get? a = some o)
    (hd' : o.data = .func fd) (hco : fd.scope.isCoroutine = false) (hgen : fd.scope.isGenerator = false) (hbody : fd.body = .stmts body) (hcd : s.heap.CodeRec fd.code fd.qualname)
    (h : wpAny (model prog w) A.in1 (bindArgs fd args) (fun binds s₁ =>
      wpAny (model prog w) A.in1 (newFunctionEnv fd.scope fd.globals fd.closure binds (fd.qualname ++ ".<locals>.") (some a) fd.code none fd.builtins)
        (fun env s₂ => s₂.heap.NoLimit ∧ codeC (model prog w) A (.func body env) R s₂) (fun e s' => R (.error e) s') s₁) (fun e s' => R (.error e) s') s) :
    codeC (model prog w) A (.call (.ref a) args) R s := by
  refine codeC_of_tree ?_
  show wpC _ A.in1 (callAny (.ref a) args) _ _ s
  simp only [callAny]
  refine wpC_any (wpAny_bind (wpAny_load ho ?_))
  obtain ⟨c, oc, vs, tq, hc, hoc, hdc, hq⟩ := hcd
  simp only [hd', callFunction, hco, hgen, hbody, hc]
  rw [hc] at h
  refine wpAny_bind (m := field (.ref c) 1) (wpAny_field hoc hdc hq (wpAny_bind (wpAny_pure ?_)))
  exact wpAny_bind (wpAny_mono h (fun binds s₁ h₁ => wpAny_bind (wpAny_mono h₁ (fun env s₂ h₂ => wpAny_bind (wpAny_enterFrame h₂.1 hroom
    (wpAny_pure (And.intro rfl h₂.2)))) fun _ _ h' => h')) fun _ _ h' => h')
theorem codeC_call_def {a : Addr} {o : Obj} {fd : FuncData} {body : List Stmt} {args : Args} {binds : List (Str × Value)}
    (hroom : A.depth < recursionLimit) (ho : s.heap.get? a = some o) (hdata : o.data = .func fd) (hlim : s.heap.NoLimit) (hcd : s.heap.CodeRec fd.code fd.qualname)
    (hbody : fd.body = .stmts body) (hbind : BindsTo s fd args binds)
    (hcell : ∀ x ∈ fd.scope.names, x.2 ≠ .cell) (hloc : ∀ x ∈ binds, fd.scope.names.lookup x.1 = some .local)
    (h : ∀ h₀, h₀.Ns s.heap.objs.size (fun x => binds.reverse.lookup x) → (∀ b o, s.heap.get? b = some o → h₀.get? b = some o) →
      wpC (model prog w) (A.deeper (callEnv fd s.heap.objs.size a)) (execs body (callEnv fd s.heap.objs.size a)) (fun f s' => R (.ok (.ret (match f with | .ret v => v | _ => .none))) s')
        (fun e s' => wpAny (model prog w) (A.deeper (callEnv fd s.heap.objs.size a)) (leaving (callEnv fd s.heap.objs.size a) e) (fun _ s'' => R (.error e) s'') (fun e' s'' => R (.error e') s'') s')
        { s with heap := h₀, toks := s.toks + binds.length })
    (hco : fd.scope.isCoroutine = false := by rfl) (hgen : fd.scope.isGenerator = false := by rfl) (hk : fd.scope.kind = .function := by rfl) :
    codeC (model prog w) A (.call (.ref a) args) R s := by
  refine codeC_call_function hroom ho hdata hco hgen hbody hcd (hbind _ _ _ _ ?_)
  refine wpAny_newFunctionEnv hcell hloc (fun h₀ hns₀ hsb₀ => ⟨hlim.fresh _ hsb₀, codeC_func (h h₀ hns₀ fun b o e => ?_)⟩) hk
  exact hsb₀.extBut b o (Nat.ne_of_lt (Heap.lt_size e)) (Heap.get?_push_of_some _ e)
theorem codeC_forLoop {target : PySem.Expr} {it : Value} {body orelse : List Stmt} (I : Nat → Shared → Prop)
    (turn : ∀ n s, I n s → wpC (model prog w) A (pyNext it) (fun r s₁ => match r with
      | none => wpAny (model prog w) A (execs orelse env) (fun f s₃ => R (.ok f) s₃) (notedBy (model prog w) A env fun e s' => R (.error e) s') s₁
      | some v => wpC (model prog w) A (assign target env v) (fun _ s₂ => wpC (model prog w) A (execs body env) (fun f s₃ => match f with
          | .next | .cont => ∃ m, m < n ∧ I m s₃
          | .brk => R (.ok .next) s₃
          | .ret v => R (.ok (.ret v)) s₃) (notedBy (model prog w) A env fun e s' => R (.error e) s') s₂) (notedBy (model prog w) A env fun e s' => R (.error e) s') s₁) (notedBy (model prog w) A env fun e s' => R (.error e) s') s)
    (n : Nat) (h : I n s) (ht : ∀ v, letOwnedTupleGo target it v = pure () := by intro _; rfl) : codeC (model prog w) A (.forLoop target it body orelse env) R s := by
  refine codeC_loop rfl I (fun n s hI => ?_) n h
  show wpC _ _ ((forTurn target it body orelse env).onRaise (fun x => do noteFrame x env; theTreesLotGoes x)) _ _ s
  refine wpC_onRaise (wpC_mono (Q := _) (E := notedBy (model prog w) A env fun e s' => R (.error e) s') ?_ (fun _ _ q => q) fun _ _ hx => wpC_any (wpAny_bind (wpAny_mono hx (fun _ _ e => wpAny_theTreesLotGoes e) fun _ _ e => e)))
  simp only [forTurn]
  refine wpC_bind (wpC_any (wpAny_standAt (wpC_bind (wpC_onRaise (wpC_mono (turn n s hI) (fun r s₁ h₁ => ?_) fun _ _ h' => wpC_any (wpAny_standAt h'))))))
  cases r with
  | none => exact wpC_any (wpAny_pure (.inr ⟨rfl, codeC_any (codeAny_block h₁)⟩))
  | some v =>
    refine wpC_bind (wpC_any (wpAny_of_eq (ht v) ?_))
    refine wpC_bind (wpC_mono h₁ (fun _ s₂ h₂ => wpC_bind (wpC_mono h₂ (fun f s₃ h₃ => ?_) fun _ _ h' => h')) fun _ _ h' => h')
    cases f with
    | next => exact wpC_any (wpAny_pure (.inl ⟨rfl, h₃⟩))
    | cont => exact wpC_any (wpAny_pure (.inl ⟨rfl, h₃⟩))
    | brk => exact wpC_any (wpAny_pure h₃)
    | ret v => exact wpC_any (wpAny_pure h₃)
end
end
section
section
variable {prog : Program} {w : World} {A : Around} {E : Value → Shared → Prop} {s : Shared} {R : Result → Shared → Prop}
theorem codeC_builtin {id : String} {args : Args} {b : Builtin} (hb : entryFor table id = some b)
    (h : wpC (model prog w) (A.under (.builtin id args)) (b args)
      (fun fin s' => match fin with | .done f => R (.ok f) s' | .again c' => c'.quiet = true ∧ codeC (model prog w) A c' R s') (fun e s' => R (.error e) s') s) :
    codeC (model prog w) A (.builtin id args) R s := by
  refine codeC_of_tree ?_
  show wpC _ _ (match entryFor table id with | some b => b args | none => unsupported ((withoutEnding? id "#data").getD id)) _ _ s
  rw [hb]; exact h
theorem wpC_markTheRefusal {own : List String} {e : Value} {Q : Unit → Shared → Prop} (h : Q () s) : wpC (model prog w) A (markTheRefusal own e) Q E s := by
  unfold markTheRefusal
  refine wpC_bind (wpC_stack fun st hst => ?_)
  have hn : pythonCodeMadeTheCall own (st.map (·.1)) = false := by
    unfold pythonCodeMadeTheCall
    have hh : (st.map (·.1)).any Code.isCaller = true := by
      rw [List.any_map]
      exact hst
    have h2 : (!((st.map (·.1)).any Code.isCaller)) = false := by rw [hh]; rfl
    refine Bool.and_eq_false_imp.mpr fun hx => ?_
    have hx := (Bool.and_eq_true_iff.mp hx).1
    have hx' : (!((st.map (·.1)).any Code.isCaller)) = true := hx
    rw [h2] at hx'
    cases hx'
  rw [hn]
  exact wpC_any (wpAny_pure h)

/-- the text 'x' -/
def X1 : PySem.Str := { cps := #[120] }
theorem wpC_ite_false {α : Type} {c : Prop} [Decidable c] {t u : Sem α} {Q : α → Shared → Prop} (hc : ¬ c) (h : wpC (model prog w) A u Q E s) : wpC (model prog w) A (if c then t else u) Q E s := by rw [if_neg hc]; exact h
theorem wpC_ite_true {α : Type} {c : Prop} [Decidable c] {t u : Sem α} {Q : α → Shared → Prop} (hc : c) (h : wpC (model prog w) A t Q E s) : wpC (model prog w) A (if c then t else u) Q E s := by rw [if_pos hc]; exact h
theorem wpC_fromText {u : Tok} {Q : Value → Shared → Prop} (hh : A.handled = none)
    (h : ∀ h' tk e, Heap.NewExc s.heap h' e "ValueError" → E (.ref e) { s with heap := h', toks := tk }) :
    wpC (model prog w) A ((int_private% "intFromText") (.str X1 u) [120] 10) Q E s := by
  have hr : (int_private% "readNumeral") 0 10 (List.takeWhile (fun x => x != 0) [120]) = (int_private% "Numeral.invalid") := by rfl
  refine wpC_bind (wpC_any (wpAny_pure ?_))
  dsimp only
  rw [hr]
  dsimp only
  refine wpC_bind (wpC_any ?_)
  wp_delta
  refine wpAny_pure ?_
  rw [if_neg (by decide)]
  refine wpC_bind (wpC_any (wpAny_rule ?_))
  refine wpC_bind (wpC_any ?_)
  wp_delta
  refine wpAny_pure ?_
  dsimp only
  refine wpC_bind (wpC_any (wpAny_pyRepr_str ?_ (by decide +kernel)))
  refine wpC_bind (wpC_any (wpAny_mkStr ?_ (by decide +kernel)))
  refine wpC_bind (wpC_any (wpAny_newExc_plain plainExc_ValueError fun h' e hx => ?_))
  refine wpC_bind (wpC_markTheRefusal ?_)
  refine wpC_any (wpAny_raiseNew_none hh (h _ _ _ ?_))
  obtain ⟨t, he, _⟩ := hx.there
  exact ⟨hx.keeps, hx.new, _, _, he, rfl, rfl⟩
theorem int_new_x {u : Tok} {Q : PySem.Fin → Shared → Prop} (hh : A.handled = none)
    (h : ∀ h' tk e, Heap.NewExc s.heap h' e "ValueError" → E (.ref e) { s with heap := h', toks := tk }) :
    wpC (model prog w) A (Builtin.«int.__new__» ⟨[.type "int", .str X1 u], []⟩) Q E s := by
  have f1 := F.conv_sub_int
  have f2 := F.madeHere_int
  have f3 := KIN.str_int
  have f4 := KIN.str_idx
  have f5 := KIN.str_trunc
  have f6 : typeOf (.str X1 u) = pure (.type "str") := rfl
  unfold Builtin.«int.__new__»
  dsimp only
  refine wpC_bind (wpC_any ?_)
  repeat (first | assumption | wp_step)
  refine wpC_ite_false (by decide) ?_
  refine wpC_bind (wpC_any ?_)
  repeat (first | assumption | wp_step)
  refine wpC_ite_false (by decide) ?_
  refine wpC_bind (wpC_any ?_)
  repeat (first | assumption | wp_step)
  refine wpC_ite_false (by simp) ?_
  refine wpC_ite_false (by simp) ?_
  refine wpC_bind (wpC_any ?_)
  repeat (first | assumption | wp_step)
  dsimp only [List.head?_cons, List.head?_nil, Option.map_none]
  refine wpC_bind ?_
  refine wpC_bind (wpC_any ?_)
  repeat (first | assumption | wp_step)
  dsimp only
  refine wpC_bind (wpC_any ?_)
  repeat (first | assumption | wp_step)
  refine wpC_ite_false (by decide) ?_
  refine wpC_bind (wpC_any ?_)
  repeat (first | assumption | wp_step)
  dsimp only
  refine wpC_bind (wpC_any ?_)
  repeat (first | assumption | wp_step)
  dsimp only
  rw [if_pos (by decide +kernel)]
  exact wpC_fromText hh h
/-- int('x') at a place of the claim's own -/
theorem call_int_x {u : Tok} {Q : Value → Shared → Prop} (hh : A.handled = none)
    (h : ∀ h' tk e, Heap.NewExc s.heap h' e "ValueError" → E (.ref e) { s with heap := h', toks := tk }) :
    wpC (model prog w) A (call (.type "int") [.str X1 u]) Q E s := by
  obtain ⟨c, tl, hmro⟩ := F.called_int.mro
  have hmade := F.called_int.made
  have hsub := F.called_int.sub
  have hct := F.typeCall_int_1 (.str X1 u)
  refine wpC_call (codeC_of_tree ?_)
  show wpC _ _ (callAny (.type "int") _) _ _ _
  refine wpC_any (wpAny_pure ⟨Code.quiet_builtin _ (by decide +kernel), codeC_builtin F.entry_type_call ?_⟩)
  rw [Around.under_plain (weight_type_call_type "int" _ []) (units_type_call_type "int" _ [])]
  have h1 := F.called_int.notType
  have h2 := F.called_int.canCreate
  unfold Builtin.«type.__call__»
  dsimp only
  refine wpC_ite_false (by rw [h1]; decide) ?_
  refine wpC_ite_false (by rw [h2]; decide) ?_
  refine wpC_bind (wpC_any (wpAny_of_eq hct ?_))
  refine wpC_bind (wpC_any (wpAny_of_eq hmro ?_))
  refine wpC_ite_false (by simp) ?_
  refine wpC_bind (wpC_any (wpAny_of_eq hmade ?_))
  dsimp only
  refine wpC_bind (wpC_any (wpAny_pure ?_))
  refine wpC_bind (wpC_holding (wpC_call (codeC_of_tree ?_)))
  show wpC _ _ (checkBuiltinCall "int.__new__" _ >>= fun _ => again (.builtin "int.__new__" _)) _ _ _
  refine wpC_bind (wpC_any (wpAny_of_eq (F.newCall_int_1 (.str X1 u)) ?_))
  refine wpC_any (wpAny_pure ⟨plainId_quiet F.called_int.plain _, codeC_builtin F.entry_int_new ?_⟩)
  rw [Around.under_plainId F.called_int.plain _]
  exact int_new_x hh h
end
end
section
/-- t where the claim's caller stands on the stack, u elsewhere -/
def calOr {α : Type} (t u : Sem α) : Sem α := .stack fun st => match st.any (fun c => c.1.isCaller) with
  | true => t
  | false => u
section
variable {α : Type} {M : Model} {A : Around} {E : Value → Shared → Prop} {s : Shared} {Q : α → Shared → Prop} {t u : Sem α}
theorem cal_here {Γ : PySem.Ctx} {p : Pos} : Cal ((Γ.code, p) :: Γ.below) ↔ (Γ.code.isCaller = true ∨ Cal Γ.below) := by
  unfold Cal
  rw [List.any_cons, Bool.or_eq_true]
theorem wpAny_calOr (h1 : wpC M A t Q E s) (h2 : wpAny M A u Q E s) : wpAny M A (calOr t u) Q E s := fun Γ p hΓ => by
  unfold calOr
  rw [Sem.wp_stack]
  cases hc : (((Γ.code, p) :: Γ.below).any fun c => c.1.isCaller) with
  | true => exact h1 Γ p hΓ (cal_here.mp hc)
  | false => exact h2 Γ p hΓ
theorem wpAny_calOr' (h1 : wpC M A t Q E s) (h2 : ∀ Γ p, Γ.In A → (((Γ.code, p) :: Γ.below).any fun c => c.1.isCaller) = false → Sem.wp M Γ u (fun a _ s' => Q a s') (fun e _ s' => E e s') p s) : wpAny M A (calOr t u) Q E s := fun Γ p hΓ => by
  unfold calOr
  rw [Sem.wp_stack]
  cases hc : (((Γ.code, p) :: Γ.below).any fun c => c.1.isCaller) with
  | true => exact h1 Γ p hΓ (cal_here.mp hc)
  | false => exact h2 Γ p hΓ hc
theorem wpC_calOr (h : wpAny M A (calOr t u) Q E s) : wpC M A t Q E s := fun Γ p hΓ hc => by
  have := h Γ p hΓ
  unfold calOr at this
  rw [Sem.wp_stack] at this
  have hc' : (((Γ.code, p) :: Γ.below).any fun c => c.1.isCaller) = true := cal_here.mpr hc
  rw [hc'] at this
  exact this
end
section
variable {p : Program} {w : World}
theorem sched_calOr {t u : Sem Fin} {pos : Pos} {s s' : Shared} {n : Nat} {o : Outcome} (hz : s.asleep)
    (h : schedN (denote table) p w n (.single s ⟨calOr t u, .builtin "claim.caller" {}, pos, []⟩) = .halted o s') :
    ∃ m, schedN (denote table) p w m (.single s ⟨t, .builtin "claim.caller" {}, pos, []⟩) = .halted o s' := by
  cases n with
  | zero => cases h
  | succ n =>
    have hs : step (denote table) p w s ⟨calOr t u, .builtin "claim.caller" {}, pos, []⟩ = .go s ⟨t, .builtin "claim.caller" {}, pos, []⟩ := by
      obtain ⟨heap, gens, drawn, toks, os⟩ := s
      rfl
    have e : sstep (denote table) p w (.single s ⟨calOr t u, .builtin "claim.caller" {}, pos, []⟩) = .go (.single s ⟨t, .builtin "claim.caller" {}, pos, []⟩) := by
      rcases sstep_single (denote table) p w s ⟨calOr t u, .builtin "claim.caller" {}, pos, []⟩ rfl hz with e | e
      · rw [e, hs]; rfl
      · rw [hs] at e; cases e
    simp only [schedN, e] at h
    exact ⟨n, h⟩
end

theorem holdsOpen_calOr {c : ClaimW} {tree : List Value → Sem Fin} {u : Sem Fin} {defs keeps : List Str} {writes : Bool}
    (H : c.HoldsOpenBy (fun vs => ⟨calOr (tree vs) u, .builtin "claim.caller" {}, default, []⟩) defs keeps writes) :
    c.HoldsOpenBy (fun vs => ⟨tree vs, .builtin "claim.caller" {}, default, []⟩) defs keeps writes := by
  obtain ⟨h1, h2, h3⟩ := H
  refine ⟨h1, h2, fun w => ⟨(h3 w).1, fun s hs => ?_⟩⟩
  obtain ⟨s₀, hf, hg, s₁, hT, a1, a2, a3, hc⟩ := (h3 w).2 s hs
  refine ⟨s₀, hf, hg, s₁, hT, a1, a2, a3, fun args hpre hlay ord hord => ?_⟩
  obtain ⟨vs, s₂, hlaid, n, o, s', hrun, rest⟩ := hc args hpre hlay ord hord
  have hs' : AfterImport (opening c.prog) w s := hs
  have hz : s₂.asleep := Shared.asleep_of_life (((layAllW_rest _ _ _ hlaid).2.2.2.trans hT.2.1).trans (fence_lifeW hf)) hs'.life
  obtain ⟨m, hm⟩ := sched_calOr hz hrun
  exact ⟨vs, s₂, hlaid, m, o, s', hm, rest⟩

/-- the walk of a law at the claim's caller; and the answer True, told of the heap ahead of the call -/
abbrev WalkOC (q : Program) (loose : List Str) (XP : (Str → Option Value) → Heap → Prop) (YP : World → Heap → Prop) (r : RowW) (d : DefRec) (kwd : List (Str × PySem.Expr)) : Prop :=
  ∀ (w : World) (s₀ s₁ : Shared) (mg mb : Str → Option Value), Ground q loose r.records XP w s₀ mg mb s₁.heap → YP w s₁.heap → ∀ (a : Addr) (o : Obj) (pm cd doc dV kV : Value), s₁.heap.get? a = some o →
    o.data = .func { docDef d.name d.params d.body d.scope pm cd doc with defaults := dV, kwdefaults := kV } → s₁.heap.CodeRec cd d.name → Dflts mg s₁.heap d.params kwd dV kV → mg d.name = some (.ref a) → s₁.gens = #[] →
    ∀ (args : List WData) (vals : List Value) (as : List Addr), r.claim.pre args = true → WData.layableAll args = true → ReadsAllW r.records (classAt s₀.heap) s₁.heap vals args as → WellAll w.params s₁.heap vals args → (∀ a ∈ as, (a == sysModules) = false) →
      wpC (model r.prog w) callerA (call (.ref a) vals) (fun v s' => GoodWG r.claim (classAt s₀.heap) (ExcName.means s₀.heap) args s₁ (.ok (.ret v)) s')
        (fun e s' => GoodWG r.claim (classAt s₀.heap) (ExcName.means s₀.heap) args s₁ (.error e) s') s₁ ∧
      GoodWG r.claim (classAt s₀.heap) (ExcName.means s₀.heap) args s₁ (.ok (.ret (.bool true))) s₁

/-- the top's run from the heap that the library's boot leaves, in one piece, by the library's quick twins -/
abbrev LeftQ (p q : Program) (loose : List Str) (Xt : Shared → Bool) {α : Type} (Yf : Shared → α) (Ya : World → α) (N : Nat) : Prop :=
  ∀ w : World, (fun os => (PySem.W.Fast.tw14082659384304107361 PySem.W.Fast.tw14364793385576792824 p w (boot_heap w.params).objs.size ((boot_heap w.params).nsMap mainGlobals "__annotations__") N ⟨boot_heap w.params, #[], boot_drawn, boot_toks, os⟩ (topStub p)).map fun s₁ =>
      ((boot_heap w.params).isNs mainGlobals && (#[] : Array GenState).size == 0, staticsOk (importedModules p.main.body) (boot_heap w.params) s₁.heap && namesBound p s₁.heap && gensDone s₁ && laidKept (boot_heap w.params) s₁.heap,
        PySem.W.Fast.tw4187177175401517315 q loose (importedModules p.main.body) Xt true s₁, Yf s₁)) = fun _ => some (true, true, openGood q loose, Ya w)
theorem LeftQ.left {p q : Program} {loose : List Str} {Xt : Shared → Bool} {α : Type} {Yf : Shared → α} {Ya : World → α} {N : Nat}
    (h : LeftQ p q loose Xt Yf Ya N) (e : opening p = plainProg p.main.scope.names) (hN : Nat.ble 600 N = true) (f : ∀ s, fenceModules? p s = some s) : LeftO p q loose Xt Yf Ya N := fun w => by
  obtain ⟨⟨h0, gs, d, k, os⟩, e0, e'⟩ := Option.map_eq_some_iff.mp (boot_open e hN f w)
  obtain ⟨rfl, rfl, rfl, rfl⟩ : h0 = boot_heap w.params ∧ gs = #[] ∧ d = boot_drawn ∧ k = boot_toks := by simpa using e'
  have h' := congrFun (h w) os
  rw [← PySem.W.Fast.te14082659384304107361, ← PySem.W.Fast.te14364793385576792824, ← PySem.W.Fast.te4187177175401517315] at h'
  obtain ⟨s₁, r, l⟩ := Option.map_eq_some_iff.mp h'
  obtain ⟨l0, l1, l2, l3⟩ : _ ∧ _ ∧ _ ∧ _ := by simpa only [Prod.mk.injEq] using l
  have t : topFrom treeTable p w N ⟨boot_heap w.params, #[], boot_drawn, boot_toks, os⟩ = some s₁ := by
    unfold topFrom
    dsimp only
    rw [l0, r]
    show (match staticsOk (importedModules p.main.body) (boot_heap w.params) s₁.heap && namesBound p s₁.heap && gensDone s₁ && laidKept (boot_heap w.params) s₁.heap with | true => _ | false => _) = _
    rw [l1]
  unfold openEnds
  rw [e0]
  show (topFrom treeTable p w N ⟨boot_heap w.params, #[], boot_drawn, boot_toks, os⟩).map _ = _
  rw [t]
  show some (_, _) = _
  rw [l2, l3]
theorem PySem.W.holds_open {r : OpenRow} {q : Program} {loose : List Str} {Xt : Shared → Bool} {XP : (Str → Option Value) → Heap → Prop} {α : Type} {Yf : Shared → α} {Ya : World → α} {YP : World → Heap → Prop} {d : DefRec} {kwd : List (Str × PySem.Expr)} {N : Nat}
    (left : LeftQ r.prog q loose Xt Yf Ya N) (hY : ∀ w s, Yf s = Ya w → YP w s.heap) (hYk : ∀ w h h', YP w h → (∀ b o, h.get? b = some o → h'.get? b = some o) → YP w h')
    (hX : ∀ s, Xt s = true → XP (s.heap.nsMap mainGlobals) s.heap) (hXk : ∀ mg h h', XP mg h → (∀ b o, h.get? b = some o → h'.get? b = some o) → XP mg h')
    (hdef : defOf q r.name = some (d, kwd)) (hp : r.prog.theDef r.name = some (d.params, d.body, d.scope)) (hk : kwWritten? d.params.kwonlyargs d.params.kw_defaults = some kwd) (hRf : ∀ s, Xt s = true → RecFacts r.records s.heap) (hwr : (!r.writes || r.records.isEmpty) = true)
    (k1 : r.wellSaid = true) (ok : (chainsOk q && opensWell r.prog && (frees r.toRowW && r.within.isEmpty)) = true) (hb : r.prog.bare) (hw : r.toRowW.promised)
    (call : WalkOC q loose XP YP r.toRowW d kwd)
    (opn : opening r.prog = plainProg r.prog.main.scope.names := by rfl) (hN : Nat.ble 600 N = true := by rfl) (fen : ∀ s, fenceModules? r.prog s = some s := by intro s; rfl) : r.Holds := by
  refine ⟨k1, hw, holdsOpen_calOr (u := pure (.done (.ret (.bool true)))) (tree := fun vs => (callStub r.name vs).cur)
    (open_anyG (r := r.toRowW) (run := fun f vs => calOr (PySem.call f vs) (pure (.bool true))) (tree := fun vs => calOr ((callStub r.name vs).cur) (pure (.done (.ret (.bool true)))))
      (LeftQ.left left opn hN fen) hY hYk hX hXk hRf hwr ok hb hw (fun vs w s mg f Q E hg hf h => ?_) (fun w s hg G n hn => ?_) fun w s₀ s₁ mg mb G Y args vs as hpre hlay L low => ?_)⟩
  · refine wpAny_calOr' ?_ ?_
    · show wpC _ _ (nsGet mainNs r.name >>= _) _ _ _
      refine wpC_bind (wpC_any (wpAny_nsGet hg ?_))
      rw [hf]
      exact wpC_bind (wpC_mono (wpC_calOr h) (fun _ _ x => wpC_any (wpAny_pure x)) fun _ _ x => x)
    · intro Γ p hΓ hc
      have hh := h Γ p hΓ
      unfold calOr at hh
      rw [Sem.wp_stack, hc] at hh
      exact hh
  · obtain rfl : n = r.name := by split at hn <;> simp_all
    exact pinned_of_view hg G hdef hp hk
  · obtain ⟨a, o, pm, cd, doc, dV, kV, h1, h2, h3, h4, h5⟩ := G.fn hdef
    have z := call w s₀ s₁ mg mb G Y a o pm cd doc dV kV h2 h3 h4 h5 (defOf_name hdef ▸ h1) L.gens args vs as hpre hlay L.reads L.well (L.low low)
    exact ⟨.ref a, h1, wpAny_calOr z.1 (wpAny_pure z.2)⟩
end
section
set_option maxRecDepth 100000 in
set_option maxHeartbeats 8000000 in
open_top hd for PySem.Challenge.rw_wf0043_01
/-- the head leaves the walk at the top: back to the calls -/
theorem top_off : True := by
  w_top off
  trivial
end
section
theorem neW : Nonempty World := ⟨{ draws := fun _ _ => 0, params := { strHash := fun _ => 0, shareClass := fun _ => 0, mergeTok := id, idOf := fun _ => 0, idOfShared := fun _ _ => 0, followText := fun _ => false, idOfImm := fun _ => 0 } }⟩
theorem neS : Nonempty Shared := ⟨{}⟩
theorem neA : Nonempty Around := ⟨callerA⟩
theorem neP {α β : Type} (a : Nonempty α) (b : Nonempty β) : Nonempty (α × β) := ⟨(Classical.choice a, Classical.choice b)⟩
/-- a thing that breaks P, if there is one -/
noncomputable def eps {α : Type} (ne : Nonempty α) (P : α → Prop) : α := @Classical.epsilon α ne fun x => ¬ P x
theorem eps_all {α : Type} {ne : Nonempty α} {P : α → Prop} (h : P (eps ne P)) (x : α) : P x :=
  Classical.byContradiction fun n => @Classical.epsilon_spec α (fun x => ¬ P x) ⟨x, n⟩ h
theorem eps2 {α0 α1 : Type} (ne : Nonempty (α0 × α1)) {P : α0 → α1 → Prop} (h : (fun x : α0 × α1 => P x.1 x.2) (eps ne fun x : α0 × α1 => P x.1 x.2)) : ∀ x0 x1, P x0 x1 :=
  fun x0 x1 => eps_all (P := fun x : α0 × α1 => P x.1 x.2) h (x0, x1)
theorem eps3 {α0 α1 α2 : Type} (ne : Nonempty (α0 × α1 × α2)) {P : α0 → α1 → α2 → Prop} (h : (fun x : α0 × α1 × α2 => P x.1 x.2.1 x.2.2) (eps ne fun x : α0 × α1 × α2 => P x.1 x.2.1 x.2.2)) : ∀ x0 x1 x2, P x0 x1 x2 :=
  fun x0 x1 x2 => eps_all (P := fun x : α0 × α1 × α2 => P x.1 x.2.1 x.2.2) h (x0, x1, x2)
theorem eps4 {α0 α1 α2 α3 : Type} (ne : Nonempty (α0 × α1 × α2 × α3)) {P : α0 → α1 → α2 → α3 → Prop} (h : (fun x : α0 × α1 × α2 × α3 => P x.1 x.2.1 x.2.2.1 x.2.2.2) (eps ne fun x : α0 × α1 × α2 × α3 => P x.1 x.2.1 x.2.2.1 x.2.2.2)) : ∀ x0 x1 x2 x3, P x0 x1 x2 x3 :=
  fun x0 x1 x2 x3 => eps_all (P := fun x : α0 × α1 × α2 × α3 => P x.1 x.2.1 x.2.2.1 x.2.2.2) h (x0, x1, x2, x3)
theorem eps5 {α0 α1 α2 α3 α4 : Type} (ne : Nonempty (α0 × α1 × α2 × α3 × α4)) {P : α0 → α1 → α2 → α3 → α4 → Prop} (h : (fun x : α0 × α1 × α2 × α3 × α4 => P x.1 x.2.1 x.2.2.1 x.2.2.2.1 x.2.2.2.2) (eps ne fun x : α0 × α1 × α2 × α3 × α4 => P x.1 x.2.1 x.2.2.1 x.2.2.2.1 x.2.2.2.2)) : ∀ x0 x1 x2 x3 x4, P x0 x1 x2 x3 x4 :=
  fun x0 x1 x2 x3 x4 => eps_all (P := fun x : α0 × α1 × α2 × α3 × α4 => P x.1 x.2.1 x.2.2.1 x.2.2.2.1 x.2.2.2.2) h (x0, x1, x2, x3, x4)
theorem eps7 {α0 α1 α2 α3 α4 α5 α6 : Type} (ne : Nonempty (α0 × α1 × α2 × α3 × α4 × α5 × α6)) {P : α0 → α1 → α2 → α3 → α4 → α5 → α6 → Prop} (h : (fun x : α0 × α1 × α2 × α3 × α4 × α5 × α6 => P x.1 x.2.1 x.2.2.1 x.2.2.2.1 x.2.2.2.2.1 x.2.2.2.2.2.1 x.2.2.2.2.2.2) (eps ne fun x : α0 × α1 × α2 × α3 × α4 × α5 × α6 => P x.1 x.2.1 x.2.2.1 x.2.2.2.1 x.2.2.2.2.1 x.2.2.2.2.2.1 x.2.2.2.2.2.2)) : ∀ x0 x1 x2 x3 x4 x5 x6, P x0 x1 x2 x3 x4 x5 x6 :=
  fun x0 x1 x2 x3 x4 x5 x6 => eps_all (P := fun x : α0 × α1 × α2 × α3 × α4 × α5 × α6 => P x.1 x.2.1 x.2.2.1 x.2.2.2.1 x.2.2.2.2.1 x.2.2.2.2.2.1 x.2.2.2.2.2.2) h (x0, x1, x2, x3, x4, x5, x6)
theorem eps10 {α0 α1 α2 α3 α4 α5 α6 α7 α8 α9 : Type} (ne : Nonempty (α0 × α1 × α2 × α3 × α4 × α5 × α6 × α7 × α8 × α9)) {P : α0 → α1 → α2 → α3 → α4 → α5 → α6 → α7 → α8 → α9 → Prop} (h : (fun x : α0 × α1 × α2 × α3 × α4 × α5 × α6 × α7 × α8 × α9 => P x.1 x.2.1 x.2.2.1 x.2.2.2.1 x.2.2.2.2.1 x.2.2.2.2.2.1 x.2.2.2.2.2.2.1 x.2.2.2.2.2.2.2.1 x.2.2.2.2.2.2.2.2.1 x.2.2.2.2.2.2.2.2.2) (eps ne fun x : α0 × α1 × α2 × α3 × α4 × α5 × α6 × α7 × α8 × α9 => P x.1 x.2.1 x.2.2.1 x.2.2.2.1 x.2.2.2.2.1 x.2.2.2.2.2.1 x.2.2.2.2.2.2.1 x.2.2.2.2.2.2.2.1 x.2.2.2.2.2.2.2.2.1 x.2.2.2.2.2.2.2.2.2)) : ∀ x0 x1 x2 x3 x4 x5 x6 x7 x8 x9, P x0 x1 x2 x3 x4 x5 x6 x7 x8 x9 :=
  fun x0 x1 x2 x3 x4 x5 x6 x7 x8 x9 => eps_all (P := fun x : α0 × α1 × α2 × α3 × α4 × α5 × α6 × α7 × α8 × α9 => P x.1 x.2.1 x.2.2.1 x.2.2.2.1 x.2.2.2.2.1 x.2.2.2.2.2.1 x.2.2.2.2.2.2.1 x.2.2.2.2.2.2.2.1 x.2.2.2.2.2.2.2.2.1 x.2.2.2.2.2.2.2.2.2) h (x0, x1, x2, x3, x4, x5, x6, x7, x8, x9)
theorem eps13 {α0 α1 α2 α3 α4 α5 α6 α7 α8 α9 α10 α11 α12 : Type} (ne : Nonempty (α0 × α1 × α2 × α3 × α4 × α5 × α6 × α7 × α8 × α9 × α10 × α11 × α12)) {P : α0 → α1 → α2 → α3 → α4 → α5 → α6 → α7 → α8 → α9 → α10 → α11 → α12 → Prop} (h : (fun x : α0 × α1 × α2 × α3 × α4 × α5 × α6 × α7 × α8 × α9 × α10 × α11 × α12 => P x.1 x.2.1 x.2.2.1 x.2.2.2.1 x.2.2.2.2.1 x.2.2.2.2.2.1 x.2.2.2.2.2.2.1 x.2.2.2.2.2.2.2.1 x.2.2.2.2.2.2.2.2.1 x.2.2.2.2.2.2.2.2.2.1 x.2.2.2.2.2.2.2.2.2.2.1 x.2.2.2.2.2.2.2.2.2.2.2.1 x.2.2.2.2.2.2.2.2.2.2.2.2) (eps ne fun x : α0 × α1 × α2 × α3 × α4 × α5 × α6 × α7 × α8 × α9 × α10 × α11 × α12 => P x.1 x.2.1 x.2.2.1 x.2.2.2.1 x.2.2.2.2.1 x.2.2.2.2.2.1 x.2.2.2.2.2.2.1 x.2.2.2.2.2.2.2.1 x.2.2.2.2.2.2.2.2.1 x.2.2.2.2.2.2.2.2.2.1 x.2.2.2.2.2.2.2.2.2.2.1 x.2.2.2.2.2.2.2.2.2.2.2.1 x.2.2.2.2.2.2.2.2.2.2.2.2)) : ∀ x0 x1 x2 x3 x4 x5 x6 x7 x8 x9 x10 x11 x12, P x0 x1 x2 x3 x4 x5 x6 x7 x8 x9 x10 x11 x12 :=
  fun x0 x1 x2 x3 x4 x5 x6 x7 x8 x9 x10 x11 x12 => eps_all (P := fun x : α0 × α1 × α2 × α3 × α4 × α5 × α6 × α7 × α8 × α9 × α10 × α11 × α12 => P x.1 x.2.1 x.2.2.1 x.2.2.2.1 x.2.2.2.2.1 x.2.2.2.2.2.1 x.2.2.2.2.2.2.1 x.2.2.2.2.2.2.2.1 x.2.2.2.2.2.2.2.2.1 x.2.2.2.2.2.2.2.2.2.1 x.2.2.2.2.2.2.2.2.2.2.1 x.2.2.2.2.2.2.2.2.2.2.2.1 x.2.2.2.2.2.2.2.2.2.2.2.2) h (x0, x1, x2, x3, x4, x5, x6, x7, x8, x9, x10, x11, x12)
theorem eps20 {α0 α1 α2 α3 α4 α5 α6 α7 α8 α9 α10 α11 α12 α13 α14 α15 α16 α17 α18 α19 : Type} (ne : Nonempty (α0 × α1 × α2 × α3 × α4 × α5 × α6 × α7 × α8 × α9 × α10 × α11 × α12 × α13 × α14 × α15 × α16 × α17 × α18 × α19)) {P : α0 → α1 → α2 → α3 → α4 → α5 → α6 → α7 → α8 → α9 → α10 → α11 → α12 → α13 → α14 → α15 → α16 → α17 → α18 → α19 → Prop} (h : (fun x : α0 × α1 × α2 × α3 × α4 × α5 × α6 × α7 × α8 × α9 × α10 × α11 × α12 × α13 × α14 × α15 × α16 × α17 × α18 × α19 => P x.1 x.2.1 x.2.2.1 x.2.2.2.1 x.2.2.2.2.1 x.2.2.2.2.2.1 x.2.2.2.2.2.2.1 x.2.2.2.2.2.2.2.1 x.2.2.2.2.2.2.2.2.1 x.2.2.2.2.2.2.2.2.2.1 x.2.2.2.2.2.2.2.2.2.2.1 x.2.2.2.2.2.2.2.2.2.2.2.1 x.2.2.2.2.2.2.2.2.2.2.2.2.1 x.2.2.2.2.2.2.2.2.2.2.2.2.2.1 x.2.2.2.2.2.2.2.2.2.2.2.2.2.2.1 x.2.2.2.2.2.2.2.2.2.2.2.2.2.2.2.1 x.2.2.2.2.2.2.2.2.2.2.2.2.2.2.2.2.1 x.2.2.2.2.2.2.2.2.2.2.2.2.2.2.2.2.2.1 x.2.2.2.2.2.2.2.2.2.2.2.2.2.2.2.2.2.2.1 x.2.2.2.2.2.2.2.2.2.2.2.2.2.2.2.2.2.2.2) (eps ne fun x : α0 × α1 × α2 × α3 × α4 × α5 × α6 × α7 × α8 × α9 × α10 × α11 × α12 × α13 × α14 × α15 × α16 × α17 × α18 × α19 => P x.1 x.2.1 x.2.2.1 x.2.2.2.1 x.2.2.2.2.1 x.2.2.2.2.2.1 x.2.2.2.2.2.2.1 x.2.2.2.2.2.2.2.1 x.2.2.2.2.2.2.2.2.1 x.2.2.2.2.2.2.2.2.2.1 x.2.2.2.2.2.2.2.2.2.2.1 x.2.2.2.2.2.2.2.2.2.2.2.1 x.2.2.2.2.2.2.2.2.2.2.2.2.1 x.2.2.2.2.2.2.2.2.2.2.2.2.2.1 x.2.2.2.2.2.2.2.2.2.2.2.2.2.2.1 x.2.2.2.2.2.2.2.2.2.2.2.2.2.2.2.1 x.2.2.2.2.2.2.2.2.2.2.2.2.2.2.2.2.1 x.2.2.2.2.2.2.2.2.2.2.2.2.2.2.2.2.2.1 x.2.2.2.2.2.2.2.2.2.2.2.2.2.2.2.2.2.2.1 x.2.2.2.2.2.2.2.2.2.2.2.2.2.2.2.2.2.2.2)) : ∀ x0 x1 x2 x3 x4 x5 x6 x7 x8 x9 x10 x11 x12 x13 x14 x15 x16 x17 x18 x19, P x0 x1 x2 x3 x4 x5 x6 x7 x8 x9 x10 x11 x12 x13 x14 x15 x16 x17 x18 x19 :=
  fun x0 x1 x2 x3 x4 x5 x6 x7 x8 x9 x10 x11 x12 x13 x14 x15 x16 x17 x18 x19 => eps_all (P := fun x : α0 × α1 × α2 × α3 × α4 × α5 × α6 × α7 × α8 × α9 × α10 × α11 × α12 × α13 × α14 × α15 × α16 × α17 × α18 × α19 => P x.1 x.2.1 x.2.2.1 x.2.2.2.1 x.2.2.2.2.1 x.2.2.2.2.2.1 x.2.2.2.2.2.2.1 x.2.2.2.2.2.2.2.1 x.2.2.2.2.2.2.2.2.1 x.2.2.2.2.2.2.2.2.2.1 x.2.2.2.2.2.2.2.2.2.2.1 x.2.2.2.2.2.2.2.2.2.2.2.1 x.2.2.2.2.2.2.2.2.2.2.2.2.1 x.2.2.2.2.2.2.2.2.2.2.2.2.2.1 x.2.2.2.2.2.2.2.2.2.2.2.2.2.2.1 x.2.2.2.2.2.2.2.2.2.2.2.2.2.2.2.1 x.2.2.2.2.2.2.2.2.2.2.2.2.2.2.2.2.1 x.2.2.2.2.2.2.2.2.2.2.2.2.2.2.2.2.2.1 x.2.2.2.2.2.2.2.2.2.2.2.2.2.2.2.2.2.2.1 x.2.2.2.2.2.2.2.2.2.2.2.2.2.2.2.2.2.2.2) h (x0, x1, x2, x3, x4, x5, x6, x7, x8, x9, x10, x11, x12, x13, x14, x15, x16, x17, x18, x19)
theorem epz1 {α0 : Type} (ne : Nonempty (α0)) {P : α0 → Prop} (h : P (eps ne fun x : α0 => P x)) : ∀ x0, P x0 :=
  fun x0 => eps_all (P := fun x : α0 => P x) h (x0)
theorem epz2 {α0 α1 : Type} (ne : Nonempty (α0 × α1)) {P : α0 → α1 → Prop} (h : P (eps ne fun x : α0 × α1 => P x.1 x.2).1 (eps ne fun x : α0 × α1 => P x.1 x.2).2) : ∀ x0 x1, P x0 x1 :=
  fun x0 x1 => eps_all (P := fun x : α0 × α1 => P x.1 x.2) h (x0, x1)
theorem epz3 {α0 α1 α2 : Type} (ne : Nonempty (α0 × α1 × α2)) {P : α0 → α1 → α2 → Prop} (h : P (eps ne fun x : α0 × α1 × α2 => P x.1 x.2.1 x.2.2).1 (eps ne fun x : α0 × α1 × α2 => P x.1 x.2.1 x.2.2).2.1 (eps ne fun x : α0 × α1 × α2 => P x.1 x.2.1 x.2.2).2.2) : ∀ x0 x1 x2, P x0 x1 x2 :=
  fun x0 x1 x2 => eps_all (P := fun x : α0 × α1 × α2 => P x.1 x.2.1 x.2.2) h (x0, x1, x2)
theorem epz4 {α0 α1 α2 α3 : Type} (ne : Nonempty (α0 × α1 × α2 × α3)) {P : α0 → α1 → α2 → α3 → Prop} (h : P (eps ne fun x : α0 × α1 × α2 × α3 => P x.1 x.2.1 x.2.2.1 x.2.2.2).1 (eps ne fun x : α0 × α1 × α2 × α3 => P x.1 x.2.1 x.2.2.1 x.2.2.2).2.1 (eps ne fun x : α0 × α1 × α2 × α3 => P x.1 x.2.1 x.2.2.1 x.2.2.2).2.2.1 (eps ne fun x : α0 × α1 × α2 × α3 => P x.1 x.2.1 x.2.2.1 x.2.2.2).2.2.2) : ∀ x0 x1 x2 x3, P x0 x1 x2 x3 :=
  fun x0 x1 x2 x3 => eps_all (P := fun x : α0 × α1 × α2 × α3 => P x.1 x.2.1 x.2.2.1 x.2.2.2) h (x0, x1, x2, x3)
theorem epz5 {α0 α1 α2 α3 α4 : Type} (ne : Nonempty (α0 × α1 × α2 × α3 × α4)) {P : α0 → α1 → α2 → α3 → α4 → Prop} (h : P (eps ne fun x : α0 × α1 × α2 × α3 × α4 => P x.1 x.2.1 x.2.2.1 x.2.2.2.1 x.2.2.2.2).1 (eps ne fun x : α0 × α1 × α2 × α3 × α4 => P x.1 x.2.1 x.2.2.1 x.2.2.2.1 x.2.2.2.2).2.1 (eps ne fun x : α0 × α1 × α2 × α3 × α4 => P x.1 x.2.1 x.2.2.1 x.2.2.2.1 x.2.2.2.2).2.2.1 (eps ne fun x : α0 × α1 × α2 × α3 × α4 => P x.1 x.2.1 x.2.2.1 x.2.2.2.1 x.2.2.2.2).2.2.2.1 (eps ne fun x : α0 × α1 × α2 × α3 × α4 => P x.1 x.2.1 x.2.2.1 x.2.2.2.1 x.2.2.2.2).2.2.2.2) : ∀ x0 x1 x2 x3 x4, P x0 x1 x2 x3 x4 :=
  fun x0 x1 x2 x3 x4 => eps_all (P := fun x : α0 × α1 × α2 × α3 × α4 => P x.1 x.2.1 x.2.2.1 x.2.2.2.1 x.2.2.2.2) h (x0, x1, x2, x3, x4)
theorem epz6 {α0 α1 α2 α3 α4 α5 : Type} (ne : Nonempty (α0 × α1 × α2 × α3 × α4 × α5)) {P : α0 → α1 → α2 → α3 → α4 → α5 → Prop} (h : P (eps ne fun x : α0 × α1 × α2 × α3 × α4 × α5 => P x.1 x.2.1 x.2.2.1 x.2.2.2.1 x.2.2.2.2.1 x.2.2.2.2.2).1 (eps ne fun x : α0 × α1 × α2 × α3 × α4 × α5 => P x.1 x.2.1 x.2.2.1 x.2.2.2.1 x.2.2.2.2.1 x.2.2.2.2.2).2.1 (eps ne fun x : α0 × α1 × α2 × α3 × α4 × α5 => P x.1 x.2.1 x.2.2.1 x.2.2.2.1 x.2.2.2.2.1 x.2.2.2.2.2).2.2.1 (eps ne fun x : α0 × α1 × α2 × α3 × α4 × α5 => P x.1 x.2.1 x.2.2.1 x.2.2.2.1 x.2.2.2.2.1 x.2.2.2.2.2).2.2.2.1 (eps ne fun x : α0 × α1 × α2 × α3 × α4 × α5 => P x.1 x.2.1 x.2.2.1 x.2.2.2.1 x.2.2.2.2.1 x.2.2.2.2.2).2.2.2.2.1 (eps ne fun x : α0 × α1 × α2 × α3 × α4 × α5 => P x.1 x.2.1 x.2.2.1 x.2.2.2.1 x.2.2.2.2.1 x.2.2.2.2.2).2.2.2.2.2) : ∀ x0 x1 x2 x3 x4 x5, P x0 x1 x2 x3 x4 x5 :=
  fun x0 x1 x2 x3 x4 x5 => eps_all (P := fun x : α0 × α1 × α2 × α3 × α4 × α5 => P x.1 x.2.1 x.2.2.1 x.2.2.2.1 x.2.2.2.2.1 x.2.2.2.2.2) h (x0, x1, x2, x3, x4, x5)
theorem epz7 {α0 α1 α2 α3 α4 α5 α6 : Type} (ne : Nonempty (α0 × α1 × α2 × α3 × α4 × α5 × α6)) {P : α0 → α1 → α2 → α3 → α4 → α5 → α6 → Prop} (h : P (eps ne fun x : α0 × α1 × α2 × α3 × α4 × α5 × α6 => P x.1 x.2.1 x.2.2.1 x.2.2.2.1 x.2.2.2.2.1 x.2.2.2.2.2.1 x.2.2.2.2.2.2).1 (eps ne fun x : α0 × α1 × α2 × α3 × α4 × α5 × α6 => P x.1 x.2.1 x.2.2.1 x.2.2.2.1 x.2.2.2.2.1 x.2.2.2.2.2.1 x.2.2.2.2.2.2).2.1 (eps ne fun x : α0 × α1 × α2 × α3 × α4 × α5 × α6 => P x.1 x.2.1 x.2.2.1 x.2.2.2.1 x.2.2.2.2.1 x.2.2.2.2.2.1 x.2.2.2.2.2.2).2.2.1 (eps ne fun x : α0 × α1 × α2 × α3 × α4 × α5 × α6 => P x.1 x.2.1 x.2.2.1 x.2.2.2.1 x.2.2.2.2.1 x.2.2.2.2.2.1 x.2.2.2.2.2.2).2.2.2.1 (eps ne fun x : α0 × α1 × α2 × α3 × α4 × α5 × α6 => P x.1 x.2.1 x.2.2.1 x.2.2.2.1 x.2.2.2.2.1 x.2.2.2.2.2.1 x.2.2.2.2.2.2).2.2.2.2.1 (eps ne fun x : α0 × α1 × α2 × α3 × α4 × α5 × α6 => P x.1 x.2.1 x.2.2.1 x.2.2.2.1 x.2.2.2.2.1 x.2.2.2.2.2.1 x.2.2.2.2.2.2).2.2.2.2.2.1 (eps ne fun x : α0 × α1 × α2 × α3 × α4 × α5 × α6 => P x.1 x.2.1 x.2.2.1 x.2.2.2.1 x.2.2.2.2.1 x.2.2.2.2.2.1 x.2.2.2.2.2.2).2.2.2.2.2.2) : ∀ x0 x1 x2 x3 x4 x5 x6, P x0 x1 x2 x3 x4 x5 x6 :=
  fun x0 x1 x2 x3 x4 x5 x6 => eps_all (P := fun x : α0 × α1 × α2 × α3 × α4 × α5 × α6 => P x.1 x.2.1 x.2.2.1 x.2.2.2.1 x.2.2.2.2.1 x.2.2.2.2.2.1 x.2.2.2.2.2.2) h (x0, x1, x2, x3, x4, x5, x6)
theorem epz8 {α0 α1 α2 α3 α4 α5 α6 α7 : Type} (ne : Nonempty (α0 × α1 × α2 × α3 × α4 × α5 × α6 × α7)) {P : α0 → α1 → α2 → α3 → α4 → α5 → α6 → α7 → Prop} (h : P (eps ne fun x : α0 × α1 × α2 × α3 × α4 × α5 × α6 × α7 => P x.1 x.2.1 x.2.2.1 x.2.2.2.1 x.2.2.2.2.1 x.2.2.2.2.2.1 x.2.2.2.2.2.2.1 x.2.2.2.2.2.2.2).1 (eps ne fun x : α0 × α1 × α2 × α3 × α4 × α5 × α6 × α7 => P x.1 x.2.1 x.2.2.1 x.2.2.2.1 x.2.2.2.2.1 x.2.2.2.2.2.1 x.2.2.2.2.2.2.1 x.2.2.2.2.2.2.2).2.1 (eps ne fun x : α0 × α1 × α2 × α3 × α4 × α5 × α6 × α7 => P x.1 x.2.1 x.2.2.1 x.2.2.2.1 x.2.2.2.2.1 x.2.2.2.2.2.1 x.2.2.2.2.2.2.1 x.2.2.2.2.2.2.2).2.2.1 (eps ne fun x : α0 × α1 × α2 × α3 × α4 × α5 × α6 × α7 => P x.1 x.2.1 x.2.2.1 x.2.2.2.1 x.2.2.2.2.1 x.2.2.2.2.2.1 x.2.2.2.2.2.2.1 x.2.2.2.2.2.2.2).2.2.2.1 (eps ne fun x : α0 × α1 × α2 × α3 × α4 × α5 × α6 × α7 => P x.1 x.2.1 x.2.2.1 x.2.2.2.1 x.2.2.2.2.1 x.2.2.2.2.2.1 x.2.2.2.2.2.2.1 x.2.2.2.2.2.2.2).2.2.2.2.1 (eps ne fun x : α0 × α1 × α2 × α3 × α4 × α5 × α6 × α7 => P x.1 x.2.1 x.2.2.1 x.2.2.2.1 x.2.2.2.2.1 x.2.2.2.2.2.1 x.2.2.2.2.2.2.1 x.2.2.2.2.2.2.2).2.2.2.2.2.1 (eps ne fun x : α0 × α1 × α2 × α3 × α4 × α5 × α6 × α7 => P x.1 x.2.1 x.2.2.1 x.2.2.2.1 x.2.2.2.2.1 x.2.2.2.2.2.1 x.2.2.2.2.2.2.1 x.2.2.2.2.2.2.2).2.2.2.2.2.2.1 (eps ne fun x : α0 × α1 × α2 × α3 × α4 × α5 × α6 × α7 => P x.1 x.2.1 x.2.2.1 x.2.2.2.1 x.2.2.2.2.1 x.2.2.2.2.2.1 x.2.2.2.2.2.2.1 x.2.2.2.2.2.2.2).2.2.2.2.2.2.2) : ∀ x0 x1 x2 x3 x4 x5 x6 x7, P x0 x1 x2 x3 x4 x5 x6 x7 :=
  fun x0 x1 x2 x3 x4 x5 x6 x7 => eps_all (P := fun x : α0 × α1 × α2 × α3 × α4 × α5 × α6 × α7 => P x.1 x.2.1 x.2.2.1 x.2.2.2.1 x.2.2.2.2.1 x.2.2.2.2.2.1 x.2.2.2.2.2.2.1 x.2.2.2.2.2.2.2) h (x0, x1, x2, x3, x4, x5, x6, x7)
theorem epz9 {α0 α1 α2 α3 α4 α5 α6 α7 α8 : Type} (ne : Nonempty (α0 × α1 × α2 × α3 × α4 × α5 × α6 × α7 × α8)) {P : α0 → α1 → α2 → α3 → α4 → α5 → α6 → α7 → α8 → Prop} (h : P (eps ne fun x : α0 × α1 × α2 × α3 × α4 × α5 × α6 × α7 × α8 => P x.1 x.2.1 x.2.2.1 x.2.2.2.1 x.2.2.2.2.1 x.2.2.2.2.2.1 x.2.2.2.2.2.2.1 x.2.2.2.2.2.2.2.1 x.2.2.2.2.2.2.2.2).1 (eps ne fun x : α0 × α1 × α2 × α3 × α4 × α5 × α6 × α7 × α8 => P x.1 x.2.1 x.2.2.1 x.2.2.2.1 x.2.2.2.2.1 x.2.2.2.2.2.1 x.2.2.2.2.2.2.1 x.2.2.2.2.2.2.2.1 x.2.2.2.2.2.2.2.2).2.1 (eps ne fun x : α0 × α1 × α2 × α3 × α4 × α5 × α6 × α7 × α8 => P x.1 x.2.1 x.2.2.1 x.2.2.2.1 x.2.2.2.2.1 x.2.2.2.2.2.1 x.2.2.2.2.2.2.1 x.2.2.2.2.2.2.2.1 x.2.2.2.2.2.2.2.2).2.2.1 (eps ne fun x : α0 × α1 × α2 × α3 × α4 × α5 × α6 × α7 × α8 => P x.1 x.2.1 x.2.2.1 x.2.2.2.1 x.2.2.2.2.1 x.2.2.2.2.2.1 x.2.2.2.2.2.2.1 x.2.2.2.2.2.2.2.1 x.2.2.2.2.2.2.2.2).2.2.2.1 (eps ne fun x : α0 × α1 × α2 × α3 × α4 × α5 × α6 × α7 × α8 => P x.1 x.2.1 x.2.2.1 x.2.2.2.1 x.2.2.2.2.1 x.2.2.2.2.2.1 x.2.2.2.2.2.2.1 x.2.2.2.2.2.2.2.1 x.2.2.2.2.2.2.2.2).2.2.2.2.1 (eps ne fun x : α0 × α1 × α2 × α3 × α4 × α5 × α6 × α7 × α8 => P x.1 x.2.1 x.2.2.1 x.2.2.2.1 x.2.2.2.2.1 x.2.2.2.2.2.1 x.2.2.2.2.2.2.1 x.2.2.2.2.2.2.2.1 x.2.2.2.2.2.2.2.2).2.2.2.2.2.1 (eps ne fun x : α0 × α1 × α2 × α3 × α4 × α5 × α6 × α7 × α8 => P x.1 x.2.1 x.2.2.1 x.2.2.2.1 x.2.2.2.2.1 x.2.2.2.2.2.1 x.2.2.2.2.2.2.1 x.2.2.2.2.2.2.2.1 x.2.2.2.2.2.2.2.2).2.2.2.2.2.2.1 (eps ne fun x : α0 × α1 × α2 × α3 × α4 × α5 × α6 × α7 × α8 => P x.1 x.2.1 x.2.2.1 x.2.2.2.1 x.2.2.2.2.1 x.2.2.2.2.2.1 x.2.2.2.2.2.2.1 x.2.2.2.2.2.2.2.1 x.2.2.2.2.2.2.2.2).2.2.2.2.2.2.2.1 (eps ne fun x : α0 × α1 × α2 × α3 × α4 × α5 × α6 × α7 × α8 => P x.1 x.2.1 x.2.2.1 x.2.2.2.1 x.2.2.2.2.1 x.2.2.2.2.2.1 x.2.2.2.2.2.2.1 x.2.2.2.2.2.2.2.1 x.2.2.2.2.2.2.2.2).2.2.2.2.2.2.2.2) : ∀ x0 x1 x2 x3 x4 x5 x6 x7 x8, P x0 x1 x2 x3 x4 x5 x6 x7 x8 :=
  fun x0 x1 x2 x3 x4 x5 x6 x7 x8 => eps_all (P := fun x : α0 × α1 × α2 × α3 × α4 × α5 × α6 × α7 × α8 => P x.1 x.2.1 x.2.2.1 x.2.2.2.1 x.2.2.2.2.1 x.2.2.2.2.2.1 x.2.2.2.2.2.2.1 x.2.2.2.2.2.2.2.1 x.2.2.2.2.2.2.2.2) h (x0, x1, x2, x3, x4, x5, x6, x7, x8)
theorem epz10 {α0 α1 α2 α3 α4 α5 α6 α7 α8 α9 : Type} (ne : Nonempty (α0 × α1 × α2 × α3 × α4 × α5 × α6 × α7 × α8 × α9)) {P : α0 → α1 → α2 → α3 → α4 → α5 → α6 → α7 → α8 → α9 → Prop} (h : P (eps ne fun x : α0 × α1 × α2 × α3 × α4 × α5 × α6 × α7 × α8 × α9 => P x.1 x.2.1 x.2.2.1 x.2.2.2.1 x.2.2.2.2.1 x.2.2.2.2.2.1 x.2.2.2.2.2.2.1 x.2.2.2.2.2.2.2.1 x.2.2.2.2.2.2.2.2.1 x.2.2.2.2.2.2.2.2.2).1 (eps ne fun x : α0 × α1 × α2 × α3 × α4 × α5 × α6 × α7 × α8 × α9 => P x.1 x.2.1 x.2.2.1 x.2.2.2.1 x.2.2.2.2.1 x.2.2.2.2.2.1 x.2.2.2.2.2.2.1 x.2.2.2.2.2.2.2.1 x.2.2.2.2.2.2.2.2.1 x.2.2.2.2.2.2.2.2.2).2.1 (eps ne fun x : α0 × α1 × α2 × α3 × α4 × α5 × α6 × α7 × α8 × α9 => P x.1 x.2.1 x.2.2.1 x.2.2.2.1 x.2.2.2.2.1 x.2.2.2.2.2.1 x.2.2.2.2.2.2.1 x.2.2.2.2.2.2.2.1 x.2.2.2.2.2.2.2.2.1 x.2.2.2.2.2.2.2.2.2).2.2.1 (eps ne fun x : α0 × α1 × α2 × α3 × α4 × α5 × α6 × α7 × α8 × α9 => P x.1 x.2.1 x.2.2.1 x.2.2.2.1 x.2.2.2.2.1 x.2.2.2.2.2.1 x.2.2.2.2.2.2.1 x.2.2.2.2.2.2.2.1 x.2.2.2.2.2.2.2.2.1 x.2.2.2.2.2.2.2.2.2).2.2.2.1 (eps ne fun x : α0 × α1 × α2 × α3 × α4 × α5 × α6 × α7 × α8 × α9 => P x.1 x.2.1 x.2.2.1 x.2.2.2.1 x.2.2.2.2.1 x.2.2.2.2.2.1 x.2.2.2.2.2.2.1 x.2.2.2.2.2.2.2.1 x.2.2.2.2.2.2.2.2.1 x.2.2.2.2.2.2.2.2.2).2.2.2.2.1 (eps ne fun x : α0 × α1 × α2 × α3 × α4 × α5 × α6 × α7 × α8 × α9 => P x.1 x.2.1 x.2.2.1 x.2.2.2.1 x.2.2.2.2.1 x.2.2.2.2.2.1 x.2.2.2.2.2.2.1 x.2.2.2.2.2.2.2.1 x.2.2.2.2.2.2.2.2.1 x.2.2.2.2.2.2.2.2.2).2.2.2.2.2.1 (eps ne fun x : α0 × α1 × α2 × α3 × α4 × α5 × α6 × α7 × α8 × α9 => P x.1 x.2.1 x.2.2.1 x.2.2.2.1 x.2.2.2.2.1 x.2.2.2.2.2.1 x.2.2.2.2.2.2.1 x.2.2.2.2.2.2.2.1 x.2.2.2.2.2.2.2.2.1 x.2.2.2.2.2.2.2.2.2).2.2.2.2.2.2.1 (eps ne fun x : α0 × α1 × α2 × α3 × α4 × α5 × α6 × α7 × α8 × α9 => P x.1 x.2.1 x.2.2.1 x.2.2.2.1 x.2.2.2.2.1 x.2.2.2.2.2.1 x.2.2.2.2.2.2.1 x.2.2.2.2.2.2.2.1 x.2.2.2.2.2.2.2.2.1 x.2.2.2.2.2.2.2.2.2).2.2.2.2.2.2.2.1 (eps ne fun x : α0 × α1 × α2 × α3 × α4 × α5 × α6 × α7 × α8 × α9 => P x.1 x.2.1 x.2.2.1 x.2.2.2.1 x.2.2.2.2.1 x.2.2.2.2.2.1 x.2.2.2.2.2.2.1 x.2.2.2.2.2.2.2.1 x.2.2.2.2.2.2.2.2.1 x.2.2.2.2.2.2.2.2.2).2.2.2.2.2.2.2.2.1 (eps ne fun x : α0 × α1 × α2 × α3 × α4 × α5 × α6 × α7 × α8 × α9 => P x.1 x.2.1 x.2.2.1 x.2.2.2.1 x.2.2.2.2.1 x.2.2.2.2.2.1 x.2.2.2.2.2.2.1 x.2.2.2.2.2.2.2.1 x.2.2.2.2.2.2.2.2.1 x.2.2.2.2.2.2.2.2.2).2.2.2.2.2.2.2.2.2) : ∀ x0 x1 x2 x3 x4 x5 x6 x7 x8 x9, P x0 x1 x2 x3 x4 x5 x6 x7 x8 x9 :=
  fun x0 x1 x2 x3 x4 x5 x6 x7 x8 x9 => eps_all (P := fun x : α0 × α1 × α2 × α3 × α4 × α5 × α6 × α7 × α8 × α9 => P x.1 x.2.1 x.2.2.1 x.2.2.2.1 x.2.2.2.2.1 x.2.2.2.2.2.1 x.2.2.2.2.2.2.1 x.2.2.2.2.2.2.2.1 x.2.2.2.2.2.2.2.2.1 x.2.2.2.2.2.2.2.2.2) h (x0, x1, x2, x3, x4, x5, x6, x7, x8, x9)
theorem epz11 {α0 α1 α2 α3 α4 α5 α6 α7 α8 α9 α10 : Type} (ne : Nonempty (α0 × α1 × α2 × α3 × α4 × α5 × α6 × α7 × α8 × α9 × α10)) {P : α0 → α1 → α2 → α3 → α4 → α5 → α6 → α7 → α8 → α9 → α10 → Prop} (h : P (eps ne fun x : α0 × α1 × α2 × α3 × α4 × α5 × α6 × α7 × α8 × α9 × α10 => P x.1 x.2.1 x.2.2.1 x.2.2.2.1 x.2.2.2.2.1 x.2.2.2.2.2.1 x.2.2.2.2.2.2.1 x.2.2.2.2.2.2.2.1 x.2.2.2.2.2.2.2.2.1 x.2.2.2.2.2.2.2.2.2.1 x.2.2.2.2.2.2.2.2.2.2).1 (eps ne fun x : α0 × α1 × α2 × α3 × α4 × α5 × α6 × α7 × α8 × α9 × α10 => P x.1 x.2.1 x.2.2.1 x.2.2.2.1 x.2.2.2.2.1 x.2.2.2.2.2.1 x.2.2.2.2.2.2.1 x.2.2.2.2.2.2.2.1 x.2.2.2.2.2.2.2.2.1 x.2.2.2.2.2.2.2.2.2.1 x.2.2.2.2.2.2.2.2.2.2).2.1 (eps ne fun x : α0 × α1 × α2 × α3 × α4 × α5 × α6 × α7 × α8 × α9 × α10 => P x.1 x.2.1 x.2.2.1 x.2.2.2.1 x.2.2.2.2.1 x.2.2.2.2.2.1 x.2.2.2.2.2.2.1 x.2.2.2.2.2.2.2.1 x.2.2.2.2.2.2.2.2.1 x.2.2.2.2.2.2.2.2.2.1 x.2.2.2.2.2.2.2.2.2.2).2.2.1 (eps ne fun x : α0 × α1 × α2 × α3 × α4 × α5 × α6 × α7 × α8 × α9 × α10 => P x.1 x.2.1 x.2.2.1 x.2.2.2.1 x.2.2.2.2.1 x.2.2.2.2.2.1 x.2.2.2.2.2.2.1 x.2.2.2.2.2.2.2.1 x.2.2.2.2.2.2.2.2.1 x.2.2.2.2.2.2.2.2.2.1 x.2.2.2.2.2.2.2.2.2.2).2.2.2.1 (eps ne fun x : α0 × α1 × α2 × α3 × α4 × α5 × α6 × α7 × α8 × α9 × α10 => P x.1 x.2.1 x.2.2.1 x.2.2.2.1 x.2.2.2.2.1 x.2.2.2.2.2.1 x.2.2.2.2.2.2.1 x.2.2.2.2.2.2.2.1 x.2.2.2.2.2.2.2.2.1 x.2.2.2.2.2.2.2.2.2.1 x.2.2.2.2.2.2.2.2.2.2).2.2.2.2.1 (eps ne fun x : α0 × α1 × α2 × α3 × α4 × α5 × α6 × α7 × α8 × α9 × α10 => P x.1 x.2.1 x.2.2.1 x.2.2.2.1 x.2.2.2.2.1 x.2.2.2.2.2.1 x.2.2.2.2.2.2.1 x.2.2.2.2.2.2.2.1 x.2.2.2.2.2.2.2.2.1 x.2.2.2.2.2.2.2.2.2.1 x.2.2.2.2.2.2.2.2.2.2).2.2.2.2.2.1 (eps ne fun x : α0 × α1 × α2 × α3 × α4 × α5 × α6 × α7 × α8 × α9 × α10 => P x.1 x.2.1 x.2.2.1 x.2.2.2.1 x.2.2.2.2.1 x.2.2.2.2.2.1 x.2.2.2.2.2.2.1 x.2.2.2.2.2.2.2.1 x.2.2.2.2.2.2.2.2.1 x.2.2.2.2.2.2.2.2.2.1 x.2.2.2.2.2.2.2.2.2.2).2.2.2.2.2.2.1 (eps ne fun x : α0 × α1 × α2 × α3 × α4 × α5 × α6 × α7 × α8 × α9 × α10 => P x.1 x.2.1 x.2.2.1 x.2.2.2.1 x.2.2.2.2.1 x.2.2.2.2.2.1 x.2.2.2.2.2.2.1 x.2.2.2.2.2.2.2.1 x.2.2.2.2.2.2.2.2.1 x.2.2.2.2.2.2.2.2.2.1 x.2.2.2.2.2.2.2.2.2.2).2.2.2.2.2.2.2.1 (eps ne fun x : α0 × α1 × α2 × α3 × α4 × α5 × α6 × α7 × α8 × α9 × α10 => P x.1 x.2.1 x.2.2.1 x.2.2.2.1 x.2.2.2.2.1 x.2.2.2.2.2.1 x.2.2.2.2.2.2.1 x.2.2.2.2.2.2.2.1 x.2.2.2.2.2.2.2.2.1 x.2.2.2.2.2.2.2.2.2.1 x.2.2.2.2.2.2.2.2.2.2).2.2.2.2.2.2.2.2.1 (eps ne fun x : α0 × α1 × α2 × α3 × α4 × α5 × α6 × α7 × α8 × α9 × α10 => P x.1 x.2.1 x.2.2.1 x.2.2.2.1 x.2.2.2.2.1 x.2.2.2.2.2.1 x.2.2.2.2.2.2.1 x.2.2.2.2.2.2.2.1 x.2.2.2.2.2.2.2.2.1 x.2.2.2.2.2.2.2.2.2.1 x.2.2.2.2.2.2.2.2.2.2).2.2.2.2.2.2.2.2.2.1 (eps ne fun x : α0 × α1 × α2 × α3 × α4 × α5 × α6 × α7 × α8 × α9 × α10 => P x.1 x.2.1 x.2.2.1 x.2.2.2.1 x.2.2.2.2.1 x.2.2.2.2.2.1 x.2.2.2.2.2.2.1 x.2.2.2.2.2.2.2.1 x.2.2.2.2.2.2.2.2.1 x.2.2.2.2.2.2.2.2.2.1 x.2.2.2.2.2.2.2.2.2.2).2.2.2.2.2.2.2.2.2.2) : ∀ x0 x1 x2 x3 x4 x5 x6 x7 x8 x9 x10, P x0 x1 x2 x3 x4 x5 x6 x7 x8 x9 x10 :=
  fun x0 x1 x2 x3 x4 x5 x6 x7 x8 x9 x10 => eps_all (P := fun x : α0 × α1 × α2 × α3 × α4 × α5 × α6 × α7 × α8 × α9 × α10 => P x.1 x.2.1 x.2.2.1 x.2.2.2.1 x.2.2.2.2.1 x.2.2.2.2.2.1 x.2.2.2.2.2.2.1 x.2.2.2.2.2.2.2.1 x.2.2.2.2.2.2.2.2.1 x.2.2.2.2.2.2.2.2.2.1 x.2.2.2.2.2.2.2.2.2.2) h (x0, x1, x2, x3, x4, x5, x6, x7, x8, x9, x10)
theorem epz12 {α0 α1 α2 α3 α4 α5 α6 α7 α8 α9 α10 α11 : Type} (ne : Nonempty (α0 × α1 × α2 × α3 × α4 × α5 × α6 × α7 × α8 × α9 × α10 × α11)) {P : α0 → α1 → α2 → α3 → α4 → α5 → α6 → α7 → α8 → α9 → α10 → α11 → Prop} (h : P (eps ne fun x : α0 × α1 × α2 × α3 × α4 × α5 × α6 × α7 × α8 × α9 × α10 × α11 => P x.1 x.2.1 x.2.2.1 x.2.2.2.1 x.2.2.2.2.1 x.2.2.2.2.2.1 x.2.2.2.2.2.2.1 x.2.2.2.2.2.2.2.1 x.2.2.2.2.2.2.2.2.1 x.2.2.2.2.2.2.2.2.2.1 x.2.2.2.2.2.2.2.2.2.2.1 x.2.2.2.2.2.2.2.2.2.2.2).1 (eps ne fun x : α0 × α1 × α2 × α3 × α4 × α5 × α6 × α7 × α8 × α9 × α10 × α11 => P x.1 x.2.1 x.2.2.1 x.2.2.2.1 x.2.2.2.2.1 x.2.2.2.2.2.1 x.2.2.2.2.2.2.1 x.2.2.2.2.2.2.2.1 x.2.2.2.2.2.2.2.2.1 x.2.2.2.2.2.2.2.2.2.1 x.2.2.2.2.2.2.2.2.2.2.1 x.2.2.2.2.2.2.2.2.2.2.2).2.1 (eps ne fun x : α0 × α1 × α2 × α3 × α4 × α5 × α6 × α7 × α8 × α9 × α10 × α11 => P x.1 x.2.1 x.2.2.1 x.2.2.2.1 x.2.2.2.2.1 x.2.2.2.2.2.1 x.2.2.2.2.2.2.1 x.2.2.2.2.2.2.2.1 x.2.2.2.2.2.2.2.2.1 x.2.2.2.2.2.2.2.2.2.1 x.2.2.2.2.2.2.2.2.2.2.1 x.2.2.2.2.2.2.2.2.2.2.2).2.2.1 (eps ne fun x : α0 × α1 × α2 × α3 × α4 × α5 × α6 × α7 × α8 × α9 × α10 × α11 => P x.1 x.2.1 x.2.2.1 x.2.2.2.1 x.2.2.2.2.1 x.2.2.2.2.2.1 x.2.2.2.2.2.2.1 x.2.2.2.2.2.2.2.1 x.2.2.2.2.2.2.2.2.1 x.2.2.2.2.2.2.2.2.2.1 x.2.2.2.2.2.2.2.2.2.2.1 x.2.2.2.2.2.2.2.2.2.2.2).2.2.2.1 (eps ne fun x : α0 × α1 × α2 × α3 × α4 × α5 × α6 × α7 × α8 × α9 × α10 × α11 => P x.1 x.2.1 x.2.2.1 x.2.2.2.1 x.2.2.2.2.1 x.2.2.2.2.2.1 x.2.2.2.2.2.2.1 x.2.2.2.2.2.2.2.1 x.2.2.2.2.2.2.2.2.1 x.2.2.2.2.2.2.2.2.2.1 x.2.2.2.2.2.2.2.2.2.2.1 x.2.2.2.2.2.2.2.2.2.2.2).2.2.2.2.1 (eps ne fun x : α0 × α1 × α2 × α3 × α4 × α5 × α6 × α7 × α8 × α9 × α10 × α11 => P x.1 x.2.1 x.2.2.1 x.2.2.2.1 x.2.2.2.2.1 x.2.2.2.2.2.1 x.2.2.2.2.2.2.1 x.2.2.2.2.2.2.2.1 x.2.2.2.2.2.2.2.2.1 x.2.2.2.2.2.2.2.2.2.1 x.2.2.2.2.2.2.2.2.2.2.1 x.2.2.2.2.2.2.2.2.2.2.2).2.2.2.2.2.1 (eps ne fun x : α0 × α1 × α2 × α3 × α4 × α5 × α6 × α7 × α8 × α9 × α10 × α11 => P x.1 x.2.1 x.2.2.1 x.2.2.2.1 x.2.2.2.2.1 x.2.2.2.2.2.1 x.2.2.2.2.2.2.1 x.2.2.2.2.2.2.2.1 x.2.2.2.2.2.2.2.2.1 x.2.2.2.2.2.2.2.2.2.1 x.2.2.2.2.2.2.2.2.2.2.1 x.2.2.2.2.2.2.2.2.2.2.2).2.2.2.2.2.2.1 (eps ne fun x : α0 × α1 × α2 × α3 × α4 × α5 × α6 × α7 × α8 × α9 × α10 × α11 => P x.1 x.2.1 x.2.2.1 x.2.2.2.1 x.2.2.2.2.1 x.2.2.2.2.2.1 x.2.2.2.2.2.2.1 x.2.2.2.2.2.2.2.1 x.2.2.2.2.2.2.2.2.1 x.2.2.2.2.2.2.2.2.2.1 x.2.2.2.2.2.2.2.2.2.2.1 x.2.2.2.2.2.2.2.2.2.2.2).2.2.2.2.2.2.2.1 (eps ne fun x : α0 × α1 × α2 × α3 × α4 × α5 × α6 × α7 × α8 × α9 × α10 × α11 => P x.1 x.2.1 x.2.2.1 x.2.2.2.1 x.2.2.2.2.1 x.2.2.2.2.2.1 x.2.2.2.2.2.2.1 x.2.2.2.2.2.2.2.1 x.2.2.2.2.2.2.2.2.1 x.2.2.2.2.2.2.2.2.2.1 x.2.2.2.2.2.2.2.2.2.2.1 x.2.2.2.2.2.2.2.2.2.2.2).2.2.2.2.2.2.2.2.1 (eps ne fun x : α0 × α1 × α2 × α3 × α4 × α5 × α6 × α7 × α8 × α9 × α10 × α11 => P x.1 x.2.1 x.2.2.1 x.2.2.2.1 x.2.2.2.2.1 x.2.2.2.2.2.1 x.2.2.2.2.2.2.1 x.2.2.2.2.2.2.2.1 x.2.2.2.2.2.2.2.2.1 x.2.2.2.2.2.2.2.2.2.1 x.2.2.2.2.2.2.2.2.2.2.1 x.2.2.2.2.2.2.2.2.2.2.2).2.2.2.2.2.2.2.2.2.1 (eps ne fun x : α0 × α1 × α2 × α3 × α4 × α5 × α6 × α7 × α8 × α9 × α10 × α11 => P x.1 x.2.1 x.2.2.1 x.2.2.2.1 x.2.2.2.2.1 x.2.2.2.2.2.1 x.2.2.2.2.2.2.1 x.2.2.2.2.2.2.2.1 x.2.2.2.2.2.2.2.2.1 x.2.2.2.2.2.2.2.2.2.1 x.2.2.2.2.2.2.2.2.2.2.1 x.2.2.2.2.2.2.2.2.2.2.2).2.2.2.2.2.2.2.2.2.2.1 (eps ne fun x : α0 × α1 × α2 × α3 × α4 × α5 × α6 × α7 × α8 × α9 × α10 × α11 => P x.1 x.2.1 x.2.2.1 x.2.2.2.1 x.2.2.2.2.1 x.2.2.2.2.2.1 x.2.2.2.2.2.2.1 x.2.2.2.2.2.2.2.1 x.2.2.2.2.2.2.2.2.1 x.2.2.2.2.2.2.2.2.2.1 x.2.2.2.2.2.2.2.2.2.2.1 x.2.2.2.2.2.2.2.2.2.2.2).2.2.2.2.2.2.2.2.2.2.2) : ∀ x0 x1 x2 x3 x4 x5 x6 x7 x8 x9 x10 x11, P x0 x1 x2 x3 x4 x5 x6 x7 x8 x9 x10 x11 :=
  fun x0 x1 x2 x3 x4 x5 x6 x7 x8 x9 x10 x11 => eps_all (P := fun x : α0 × α1 × α2 × α3 × α4 × α5 × α6 × α7 × α8 × α9 × α10 × α11 => P x.1 x.2.1 x.2.2.1 x.2.2.2.1 x.2.2.2.2.1 x.2.2.2.2.2.1 x.2.2.2.2.2.2.1 x.2.2.2.2.2.2.2.1 x.2.2.2.2.2.2.2.2.1 x.2.2.2.2.2.2.2.2.2.1 x.2.2.2.2.2.2.2.2.2.2.1 x.2.2.2.2.2.2.2.2.2.2.2) h (x0, x1, x2, x3, x4, x5, x6, x7, x8, x9, x10, x11)
theorem epz13 {α0 α1 α2 α3 α4 α5 α6 α7 α8 α9 α10 α11 α12 : Type} (ne : Nonempty (α0 × α1 × α2 × α3 × α4 × α5 × α6 × α7 × α8 × α9 × α10 × α11 × α12)) {P : α0 → α1 → α2 → α3 → α4 → α5 → α6 → α7 → α8 → α9 → α10 → α11 → α12 → Prop} (h : P (eps ne fun x : α0 × α1 × α2 × α3 × α4 × α5 × α6 × α7 × α8 × α9 × α10 × α11 × α12 => P x.1 x.2.1 x.2.2.1 x.2.2.2.1 x.2.2.2.2.1 x.2.2.2.2.2.1 x.2.2.2.2.2.2.1 x.2.2.2.2.2.2.2.1 x.2.2.2.2.2.2.2.2.1 x.2.2.2.2.2.2.2.2.2.1 x.2.2.2.2.2.2.2.2.2.2.1 x.2.2.2.2.2.2.2.2.2.2.2.1 x.2.2.2.2.2.2.2.2.2.2.2.2).1 (eps ne fun x : α0 × α1 × α2 × α3 × α4 × α5 × α6 × α7 × α8 × α9 × α10 × α11 × α12 => P x.1 x.2.1 x.2.2.1 x.2.2.2.1 x.2.2.2.2.1 x.2.2.2.2.2.1 x.2.2.2.2.2.2.1 x.2.2.2.2.2.2.2.1 x.2.2.2.2.2.2.2.2.1 x.2.2.2.2.2.2.2.2.2.1 x.2.2.2.2.2.2.2.2.2.2.1 x.2.2.2.2.2.2.2.2.2.2.2.1 x.2.2.2.2.2.2.2.2.2.2.2.2).2.1 (eps ne fun x : α0 × α1 × α2 × α3 × α4 × α5 × α6 × α7 × α8 × α9 × α10 × α11 × α12 => P x.1 x.2.1 x.2.2.1 x.2.2.2.1 x.2.2.2.2.1 x.2.2.2.2.2.1 x.2.2.2.2.2.2.1 x.2.2.2.2.2.2.2.1 x.2.2.2.2.2.2.2.2.1 x.2.2.2.2.2.2.2.2.2.1 x.2.2.2.2.2.2.2.2.2.2.1 x.2.2.2.2.2.2.2.2.2.2.2.1 x.2.2.2.2.2.2.2.2.2.2.2.2).2.2.1 (eps ne fun x : α0 × α1 × α2 × α3 × α4 × α5 × α6 × α7 × α8 × α9 × α10 × α11 × α12 => P x.1 x.2.1 x.2.2.1 x.2.2.2.1 x.2.2.2.2.1 x.2.2.2.2.2.1 x.2.2.2.2.2.2.1 x.2.2.2.2.2.2.2.1 x.2.2.2.2.2.2.2.2.1 x.2.2.2.2.2.2.2.2.2.1 x.2.2.2.2.2.2.2.2.2.2.1 x.2.2.2.2.2.2.2.2.2.2.2.1 x.2.2.2.2.2.2.2.2.2.2.2.2).2.2.2.1 (eps ne fun x : α0 × α1 × α2 × α3 × α4 × α5 × α6 × α7 × α8 × α9 × α10 × α11 × α12 => P x.1 x.2.1 x.2.2.1 x.2.2.2.1 x.2.2.2.2.1 x.2.2.2.2.2.1 x.2.2.2.2.2.2.1 x.2.2.2.2.2.2.2.1 x.2.2.2.2.2.2.2.2.1 x.2.2.2.2.2.2.2.2.2.1 x.2.2.2.2.2.2.2.2.2.2.1 x.2.2.2.2.2.2.2.2.2.2.2.1 x.2.2.2.2.2.2.2.2.2.2.2.2).2.2.2.2.1 (eps ne fun x : α0 × α1 × α2 × α3 × α4 × α5 × α6 × α7 × α8 × α9 × α10 × α11 × α12 => P x.1 x.2.1 x.2.2.1 x.2.2.2.1 x.2.2.2.2.1 x.2.2.2.2.2.1 x.2.2.2.2.2.2.1 x.2.2.2.2.2.2.2.1 x.2.2.2.2.2.2.2.2.1 x.2.2.2.2.2.2.2.2.2.1 x.2.2.2.2.2.2.2.2.2.2.1 x.2.2.2.2.2.2.2.2.2.2.2.1 x.2.2.2.2.2.2.2.2.2.2.2.2).2.2.2.2.2.1 (eps ne fun x : α0 × α1 × α2 × α3 × α4 × α5 × α6 × α7 × α8 × α9 × α10 × α11 × α12 => P x.1 x.2.1 x.2.2.1 x.2.2.2.1 x.2.2.2.2.1 x.2.2.2.2.2.1 x.2.2.2.2.2.2.1 x.2.2.2.2.2.2.2.1 x.2.2.2.2.2.2.2.2.1 x.2.2.2.2.2.2.2.2.2.1 x.2.2.2.2.2.2.2.2.2.2.1 x.2.2.2.2.2.2.2.2.2.2.2.1 x.2.2.2.2.2.2.2.2.2.2.2.2).2.2.2.2.2.2.1 (eps ne fun x : α0 × α1 × α2 × α3 × α4 × α5 × α6 × α7 × α8 × α9 × α10 × α11 × α12 => P x.1 x.2.1 x.2.2.1 x.2.2.2.1 x.2.2.2.2.1 x.2.2.2.2.2.1 x.2.2.2.2.2.2.1 x.2.2.2.2.2.2.2.1 x.2.2.2.2.2.2.2.2.1 x.2.2.2.2.2.2.2.2.2.1 x.2.2.2.2.2.2.2.2.2.2.1 x.2.2.2.2.2.2.2.2.2.2.2.1 x.2.2.2.2.2.2.2.2.2.2.2.2).2.2.2.2.2.2.2.1 (eps ne fun x : α0 × α1 × α2 × α3 × α4 × α5 × α6 × α7 × α8 × α9 × α10 × α11 × α12 => P x.1 x.2.1 x.2.2.1 x.2.2.2.1 x.2.2.2.2.1 x.2.2.2.2.2.1 x.2.2.2.2.2.2.1 x.2.2.2.2.2.2.2.1 x.2.2.2.2.2.2.2.2.1 x.2.2.2.2.2.2.2.2.2.1 x.2.2.2.2.2.2.2.2.2.2.1 x.2.2.2.2.2.2.2.2.2.2.2.1 x.2.2.2.2.2.2.2.2.2.2.2.2).2.2.2.2.2.2.2.2.1 (eps ne fun x : α0 × α1 × α2 × α3 × α4 × α5 × α6 × α7 × α8 × α9 × α10 × α11 × α12 => P x.1 x.2.1 x.2.2.1 x.2.2.2.1 x.2.2.2.2.1 x.2.2.2.2.2.1 x.2.2.2.2.2.2.1 x.2.2.2.2.2.2.2.1 x.2.2.2.2.2.2.2.2.1 x.2.2.2.2.2.2.2.2.2.1 x.2.2.2.2.2.2.2.2.2.2.1 x.2.2.2.2.2.2.2.2.2.2.2.1 x.2.2.2.2.2.2.2.2.2.2.2.2).2.2.2.2.2.2.2.2.2.1 (eps ne fun x : α0 × α1 × α2 × α3 × α4 × α5 × α6 × α7 × α8 × α9 × α10 × α11 × α12 => P x.1 x.2.1 x.2.2.1 x.2.2.2.1 x.2.2.2.2.1 x.2.2.2.2.2.1 x.2.2.2.2.2.2.1 x.2.2.2.2.2.2.2.1 x.2.2.2.2.2.2.2.2.1 x.2.2.2.2.2.2.2.2.2.1 x.2.2.2.2.2.2.2.2.2.2.1 x.2.2.2.2.2.2.2.2.2.2.2.1 x.2.2.2.2.2.2.2.2.2.2.2.2).2.2.2.2.2.2.2.2.2.2.1 (eps ne fun x : α0 × α1 × α2 × α3 × α4 × α5 × α6 × α7 × α8 × α9 × α10 × α11 × α12 => P x.1 x.2.1 x.2.2.1 x.2.2.2.1 x.2.2.2.2.1 x.2.2.2.2.2.1 x.2.2.2.2.2.2.1 x.2.2.2.2.2.2.2.1 x.2.2.2.2.2.2.2.2.1 x.2.2.2.2.2.2.2.2.2.1 x.2.2.2.2.2.2.2.2.2.2.1 x.2.2.2.2.2.2.2.2.2.2.2.1 x.2.2.2.2.2.2.2.2.2.2.2.2).2.2.2.2.2.2.2.2.2.2.2.1 (eps ne fun x : α0 × α1 × α2 × α3 × α4 × α5 × α6 × α7 × α8 × α9 × α10 × α11 × α12 => P x.1 x.2.1 x.2.2.1 x.2.2.2.1 x.2.2.2.2.1 x.2.2.2.2.2.1 x.2.2.2.2.2.2.1 x.2.2.2.2.2.2.2.1 x.2.2.2.2.2.2.2.2.1 x.2.2.2.2.2.2.2.2.2.1 x.2.2.2.2.2.2.2.2.2.2.1 x.2.2.2.2.2.2.2.2.2.2.2.1 x.2.2.2.2.2.2.2.2.2.2.2.2).2.2.2.2.2.2.2.2.2.2.2.2) : ∀ x0 x1 x2 x3 x4 x5 x6 x7 x8 x9 x10 x11 x12, P x0 x1 x2 x3 x4 x5 x6 x7 x8 x9 x10 x11 x12 :=
  fun x0 x1 x2 x3 x4 x5 x6 x7 x8 x9 x10 x11 x12 => eps_all (P := fun x : α0 × α1 × α2 × α3 × α4 × α5 × α6 × α7 × α8 × α9 × α10 × α11 × α12 => P x.1 x.2.1 x.2.2.1 x.2.2.2.1 x.2.2.2.2.1 x.2.2.2.2.2.1 x.2.2.2.2.2.2.1 x.2.2.2.2.2.2.2.1 x.2.2.2.2.2.2.2.2.1 x.2.2.2.2.2.2.2.2.2.1 x.2.2.2.2.2.2.2.2.2.2.1 x.2.2.2.2.2.2.2.2.2.2.2.1 x.2.2.2.2.2.2.2.2.2.2.2.2) h (x0, x1, x2, x3, x4, x5, x6, x7, x8, x9, x10, x11, x12)
theorem epz14 {α0 α1 α2 α3 α4 α5 α6 α7 α8 α9 α10 α11 α12 α13 : Type} (ne : Nonempty (α0 × α1 × α2 × α3 × α4 × α5 × α6 × α7 × α8 × α9 × α10 × α11 × α12 × α13)) {P : α0 → α1 → α2 → α3 → α4 → α5 → α6 → α7 → α8 → α9 → α10 → α11 → α12 → α13 → Prop} (h : P (eps ne fun x : α0 × α1 × α2 × α3 × α4 × α5 × α6 × α7 × α8 × α9 × α10 × α11 × α12 × α13 => P x.1 x.2.1 x.2.2.1 x.2.2.2.1 x.2.2.2.2.1 x.2.2.2.2.2.1 x.2.2.2.2.2.2.1 x.2.2.2.2.2.2.2.1 x.2.2.2.2.2.2.2.2.1 x.2.2.2.2.2.2.2.2.2.1 x.2.2.2.2.2.2.2.2.2.2.1 x.2.2.2.2.2.2.2.2.2.2.2.1 x.2.2.2.2.2.2.2.2.2.2.2.2.1 x.2.2.2.2.2.2.2.2.2.2.2.2.2).1 (eps ne fun x : α0 × α1 × α2 × α3 × α4 × α5 × α6 × α7 × α8 × α9 × α10 × α11 × α12 × α13 => P x.1 x.2.1 x.2.2.1 x.2.2.2.1 x.2.2.2.2.1 x.2.2.2.2.2.1 x.2.2.2.2.2.2.1 x.2.2.2.2.2.2.2.1 x.2.2.2.2.2.2.2.2.1 x.2.2.2.2.2.2.2.2.2.1 x.2.2.2.2.2.2.2.2.2.2.1 x.2.2.2.2.2.2.2.2.2.2.2.1 x.2.2.2.2.2.2.2.2.2.2.2.2.1 x.2.2.2.2.2.2.2.2.2.2.2.2.2).2.1 (eps ne fun x : α0 × α1 × α2 × α3 × α4 × α5 × α6 × α7 × α8 × α9 × α10 × α11 × α12 × α13 => P x.1 x.2.1 x.2.2.1 x.2.2.2.1 x.2.2.2.2.1 x.2.2.2.2.2.1 x.2.2.2.2.2.2.1 x.2.2.2.2.2.2.2.1 x.2.2.2.2.2.2.2.2.1 x.2.2.2.2.2.2.2.2.2.1 x.2.2.2.2.2.2.2.2.2.2.1 x.2.2.2.2.2.2.2.2.2.2.2.1 x.2.2.2.2.2.2.2.2.2.2.2.2.1 x.2.2.2.2.2.2.2.2.2.2.2.2.2).2.2.1 (eps ne fun x : α0 × α1 × α2 × α3 × α4 × α5 × α6 × α7 × α8 × α9 × α10 × α11 × α12 × α13 => P x.1 x.2.1 x.2.2.1 x.2.2.2.1 x.2.2.2.2.1 x.2.2.2.2.2.1 x.2.2.2.2.2.2.1 x.2.2.2.2.2.2.2.1 x.2.2.2.2.2.2.2.2.1 x.2.2.2.2.2.2.2.2.2.1 x.2.2.2.2.2.2.2.2.2.2.1 x.2.2.2.2.2.2.2.2.2.2.2.1 x.2.2.2.2.2.2.2.2.2.2.2.2.1 x.2.2.2.2.2.2.2.2.2.2.2.2.2).2.2.2.1 (eps ne fun x : α0 × α1 × α2 × α3 × α4 × α5 × α6 × α7 × α8 × α9 × α10 × α11 × α12 × α13 => P x.1 x.2.1 x.2.2.1 x.2.2.2.1 x.2.2.2.2.1 x.2.2.2.2.2.1 x.2.2.2.2.2.2.1 x.2.2.2.2.2.2.2.1 x.2.2.2.2.2.2.2.2.1 x.2.2.2.2.2.2.2.2.2.1 x.2.2.2.2.2.2.2.2.2.2.1 x.2.2.2.2.2.2.2.2.2.2.2.1 x.2.2.2.2.2.2.2.2.2.2.2.2.1 x.2.2.2.2.2.2.2.2.2.2.2.2.2).2.2.2.2.1 (eps ne fun x : α0 × α1 × α2 × α3 × α4 × α5 × α6 × α7 × α8 × α9 × α10 × α11 × α12 × α13 => P x.1 x.2.1 x.2.2.1 x.2.2.2.1 x.2.2.2.2.1 x.2.2.2.2.2.1 x.2.2.2.2.2.2.1 x.2.2.2.2.2.2.2.1 x.2.2.2.2.2.2.2.2.1 x.2.2.2.2.2.2.2.2.2.1 x.2.2.2.2.2.2.2.2.2.2.1 x.2.2.2.2.2.2.2.2.2.2.2.1 x.2.2.2.2.2.2.2.2.2.2.2.2.1 x.2.2.2.2.2.2.2.2.2.2.2.2.2).2.2.2.2.2.1 (eps ne fun x : α0 × α1 × α2 × α3 × α4 × α5 × α6 × α7 × α8 × α9 × α10 × α11 × α12 × α13 => P x.1 x.2.1 x.2.2.1 x.2.2.2.1 x.2.2.2.2.1 x.2.2.2.2.2.1 x.2.2.2.2.2.2.1 x.2.2.2.2.2.2.2.1 x.2.2.2.2.2.2.2.2.1 x.2.2.2.2.2.2.2.2.2.1 x.2.2.2.2.2.2.2.2.2.2.1 x.2.2.2.2.2.2.2.2.2.2.2.1 x.2.2.2.2.2.2.2.2.2.2.2.2.1 x.2.2.2.2.2.2.2.2.2.2.2.2.2).2.2.2.2.2.2.1 (eps ne fun x : α0 × α1 × α2 × α3 × α4 × α5 × α6 × α7 × α8 × α9 × α10 × α11 × α12 × α13 => P x.1 x.2.1 x.2.2.1 x.2.2.2.1 x.2.2.2.2.1 x.2.2.2.2.2.1 x.2.2.2.2.2.2.1 x.2.2.2.2.2.2.2.1 x.2.2.2.2.2.2.2.2.1 x.2.2.2.2.2.2.2.2.2.1 x.2.2.2.2.2.2.2.2.2.2.1 x.2.2.2.2.2.2.2.2.2.2.2.1 x.2.2.2.2.2.2.2.2.2.2.2.2.1 x.2.2.2.2.2.2.2.2.2.2.2.2.2).2.2.2.2.2.2.2.1 (eps ne fun x : α0 × α1 × α2 × α3 × α4 × α5 × α6 × α7 × α8 × α9 × α10 × α11 × α12 × α13 => P x.1 x.2.1 x.2.2.1 x.2.2.2.1 x.2.2.2.2.1 x.2.2.2.2.2.1 x.2.2.2.2.2.2.1 x.2.2.2.2.2.2.2.1 x.2.2.2.2.2.2.2.2.1 x.2.2.2.2.2.2.2.2.2.1 x.2.2.2.2.2.2.2.2.2.2.1 x.2.2.2.2.2.2.2.2.2.2.2.1 x.2.2.2.2.2.2.2.2.2.2.2.2.1 x.2.2.2.2.2.2.2.2.2.2.2.2.2).2.2.2.2.2.2.2.2.1 (eps ne fun x : α0 × α1 × α2 × α3 × α4 × α5 × α6 × α7 × α8 × α9 × α10 × α11 × α12 × α13 => P x.1 x.2.1 x.2.2.1 x.2.2.2.1 x.2.2.2.2.1 x.2.2.2.2.2.1 x.2.2.2.2.2.2.1 x.2.2.2.2.2.2.2.1 x.2.2.2.2.2.2.2.2.1 x.2.2.2.2.2.2.2.2.2.1 x.2.2.2.2.2.2.2.2.2.2.1 x.2.2.2.2.2.2.2.2.2.2.2.1 x.2.2.2.2.2.2.2.2.2.2.2.2.1 x.2.2.2.2.2.2.2.2.2.2.2.2.2).2.2.2.2.2.2.2.2.2.1 (eps ne fun x : α0 × α1 × α2 × α3 × α4 × α5 × α6 × α7 × α8 × α9 × α10 × α11 × α12 × α13 => P x.1 x.2.1 x.2.2.1 x.2.2.2.1 x.2.2.2.2.1 x.2.2.2.2.2.1 x.2.2.2.2.2.2.1 x.2.2.2.2.2.2.2.1 x.2.2.2.2.2.2.2.2.1 x.2.2.2.2.2.2.2.2.2.1 x.2.2.2.2.2.2.2.2.2.2.1 x.2.2.2.2.2.2.2.2.2.2.2.1 x.2.2.2.2.2.2.2.2.2.2.2.2.1 x.2.2.2.2.2.2.2.2.2.2.2.2.2).2.2.2.2.2.2.2.2.2.2.1 (eps ne fun x : α0 × α1 × α2 × α3 × α4 × α5 × α6 × α7 × α8 × α9 × α10 × α11 × α12 × α13 => P x.1 x.2.1 x.2.2.1 x.2.2.2.1 x.2.2.2.2.1 x.2.2.2.2.2.1 x.2.2.2.2.2.2.1 x.2.2.2.2.2.2.2.1 x.2.2.2.2.2.2.2.2.1 x.2.2.2.2.2.2.2.2.2.1 x.2.2.2.2.2.2.2.2.2.2.1 x.2.2.2.2.2.2.2.2.2.2.2.1 x.2.2.2.2.2.2.2.2.2.2.2.2.1 x.2.2.2.2.2.2.2.2.2.2.2.2.2).2.2.2.2.2.2.2.2.2.2.2.1 (eps ne fun x : α0 × α1 × α2 × α3 × α4 × α5 × α6 × α7 × α8 × α9 × α10 × α11 × α12 × α13 => P x.1 x.2.1 x.2.2.1 x.2.2.2.1 x.2.2.2.2.1 x.2.2.2.2.2.1 x.2.2.2.2.2.2.1 x.2.2.2.2.2.2.2.1 x.2.2.2.2.2.2.2.2.1 x.2.2.2.2.2.2.2.2.2.1 x.2.2.2.2.2.2.2.2.2.2.1 x.2.2.2.2.2.2.2.2.2.2.2.1 x.2.2.2.2.2.2.2.2.2.2.2.2.1 x.2.2.2.2.2.2.2.2.2.2.2.2.2).2.2.2.2.2.2.2.2.2.2.2.2.1 (eps ne fun x : α0 × α1 × α2 × α3 × α4 × α5 × α6 × α7 × α8 × α9 × α10 × α11 × α12 × α13 => P x.1 x.2.1 x.2.2.1 x.2.2.2.1 x.2.2.2.2.1 x.2.2.2.2.2.1 x.2.2.2.2.2.2.1 x.2.2.2.2.2.2.2.1 x.2.2.2.2.2.2.2.2.1 x.2.2.2.2.2.2.2.2.2.1 x.2.2.2.2.2.2.2.2.2.2.1 x.2.2.2.2.2.2.2.2.2.2.2.1 x.2.2.2.2.2.2.2.2.2.2.2.2.1 x.2.2.2.2.2.2.2.2.2.2.2.2.2).2.2.2.2.2.2.2.2.2.2.2.2.2) : ∀ x0 x1 x2 x3 x4 x5 x6 x7 x8 x9 x10 x11 x12 x13, P x0 x1 x2 x3 x4 x5 x6 x7 x8 x9 x10 x11 x12 x13 :=
  fun x0 x1 x2 x3 x4 x5 x6 x7 x8 x9 x10 x11 x12 x13 => eps_all (P := fun x : α0 × α1 × α2 × α3 × α4 × α5 × α6 × α7 × α8 × α9 × α10 × α11 × α12 × α13 => P x.1 x.2.1 x.2.2.1 x.2.2.2.1 x.2.2.2.2.1 x.2.2.2.2.2.1 x.2.2.2.2.2.2.1 x.2.2.2.2.2.2.2.1 x.2.2.2.2.2.2.2.2.1 x.2.2.2.2.2.2.2.2.2.1 x.2.2.2.2.2.2.2.2.2.2.1 x.2.2.2.2.2.2.2.2.2.2.2.1 x.2.2.2.2.2.2.2.2.2.2.2.2.1 x.2.2.2.2.2.2.2.2.2.2.2.2.2) h (x0, x1, x2, x3, x4, x5, x6, x7, x8, x9, x10, x11, x12, x13)
theorem epz15 {α0 α1 α2 α3 α4 α5 α6 α7 α8 α9 α10 α11 α12 α13 α14 : Type} (ne : Nonempty (α0 × α1 × α2 × α3 × α4 × α5 × α6 × α7 × α8 × α9 × α10 × α11 × α12 × α13 × α14)) {P : α0 → α1 → α2 → α3 → α4 → α5 → α6 → α7 → α8 → α9 → α10 → α11 → α12 → α13 → α14 → Prop} (h : P (eps ne fun x : α0 × α1 × α2 × α3 × α4 × α5 × α6 × α7 × α8 × α9 × α10 × α11 × α12 × α13 × α14 => P x.1 x.2.1 x.2.2.1 x.2.2.2.1 x.2.2.2.2.1 x.2.2.2.2.2.1 x.2.2.2.2.2.2.1 x.2.2.2.2.2.2.2.1 x.2.2.2.2.2.2.2.2.1 x.2.2.2.2.2.2.2.2.2.1 x.2.2.2.2.2.2.2.2.2.2.1 x.2.2.2.2.2.2.2.2.2.2.2.1 x.2.2.2.2.2.2.2.2.2.2.2.2.1 x.2.2.2.2.2.2.2.2.2.2.2.2.2.1 x.2.2.2.2.2.2.2.2.2.2.2.2.2.2).1 (eps ne fun x : α0 × α1 × α2 × α3 × α4 × α5 × α6 × α7 × α8 × α9 × α10 × α11 × α12 × α13 × α14 => P x.1 x.2.1 x.2.2.1 x.2.2.2.1 x.2.2.2.2.1 x.2.2.2.2.2.1 x.2.2.2.2.2.2.1 x.2.2.2.2.2.2.2.1 x.2.2.2.2.2.2.2.2.1 x.2.2.2.2.2.2.2.2.2.1 x.2.2.2.2.2.2.2.2.2.2.1 x.2.2.2.2.2.2.2.2.2.2.2.1 x.2.2.2.2.2.2.2.2.2.2.2.2.1 x.2.2.2.2.2.2.2.2.2.2.2.2.2.1 x.2.2.2.2.2.2.2.2.2.2.2.2.2.2).2.1 (eps ne fun x : α0 × α1 × α2 × α3 × α4 × α5 × α6 × α7 × α8 × α9 × α10 × α11 × α12 × α13 × α14 => P x.1 x.2.1 x.2.2.1 x.2.2.2.1 x.2.2.2.2.1 x.2.2.2.2.2.1 x.2.2.2.2.2.2.1 x.2.2.2.2.2.2.2.1 x.2.2.2.2.2.2.2.2.1 x.2.2.2.2.2.2.2.2.2.1 x.2.2.2.2.2.2.2.2.2.2.1 x.2.2.2.2.2.2.2.2.2.2.2.1 x.2.2.2.2.2.2.2.2.2.2.2.2.1 x.2.2.2.2.2.2.2.2.2.2.2.2.2.1 x.2.2.2.2.2.2.2.2.2.2.2.2.2.2).2.2.1 (eps ne fun x : α0 × α1 × α2 × α3 × α4 × α5 × α6 × α7 × α8 × α9 × α10 × α11 × α12 × α13 × α14 => P x.1 x.2.1 x.2.2.1 x.2.2.2.1 x.2.2.2.2.1 x.2.2.2.2.2.1 x.2.2.2.2.2.2.1 x.2.2.2.2.2.2.2.1 x.2.2.2.2.2.2.2.2.1 x.2.2.2.2.2.2.2.2.2.1 x.2.2.2.2.2.2.2.2.2.2.1 x.2.2.2.2.2.2.2.2.2.2.2.1 x.2.2.2.2.2.2.2.2.2.2.2.2.1 x.2.2.2.2.2.2.2.2.2.2.2.2.2.1 x.2.2.2.2.2.2.2.2.2.2.2.2.2.2).2.2.2.1 (eps ne fun x : α0 × α1 × α2 × α3 × α4 × α5 × α6 × α7 × α8 × α9 × α10 × α11 × α12 × α13 × α14 => P x.1 x.2.1 x.2.2.1 x.2.2.2.1 x.2.2.2.2.1 x.2.2.2.2.2.1 x.2.2.2.2.2.2.1 x.2.2.2.2.2.2.2.1 x.2.2.2.2.2.2.2.2.1 x.2.2.2.2.2.2.2.2.2.1 x.2.2.2.2.2.2.2.2.2.2.1 x.2.2.2.2.2.2.2.2.2.2.2.1 x.2.2.2.2.2.2.2.2.2.2.2.2.1 x.2.2.2.2.2.2.2.2.2.2.2.2.2.1 x.2.2.2.2.2.2.2.2.2.2.2.2.2.2).2.2.2.2.1 (eps ne fun x : α0 × α1 × α2 × α3 × α4 × α5 × α6 × α7 × α8 × α9 × α10 × α11 × α12 × α13 × α14 => P x.1 x.2.1 x.2.2.1 x.2.2.2.1 x.2.2.2.2.1 x.2.2.2.2.2.1 x.2.2.2.2.2.2.1 x.2.2.2.2.2.2.2.1 x.2.2.2.2.2.2.2.2.1 x.2.2.2.2.2.2.2.2.2.1 x.2.2.2.2.2.2.2.2.2.2.1 x.2.2.2.2.2.2.2.2.2.2.2.1 x.2.2.2.2.2.2.2.2.2.2.2.2.1 x.2.2.2.2.2.2.2.2.2.2.2.2.2.1 x.2.2.2.2.2.2.2.2.2.2.2.2.2.2).2.2.2.2.2.1 (eps ne fun x : α0 × α1 × α2 × α3 × α4 × α5 × α6 × α7 × α8 × α9 × α10 × α11 × α12 × α13 × α14 => P x.1 x.2.1 x.2.2.1 x.2.2.2.1 x.2.2.2.2.1 x.2.2.2.2.2.1 x.2.2.2.2.2.2.1 x.2.2.2.2.2.2.2.1 x.2.2.2.2.2.2.2.2.1 x.2.2.2.2.2.2.2.2.2.1 x.2.2.2.2.2.2.2.2.2.2.1 x.2.2.2.2.2.2.2.2.2.2.2.1 x.2.2.2.2.2.2.2.2.2.2.2.2.1 x.2.2.2.2.2.2.2.2.2.2.2.2.2.1 x.2.2.2.2.2.2.2.2.2.2.2.2.2.2).2.2.2.2.2.2.1 (eps ne fun x : α0 × α1 × α2 × α3 × α4 × α5 × α6 × α7 × α8 × α9 × α10 × α11 × α12 × α13 × α14 => P x.1 x.2.1 x.2.2.1 x.2.2.2.1 x.2.2.2.2.1 x.2.2.2.2.2.1 x.2.2.2.2.2.2.1 x.2.2.2.2.2.2.2.1 x.2.2.2.2.2.2.2.2.1 x.2.2.2.2.2.2.2.2.2.1 x.2.2.2.2.2.2.2.2.2.2.1 x.2.2.2.2.2.2.2.2.2.2.2.1 x.2.2.2.2.2.2.2.2.2.2.2.2.1 x.2.2.2.2.2.2.2.2.2.2.2.2.2.1 x.2.2.2.2.2.2.2.2.2.2.2.2.2.2).2.2.2.2.2.2.2.1 (eps ne fun x : α0 × α1 × α2 × α3 × α4 × α5 × α6 × α7 × α8 × α9 × α10 × α11 × α12 × α13 × α14 => P x.1 x.2.1 x.2.2.1 x.2.2.2.1 x.2.2.2.2.1 x.2.2.2.2.2.1 x.2.2.2.2.2.2.1 x.2.2.2.2.2.2.2.1 x.2.2.2.2.2.2.2.2.1 x.2.2.2.2.2.2.2.2.2.1 x.2.2.2.2.2.2.2.2.2.2.1 x.2.2.2.2.2.2.2.2.2.2.2.1 x.2.2.2.2.2.2.2.2.2.2.2.2.1 x.2.2.2.2.2.2.2.2.2.2.2.2.2.1 x.2.2.2.2.2.2.2.2.2.2.2.2.2.2).2.2.2.2.2.2.2.2.1 (eps ne fun x : α0 × α1 × α2 × α3 × α4 × α5 × α6 × α7 × α8 × α9 × α10 × α11 × α12 × α13 × α14 => P x.1 x.2.1 x.2.2.1 x.2.2.2.1 x.2.2.2.2.1 x.2.2.2.2.2.1 x.2.2.2.2.2.2.1 x.2.2.2.2.2.2.2.1 x.2.2.2.2.2.2.2.2.1 x.2.2.2.2.2.2.2.2.2.1 x.2.2.2.2.2.2.2.2.2.2.1 x.2.2.2.2.2.2.2.2.2.2.2.1 x.2.2.2.2.2.2.2.2.2.2.2.2.1 x.2.2.2.2.2.2.2.2.2.2.2.2.2.1 x.2.2.2.2.2.2.2.2.2.2.2.2.2.2).2.2.2.2.2.2.2.2.2.1 (eps ne fun x : α0 × α1 × α2 × α3 × α4 × α5 × α6 × α7 × α8 × α9 × α10 × α11 × α12 × α13 × α14 => P x.1 x.2.1 x.2.2.1 x.2.2.2.1 x.2.2.2.2.1 x.2.2.2.2.2.1 x.2.2.2.2.2.2.1 x.2.2.2.2.2.2.2.1 x.2.2.2.2.2.2.2.2.1 x.2.2.2.2.2.2.2.2.2.1 x.2.2.2.2.2.2.2.2.2.2.1 x.2.2.2.2.2.2.2.2.2.2.2.1 x.2.2.2.2.2.2.2.2.2.2.2.2.1 x.2.2.2.2.2.2.2.2.2.2.2.2.2.1 x.2.2.2.2.2.2.2.2.2.2.2.2.2.2).2.2.2.2.2.2.2.2.2.2.1 (eps ne fun x : α0 × α1 × α2 × α3 × α4 × α5 × α6 × α7 × α8 × α9 × α10 × α11 × α12 × α13 × α14 => P x.1 x.2.1 x.2.2.1 x.2.2.2.1 x.2.2.2.2.1 x.2.2.2.2.2.1 x.2.2.2.2.2.2.1 x.2.2.2.2.2.2.2.1 x.2.2.2.2.2.2.2.2.1 x.2.2.2.2.2.2.2.2.2.1 x.2.2.2.2.2.2.2.2.2.2.1 x.2.2.2.2.2.2.2.2.2.2.2.1 x.2.2.2.2.2.2.2.2.2.2.2.2.1 x.2.2.2.2.2.2.2.2.2.2.2.2.2.1 x.2.2.2.2.2.2.2.2.2.2.2.2.2.2).2.2.2.2.2.2.2.2.2.2.2.1 (eps ne fun x : α0 × α1 × α2 × α3 × α4 × α5 × α6 × α7 × α8 × α9 × α10 × α11 × α12 × α13 × α14 => P x.1 x.2.1 x.2.2.1 x.2.2.2.1 x.2.2.2.2.1 x.2.2.2.2.2.1 x.2.2.2.2.2.2.1 x.2.2.2.2.2.2.2.1 x.2.2.2.2.2.2.2.2.1 x.2.2.2.2.2.2.2.2.2.1 x.2.2.2.2.2.2.2.2.2.2.1 x.2.2.2.2.2.2.2.2.2.2.2.1 x.2.2.2.2.2.2.2.2.2.2.2.2.1 x.2.2.2.2.2.2.2.2.2.2.2.2.2.1 x.2.2.2.2.2.2.2.2.2.2.2.2.2.2).2.2.2.2.2.2.2.2.2.2.2.2.1 (eps ne fun x : α0 × α1 × α2 × α3 × α4 × α5 × α6 × α7 × α8 × α9 × α10 × α11 × α12 × α13 × α14 => P x.1 x.2.1 x.2.2.1 x.2.2.2.1 x.2.2.2.2.1 x.2.2.2.2.2.1 x.2.2.2.2.2.2.1 x.2.2.2.2.2.2.2.1 x.2.2.2.2.2.2.2.2.1 x.2.2.2.2.2.2.2.2.2.1 x.2.2.2.2.2.2.2.2.2.2.1 x.2.2.2.2.2.2.2.2.2.2.2.1 x.2.2.2.2.2.2.2.2.2.2.2.2.1 x.2.2.2.2.2.2.2.2.2.2.2.2.2.1 x.2.2.2.2.2.2.2.2.2.2.2.2.2.2).2.2.2.2.2.2.2.2.2.2.2.2.2.1 (eps ne fun x : α0 × α1 × α2 × α3 × α4 × α5 × α6 × α7 × α8 × α9 × α10 × α11 × α12 × α13 × α14 => P x.1 x.2.1 x.2.2.1 x.2.2.2.1 x.2.2.2.2.1 x.2.2.2.2.2.1 x.2.2.2.2.2.2.1 x.2.2.2.2.2.2.2.1 x.2.2.2.2.2.2.2.2.1 x.2.2.2.2.2.2.2.2.2.1 x.2.2.2.2.2.2.2.2.2.2.1 x.2.2.2.2.2.2.2.2.2.2.2.1 x.2.2.2.2.2.2.2.2.2.2.2.2.1 x.2.2.2.2.2.2.2.2.2.2.2.2.2.1 x.2.2.2.2.2.2.2.2.2.2.2.2.2.2).2.2.2.2.2.2.2.2.2.2.2.2.2.2) : ∀ x0 x1 x2 x3 x4 x5 x6 x7 x8 x9 x10 x11 x12 x13 x14, P x0 x1 x2 x3 x4 x5 x6 x7 x8 x9 x10 x11 x12 x13 x14 :=
  fun x0 x1 x2 x3 x4 x5 x6 x7 x8 x9 x10 x11 x12 x13 x14 => eps_all (P := fun x : α0 × α1 × α2 × α3 × α4 × α5 × α6 × α7 × α8 × α9 × α10 × α11 × α12 × α13 × α14 => P x.1 x.2.1 x.2.2.1 x.2.2.2.1 x.2.2.2.2.1 x.2.2.2.2.2.1 x.2.2.2.2.2.2.1 x.2.2.2.2.2.2.2.1 x.2.2.2.2.2.2.2.2.1 x.2.2.2.2.2.2.2.2.2.1 x.2.2.2.2.2.2.2.2.2.2.1 x.2.2.2.2.2.2.2.2.2.2.2.1 x.2.2.2.2.2.2.2.2.2.2.2.2.1 x.2.2.2.2.2.2.2.2.2.2.2.2.2.1 x.2.2.2.2.2.2.2.2.2.2.2.2.2.2) h (x0, x1, x2, x3, x4, x5, x6, x7, x8, x9, x10, x11, x12, x13, x14)
end
section
set_option maxRecDepth 100000 in
/-- the written part without the statics' cell (address 2): a refusal's mark turns that one -/
noncomputable def K2 : Params → Frag := fun P => (fun (t : Frag) (_ : ∃ x, hd.heap_39 P = x :: t) => t) _ ⟨_, by delta hd.heap_39; exact rfl⟩
set_option maxRecDepth 100000 in
theorem K2_two (P : Params) : (K2 P).lookup 2 = none := by rfl
theorem K2_in {P : Params} {h : Heap} (X : (hd.heap_39 P).In h) : (K2 P).In h := by
  have key : ∃ o, hd.heap_39 P = (2, o) :: K2 P := ⟨_, by delta hd.heap_39; exact rfl⟩
  obtain ⟨o, e⟩ := key
  intro a ob ha
  refine X a ob ?_
  rw [e, List.lookup_cons]
  by_cases h2 : a = 2
  · subst h2; rw [K2_two] at ha; cases ha
  · rw [beq_eq_false_iff_ne.mpr h2]; exact ha
noncomputable abbrev PRG : Program := PySem.Challenge.rw_wf0043_01.row.prog
noncomputable abbrev LSE : List Str := looseW hd.view_39 [Str.ofString "Statistic", Str.ofString "StatisticDiff"]

/-- the end of a call that lays its ledger upon a heap that stays -/
def LeaveF (g : Heap) (R : Result → Shared → Prop) (v : Value) (s' : Shared) : Prop :=
  ∃ L' m' news', Fr g L' s'.heap m' ∧ News g L' s'.heap news' ∧ (g.StaysIn s'.heap → (∀ p ∈ news', s'.heap.get? p.1 = some p.2 ∧ g.get? p.1 = none) → R (.ok (.ret v)) s')
theorem leaveF_ {g : Heap} {L' : Addr} {m' : Str → Option Value} {news' : List (Addr × Obj)} {R : Result → Shared → Prop} {v : Value} {s' : Shared} (F' : Fr g L' s'.heap m') (N' : News g L' s'.heap news')
    (k : g.StaysIn s'.heap → (∀ p ∈ news', s'.heap.get? p.1 = some p.2 ∧ g.get? p.1 = none) → R (.ok (.ret v)) s') : LeaveF g R v s' := ⟨L', m', news', F', N', k⟩
theorem LeaveF.out {g : Heap} {R : Result → Shared → Prop} {v : Value} {s' : Shared} (h : LeaveF g R v s') : R (.ok (.ret v)) s' := by
  obtain ⟨L', m', news', F', N', k⟩ := h
  exact k F'.keep fun p hp => ⟨(N' p hp).1, (N' p hp).2.2⟩

section
variable {prog : Program} {w : World} {A₀ A : Around} {s : Shared} {K : Frag} {L : Addr} {h₀ base : Heap} {m mg mb : Str → Option Value} {p : Program} {loose : List Str} {mean : ExcName → Option Value}
  {env : Env} {outer : List Env} {R : Result → Shared → Prop} {name qual : Str} {params : Arguments} {body : List Stmt} {scope : Scope} {dV kV doc pm cdv ct oc : Value} {an od : Option Addr} {osl : Array (Option Value)} {f : Addr} {args : Args} {binds : List (Str × Value)}

theorem code_def0 (B : Below A₀ base outer h₀) (F : Fr h₀ L s.heap m) (X₀ : K.In h₀) (T : Top p loose mean mg mb h₀) (hA : A.frames = some (env :: outer)) (hf : env.frame = some L) (hke : env.scope.kind = .function)
    (ho : K.lookup f = some ⟨oc, od, .func (fnOf name qual params body scope dV kV doc pm an cdv ct), osl⟩) (hcd : codeIn K cdv qual = true) (hroom : A.depth < recursionLimit)
    (hbind : BindsTo s (fnOf name qual params body scope dV kV doc pm an cdv ct) args binds) (hloc : ∀ y ∈ binds, scope.names.lookup y.1 = some .local)
    (h : ∀ L' h₁, Fr s.heap L' h₁ (fun y => binds.reverse.lookup y) → News s.heap L' h₁ [] → Below A base (env :: outer) s.heap → K.In s.heap → Top p loose mean mg mb s.heap →
      wpAny (model prog w) (A.deeper (envOf qual scope L' f cdv)) (execs body (envOf qual scope L' f cdv))
        (fun fl s' => LeaveF s.heap R (match fl with | .ret v => v | _ => .none) s')
        (fun e s' => wpAny (model prog w) (A.deeper (envOf qual scope L' f cdv)) (leaving (envOf qual scope L' f cdv) e) (fun _ s'' => R (.error e) s'') (fun e' s'' => R (.error e') s'') s')
        { s with heap := h₁, toks := s.toks + binds.length })
    (hco : scope.isCoroutine = false) (hgen : scope.isGenerator = false) (hk : scope.kind = .function)
    (hcell : ∀ x ∈ scope.names, x.2 ≠ .cell) : codeAny (model prog w) A (.call (.ref f) args) R s := by
  have XS := X₀.keeps F.keep
  refine codeAny_call_def (fd := fnOf name qual params body scope dV kV doc pm an cdv ct) (body := body) (binds := binds) hroom (XS _ _ ho) rfl (T.nolimit.keeps F.keep) (codeRec_of XS hcd) rfl hbind hcell hloc (fun h₁ hns hk₁ => ?_) hco hgen hk
  have B₁ := pushX B F hf hke
  exact wpAny_mono (h s.heap.objs.size h₁ ⟨hns, fun b o e => hk₁ b o e, Nat.le_refl _⟩ (fun p hp => nomatch hp) ⟨hA, B₁.stays, B₁.frames⟩ XS (T.keeps F.keep)) (fun fl s' hl => hl.out) fun _ _ y => y

theorem code_def0C (B : Below A₀ base outer h₀) (F : Fr h₀ L s.heap m) (X₀ : K.In h₀) (T : Top p loose mean mg mb h₀) (hA : A.frames = some (env :: outer)) (hf : env.frame = some L) (hke : env.scope.kind = .function)
    (ho : K.lookup f = some ⟨oc, od, .func (fnOf name qual params body scope dV kV doc pm an cdv ct), osl⟩) (hcd : codeIn K cdv qual = true) (hroom : A.depth < recursionLimit)
    (hbind : BindsTo s (fnOf name qual params body scope dV kV doc pm an cdv ct) args binds) (hkind : (binds.all fun y => scope.names.lookup y.1 == some .local || scope.names.lookup y.1 == some .cell) = true)
    (hnd : ((cellsFrom 0 scope.names []).map (·.1)).Nodup)
    (h : ∀ L' h₁ tk cells, Fr s.heap L' h₁ (bindL (envOfC qual scope L' f cdv).kindOf binds fun _ => none) → News s.heap L' h₁ cells →
      CellsAre (bindC (envOfC qual scope L' f cdv).kindOf binds fun _ => none) (cellsFrom (L' + 1) scope.names []) cells → Below A base (env :: outer) s.heap → K.In s.heap → Top p loose mean mg mb s.heap →
      wpAny (model prog w) (A.deeper (envOfC qual scope L' f cdv)) (execs body (envOfC qual scope L' f cdv))
        (fun fl s' => LeaveF s.heap R (match fl with | .ret v => v | _ => .none) s')
        (fun e s' => wpAny (model prog w) (A.deeper (envOfC qual scope L' f cdv)) (leaving (envOfC qual scope L' f cdv) e) (fun _ s'' => R (.error e) s'') (fun e' s'' => R (.error e') s'') s')
        { s with heap := h₁, toks := tk })
    (hco : scope.isCoroutine = false) (hgen : scope.isGenerator = false) (hk : scope.kind = .function) : codeAny (model prog w) A (.call (.ref f) args) R s := by
  have XS := X₀.keeps F.keep
  have B₁ := pushX B F hf hke
  refine codeAny_call_function (fd := fnOf name qual params body scope dV kV doc pm an cdv ct) (body := body) hroom (XS _ _ ho) rfl hco hgen rfl (codeRec_of XS hcd) (hbind _ _ _ _ ?_)
  refine wpAny_newFunctionEnv_cells hk (kindsX hkind _) fun env' he s' x => ?_
  subst he
  refine ⟨(T.nolimit.keeps F.keep).keeps x.toInCall.keep, codeAny_func ?_⟩
  obtain ⟨h₁, tk, rfl, _⟩ := x.done
  have hk₁ := x.toInCall.keep
  obtain ⟨cells, NC, Y⟩ := Cl.news (h₀ := s.heap) (Nat.le_refl _) fun n c hm => ⟨x.cell n c (lookup_of_mem_nodup (cellsFrom_names scope.names 0 (s.heap.objs.size + 1) [] [] rfl ▸ hnd) hm), x.above n c hm⟩
  exact wpAny_mono (h s.heap.objs.size h₁ tk cells ⟨x.toInCall.ns, fun b o e => hk₁ b o e, Nat.le_refl _⟩ (fun p hp => ⟨(NC p hp).1, (NC p hp).2.1, (NC p hp).2.2⟩) Y ⟨hA, B₁.stays, B₁.frames⟩ XS (T.keeps F.keep)) (fun fl s' hl => hl.out) fun _ _ y => y
end

/-- a contract of a def: called with vs on a heap with Pre it comes back with new objects alone, as Post says -/
def Spec (w : World) (f : Addr) (vs : List Value) (Pre : Heap → Prop) (Post : Value → List (Addr × Obj) → Prop) : Prop :=
  ∀ (dp un : Nat) (gd : Option (List Code)) (cn : Str) (cs : Scope) (a : Addr) (ccd : Value) (cl : List (Str × Addr)) (outer : List Env) (A₀ : Around) (base h₀ : Heap) (L : Addr) (m mg mb : Str → Option Value) (mean : ExcName → Option Value) (s : Shared)
    (Q E : Value → Shared → Prop),
    Below A₀ base outer h₀ → Fr h₀ L s.heap m → (K2 w.params).In h₀ → Top hd.view_39 LSE mean mg mb h₀ → cs.kind = .function → dp + 4 < recursionLimit → un + 64 < cLine → Pre s.heap →
    (∀ v tl h' tk', s.heap.StaysIn h' → (∀ p ∈ tl, h'.get? p.1 = some p.2 ∧ s.heap.get? p.1 = none) → Post v tl → Q v { s with heap := h', toks := tk' }) →
    wpAny (model PRG w) (ktrTop dp un gd cn cs L a ccd cl outer) (call (.ref f) vs) Q E s
end
section

/-- every entry at d becomes o -/
def setL (d : Addr) (o : Obj) (l : List (Addr × Obj)) : List (Addr × Obj) := l.map fun p => if p.1 = d then (d, o) else p
theorem setL_fst {d : Addr} {o : Obj} {l : List (Addr × Obj)} : (setL d o l).map (·.1) = l.map (·.1) := by
  unfold setL
  rw [List.map_map]
  refine List.map_congr_left fun p _ => ?_
  show (if p.1 = d then (d, o) else p).1 = p.1
  split
  · rename_i h; exact h.symm
  · rfl
theorem mem_setL_self {d : Addr} {o o' : Obj} {l : List (Addr × Obj)} (h : (d, o') ∈ l) : (d, o) ∈ setL d o l := List.mem_map.mpr ⟨(d, o'), h, if_pos rfl⟩
theorem mem_setL_ne {d : Addr} {o : Obj} {l : List (Addr × Obj)} {p : Addr × Obj} (h : p ∈ l) (hn : p.1 ≠ d) : p ∈ setL d o l := List.mem_map.mpr ⟨p, h, if_neg hn⟩
theorem setL_append {d : Addr} {o : Obj} {l r : List (Addr × Obj)} : setL d o (l ++ r) = setL d o l ++ setL d o r := List.map_append ..
theorem setL_cons_ne {d : Addr} {o : Obj} {l : List (Addr × Obj)} {p : Addr × Obj} (h : p.1 ≠ d) : setL d o (p :: l) = p :: setL d o l := by
  unfold setL; rw [List.map_cons, if_neg h]
theorem setL_off {d : Addr} {o : Obj} {l : List (Addr × Obj)} (h : ∀ p ∈ l, p.1 ≠ d) : setL d o l = l := by
  unfold setL
  refine (List.map_congr_left fun p hp => ?_).trans (List.map_id _)
  rw [if_neg (h p hp)]; rfl
theorem mem_setL {d : Addr} {o : Obj} {l : List (Addr × Obj)} {p : Addr × Obj} (h : p ∈ setL d o l) : (p = (d, o) ∧ ∃ o', (d, o') ∈ l) ∨ (p ∈ l ∧ p.1 ≠ d) := by
  obtain ⟨q, hq, rfl⟩ := List.mem_map.mp h
  by_cases e : q.1 = d
  · refine .inl ⟨if_pos e, q.2, ?_⟩
    have : q = (d, q.2) := by rw [← e]
    rw [← this]; exact hq
  · rw [if_neg e]; exact .inr ⟨hq, e⟩
theorem news_setL {h₀ h h' : Heap} {L d : Addr} {o : Obj} {l : List (Addr × Obj)} (N : News h₀ L h l) (hs : Heap.SameBut d h h') (ho : h'.get? d = some o) : News h₀ L h' (setL d o l) := by
  intro p hp
  rcases mem_setL hp with ⟨rfl, o', hm⟩ | ⟨hm, hne⟩
  · exact ⟨ho, (N _ hm).2⟩
  · exact ⟨(hs.2 p.1 hne).trans (N p hm).1, (N p hm).2⟩

section
variable {prog : Program} {w : World} {A : Around} {E : Value → Shared → Prop} {s : Shared} {h₀ : Heap} {L D : Addr} {m : Str → Option Value} {news : List (Addr × Obj)} {vs : List Value} {n : Nat} {k : Int} {t : Tok} {v : Value}
theorem set_any {Q : Unit → Shared → Prop} (F : Fr h₀ L s.heap m) (N : News h₀ L s.heap news) (hm : (D, listOf vs.toArray n) ∈ news) (h0 : 0 ≤ k) (h1 : k < vs.length) (hfit : k < 2 ^ 63)
    (h : ∀ h', Fr h₀ L h' m → News h₀ L h' (setL D (listOf (vs.set k.toNat v).toArray n) news) → Q () { s with heap := h' }) :
    wpAny (model prog w) A (setItem (.ref D) (.int k t) v) Q E s := by
  have z := N _ hm
  have hs : vs.toArray.size = vs.length := List.size_toArray ..
  refine ki_setAt z.1 h0 hfit (by omega) (h _ (F.change (Heap.SameBut.update ..) z.2.1 z.2.2) (news_setL N (Heap.SameBut.update ..) ?_))
  have q := PySem.IsL.update z.1 (·.setIfInBounds k.toNat v)
  have e : vs.toArray.setIfInBounds k.toNat v = (vs.set k.toNat v).toArray := by apply Array.toList_inj.mp; simp
  dsimp only at q
  rw [e] at q
  have e2 : ((vs.set k.toNat v).toArray.size == vs.toArray.size) = true := by simp
  rw [e2] at q
  exact q
end
open LCg
section
variable {prog : Program} {w : World} {A : Around} {E : Value → Shared → Prop} {s : Shared} {h₀ : Heap} {L : Addr} {m : Str → Option Value} {env : Env}
theorem compEnd_mono {s₁ s₂ : Shared} {I : Addr} {oI : Obj} {C : Addr} {oC : Obj} {D : Addr} {oD : Obj} {S : List (Addr × Obj) → Prop} {r r' : Value → List (Addr × Obj) → Prop} {y : Value}
    (h : CompEnd h₀ L m s₁ I oI C oC D oD S r y s₂) (k : ∀ n, r y n → r' y n) : CompEnd h₀ L m s₁ I oI C oC D oD S r' y s₂ := by
  obtain ⟨h', tk, n', e, F, N, o, hS, q⟩ := h
  exact ⟨h', tk, n', e, F, N, o, hS, k _ q⟩
/-- a list comprehension by an invariant over what is made so far -/
theorem compRest_inv {elt : Expr} {x : Str} {scope : Scope} {cl : List (Str × Addr)} {S : List (Addr × Obj) → Prop} {P : Nat → Value → Prop} {Fin : List Value → List (Addr × Obj) → Prop} {n : Nat} {ys₀ : List Value} {nx₀ : List (Addr × Obj)}
    (J : Nat → List Value → List (Addr × Obj) → Prop) (h0 : J 0 ys₀ nx₀) (fin : ∀ ys nx, J n ys nx → Fin ys nx)
    (step : ∀ i ys nx v I oI C oC D m₂ h tk (E' : Value → Shared → Prop), i < n → J i ys nx → P i v → NsObj oC m₂ → m₂ x = some v → Fr h₀ L h m → News h₀ L h ((I, oI) :: (C, oC) :: (D, lst ys) :: nx) → Off3 I C D nx → ((@Ne Nat I C) ∧ (@Ne Nat I D) ∧ (@Ne Nat C D)) →
      wpAny (model prog w) A (eval elt (compEnvC scope cl C env)) (CompEnd h₀ L m { s with heap := h, toks := tk } I oI C oC D (lst ys) S (fun y nx' => J (i + 1) (ys ++ [y]) nx')) E' { s with heap := h, toks := tk }) :
    CompRest prog w A h₀ L m env elt x scope cl s S P Fin n 0 ys₀ nx₀ := by
  have all : ∀ k i ys nx, k + i = n → J i ys nx → CompRest prog w A h₀ L m env elt x scope cl s S P Fin k i ys nx := by
    intro k
    induction k with
    | zero => intro i ys nx e hJ; rw [Nat.zero_add] at e; subst e; exact .zero (fin _ _ hJ)
    | succ k ih =>
      intro i ys nx e hJ
      refine .succ fun v I oI C oC D m₂ h tk E' hP hC hx F N off ne => ?_
      exact wpAny_mono (step i ys nx v I oI C oC D m₂ h tk E' (by omega) hJ hP hC hx F N off ne) (fun y s' he => compEnd_mono he fun nx' hj => ih (i + 1) _ _ (by omega) hj) fun _ _ q => q
  exact all n 0 ys₀ nx₀ rfl h0
/-- the same with one test -/
theorem compRestT_inv {ct elt : Expr} {x : Str} {scope : Scope} {cl : List (Str × Addr)} {S : List (Addr × Obj) → Prop} {P : Nat → Value → Prop} {Fin : List Value → List (Addr × Obj) → Prop} {n : Nat} {ys₀ : List Value} {nx₀ : List (Addr × Obj)}
    (J : Nat → List Value → List (Addr × Obj) → Prop) (h0 : J 0 ys₀ nx₀) (fin : ∀ ys nx, J n ys nx → Fin ys nx)
    (step : ∀ i ys nx v I oI C oC D m₂ h tk (E' : Value → Shared → Prop), i < n → J i ys nx → P i v → NsObj oC m₂ → m₂ x = some v → Fr h₀ L h m → News h₀ L h ((I, oI) :: (C, oC) :: (D, lst ys) :: nx) → Off3 I C D nx → ((@Ne Nat I C) ∧ (@Ne Nat I D) ∧ (@Ne Nat C D)) →
      wpAny (model prog w) A (isTrue ct (compEnvC scope cl C env) (eval ct (compEnvC scope cl C env))) (fun ok s' => if ok = true then
        wpAny (model prog w) A (eval elt (compEnvC scope cl C env)) (CompEnd h₀ L m { s with heap := h, toks := tk } I oI C oC D (lst ys) S (fun y nx' => J (i + 1) (ys ++ [y]) nx')) E' s'
        else CompEnd h₀ L m { s with heap := h, toks := tk } I oI C oC D (lst ys) S (fun _ nx' => J (i + 1) ys nx') Value.none s') E' { s with heap := h, toks := tk }) :
    LCt.CompRestT prog w A h₀ L m env ct elt x scope cl s S P Fin n 0 ys₀ nx₀ := by
  have all : ∀ k i ys nx, k + i = n → J i ys nx → LCt.CompRestT prog w A h₀ L m env ct elt x scope cl s S P Fin k i ys nx := by
    intro k
    induction k with
    | zero => intro i ys nx e hJ; rw [Nat.zero_add] at e; subst e; exact .zero (fin _ _ hJ)
    | succ k ih =>
      intro i ys nx e hJ
      refine .succ fun v I oI C oC D m₂ h tk E' hP hC hx F N off ne => ?_
      refine wpAny_mono (step i ys nx v I oI C oC D m₂ h tk E' (by omega) hJ hP hC hx F N off ne) (fun ok s' he => ?_) fun _ _ q => q
      cases ok with
      | true =>
        simp only [if_true] at he ⊢
        exact wpAny_mono he (fun y s'' he' => compEnd_mono he' fun nx' hj => ih (i + 1) _ _ (by omega) hj) fun _ _ q => q
      | false =>
        simp only [Bool.false_eq_true, if_false] at he ⊢
        exact compEnd_mono he fun nx' hj => ih (i + 1) _ _ (by omega) hj
  exact all n 0 ys₀ nx₀ rfl h0
end
theorem off3_cons {I C D : Addr} {p : Addr × Obj} {l : List (Addr × Obj)} (a : p.1 ≠ I) (b : p.1 ≠ C) (c : p.1 ≠ D) (h : Off3 I C D l) : Off3 I C D (p :: l) := ⟨⟨a, b, c⟩, h⟩
theorem fr_known {h₀ h : Heap} {L : Addr} {m : Str → Option Value} (ps : List (Str × Value)) (F : Fr h₀ L h m) (hk : ∀ p ∈ ps, m p.1 = some p.2) : Fr h₀ L h (kstB m ps) := by
  have e : kstB m ps = m := funext fun z => kstB_eq hk fun _ => rfl
  rw [e]; exact F
theorem known_if {m : Str → Option Value} {ps : List (Str × Value)} {x : Str} {v : Value} (hk : ∀ p ∈ ps, m p.1 = some p.2) (hx : ∀ p ∈ ps, p.1 ≠ x) : ∀ p ∈ (x, v) :: ps, (fun y => if y = x then some v else m y) p.1 = some p.2 := by
  intro p hp
  rcases List.mem_cons.mp hp with rfl | hp
  · exact if_pos rfl
  · exact (if_neg (hx p hp)).trans (hk p hp)
theorem fr_turn {h₀ h : Heap} {L : Addr} {m : Str → Option Value} {ps : List (Str × Value)} {x : Str} {v : Value} (F : Fr h₀ L h (fun y => if y = x then some v else m y)) (hk : ∀ p ∈ ps, m p.1 = some p.2) (hx : (ps.all fun p => p.1 != x) = true) :
    Fr h₀ L h (kstB (fun y => if y = x then some v else m y) ((x, v) :: ps)) :=
  fr_known _ F (known_if hk fun p hp => by have := List.all_eq_true.mp hx p hp; simpa using this)
end
section
abbrev Tb := Int → Int → Int
def updT (c : Tb) (g k x : Int) : Tb := fun g' k' => if g' = g ∧ k' = k then x else c g' k'
def RowOk (adr : Int → Addr) (c : Tb) (nx : List (Addr × Obj)) (g : Int) : Prop := ∃ (vs : List Value) (n : Nat), (adr g, listOf vs.toArray n) ∈ nx ∧ vs.length = 5 ∧ ∀ k : Int, 0 ≤ k → k < 5 → ∃ t, vs[k.toNat]? = some (.int (c g k) t)
structure Tab (O : Addr) (adr : Int → Addr) (c : Tb) (nx : List (Addr × Obj)) : Prop where
  outer : ∃ (vs : List Value) (n : Nat), (O, listOf vs.toArray n) ∈ nx ∧ ∀ g : Int, 0 ≤ g → g < 32 → vs[g.toNat]? = some (.ref (adr g))
  rows : ∀ g : Int, 0 ≤ g → g < 32 → RowOk adr c nx g
  offO : ∀ g : Int, 0 ≤ g → g < 32 → adr g ≠ O
  offR : ∀ g g' : Int, 0 ≤ g → g < 32 → 0 ≤ g' → g' < 32 → adr g = adr g' → g = g'
theorem Tab.mono {O : Addr} {adr : Int → Addr} {c : Tb} {nx nx' : List (Addr × Obj)} (T : Tab O adr c nx) (h : ∀ p ∈ nx, p ∈ nx') : Tab O adr c nx' :=
  ⟨let ⟨vs, n, a, b⟩ := T.outer; ⟨vs, n, h _ a, b⟩, fun g h0 h1 => let ⟨vs, n, a, b⟩ := T.rows g h0 h1; ⟨vs, n, h _ a, b⟩, T.offO, T.offR⟩
theorem Tab.set {O : Addr} {adr : Int → Addr} {c : Tb} {nx : List (Addr × Obj)} (T : Tab O adr c nx) {g k x : Int} {t : Tok} {vs : List Value} {n : Nat} (g0 : 0 ≤ g) (g1 : g < 32) (k0 : 0 ≤ k) (k1 : k < 5)
    (hl : vs.length = 5) (hv : ∀ k : Int, 0 ≤ k → k < 5 → ∃ t, vs[k.toNat]? = some (.int (c g k) t)) (hm : (adr g, listOf vs.toArray n) ∈ nx) : Tab O adr (updT c g k x) (setL (adr g) (listOf (vs.set k.toNat (.int x t)).toArray n) nx) := by
  refine ⟨?_, ?_, T.offO, T.offR⟩
  · obtain ⟨us, n', a, b⟩ := T.outer
    exact ⟨us, n', mem_setL_ne a (Ne.symm (T.offO g g0 g1)), b⟩
  · intro g' h0 h1
    by_cases e : g' = g
    · subst e
      refine ⟨_, n, mem_setL_self hm, by rw [List.length_set, hl], fun k' k0' k1' => ?_⟩
      by_cases e' : k' = k
      · subst e'
        refine ⟨t, ?_⟩
        rw [List.getElem?_set_self (by omega)]
        simp [updT]
      · obtain ⟨t', q⟩ := hv k' k0' k1'
        refine ⟨t', ?_⟩
        rw [List.getElem?_set_ne (by omega), q]
        simp [updT, e']
    · obtain ⟨us, n', a, b, d⟩ := T.rows g' h0 h1
      refine ⟨us, n', mem_setL_ne a (fun q => e (T.offR _ _ h0 h1 g0 g1 q)), b, fun k' k0' k1' => ?_⟩
      obtain ⟨t', q⟩ := d k' k0' k1'
      exact ⟨t', by rw [q]; simp [updT, e]⟩
section
variable {prog : Program} {w : World} {A : Around} {E : Value → Shared → Prop} {s : Shared} {h₀ : Heap} {L O : Addr} {m : Str → Option Value} {nx news : List (Addr × Obj)} {adr : Int → Addr} {c : Tb} {g k x : Int} {t u : Tok}
theorem tab_sub {value slice : PySem.Expr} {Q : Value → Shared → Prop} (N : News h₀ L s.heap news) (T : Tab O adr c nx) (hs : ∀ p ∈ nx, p ∈ news) (g0 : 0 ≤ g) (g1 : g < 32) (h : Q (.ref (adr g)) s)
    (hsu : subscripted slice false (.ref O) (.int g u) = operate [.ref O, .int g u] (getItem (.ref O) (.int g u)) := by with_unfolding_all rfl) :
    wpAny (model prog w) A (subscriptTail value slice (.ref O) (.int g u)) Q E s := by
  obtain ⟨vs, n, a, b⟩ := T.outer
  have hl : s.heap.IsList O vs.toArray := PySem.IsL.isList (n := n) (N _ (hs _ a)).1
  exact PyProof.Rows.tail_any hl.typeIs slot_list_getitem.lookup (wpAny_getItem_list hl g0 (by omega) (by simpa using b g g0 g1) h) hsu
theorem row_sub {value slice : PySem.Expr} {Q : Value → Shared → Prop} (N : News h₀ L s.heap news) (T : Tab O adr c nx) (hs : ∀ p ∈ nx, p ∈ news) (g0 : 0 ≤ g) (g1 : g < 32) (k0 : 0 ≤ k) (k1 : k < 5) (h : ∀ t, Q (.int (c g k) t) s)
    (hsu : subscripted slice false (.ref (adr g)) (.int k u) = operate [.ref (adr g), .int k u] (getItem (.ref (adr g)) (.int k u)) := by with_unfolding_all rfl) :
    wpAny (model prog w) A (subscriptTail value slice (.ref (adr g)) (.int k u)) Q E s := by
  obtain ⟨vs, n, a, b, d⟩ := T.rows g g0 g1
  obtain ⟨t, q⟩ := d k k0 k1
  have hl : s.heap.IsList (adr g) vs.toArray := PySem.IsL.isList (n := n) (N _ (hs _ a)).1
  exact PyProof.Rows.tail_any hl.typeIs slot_list_getitem.lookup (wpAny_getItem_list hl k0 (by omega) (by simpa using q) (h t)) hsu
theorem row_set {Q : Unit → Shared → Prop} (F : Fr h₀ L s.heap m) {own : List (Addr × Obj)} (N : News h₀ L s.heap (nx ++ own)) (T : Tab O adr c nx) (ho : ∀ p ∈ own, p.1 ≠ adr g) (g0 : 0 ≤ g) (g1 : g < 32) (k0 : 0 ≤ k) (k1 : k < 5)
    (h : ∀ h' nx', Fr h₀ L h' m → News h₀ L h' (nx' ++ own) → Tab O adr (updT c g k x) nx' → nx'.map (·.1) = nx.map (·.1) → Q () { s with heap := h' }) :
    wpAny (model prog w) A (setItem (.ref (adr g)) (.int k u) (.int x t)) Q E s := by
  obtain ⟨vs, n, a, b, d⟩ := T.rows g g0 g1
  refine set_any F N (List.mem_append_left _ a) k0 (by omega) (by omega) fun h' F' N' => ?_
  rw [setL_append, setL_off (l := own) ho] at N'
  exact h h' _ F' N' (T.set g0 g1 k0 k1 b d a) setL_fst
end

def stepM (T H : List Int) (g k : Int) (c : Tb) (m : Int) : Tb :=
  if (g.fdiv (2 ^ m.toNat)).fmod 2 = 0 then
    (if c g k + (if H.getD k.toNat 0 = T.getD m.toNat 0 then 0 else 1) < c (g + 1 * 2 ^ m.toNat) m then updT c (g + 1 * 2 ^ m.toNat) m (c g k + (if H.getD k.toNat 0 = T.getD m.toNat 0 then 0 else 1)) else c)
  else c
def stepK (T H : List Int) (g : Int) (c : Tb) (k : Int) : Tb := if c g k < 9 then (rangeKs 0 5).foldl (stepM T H g k) c else c
def stepG (T H : List Int) (c : Tb) (g : Int) : Tb := (rangeKs 0 5).foldl (stepK T H g) c
def stepI (c : Tb) (k : Int) : Tb := updT c (1 * 2 ^ k.toNat) k 1
def fewT (T H : List Int) : Tb := (rangeKs 0 32).foldl (stepG T H) ((rangeKs 0 5).foldl stepI (fun _ _ => 9))
def fewF (T H : List Int) : Int := min (min (min (min (fewT T H 31 0) (fewT T H 31 1)) (fewT T H 31 2)) (fewT T H 31 3)) (fewT T H 31 4)
end
section
open LCg
section
variable {prog : Program} {w : World} {A : Around} {E : Value → Shared → Prop} {s : Shared} {h₀ : Heap} {env : Env}

def JPost (h₀ : Heap) (L I : Addr) (oI : Obj) (J : (Str → Option Value) → List (Addr × Obj) → Prop) (s₁ : Shared) (Q : Flow → Shared → Prop) (f : Flow) (s₂ : Shared) : Prop :=
  match f with
  | .ret v => Q (.ret v) s₂
  | .brk => Q .next s₂
  | _ => ∃ h' tk m' nx, s₂ = { s₁ with heap := h', toks := tk } ∧ Fr h₀ L h' m' ∧ News h₀ L h' ((I, oI) :: nx) ∧ (∀ p ∈ nx, p.1 ≠ I) ∧ J m' nx
theorem jpost_next {L I : Addr} {oI : Obj} {J : (Str → Option Value) → List (Addr × Obj) → Prop} {s₁ : Shared} {Q : Flow → Shared → Prop} {h' : Heap} {tk : Nat} {m' : Str → Option Value} {nx : List (Addr × Obj)}
    (F : Fr h₀ L h' m') (N : News h₀ L h' ((I, oI) :: nx)) (off : ∀ p ∈ nx, p.1 ≠ I) (hJ : J m' nx) : JPost h₀ L I oI J s₁ Q .next { s₁ with heap := h', toks := tk } := ⟨h', tk, m', nx, rfl, F, N, off, hJ⟩

/-- a for by an invariant over the whole ledger (its addresses may change); the turn begins with the target's assignment -/
theorem forJ {R : Result → Shared → Prop} {target : PySem.Expr} {body : List Stmt} {I : Addr} {fp : List Addr} {n : Nat} {P : Nat → Value → Prop} {St : Nat → Heap → Prop} {S : List (Addr × Obj) → Prop} {m₀ : Str → Option Value} {nx₀ : List (Addr × Obj)}
    (J : Nat → (Str → Option Value) → List (Addr × Obj) → Prop)
    (W : Walks prog w A I fp [I] n P St) (hIo : ∀ i h, St i h → ∃ o, h.get? I = some o)
    (hSt : ∀ i h h' o nw, St i h → h.get? I = some o → h'.get? I = some o → (∀ b o, h₀.get? b = some o → h'.get? b = some o) → News h₀ env.locals h' nw → S nw → St i h')
    (hS : ∀ i m nx, J i m nx → S nx) (hst : St 0 s.heap) (F : Fr h₀ env.locals s.heap m₀) (N : News h₀ env.locals s.heap nx₀) (hIL : env.locals ≠ I) (hI₀ : h₀.get? I = none) (off : ∀ p ∈ nx₀, p.1 ≠ I) (h0 : J 0 m₀ nx₀)
    (ht : ∀ v, letOwnedTupleGo target (.ref I) v = pure ())
    (turn : ∀ i v m₁ nx h tk oI, i < n → P i v → J i m₁ nx → Fr h₀ env.locals h m₁ → News h₀ env.locals h ((I, oI) :: nx) → (∀ p ∈ nx, p.1 ≠ I) →
      wpAny (model prog w) A (assign target env v) (fun _ s₂ => wpAny (model prog w) A (execs body env) (JPost h₀ env.locals I oI (J (i + 1)) { s with heap := h, toks := tk } (fun f s' => R (.ok f) s')) (notedBy (model prog w) A env fun e s' => R (.error e) s') s₂) (notedBy (model prog w) A env fun e s' => R (.error e) s') { s with heap := h, toks := tk })
    (done : ∀ m₁ nx h tk, J n m₁ nx → Fr h₀ env.locals h m₁ → News h₀ env.locals h nx → R (.ok .next) { s with heap := h, toks := tk }) :
    codeAny (model prog w) A (.forLoop target (.ref I) body [] env) R s := by
  refine codeAny_forLoop
    (fun k s' => ∃ h' tk m' nx i, s' = { s with heap := h', toks := tk } ∧ St i h' ∧ Fr h₀ env.locals h' m' ∧ News h₀ env.locals h' nx ∧ (∀ p ∈ nx, p.1 ≠ I) ∧ J i m' nx ∧ i ≤ n ∧ k = n + 1 - i) ?_ (n + 1)
    ⟨s.heap, s.toks, m₀, nx₀, 0, rfl, hst, F, N, off, h0, Nat.zero_le _, rfl⟩ ht
  rintro k s' ⟨h', tk, m', nx, i, rfl, hst', F', N', hnw', hJ, hi, rfl⟩
  have hk : ∀ {h₁ : Heap}, (∀ b o, b ∉ [I] → h'.get? b = some o → h₁.get? b = some o) → Fr h₀ env.locals h₁ m' ∧ News h₀ env.locals h₁ nx := fun hk₁ => ⟨fr_but F' hk₁ hIL hI₀, news_but N' hk₁ hnw'⟩
  by_cases hlt : i < n
  · refine W.item i _ _ _ hlt hst' fun v h₁ tk₁ hP hst₁ hk₁ => ?_
    obtain ⟨F₁, N₁⟩ := hk hk₁
    obtain ⟨oI, heI⟩ := hIo _ _ hst₁
    have N₂ : News h₀ env.locals h₁ ((I, oI) :: nx) := fun p hp => by
      rcases List.mem_cons.mp hp with rfl | hp
      · exact ⟨heI, Ne.symm hIL, hI₀⟩
      · exact N₁ p hp
    refine wpAny_mono (turn i v m' nx h₁ tk₁ oI hlt hP hJ F₁ N₂ hnw') (fun _ s₂ h₂ => ?_) fun _ _ e => e
    refine wpAny_mono h₂ (fun f s₃ h₃ => ?_) fun _ _ e => e
    have fin : (∃ h' tk m' nx, s₃ = { { s with heap := h₁, toks := tk₁ } with heap := h', toks := tk } ∧ Fr h₀ env.locals h' m' ∧ News h₀ env.locals h' ((I, oI) :: nx) ∧ (∀ p ∈ nx, p.1 ≠ I) ∧ J (i + 1) m' nx) →
        ∃ m, m < n + 1 - i ∧ ∃ h' tk m' nx i, s₃ = { s with heap := h', toks := tk } ∧ St i h' ∧ Fr h₀ env.locals h' m' ∧ News h₀ env.locals h' nx ∧ (∀ p ∈ nx, p.1 ≠ I) ∧ J i m' nx ∧ i ≤ n ∧ m = n + 1 - i := by
      rintro ⟨g₃, tk₃, m₃, nx₃, rfl, F₃, N₃, off₃, hJ₃⟩
      have hI₃ := (N₃ (I, oI) List.mem_cons_self).1
      have N₃' : News h₀ env.locals g₃ nx₃ := fun p hp => N₃ p (List.mem_cons_of_mem _ hp)
      exact ⟨n + 1 - (i + 1), by omega, g₃, tk₃, m₃, nx₃, i + 1, rfl, hSt _ _ _ _ _ hst₁ heI hI₃ F₃.keep N₃' (hS _ _ _ hJ₃), F₃, N₃', off₃, hJ₃, hlt, rfl⟩
    cases f with
    | ret v => exact h₃
    | brk => exact h₃
    | next => exact fin h₃
    | cont => exact fin h₃
  · obtain rfl : i = n := Nat.le_antisymm hi (Nat.not_lt.mp hlt)
    refine W.done _ _ _ hst' fun h₁ tk₁ hk₁ => wpAny_execs_nil ?_
    obtain ⟨F₁, N₁⟩ := hk hk₁
    exact done m' nx h₁ tk₁ hJ F₁ N₁

/-- what a loop wants of its iterable: the list's items or a range -/
inductive JSrc (prog : Program) (w : World) (A : Around) (h₀ : Heap) (L : Addr) (s : Shared) (nx : List (Addr × Obj)) : Value → Nat → (Nat → Value → Prop) → (List (Addr × Obj) → Prop) → Prop
  | range {r : Addr} {b : Int} {t u v : Tok} {n : Nat} : IsRange s.heap r 0 b 1 t u v → Builtin.Range.small 0 b 1 = true → Builtin.Range.rangeSize 0 b 1 = ((n : Nat) : Int) → JSrc prog w A h₀ L s nx (.ref r) n (fun i v => ∃ t, v = .int (i : Int) t) (fun _ => True)
  | list {ax : Addr} {its : Array Value} : SrcAt h₀ ax its nx → JSrc prog w A h₀ L s nx (.ref ax) its.size (fun i v => its[i]? = some v) (SrcAt h₀ ax its)

/-- a loop's facts at its iterable -/
def LoopJ (prog : Program) (w : World) (A : Around) (h₀ : Heap) (env : Env) (target : PySem.Expr) (body : List Stmt) (Q : Flow → Shared → Prop) (E : Value → Shared → Prop) (xv : Value) (s₁ : Shared) : Prop :=
  ∃ m₀ nx₀ n P S, ∃ J : Nat → (Str → Option Value) → List (Addr × Obj) → Prop, JSrc prog w A h₀ env.locals s₁ nx₀ xv n P S ∧ Fr h₀ env.locals s₁.heap m₀ ∧ News h₀ env.locals s₁.heap nx₀ ∧ J 0 m₀ nx₀ ∧ (∀ i m nx, J i m nx → S nx) ∧
      (∀ i v m₁ nx I h tk oI, i < n → P i v → J i m₁ nx → Fr h₀ env.locals h m₁ → News h₀ env.locals h ((I, oI) :: nx) → (∀ p ∈ nx, p.1 ≠ I) →
        wpAny (model prog w) A (assign target env v) (fun _ s₂ => wpAny (model prog w) A (execs body env) (JPost h₀ env.locals I oI (J (i + 1)) { s₁ with heap := h, toks := tk } Q) E s₂) E { s₁ with heap := h, toks := tk }) ∧
      (∀ m₁ nx h tk, J n m₁ nx → Fr h₀ env.locals h m₁ → News h₀ env.locals h nx → Q .next { s₁ with heap := h, toks := tk })

theorem For_J {target iter : PySem.Expr} {body : List Stmt} {pos : Pos} {Q : Flow → Shared → Prop} (hh : A.handled = none) (htn : ∃ x p, target = .Name x p)
    (h : wpAny (model prog w) A (eval iter env) (LoopJ prog w A h₀ env target body Q E) E s)
    (hs : ∀ x, foldedSetIterable iter env x = pure x := by intro _; rfl)
    (hE : PassesOwn (model prog w) A env E := by passes_own) :
    wpAny (model prog w) A (exec (.For target iter body [] pos) env) Q E s := by
  refine wpAny_For (wpAny_mono h (fun xv s₁ h₁ => ?_) fun _ _ e => e) hs
  obtain ⟨m₀, nx₀, n, P, S, J, src, F, N, h0, hS, turn, done⟩ := h₁
  have ht : ∀ I v, letOwnedTupleGo target (.ref I) v = pure () := by obtain ⟨x, p, rfl⟩ := htn; intro _ _; rfl
  cases src with
  | range hr hsm hn =>
    refine wpAny_pyIter_range hr hsm ?_
    refine forJ (R := fun r s' => match r with | .ok f => Q f s' | .error e => cameBackBy (model prog w) A env E e s') (S := fun _ => True) J (range_walks hh 0 n) (fun i h st => ⟨_, st⟩) range_st (fun _ _ _ _ => trivial)
      (by show IsRangeIter _ _ _ _ _; rw [hn]; simpa using Heap.get?_push_size _ rfl) (F.keeps fun _ _ e => Heap.get?_push_of_some _ e) (N.grown fun _ _ e => Heap.get?_push_of_some _ e) (Nat.ne_of_lt F.ns.lt) (next_is_new F) (fun p hp => Nat.ne_of_lt (Heap.lt_size (N p hp).1)) h0 (ht _) ?_ ?_
    · intro i v m₁ nx h tk oI hi hP hJ F₁ N₁ off
      have hP' : ∃ t, v = .int (i : Int) t := by obtain ⟨t, rfl⟩ := hP; exact ⟨t, by rw [Int.zero_add]⟩
      exact wpAny_passesOwn hE (wpAny_mono (turn i v m₁ nx _ h tk oI hi hP' hJ F₁ N₁ off) (fun _ _ h₂ => wpAny_passesOwn hE h₂) fun _ _ e => e)
    · exact done
  | list S =>
    have hl := S.list F.keep N
    have hlt : _ < s₁.heap.objs.size := hl.elim fun o e => Heap.lt_size e.1
    refine wpAny_pyIter_list hl ?_
    refine forJ (R := fun r s' => match r with | .ok f => Q f s' | .error e => cameBackBy (model prog w) A env E e s') J (Walks.list hh s₁.heap.objs.size _ (Nat.ne_of_lt hlt) _) (fun i h st => by obtain ⟨o, e, _⟩ := st.1; exact ⟨o, e⟩) list_st hS
      ⟨⟨_, Heap.get?_push_size _ rfl, rfl, rfl⟩, hl.push _⟩ (F.keeps fun _ _ e => Heap.get?_push_of_some _ e) (N.grown fun _ _ e => Heap.get?_push_of_some _ e) (Nat.ne_of_lt F.ns.lt) (next_is_new F) (fun p hp => Nat.ne_of_lt (Heap.lt_size (N p hp).1)) h0 (ht _) ?_ ?_
    · intro i v m₁ nx h tk oI hi hP hJ F₁ N₁ off
      exact wpAny_passesOwn hE (wpAny_mono (turn i v m₁ nx _ h tk oI hi hP hJ F₁ N₁ off) (fun _ _ h₂ => wpAny_passesOwn hE h₂) fun _ _ e => e)
    · exact done
end
open LCg
theorem cf_end {h₀ h' : Heap} {L I C D : Addr} {oI oC oD : Obj} {m : Str → Option Value} {s₁ : Shared} {all news : List (Addr × Obj)} {S : List (Addr × Obj) → Prop} {r r' : Int} {t tk : Nat} (F : Fr h₀ L h' m) (N : News h₀ L h' all)
    (hs : ∀ p ∈ (I, oI) :: (C, oC) :: (D, oD) :: news, p ∈ all) (off : Off3 I C D news) (hS : S news) (e : r = r') : CompEnd h₀ L m s₁ I oI C oC D oD S (fun y news' => KCfEl news r y news') (.int r' t) { s₁ with heap := h', toks := tk } :=
  CompEnd.intro F N news hs off hS (kcf_el e rfl rfl)
theorem ci_end {h₀ h' : Heap} {L I C D : Addr} {oI oC oD : Obj} {m : Str → Option Value} {s₁ : Shared} {all news : List (Addr × Obj)} {S : List (Addr × Obj) → Prop} {l r : List Int} {a : Int} {t tk : Nat} (F : Fr h₀ L h' m) (N : News h₀ L h' all)
    (hs : ∀ p ∈ (I, oI) :: (C, oC) :: (D, oD) :: news, p ∈ all) (off : Off3 I C D news) (hS : S news) (e : r = l ++ [a]) : CompEnd h₀ L m s₁ I oI C oC D oD S (fun y news' => KCiEl news l r y news') (.int a t) { s₁ with heap := h', toks := tk } :=
  CompEnd.intro F N news hs off hS (kci_el e rfl rfl)
theorem ci_no {h₀ h' : Heap} {L I C D : Addr} {oI oC oD : Obj} {m : Str → Option Value} {s₁ : Shared} {all news : List (Addr × Obj)} {S : List (Addr × Obj) → Prop} {l r : List Int} {y : Value} {tk : Nat} (F : Fr h₀ L h' m) (N : News h₀ L h' all)
    (hs : ∀ p ∈ (I, oI) :: (C, oC) :: (D, oD) :: news, p ∈ all) (off : Off3 I C D news) (hS : S news) (e : r = l) : CompEnd h₀ L m s₁ I oI C oC D oD S (fun _ news' => KCiNo news l r news') y { s₁ with heap := h', toks := tk } :=
  CompEnd.intro F N news hs off hS (kci_no e rfl)
theorem off1_mem {D : Addr} : ∀ {l : List (Addr × Obj)}, Off1 D l → ∀ p ∈ l, p.1 ≠ D
  | [], _, _, h => nomatch h
  | _ :: _, x, p, h => by
    rcases List.mem_cons.mp h with rfl | h
    · exact x.1
    · exact off1_mem x.2 p h
end
section
open LCg
theorem allObj_mono {ws : List (Addr × String)} : ∀ {k k' : List (Addr × Obj) → Prop}, AllObj ws k → (∀ its, k its → k' its) → AllObj ws k' := by
  induction ws with
  | nil => intro k k' h f; exact f _ h
  | cons w r ih => intro k k' h f o ho; exact ih (h o ho) fun its q => f _ q
section
variable {prog : Program} {w : World} {A : Around} {E : Value → Shared → Prop} {s : Shared} {env : Env} {h₀ : Heap} {target : PySem.Expr} {body : List Stmt} {Q : Flow → Shared → Prop}
theorem unrPost_mono {L : Addr} {s₁ s₂ : Shared} {its : List (Addr × Obj)} {r r' : (Str → Option Value) → List (Addr × Obj) → Prop} {f : Flow} (h : UnrPostW h₀ L s₁ its r Q f s₂) (k : ∀ m n, r m n → r' m n) : UnrPostW h₀ L s₁ its r' Q f s₂ := by
  have e : UnrEndW h₀ L s₁ its r s₂ → UnrEndW h₀ L s₁ its r' s₂ := fun ⟨h', tk, m', nw, a, b, c, d, q⟩ => ⟨h', tk, m', nw, a, b, c, d, k _ _ q⟩
  cases f with
  | ret v => exact h
  | brk => exact h
  | next => exact e h
  | cont => exact e h
/-- the turns over written items by an invariant -/
theorem itemsRest_inv {ws : List (Addr × String)} {xs : List Itm} {m₀ : Str → Option Value} {nx₀ : List (Addr × Obj)} (J : Nat → (Str → Option Value) → List (Addr × Obj) → Prop) (h0 : J 0 m₀ nx₀)
    (turn : ∀ i a m nx v h tk, xs[i]? = some a → a.Is v h → J i m nx → Fr h₀ env.locals h m → AllObj ws (fun its => News h₀ env.locals h (its ++ nx) →
      wpAny (model prog w) A (assign target env v) (fun _ s₂ => wpAny (model prog w) A (execs body env) (UnrPostW h₀ env.locals { s with heap := h, toks := tk } its (fun m' n' => J (i + 1) m' n') Q) E s₂) E { s with heap := h, toks := tk }))
    (done : ∀ m nx h tk, J xs.length m nx → Fr h₀ env.locals h m → News h₀ env.locals h nx → Q .next { s with heap := h, toks := tk }) :
    ItemsRest prog w A E h₀ env target body Q s ws [] xs m₀ nx₀ := by
  have all : ∀ k i m nx, k + i = xs.length → J i m nx → ItemsRest prog w A E h₀ env target body Q s ws [] (xs.drop i) m nx := by
    intro k
    induction k with
    | zero =>
      intro i m nx e hJ
      have e' : i = xs.length := by omega
      subst e'
      rw [List.drop_length]
      exact .zero fun h tk F N => done m nx h tk hJ F N
    | succ k ih =>
      intro i m nx e hJ
      have hlt : i < xs.length := by omega
      rw [List.drop_eq_getElem_cons hlt]
      intro v h tk ha F
      refine allObj_mono (turn i _ m nx v h tk (List.getElem?_eq_getElem hlt) ha hJ F) fun its q N => ?_
      exact wpAny_mono (q N) (fun _ s₂ h₂ => wpAny_mono h₂ (fun f s₃ h₃ => unrPost_mono h₃ fun m' n' j => ⟨trivial, ih (i + 1) m' n' (by omega) j⟩) fun _ _ e => e) fun _ _ e => e
  have := all xs.length 0 m₀ nx₀ rfl h0
  rwa [List.drop_zero] at this
/-- zip over two lists of the frozen part -/
theorem zip_base {elts : List PySem.Expr} {k : Nat} {pos : Pos} {l1 l2 : Addr} {xs ys : List Value} {m₀ : Str → Option Value} {news : List (Addr × Obj)}
    (hh : A.handled = none) (F : Fr h₀ env.locals s.heap m₀) (N : News h₀ env.locals s.heap news) (hb1 : h₀.IsList l1 xs.toArray) (hb2 : h₀.IsList l2 ys.toArray)
    (rest₀ : ∀ I : Addr, (∀ p ∈ news, p.1 < I) → ItemsRest prog w A E h₀ env (.Tuple elts k pos) body Q s [(I + 4, "zip"), (I + 2, "tuple"), (I + 3, "tuple"), (I, "list_iterator"), (I + 1, "list_iterator")] [] (zipItems xs ys) m₀ news) :
    wpAny (model prog w) A (call (.type "zip") [.ref l1, .ref l2]) (fun xv s₁ => wpAny (model prog w) A (pyIter xv) (fun it s₂ => TurnsAt prog w A h₀ env (.Tuple elts k pos) body Q E it s₂) E s₁) E s := by
  have hl1 : s.heap.IsList l1 xs.toArray := hb1.at fun o e => F.keep _ _ e
  have hl2 : s.heap.IsList l2 ys.toArray := hb2.at fun o e => F.keep _ _ e
  obtain ⟨ob1, hg1, _⟩ := hb1
  obtain ⟨ob2, hg2, _⟩ := hb2
  have hlt1 : l1 < s.heap.objs.size := Heap.lt_size (F.keep _ _ hg1)
  have hlt2 : l2 < s.heap.objs.size := Heap.lt_size (F.keep _ _ hg2)
  have hLs : env.locals < s.heap.objs.size := F.ns.lt
  refine call_zip_2 hl1 hl2 fun h' hz hTI hTO hi1 hi2 hsz hk => ?_
  refine wpAny_pyIter_zip hz ?_
  refine ktg_core (tk0 := s.toks) (keep := []) (KTurns.ofWalksU (WalksT.zip2 hh _ _ _ _ _ _ _ (ktu_apart _ _ _ hlt1 hlt2) xs.toArray ys.toArray).toU) (by simp [zipItems_length]) ?_ ?_ ?_ ?_ ?_ ?_ ?_ ?_ (F.keeps hk) (N.grown hk) trivial (rest₀ _ fun p hp => Heap.lt_size (N p hp).1)
  · rintro i v h ⟨T, vals, rfl, ⟨x, y, hx, hy, rfl⟩, hT⟩
    exact ⟨_, zipItems_get xs ys i (x := x) (y := y) (by simpa using hx) (by simpa using hy), T, 0, rfl, hT⟩
  · rintro i h ⟨hz, hTI, ⟨a, b, hTO⟩, ⟨o1, ho1, hc1, _⟩, ⟨o2, ho2, hc2, _⟩, _⟩
    obtain ⟨q1, g1, k1⟩ : ∃ o : Obj, h.get? (s.heap.objs.size + 4) = some o ∧ o.cls = .type "zip" := ⟨_, hz, rfl⟩
    obtain ⟨q2, g2, k2⟩ : ∃ o : Obj, h.get? (s.heap.objs.size + 2) = some o ∧ o.cls = .type "tuple" := ⟨_, hTI, rfl⟩
    obtain ⟨q3, g3, k3⟩ : ∃ o : Obj, h.get? (s.heap.objs.size + 3) = some o ∧ o.cls = .type "tuple" := ⟨_, hTO, rfl⟩
    refine ⟨[(s.heap.objs.size + 4, q1), (s.heap.objs.size + 2, q2), (s.heap.objs.size + 3, q3), (s.heap.objs.size, o1), (s.heap.objs.size + 1, o2)], ⟨⟨rfl, k1⟩, ⟨rfl, k2⟩, ⟨rfl, k3⟩, ⟨rfl, hc1⟩, ⟨rfl, hc2⟩, trivial⟩, fun p hp => ?_⟩
    simp only [List.mem_cons, List.not_mem_nil, or_false] at hp
    rcases hp with rfl | rfl | rfl | rfl | rfl <;> assumption
  · intro b hb
    have hge : s.heap.objs.size ≤ b ∧ b ∈ [s.heap.objs.size + 4, s.heap.objs.size + 2, s.heap.objs.size + 3, s.heap.objs.size, s.heap.objs.size + 1] := by
      refine ⟨?_, hb⟩
      have hb' : b = s.heap.objs.size + 4 ∨ b = s.heap.objs.size + 2 ∨ b = s.heap.objs.size + 3 ∨ b = s.heap.objs.size ∨ b = s.heap.objs.size + 1 := by simpa using hb
      rcases hb' with rfl | rfl | rfl | rfl | rfl
      · exact Nat.le_add_right _ _
      · exact Nat.le_add_right _ _
      · exact Nat.le_add_right _ _
      · exact Nat.le_refl _
      · exact Nat.le_add_right _ _
    refine ⟨?_, ktu_new F hge.1⟩
    have hb' : b = s.heap.objs.size + 4 ∨ b = s.heap.objs.size + 2 ∨ b = s.heap.objs.size + 3 ∨ b = s.heap.objs.size ∨ b = s.heap.objs.size + 1 := by simpa using hb
    rcases hb' with rfl | rfl | rfl | rfl | rfl <;> simp
  · intro b hb
    have hb' : b = s.heap.objs.size + 4 ∨ b = s.heap.objs.size + 3 ∨ b = s.heap.objs.size ∨ b = s.heap.objs.size + 1 := by simpa using hb
    rcases hb' with rfl | rfl | rfl | rfl <;> simp
  · intro b hb
    have hb' : b = s.heap.objs.size + 4 ∨ b = s.heap.objs.size + 2 ∨ b = s.heap.objs.size + 3 ∨ b = s.heap.objs.size ∨ b = s.heap.objs.size + 1 ∨ b = l1 ∨ b = l2 := by simpa using hb
    rcases hb' with rfl | rfl | rfl | rfl | rfl | rfl | rfl
    · exact .inl (by simp)
    · exact .inl (by simp)
    · exact .inl (by simp)
    · exact .inl (by simp)
    · exact .inl (by simp)
    · exact .inr (.inr ⟨ob1, hg1⟩)
    · exact .inr (.inr ⟨ob2, hg2⟩)
  · intro hI'
    have hb' : env.locals = s.heap.objs.size + 4 ∨ env.locals = s.heap.objs.size + 2 ∨ env.locals = s.heap.objs.size + 3 ∨ env.locals = s.heap.objs.size ∨ env.locals = s.heap.objs.size + 1 ∨ env.locals = l1 ∨ env.locals = l2 := by simpa using hI'
    have ab : ∀ {l : Addr} {o : Obj}, h₀.get? l = some o → env.locals ≠ l := fun e q => absurd (Heap.lt_size e) (Nat.not_lt.mpr (q ▸ F.above))
    rcases hb' with e | e | e | e | e | e | e
    · exact ktu_ne 4 hLs e
    · exact ktu_ne 2 hLs e
    · exact ktu_ne 3 hLs e
    · exact Nat.ne_of_lt hLs e
    · exact ktu_ne 1 hLs e
    · exact ab hg1 e
    · exact ab hg2 e
  · intro p hp hI'
    have hb' : p.1 = s.heap.objs.size + 4 ∨ p.1 = s.heap.objs.size + 3 ∨ p.1 = s.heap.objs.size ∨ p.1 = s.heap.objs.size + 1 := by simpa using hI'
    have hlp := Heap.lt_size (N p hp).1
    rcases hb' with e | e | e | e
    · exact ktu_ne 4 hlp e
    · exact ktu_ne 3 hlp e
    · exact Nat.ne_of_lt hlp e
    · exact ktu_ne 1 hlp e
  · exact ⟨hz, hTI, ⟨_, _, hTO⟩, hi1, hi2, hl1.at fun o e => hk _ _ e, hl2.at fun o e => hk _ _ e⟩
end
open LCg
section
variable {prog : Program} {w : World} {A : Around} {E : Value → Shared → Prop} {s : Shared} {env : Env} {h₀ : Heap} {L : Addr} {m : Str → Option Value}

/-- the end of a dict comprehension's value: the new objects join the ledger -/
def DcEnd (prog : Program) (w : World) (h₀ : Heap) (L : Addr) (m : Str → Option Value) (s₁ : Shared) (I : Addr) (oI : Obj) (C : Addr) (oC : Obj) (D : Addr) (oD : Obj) (J : List (Str × Value) → List (Addr × Obj) → Prop) (kvs : List (Str × Value)) (kv vv : Value) (s₂ : Shared) : Prop :=
  ∃ h' tk k nx, s₂ = { s₁ with heap := h', toks := tk } ∧ Fr h₀ L h' m ∧ News h₀ L h' ((I, oI) :: (C, oC) :: (D, oD) :: nx) ∧ Off3 I C D nx ∧ (strKind prog w).is k kv = true ∧ J (stored kvs k vv) nx
/-- what a dict comprehension over the keys of a dict of the ledger asks -/
def DcSrc (prog : Program) (w : World) (A : Around) (h₀ : Heap) (L : Addr) (m : Str → Option Value) (env : Env) (kx vx : PySem.Expr) (x : Str) (scope : Scope) (cl : List (Str × Addr)) (Q : Value → Shared → Prop) (xv : Value) (s₁ : Shared) : Prop :=
  ∃ (d : Addr) (od : Obj) (kvs : List (Str × Value)) (nx₀ : List (Addr × Obj)) (J : Nat → List (Str × Value) → List (Addr × Obj) → Prop), xv = .ref d ∧ A.handled = none ∧ Fr h₀ L s₁.heap m ∧ News h₀ L s₁.heap nx₀ ∧ od.IsDictOf (strKind prog w) kvs ∧ (d == sysModules) = false ∧ kvs.length ≤ sizeLine ∧
    (∀ i es nx, J i es nx → (d, od) ∈ nx ∧ es.length ≤ i) ∧ J 0 [] nx₀ ∧
    (∀ i k xv key es nx I oI C oC D oD m₂ h tk (E' : Value → Shared → Prop), kvs[i]? = some (k, xv) → (strKind prog w).is k key = true → J i es nx → NsObj oC m₂ → m₂ x = some key → Fr h₀ L h m → News h₀ L h ((I, oI) :: (C, oC) :: (D, oD) :: nx) → oD.IsDictOf (strKind prog w) es → Off3 I C D nx → ((@Ne Nat I C) ∧ (@Ne Nat I D) ∧ (@Ne Nat C D)) →
      wpAny (model prog w) A (eval kx (compEnvC scope cl C env)) (fun kv s' => wpAny (model prog w) A (eval vx (compEnvC scope cl C env)) (fun vv s'' => DcEnd prog w h₀ L m { s₁ with heap := h, toks := tk } I oI C oC D oD (J (i + 1)) es kv vv s'') E' s') E' { s₁ with heap := h, toks := tk }) ∧
    (∀ D oD es nx h tk, J kvs.length es nx → Fr h₀ L h m → News h₀ L h ((D, oD) :: nx) → oD.IsDictOf (strKind prog w) es → (∀ p ∈ nx, p.1 ≠ D) → (D == sysModules) = false → Q (.ref D) { s₁ with heap := h, toks := tk })

theorem DictComp_J {kx vx iter : PySem.Expr} {x : Str} {px : Pos} {scope : Scope} {cl : List (Str × Addr)} {pos : Pos} {Q : Value → Shared → Prop} (hbig : sysModules < h₀.objs.size)
    (hclos : closureFor scope env = pure cl) (hcell : ∀ y ∈ scope.names, y.2 ≠ .cell) (hkind : scope.kind = .function)
    (hnames : ∀ y ∈ scope.names, y.2 = .local → scope.names.lookup y.1 = some .local) (hx : scope.names.lookup x = some .local)
    (h : wpAny (model prog w) A (eval iter env) (DcSrc prog w A h₀ L m env kx vx x scope cl Q) E s)
    (hs : ∀ x, foldedSetIterable iter env x = pure x := by intro _; rfl) :
    wpAny (model prog w) A (eval (.DictComp kx vx [⟨.Name x px, iter, [], 0⟩] scope pos) env) Q E s := by
  rw [arm_eval_DictComp]
  refine wpAny_comprehension_free (use := none) rfl hs hclos hkind hnames (wpAny_mono h (fun xv s₁ h₁ => ?_) fun _ _ e => e)
  obtain ⟨d, od, kvs, nx₀, J, rfl, hh, F, N, hd, lo, hsz, hJd, h0, turn, done⟩ := h₁
  obtain ⟨ep, hat0⟩ := KdkAt.of hd
  have hm0 := (hJd _ _ _ h0).1
  have hat := hat0.dictAt (N _ hm0).1
  have hlt : d < s₁.heap.objs.size := Heap.lt_size (N _ hm0).1
  refine wpAny_pyIter_dict lo hat ?_
  generalize hH1 : s₁.heap.push { cls := .type "dict_keyiterator", data := .fields #[.ref d, .int 0 0, .int kvs.length 0, .int ep 0] } = H1
  have up1 : ∀ b o, s₁.heap.get? b = some o → H1.get? b = some o := fun b o e => hH1 ▸ Heap.get?_push_of_some _ e
  have hI1 : H1.objs.size = s₁.heap.objs.size + 1 := by rw [← hH1, Heap.size_push]
  have W := Walks.dictKeys (prog := prog) (w := w) (knd := strKind prog w) hh s₁.heap.objs.size d (Nat.ne_of_lt hlt) kvs ep
  have hstI : H1.IsKeyIter s₁.heap.objs.size d 0 kvs.length ep := hH1 ▸ ⟨_, Heap.get?_push_size _ rfl, rfl, rfl⟩
  have F1 : Fr h₀ L H1 m := F.keeps up1
  have N1 : News h₀ L H1 nx₀ := N.grown up1
  refine wpAny_newObj_type (wpAny_newFunctionEnv hcell (by intro y hy; simp at hy) (fun h₁ hns₁ hsb₁ => ?_) hkind)
  dsimp only at hns₁ hsb₁ ⊢
  have hnew : (H1.push { cls := .type "dict", dict := none, data := .dict #[] }).DictOf (strKind prog w) H1.objs.size [] := Heap.DictOf.new H1
  generalize hH2 : H1.push { cls := .type "dict", dict := none, data := .dict #[] } = H2 at hns₁ hsb₁ hnew ⊢
  have hC : H2.objs.size = H1.objs.size + 1 := by rw [← hH2, Heap.size_push]
  have hI1' : s₁.heap.objs.size < H1.objs.size := by rw [hI1]; exact Nat.lt_succ_self _
  have hD1' : H1.objs.size < H2.objs.size := by rw [hC]; exact Nat.lt_succ_self _
  have hDC : H1.objs.size ≠ H2.objs.size := Nat.ne_of_lt hD1'
  have hID : s₁.heap.objs.size ≠ H1.objs.size := Nat.ne_of_lt hI1'
  have hIC : s₁.heap.objs.size ≠ H2.objs.size := Nat.ne_of_lt (Nat.lt_trans hI1' hD1')
  have old : ∀ b o, H1.get? b = some o → h₁.get? b = some o := fun b o e => hsb₁.extBut b o (Nat.ne_of_lt (Nat.lt_trans (Heap.lt_size e) hD1')) (Heap.get?_push_of_some _ (hH2 ▸ Heap.get?_push_of_some _ e))
  have hacc : h₁.DictOf (strKind prog w) H1.objs.size [] := hnew.at fun o e => hsb₁.extBut _ _ hDC (Heap.get?_push_of_some _ e)
  have fresh : ∀ a, s₁.heap.objs.size ≤ a → h₀.get? a = none := fun a ha => by
    cases e : h₀.get? a with
    | none => rfl
    | some o' => exact absurd (Heap.lt_size (F.keep a o' e)) (Nat.not_lt.mpr ha)
  have hI₀ : h₀.get? s₁.heap.objs.size = none := fresh _ (Nat.le_refl _)
  have hD₀ : h₀.get? H1.objs.size = none := fresh _ (Nat.le_of_lt hI1')
  have hC₀ : h₀.get? H2.objs.size = none := fresh _ (Nat.le_of_lt (Nat.lt_trans hI1' hD1'))
  have hLlt : L < s₁.heap.objs.size := F.ns.lt
  have hIL : L ≠ s₁.heap.objs.size := Nat.ne_of_lt hLlt
  have hDL : H1.objs.size ≠ L := Nat.ne_of_gt (Nat.lt_trans hLlt hI1')
  have hCL : H2.objs.size ≠ L := Nat.ne_of_gt (Nat.lt_trans hLlt (Nat.lt_trans hI1' hD1'))
  have hDlo : (H1.objs.size == sysModules) = false := by
    have : sysModules < H1.objs.size := Nat.lt_trans (Nat.lt_of_lt_of_le hbig F.above) (Nat.lt_trans hLlt hI1')
    simpa using Nat.ne_of_gt this
  have off₀ : Off3 s₁.heap.objs.size H2.objs.size H1.objs.size nx₀ := Off3.of fun p hp => by
    have hl := Heap.lt_size (N p hp).1
    exact ⟨Nat.ne_of_lt hl, Nat.ne_of_lt (Nat.lt_trans hl (Nat.lt_trans hI1' hD1')), Nat.ne_of_lt (Nat.lt_trans hl hI1')⟩
  have loop : ∀ s₃ : Shared, s₃ = { s₁ with heap := h₁, toks := s₁.toks + ([] : List (Str × Value)).length } →
      codeAny (model prog w) A (.compLoop (.DictComp kx vx [⟨.Name x px, iter, [], 0⟩] scope pos) 0 (.ref s₁.heap.objs.size) (.ref H1.objs.size) (compEnvC scope cl H2.objs.size env))
        (compPost (model prog w) A E none Q (.ref H1.objs.size) H2.objs.size) s₃ := by
    rintro s₃ rfl
    refine codeAny_compLoop_testsD
      (fun k s' => ∃ h' tk i es m' nx oD, s' = { s₁ with heap := h', toks := tk } ∧ i ≤ kvs.length ∧ k = kvs.length + 1 - i ∧ h'.IsKeyIter s₁.heap.objs.size d i kvs.length ep ∧ Fr h₀ L h' m ∧ h'.Ns H2.objs.size m' ∧ News h₀ L h' ((H1.objs.size, oD) :: nx) ∧
        oD.IsDictOf (strKind prog w) es ∧ Off3 s₁.heap.objs.size H2.objs.size H1.objs.size nx ∧ J i es nx) ?_ (kvs.length + 1) ?_
    · rintro k s' ⟨h', tk, i, es, m', nx, oD, rfl, hi, rfl, hit, F', hn', N', hoD, off', hJ⟩
      have hJd' := hJd _ _ _ hJ
      have hatd : h'.DictAt (strKind prog w) d kvs ep := hat0.dictAt (N' _ (List.mem_cons_of_mem _ hJd'.1)).1
      have offm := off'.mem
      have stepN : ∀ {h₂ : Heap}, (∀ b o, b ∉ [s₁.heap.objs.size] → h'.get? b = some o → h₂.get? b = some o) → Fr h₀ L h₂ m ∧ News h₀ L h₂ ((H1.objs.size, oD) :: nx) ∧ h₂.Ns H2.objs.size m' := fun hk₂ =>
        ⟨fr_but F' hk₂ hIL hI₀, news_but N' hk₂ fun p hp => by
          rcases List.mem_cons.mp hp with rfl | hp
          · exact Ne.symm hID
          · exact (offm p hp).1, hn'.at' fun o e => hk₂ _ o (by simpa using Ne.symm hIC) e⟩
      by_cases hlt' : i < kvs.length
      · refine W.item i _ _ _ hlt' ⟨hit, hatd⟩ fun v h₂ tk₂ hPv hst₂ hk₂ => ?_
        obtain ⟨kk, xx, hkx, hkey⟩ := hPv
        obtain ⟨F₂, N₂, hn₂'⟩ := stepN hk₂
        refine wpAny_assign_Name (wpAny_storeName_local (lookup_relabel_local hx) hn₂' (fun h₃ hn₃ hs₃ => ?_) (by simp [compEnvC, relabel, hkind]))
        refine wpAny_tests_nil ?_
        simp only [if_true]
        have hit₃ : h₃.IsKeyIter s₁.heap.objs.size d (i + 1) kvs.length ep := hst₂.1.at fun o e => hs₃.extBut _ _ hIC e
        obtain ⟨oI, heI, hIc, hId⟩ := id hit₃
        obtain ⟨oC, heC, hoC⟩ := ns_obj hn₃
        have F₃ : Fr h₀ L h₃ m := F₂.change hs₃ hCL hC₀
        have N₃ : News h₀ L h₃ ((s₁.heap.objs.size, oI) :: (H2.objs.size, oC) :: (H1.objs.size, oD) :: nx) := fun p hp => by
          rcases List.mem_cons.mp hp with rfl | hp
          · exact ⟨heI, Ne.symm hIL, hI₀⟩
          · rcases List.mem_cons.mp hp with rfl | hp
            · exact ⟨heC, hCL, hC₀⟩
            · have z := N₂ p hp
              refine ⟨hs₃.extBut _ _ ?_ z.1, z.2⟩
              rcases List.mem_cons.mp hp with rfl | hp
              · exact hDC
              · exact (offm p hp).2.1
        refine wpAny_mono (turn i kk xx v es nx s₁.heap.objs.size oI H2.objs.size oC H1.objs.size oD _ h₃ _ _ hkx hkey hJ hoC (by simp) F₃ N₃ hoD off' ⟨hIC, hID, Ne.symm hDC⟩) (fun kv s₄ h₄ => wpAny_mono h₄ (fun vv s₅ h₅ => ?_) fun _ _ e => e) fun _ _ e => e
        obtain ⟨h₅, tk₅, k', nx₅, rfl, F₅, N₅, off₅, hk', hJ₅⟩ := h₅
        have zI := (N₅ (s₁.heap.objs.size, oI) List.mem_cons_self).1
        have zC := (N₅ (H2.objs.size, oC) (List.mem_cons_of_mem _ List.mem_cons_self)).1
        have zD := (N₅ (H1.objs.size, oD) (List.mem_cons_of_mem _ (List.mem_cons_of_mem _ List.mem_cons_self)))
        have N₅' : News h₀ L h₅ nx₅ := fun p hp => N₅ p (List.mem_cons_of_mem _ (List.mem_cons_of_mem _ (List.mem_cons_of_mem _ hp)))
        refine wpAny_dictSet_pairs (hsz := Nat.le_trans hJd'.2 (Nat.le_trans hi hsz)) hk' (Heap.dictOf_iff.mpr ⟨oD, zD.1, hoD⟩) fun h₆ hm₆ hs₆ => ?_
        obtain ⟨oD', hoD1, hoD2⟩ := Heap.dictOf_iff.mp hm₆
        have off5 := off₅.mem
        refine ⟨kvs.length + 1 - (i + 1), by omega, h₆, _, i + 1, _, _, nx₅, oD', rfl, hlt', rfl, ?_, F₅.change hs₆ hDL hD₀, (hoC.ns zC).sameBut hs₆ (Ne.symm hDC), fun p hp => ?_, hoD2, off₅, hJ₅⟩
        · have := (⟨oI, zI, hIc, hId⟩ : h₅.IsKeyIter s₁.heap.objs.size d (i + 1) kvs.length ep)
          exact Heap.IsKeyIter.at this fun o e => hs₆.extBut _ _ hID e
        · rcases List.mem_cons.mp hp with rfl | hp
          · exact ⟨hoD1, hDL, hD₀⟩
          · exact ⟨hs₆.extBut _ _ (off5 p hp).2.2 (N₅' p hp).1, (N₅' p hp).2⟩
      · obtain rfl : i = kvs.length := Nat.le_antisymm hi (Nat.not_lt.mp hlt')
        refine W.done _ _ _ ⟨hit, hatd⟩ fun h₂ tk₂ hk₂ => ?_
        obtain ⟨F₂, N₂, hn₂⟩ := stepN hk₂
        refine ⟨m', hn₂, fun h₃ hs₃ => ?_⟩
        refine done _ oD es nx h₃ tk₂ hJ (F₂.change hs₃ hCL hC₀) (fun p hp => ⟨hs₃.extBut _ _ ?_ (N₂ p hp).1, (N₂ p hp).2⟩) hoD (fun p hp => (offm p hp).2.2) hDlo
        rcases List.mem_cons.mp hp with rfl | hp
        · exact hDC
        · exact (offm p hp).2.1
    · obtain ⟨oD, hoD1, hoD2⟩ := Heap.dictOf_iff.mp hacc
      refine ⟨h₁, _, 0, [], _, nx₀, oD, rfl, Nat.zero_le _, rfl, hstI.at fun o e => old _ _ e, F1.keeps old, hns₁, fun p hp => ?_, hoD2, off₀, h0⟩
      rcases List.mem_cons.mp hp with rfl | hp
      · exact ⟨hoD1, hDL, hD₀⟩
      · exact ⟨old _ _ (N1 p hp).1, (N1 p hp).2⟩
  exact codeAny_compStart_dict (loop _ rfl) (W.self 0 _ _ _ ⟨hstI.at fun o e => old _ _ e, hat0.dictAt (old _ _ (up1 _ _ (N _ hm0).1))⟩ (loop _ rfl))
end
/-- all of a ledger lies elsewhere -/
def NeAll (d : Addr) (l : List (Addr × Obj)) : Prop := ∀ p ∈ l, p.1 ≠ d
theorem neAll_of {d x : Addr} {l : List (Addr × Obj)} (h : ∀ p ∈ l, p.1 < d) (h2 : d < x) : NeAll x l := fun p hp => Nat.ne_of_lt (Nat.lt_trans (h p hp) h2)
theorem neAll_lt {d : Addr} {l : List (Addr × Obj)} (h : ∀ p ∈ l, p.1 < d) : NeAll d l := fun p hp => Nat.ne_of_lt (h p hp)
theorem NeAll.at {d : Addr} {l tl : List (Addr × Obj)} (h : NeAll d l) (hs : ∀ p ∈ tl, p ∈ l) : ∀ p ∈ tl, p.1 ≠ d := fun p hp => h p (hs p hp)
end
section
open LCg
section
variable {prog : Program} {w : World} {A₀ A : Around} {s : Shared} {K : Frag} {L : Addr} {h₀ base : Heap} {m mg mb : Str → Option Value} {p : Program} {loose : List Str} {mean : ExcName → Option Value}
  {env : Env} {outer : List Env} {R : Result → Shared → Prop} {name qual : Str} {params : Arguments} {body : List Stmt} {scope : Scope} {dV kV doc pm cdv ct oc : Value} {an od : Option Addr} {osl : Array (Option Value)} {f : Addr} {args : Args} {binds : List (Str × Value)} {news : List (Addr × Obj)}
/-- a def entered with the whole heap frozen but for a ledger -/
theorem code_def1 (B : Below A₀ base outer h₀) (F : Fr h₀ L s.heap m) (X₀ : K.In h₀) (N : News h₀ L s.heap news) (T : Top p loose mean mg mb h₀) (hA : A.frames = some (env :: outer)) (hf : env.frame = some L) (hke : env.scope.kind = .function)
    (ho : K.lookup f = some ⟨oc, od, .func (fnOf name qual params body scope dV kV doc pm an cdv ct), osl⟩) (hcd : codeIn K cdv qual = true) (hroom : A.depth < recursionLimit)
    (hbind : BindsTo s (fnOf name qual params body scope dV kV doc pm an cdv ct) args binds) (hloc : ∀ y ∈ binds, scope.names.lookup y.1 = some .local)
    (h : ∀ g L' h₁, (∀ b o, s.heap.get? b = some o → b ∉ news.map (·.1) → g.get? b = some o) → Fr g L' h₁ (fun y => binds.reverse.lookup y) → News g L' h₁ news → Below A base (env :: outer) g → K.In g → Top p loose mean mg mb g →
      wpAny (model prog w) (A.deeper (envOf qual scope L' f cdv)) (execs body (envOf qual scope L' f cdv))
        (fun fl s' => LeaveF g R (match fl with | .ret v => v | _ => .none) s')
        (fun e s' => wpAny (model prog w) (A.deeper (envOf qual scope L' f cdv)) (leaving (envOf qual scope L' f cdv) e) (fun _ s'' => R (.error e) s'') (fun e' s'' => R (.error e') s'') s')
        { s with heap := h₁, toks := s.toks + binds.length })
    (hco : scope.isCoroutine = false) (hgen : scope.isGenerator = false) (hk : scope.kind = .function)
    (hcell : ∀ x ∈ scope.names, x.2 ≠ .cell) : codeAny (model prog w) A (.call (.ref f) args) R s := by
  have XS := X₀.keeps F.keep
  obtain ⟨FG, BG, st, _⟩ := groundX (R := R) B F N hA hf hke
  refine codeAny_call_def (fd := fnOf name qual params body scope dV kV doc pm an cdv ct) (body := body) (binds := binds) hroom (XS _ _ ho) rfl (T.nolimit.keeps F.keep) (codeRec_of XS hcd) rfl hbind hcell hloc (fun h₁ hns hk₁ => ?_) hco hgen hk
  exact wpAny_mono (h (hideAll s.heap (news.map fun q : Addr × Obj => q.1)) s.heap.objs.size h₁ (fun b o e hn => hideAll_get _ e hn) ⟨hns, fun b o e => hk₁ b o (of_hideAll _ e), Nat.le_of_eq (hideAll_size _ _)⟩
    (fun p hp => ⟨hk₁ _ _ (N p hp).1, Nat.ne_of_lt (Heap.lt_size (N p hp).1), hideAll_none _ (List.mem_map_of_mem hp)⟩) BG (X₀.keeps st) (T.keeps st)) (fun fl s' hl => hl.out) fun _ _ y => y
end
/-- a contract of a def that may turn the objects at hid -/
def SpecM (w : World) (f : Addr) (vs : List Value) (hid : List Addr) (Pre : Heap → Prop) (Post : Value → List (Addr × Obj) → Prop) : Prop :=
  ∀ (dp un : Nat) (gd : Option (List Code)) (cn : Str) (cs : Scope) (a : Addr) (ccd : Value) (cl : List (Str × Addr)) (outer : List Env) (A₀ : Around) (base h₀ : Heap) (L : Addr) (m mg mb : Str → Option Value) (mean : ExcName → Option Value) (s : Shared)
    (Q E : Value → Shared → Prop) (news : List (Addr × Obj)),
    Below A₀ base outer h₀ → Fr h₀ L s.heap m → News h₀ L s.heap news → news.map (·.1) = hid → (K2 w.params).In h₀ → Top hd.view_39 LSE mean mg mb h₀ → cs.kind = .function → dp + 4 < recursionLimit → un + 64 < cLine → Pre s.heap →
    (∀ v tl h' tk', (∀ b o, b ∉ hid → s.heap.get? b = some o → h'.get? b = some o) → (∀ p ∈ tl, h'.get? p.1 = some p.2 ∧ s.heap.get? p.1 = none) → Post v tl → Q v { s with heap := h', toks := tk' }) →
    wpAny (model PRG w) (ktrTop dp un gd cn cs L a ccd cl outer) (call (.ref f) vs) Q E s
section
variable {prog : Program} {w : World} {A : Around} {E : Value → Shared → Prop} {s : Shared} {env : Env} {h₀ : Heap} {target : PySem.Expr} {body : List Stmt} {Q : Flow → Shared → Prop}
/-- the turns over written items by an invariant, with kept entries -/
theorem itemsRest_invK {ws : List (Addr × String)} {keep : List (Addr × Obj)} {xs : List Itm} {m₀ : Str → Option Value} {nx₀ : List (Addr × Obj)} (J : Nat → (Str → Option Value) → List (Addr × Obj) → Prop) (hK : ∀ i m nx, J i m nx → SubL keep nx) (h0 : J 0 m₀ nx₀)
    (turn : ∀ i a m nx v h tk, xs[i]? = some a → a.Is v h → J i m nx → Fr h₀ env.locals h m → AllObj ws (fun its => News h₀ env.locals h (its ++ nx) →
      wpAny (model prog w) A (assign target env v) (fun _ s₂ => wpAny (model prog w) A (execs body env) (UnrPostW h₀ env.locals { s with heap := h, toks := tk } its (fun m' n' => J (i + 1) m' n') Q) E s₂) E { s with heap := h, toks := tk }))
    (done : ∀ m nx h tk, J xs.length m nx → Fr h₀ env.locals h m → News h₀ env.locals h nx → Q .next { s with heap := h, toks := tk }) :
    ItemsRest prog w A E h₀ env target body Q s ws keep xs m₀ nx₀ := by
  have all : ∀ k i m nx, k + i = xs.length → J i m nx → ItemsRest prog w A E h₀ env target body Q s ws keep (xs.drop i) m nx := by
    intro k
    induction k with
    | zero =>
      intro i m nx e hJ
      have e' : i = xs.length := by omega
      subst e'
      rw [List.drop_length]
      exact .zero fun h tk F N => done m nx h tk hJ F N
    | succ k ih =>
      intro i m nx e hJ
      have hlt : i < xs.length := by omega
      rw [List.drop_eq_getElem_cons hlt]
      intro v h tk ha F
      refine allObj_mono (turn i _ m nx v h tk (List.getElem?_eq_getElem hlt) ha hJ F) fun its q N => ?_
      exact wpAny_mono (q N) (fun _ s₂ h₂ => wpAny_mono h₂ (fun f s₃ h₃ => unrPost_mono h₃ fun m' n' j => ⟨hK _ _ _ j, ih (i + 1) m' n' (by omega) j⟩) fun _ _ e => e) fun _ _ e => e
  have := all xs.length 0 m₀ nx₀ rfl h0
  rwa [List.drop_zero] at this
end
section
variable {prog : Program} {w : World} {A : Around} {E : Value → Shared → Prop} {s : Shared} {h₀ : Heap} {L d : Addr} {m : Str → Option Value} {news : List (Addr × Obj)} {g : Obj → List (Addr × Obj)} {o : Obj} {kvs : List (Str × Value)} {k : Str} {t : Tok} {v dflt : Value}
theorem pop_there {Q : Value → Shared → Prop} (F : Fr h₀ L s.heap m) (N : News h₀ L s.heap news) (U : UpdF d o news g) (hd : o.IsDictOf (strKind prog w) kvs) (hl : valueAt kvs k = some v) (hsz : kvs.length ≤ sizeLine)
    (h : ∀ h' o', Fr h₀ L h' m → News h₀ L h' (g o') → o'.IsDictOf (strKind prog w) (without kvs k) → Q v { s with heap := h', toks := s.toks + 1 }) :
    wpAny (model prog w) A (call (.builtin "dict.pop") [.ref d, .str k t, dflt]) Q E s :=
  kob_pop (more := [dflt]) F N U hd (strKind_is _ _ _ _) (.inr ⟨_, rfl⟩) (by rfl) (PySem.F.args_dict_pop_3 _ _ _) hl hsz h
theorem pop_none {Q : Value → Shared → Prop} (N : News h₀ L s.heap news) (hp : (d, o) ∈ news) (hd : o.IsDictOf (strKind prog w) kvs) (lo : (d == sysModules) = false) (hl : valueAt kvs k = none)
    (h : Q dflt { s with toks := s.toks + 1 }) : wpAny (model prog w) A (call (.builtin "dict.pop") [.ref d, .str k t, dflt]) Q E s := by
  have hD := kda_dict N hp hd
  exact call_meetsIn PySem.F.slot_dict_pop hD.typeIs PySem.F.entry_dict_pop (PySem.F.args_dict_pop_3 _ _ _) (meets_dict_pop_default (strKind prog w) d (strKind_is _ _ _ _) lo (by rfl) dflt) ⟨kvs, hD, hl, h⟩
end
end
section
section
variable {prog : Program} {w : World} {A₀ : Around} {E : Value → Shared → Prop} {s' : Shared} {base g g₀ h : Heap} {outer : List Env} {L a e : Addr} {m : Str → Option Value} {name : Str} {scope : Scope} {cd : Value}
  {b₀ : Stmt} {suite : List Stmt} {pos np : Pos} {rest : List ExceptHandler} {Q : Flow → Shared → Prop} {news : List (Addr × Obj)} {KF : Frag}
  {p : Program} {loose : List Str} {mean : ExcName → Option Value} {mg mb : Str → Option Value} {x : Str} {X T' : String}
/-- an exception that a step of the try's own suite has made new, caught by a clause of the same frame: the ground of the frames below turns -/
theorem caught_hereN (hx : Heap.NewExc h s'.heap e X) (F : Fr g L h m) (N : News g L h news) (K : Below A₀ base outer g) (XB : KF.In base) (TB : Top p loose mean mg mb base)
    (D : KtsDicts (outer.filterMap (·.frame)) g) (T0 : KtsTurn (outer.filterMap (·.frame)) g₀ g)
    (ex : nsIn KF mainGlobals x = some none) (hv : bootBuiltins x = some (.type T')) (hn' : x ≠ "__name__")
    (hexc : isSubtype (.type T') (.type "BaseException") = pure true) (hnt : isSubtype (.type ((Manifest.find? T').elim "type" fun y => y.metatype)) (.type "tuple") = pure false) (hsub : isSubtype (.type X) (.type T') = pure true)
    (k : ∀ h' g', KtsTurn (outer.filterMap (·.frame)) g₀ g' → Fr g' L h' m → News g' L h' news → Below A₀ base outer g' → KF.In g' → Top p loose mean mg mb g' → KtsDicts (outer.filterMap (·.frame)) g' →
      (∀ b o, h.get? b = some o → b ∉ (envOf name scope L a cd :: outer).filterMap (·.frame) → h'.get? b = some o) →
      wpAny (model prog w) ((A₀.deeper (envOf name scope L a cd)).mark (some (.ref e))) (execs (b₀ :: suite) (envOf name scope L a cd)) Q E { s' with heap := h' })
    (hk : scope.kind = .function := by rfl) (hxk : (envOf name scope L a cd).kindOf x = some .globalImplicit := by rfl) (hd : (x == ("__debug__" : Str)) = false := by decide)
    (hE : PassesOwnAt (model prog w) ((A₀.deeper (envOf name scope L a cd)).mark (some (.ref e))) (A₀.deeper (envOf name scope L a cd)) (envOf name scope L a cd) E := by passes_own) :
    wpAny (model prog w) (A₀.deeper (envOf name scope L a cd)) (noteFrame (.ref e) (envOf name scope L a cd))
      (fun _ s₂ => wpAny (model prog w) (A₀.deeper (envOf name scope L a cd)) (setFlight (.ref e) none) (fun _ s₃ =>
        wpAny (model prog w) (A₀.deeper (envOf name scope L a cd)) (handleBy (.ref e) (envOf name scope L a cd) (.ExceptHandler (some (.Name x np)) none (b₀ :: suite) pos :: rest)) Q E s₃) E s₂) E s' := by
  have K' := K.push (name := name) (a := a) (cd := cd) F hk
  have hin : ∀ env ∈ (envOf name scope L a cd :: outer), ∀ b, env.frame = some b → b ∈ (envOf name scope L a cd :: outer).filterMap (·.frame) := fun env he b hb => List.mem_filterMap.mpr ⟨env, he, hb⟩
  have hB : base.StaysIn (hideAll h ((envOf name scope L a cd :: outer).filterMap (·.frame))) := fun b o q => hideAll_get _ (K'.stays b o q) fun hm => by
    rw [(K'.frames.mem hm).1] at q; cases q
  have hBG : ∀ b o, h.get? b = some o → b ∉ (envOf name scope L a cd :: outer).filterMap (·.frame) → (hideAll h ((envOf name scope L a cd :: outer).filterMap (·.frame))).get? b = some o := fun b o q nm => hideAll_get _ q nm
  have hl : ∀ q ∈ news, (hideAll h ((envOf name scope L a cd :: outer).filterMap (·.frame))).get? q.1 = some q.2 ∧ g.get? q.1 = none := fun q hq => by
    refine ⟨hideAll_get _ (N q hq).1 fun hm => ?_, (N q hq).2.2⟩
    obtain ⟨env, he, hf⟩ := List.mem_filterMap.mp hm
    rcases List.mem_cons.mp he with rfl | he
    · exact (N q hq).2.1 (Option.some.inj hf).symm
    · obtain ⟨o, ho, _⟩ := (K.frames.mem (List.mem_filterMap.mpr ⟨env, he, hf⟩)).2
      rw [(N q hq).2.2] at ho; cases ho
  obtain ⟨ob, tp, he, hcls, hdt⟩ := hx.there
  have hen : (hideAll h ((envOf name scope L a cd :: outer).filterMap (·.frame))).get? e = none := by
    cases q : (hideAll h ((envOf name scope L a cd :: outer).filterMap (·.frame))).get? e with
    | none => rfl
    | some o => have := of_hideAll _ q; rw [hx.new] at this; cases this
  have hkB : (hideAll h ((envOf name scope L a cd :: outer).filterMap (·.frame))).StaysIn s'.heap := fun b o q => hx.keeps b o (of_hideAll _ q)
  have hfrB : s'.heap.FunFrames (hideAll h ((envOf name scope L a cd :: outer).filterMap (·.frame))) (envOf name scope L a cd :: outer) := (funFrames_hide K'.frames hin).of_keeps fun b o hb _ => ⟨o, hx.keeps b o hb, rfl⟩
  have hsm : h.UpToSlots s'.heap := Heap.UpToSlots.of_keeps hx.keeps
  generalize hBe : hideAll h ((envOf name scope L a cd :: outer).filterMap (·.frame)) = B at *
  unfold noteFrame
  have hf : (envOf name scope L a cd).frame = some L := rfl
  simp only [hf]
  refine wpAny_bind (wpAny_field he hdt (show (#[tp, Value.none, Value.none, Value.none, Value.bool false, Value.none] : Array Value)[1]? = some Value.none from rfl) ?_)
  rw [if_neg (by decide)]
  refine wpAny_entryW (a0 := tp) (Around.frames_deeper K.stack) hfrB rfl he hkB hen hdt (show 1 < 6 by decide) rfl fun h₄ hN => ?_
  obtain ⟨n1, n2, n3, hsm₄⟩ := hN
  rw [hcls] at n3
  have hheld₄ : Heap.HeldW B (envOf name scope L a cd :: outer) e (.type X) tp L h₄ := ⟨n1, hen, n2, n3⟩
  have hL : B.get? L = none := by
    obtain ⟨_, ⟨L', _, hf, hn', _⟩, _⟩ := hfrB
    obtain rfl : L = L' := Option.some.inj hf
    exact hn'
  refine wpAny_landsW hheld₄ fun h₅ hheld hsm₅' => ?_
  have hsm₅ : Heap.UpToSlots s'.heap h₅ := Heap.UpToSlots.trans hsm₄ hsm₅'
  obtain ⟨g₅, T₅, F₅, K₅⟩ := kts_ground K F hBG hheld.1 (hsm.trans hsm₅)
  have X₅ : KF.In g₅ := XB.keeps K₅.stays
  have P₅ : TopRead p loose mg mb g₅ := topRead_of (TB.keeps K₅.stays)
  obtain ⟨ob', hob, hobc⟩ := hheld.there
  refine wpAny_handleBy_builtin (X := X) (T := T') (b := true) hexc hnt hsub (name_B F₅ X₅ P₅ ex hv hn' ⟨rfl, ⟨ob', hob, hobc⟩, ?_⟩ hk hxk hd)
  refine lands_againW hheld fun h₆ hfl₆ hsm₆ => ?_
  obtain ⟨g₆, T₆, F₆, K₆⟩ := kts_ground K F hBG hfl₆.1 ((hsm.trans hsm₅).trans hsm₆)
  have Nl : News g₆ L h₆ news := fun q hq => ⟨hfl₆.1 _ _ (hl q hq).1, (fun z => by have := (hl q hq).1; rw [z, hL] at this; cases this), T₆.none_ _ (hl q hq).2⟩
  have X₆ : KF.In g₆ := XB.keeps K₆.stays
  have P₆ : Top p loose mean mg mb g₆ := TB.keeps K₆.stays
  have D₆ : KtsDicts (outer.filterMap (·.frame)) g₆ := D.turn T₆
  exact wpAny_passesOwnAt hE (k h₆ g₆ (T0.trans T₆) F₆ Nl K₆ X₆ P₆ D₆ fun b o q nm => hfl₆.1 _ _ (hBG b o q nm))
end
end
section
/-- the end of a call under which the frames' own objects may have turned -/
def EndC (fs : List Addr) (A₀ : Around) (base : Heap) (outer : List Env) (K : Frag) (p : Program) (loose : List Str) (mean : ExcName → Option Value) (mg mb : Str → Option Value) (h₀ : Heap) (L : Addr) (m : Str → Option Value) (g : Heap) (R : Result → Shared → Prop) (v : Value) (s' : Shared) : Prop :=
  ∃ g' L' m' news', KtsTurn fs g g' ∧ Fr g' L' s'.heap m' ∧ News g' L' s'.heap news' ∧
    ∀ h₀', KtsTurn (outer.filterMap (·.frame)) h₀ h₀' → Fr h₀' L s'.heap m → (∀ b o, g.get? b = some o → b ∉ fs → s'.heap.get? b = some o) → (∀ p ∈ news', s'.heap.get? p.1 = some p.2 ∧ g.get? p.1 = none) → Below A₀ base outer h₀' → K.In h₀' → Top p loose mean mg mb h₀' →
      KtsDicts (outer.filterMap (·.frame)) h₀' → R (.ok (.ret v)) s'
section
variable {prog : Program} {w : World} {A₀ A : Around} {s : Shared} {K : Frag} {L : Addr} {h₀ base : Heap} {m mg mb : Str → Option Value} {p : Program} {loose : List Str} {mean : ExcName → Option Value}
  {env : Env} {outer : List Env} {R : Result → Shared → Prop} {name qual : Str} {params : Arguments} {body : List Stmt} {scope : Scope} {dV kV doc pm cdv ct oc : Value} {an od : Option Addr} {osl : Array (Option Value)} {f : Addr} {args : Args} {binds : List (Str × Value)}
theorem mem_frames {env : Env} {outer : List Env} {L b : Addr} (hf : env.frame = some L) : b ∈ (env :: outer).filterMap (·.frame) ↔ (b = L ∨ b ∈ outer.filterMap (·.frame)) := by
  rw [List.filterMap_cons, hf]
  exact List.mem_cons
theorem dicts_push (B : Below A₀ base outer h₀) (F : Fr h₀ L s.heap m) (D : KtsDicts (outer.filterMap (·.frame)) h₀) (hf : env.frame = some L) : KtsDicts ((env :: outer).filterMap (·.frame)) s.heap := fun b hb => by
  rcases (mem_frames hf).mp hb with rfl | hb
  · obtain ⟨o, es, ep, ho, hd, _⟩ := F.ns
    exact ⟨o, es, ep, ho, hd⟩
  · obtain ⟨o, es, n, ho, hd⟩ := D b hb
    exact ⟨o, es, n, F.keep b o ho, hd⟩
/-- what a turn below the callee leaves of the caller's ground -/
theorem turn_back {s' : Shared} {g' : Heap} {L' : Addr} {m' : Str → Option Value} (B : Below A₀ base outer h₀) (F : Fr h₀ L s.heap m) (D : KtsDicts (outer.filterMap (·.frame)) h₀) (hf : env.frame = some L)
    (T' : KtsTurn ((env :: outer).filterMap (·.frame)) s.heap g') (F' : Fr g' L' s'.heap m') :
    ∃ h₀', KtsTurn (outer.filterMap (·.frame)) h₀ h₀' ∧ Fr h₀' L s'.heap m ∧ Below A₀ base outer h₀' ∧ KtsDicts (outer.filterMap (·.frame)) h₀' := by
  have nL₀ : h₀.get? L = none := kts_self F
  obtain ⟨oL, es, ep, hL, hLd, hLk, hLf⟩ := F.ns
  obtain ⟨sl, hs⟩ := T'.up hL
  obtain ⟨T₁, S₁⟩ := kts_turn_at (h := s'.heap) (fs := outer.filterMap (·.frame)) (g := h₀)
    (fun b hb => by
      obtain ⟨_, o, ho', _⟩ := B.frames.mem hb
      exact ⟨o, ho'⟩)
    (fun b o e nmem => F'.keep b o (T'.other b o (F.keep b o e) (fun q => by
      rcases (mem_frames hf).mp q with z | z
      · rw [z, nL₀] at e
        cases e
      · exact nmem z)))
    (fun b o e hm => by
      obtain ⟨sl', hs'⟩ := T'.up (F.keep b o e)
      exact ⟨sl', F'.keep _ _ hs'⟩)
  refine ⟨_, T₁, ⟨⟨_, es, ep, F'.keep _ _ hs, hLd, hLk, hLf⟩, S₁, by rw [T₁.size]; exact F.above⟩, ⟨B.stack, fun b o e => T₁.other b o (B.stays b o e) (fun hm => by
    rw [(B.frames.mem hm).1] at e
    cases e), B.frames.of_keeps fun b o e _ => by
    obtain ⟨sl', hs'⟩ := T₁.up e
    exact ⟨_, hs', rfl⟩⟩, D.turn T₁⟩
theorem turn_none {fs : List Addr} {g g' : Heap} (T : KtsTurn fs g g') {b : Addr} (e : g'.get? b = none) : g.get? b = none := by
  cases q : g.get? b with
  | none => rfl
  | some o =>
    obtain ⟨sl, hs⟩ := T.up q
    rw [e] at hs
    cases hs
theorem code_defC0 (B : Below A₀ base outer h₀) (F : Fr h₀ L s.heap m) (X₀ : K.In h₀) (T : Top p loose mean mg mb h₀) (XB : K.In base) (TB : Top p loose mean mg mb base) (D : KtsDicts (outer.filterMap (·.frame)) h₀)
    (hA : A.frames = some (env :: outer)) (hf : env.frame = some L) (hke : env.scope.kind = .function)
    (ho : K.lookup f = some ⟨oc, od, .func (fnOf name qual params body scope dV kV doc pm an cdv ct), osl⟩) (hcd : codeIn K cdv qual = true) (hroom : A.depth < recursionLimit)
    (hbind : BindsTo s (fnOf name qual params body scope dV kV doc pm an cdv ct) args binds) (hloc : ∀ y ∈ binds, scope.names.lookup y.1 = some .local)
    (h : ∀ L' h₁, Fr s.heap L' h₁ (fun y => binds.reverse.lookup y) → News s.heap L' h₁ [] → Below A base (env :: outer) s.heap → K.In s.heap → Top p loose mean mg mb s.heap → KtsDicts ((env :: outer).filterMap (·.frame)) s.heap →
      wpC (model prog w) (A.deeper (envOf qual scope L' f cdv)) (execs body (envOf qual scope L' f cdv))
        (fun fl s' => EndC ((env :: outer).filterMap (·.frame)) A₀ base outer K p loose mean mg mb h₀ L m s.heap R (match fl with | .ret v => v | _ => .none) s')
        (fun e s' => wpAny (model prog w) (A.deeper (envOf qual scope L' f cdv)) (leaving (envOf qual scope L' f cdv) e) (fun _ s'' => R (.error e) s'') (fun e' s'' => R (.error e') s'') s')
        { s with heap := h₁, toks := s.toks + binds.length })
    (hco : scope.isCoroutine = false) (hgen : scope.isGenerator = false) (hk : scope.kind = .function)
    (hcell : ∀ x ∈ scope.names, x.2 ≠ .cell) : codeC (model prog w) A (.call (.ref f) args) R s := by
  have XS := X₀.keeps F.keep
  refine codeC_call_def (fd := fnOf name qual params body scope dV kV doc pm an cdv ct) (body := body) (binds := binds) hroom (XS _ _ ho) rfl (T.nolimit.keeps F.keep) (codeRec_of XS hcd) rfl hbind hcell hloc (fun h₁ hns hk₁ => ?_) hco hgen hk
  have B₁ := pushX B F hf hke
  refine wpC_mono (h s.heap.objs.size h₁ ⟨hns, fun b o e => hk₁ b o e, Nat.le_refl _⟩ (fun p hp => nomatch hp) ⟨hA, B₁.stays, B₁.frames⟩ XS (T.keeps F.keep) (dicts_push B F D hf)) (fun fl s' hl => ?_) fun _ _ y => y
  obtain ⟨g', L', m', news', T', F', N', k⟩ := hl
  obtain ⟨h₀', T₁, F₁, B₁, D₁⟩ := turn_back B F D hf T' F'
  exact k _ T₁ F₁ (fun b o e nm => F'.keep b o (T'.other b o e nm)) (fun q hq => ⟨(N' q hq).1, turn_none T' (N' q hq).2.2⟩) B₁ (XB.keeps B₁.stays) (TB.keeps B₁.stays) D₁
end
section
variable {M : Model} {A : Around} {E : Value → Shared → Prop} {s : Shared} {env : Env} {pos : Pos} {first : List Value}
theorem wpC_callWith_type {T : String} {args : List (Bool × Sem Value)} {Q : Value → Shared → Prop} (hplain : args.any (·.1) = false)
    (h : wpC M A (evalArgs (.type T) true args []) (fun a s₁ => wpC M A (call (.type T) (first ++ a.pos) a.kw) Q E s₁) E s) :
    wpC M A (callWith pos (.type T) first args []) Q E s := by
  unfold callWith
  refine wpC_bind (wpC_holding (wpC_mono h (fun a s₁ h₁ => wpC_bind (wpC_any (wpAny_standAt ?_))) fun _ _ x => x))
  simp only [hplain, List.any_nil, Bool.or_false]
  refine wpC_bind (wpC_any (wpAny_pure ?_))
  exact wpC_bind (wpC_mono h₁ (fun r s₂ hr => wpC_any (wpAny_bind (wpAny_holding (wpAny_point (wpAny_pure hr))))) fun _ _ x => x)
theorem wpC_callWith_type1 {T : String} {e : PySem.Expr} {Q : Value → Shared → Prop}
    (h : wpC M A (eval e env) (fun v s₁ => wpC M A (call (.type T) (first ++ [v])) Q E s₁) E s)
    (he : starEach [e] env = [(false, eval e env)] := by rfl) :
    wpC M A (callWith pos (.type T) first (backTo pos (starEach [e] env)) []) Q E s := by
  rw [he]
  exact wpC_callWith_type rfl (wpC_evalArgs (wpC_spliced_cons (wpC_mono h (fun v s₁ h₁ => wpC_any (wpAny_pure h₁)) fun _ _ x => x)))
end
/-- a contract of a def that may turn the slots of the frames below, where the claim's caller stands -/
def SpecC (w : World) (f : Addr) (vs : List Value) (Post : Value → List (Addr × Obj) → Prop) : Prop :=
  ∀ (dp un : Nat) (gd : Option (List Code)) (cn : Str) (cs : Scope) (a : Addr) (ccd : Value) (cl : List (Str × Addr)) (outer : List Env) (A₀ : Around) (base h₀ : Heap) (L : Addr) (m mg mb : Str → Option Value) (mean : ExcName → Option Value) (s : Shared)
    (Q E : Value → Shared → Prop),
    Below A₀ base outer h₀ → Fr h₀ L s.heap m → (K2 w.params).In h₀ → Top hd.view_39 LSE mean mg mb h₀ → (K2 w.params).In base → Top hd.view_39 LSE mean mg mb base → KtsDicts (outer.filterMap (·.frame)) h₀ → cs.kind = .function → dp + 4 < recursionLimit → un + 64 < cLine →
    (∀ v tl h' h₀' tk', KtsTurn (outer.filterMap (·.frame)) h₀ h₀' → Fr h₀' L h' m → (∀ b o, s.heap.get? b = some o → b ∉ (envX cn cs L a ccd cl :: outer).filterMap (·.frame) → h'.get? b = some o) → (∀ p ∈ tl, h'.get? p.1 = some p.2 ∧ s.heap.get? p.1 = none) →
      Below A₀ base outer h₀' → (K2 w.params).In h₀' → Top hd.view_39 LSE mean mg mb h₀' → KtsDicts (outer.filterMap (·.frame)) h₀' → Post v tl → Q v { s with heap := h', toks := tk' }) →
    wpC (model PRG w) (ktrTop dp un gd cn cs L a ccd cl outer) (call (.ref f) vs) Q E s
theorem Spec.toC {w : World} {f : Addr} {vs : List Value} {Post : Value → List (Addr × Obj) → Prop} (h : Spec w f vs (fun _ => True) Post) : SpecC w f vs Post :=
  fun dp un gd cn cs a ccd cl outer A₀ base h₀ L m mg mb mean s Q E B F X T _ _ D hk hd hu hret =>
    wpC_any (h dp un gd cn cs a ccd cl outer A₀ base h₀ L m mg mb mean s Q E B F X T hk hd hu trivial fun v tl h' tk' hst hnw hp =>
      hret v tl h' h₀ tk' .refl ⟨F.ns.keeps hst, fun b o e => hst b o (F.keep b o e), F.above⟩ (fun b o e _ => hst b o e) hnw B X T D hp)
end
section
open LCg
theorem isList_keeps {h h' : Heap} {a : Addr} {its : Array Value} (x : h.IsList a its) (k : ∀ b o, h.get? b = some o → h'.get? b = some o) : h'.IsList a its := let ⟨o, e, c⟩ := x; ⟨o, k _ _ e, c⟩
theorem isList_turn {fs : List Addr} {g g' : Heap} {a : Addr} {its : Array Value} (x : g.IsList a its) (D : KtsDicts fs g) (T : KtsTurn fs g g') : g'.IsList a its := by
  obtain ⟨o, e, c, n, hd⟩ := x
  refine ⟨o, T.other _ _ e fun hm => ?_, c, n, hd⟩
  obtain ⟨o', es, n', e', hd'⟩ := D a hm
  rw [e] at e'
  cases e'
  rw [hd] at hd'
  cases hd'
section
variable {prog : Program} {w : World} {A : Around} {E : Value → Shared → Prop} {s : Shared} {env : Env}
/-- the end of a turn under which the ground may have turned -/
def JPostC (L I : Addr) (oI : Obj) (J : Heap → (Str → Option Value) → List (Addr × Obj) → Prop) (s₁ : Shared) (f : Flow) (s₂ : Shared) : Prop :=
  f = .next ∧ ∃ h' tk g' m' nx, s₂ = { s₁ with heap := h', toks := tk } ∧ Fr g' L h' m' ∧ News g' L h' ((I, oI) :: nx) ∧ (∀ p ∈ nx, p.1 ≠ I) ∧ J g' m' nx
/-- what a loop at the claim's caller wants of its iterable -/
def LoopC (prog : Program) (w : World) (A : Around) (env : Env) (target : PySem.Expr) (body : List Stmt) (Q : Flow → Shared → Prop) (E : Value → Shared → Prop) (J : Nat → Heap → (Str → Option Value) → List (Addr × Obj) → Prop) (ax : Addr) (its : Array Value) (xv : Value) (s₁ : Shared) : Prop :=
  xv = .ref ax ∧ ∃ g₀ m₀ nx₀, Fr g₀ env.locals s₁.heap m₀ ∧ News g₀ env.locals s₁.heap nx₀ ∧ J 0 g₀ m₀ nx₀ ∧
      (∀ i v g m₁ nx I h tk oI, i < its.size → its[i]? = some v → J i g m₁ nx → Fr g env.locals h m₁ → News g env.locals h ((I, oI) :: nx) → (∀ p ∈ nx, p.1 ≠ I) →
        wpC (model prog w) A (assign target env v) (fun _ s₂ => wpC (model prog w) A (execs body env) (JPostC env.locals I oI (J (i + 1)) { s₁ with heap := h, toks := tk }) (notedBy (model prog w) A env (cameBackBy (model prog w) A env E)) s₂) (notedBy (model prog w) A env (cameBackBy (model prog w) A env E)) { s₁ with heap := h, toks := tk }) ∧
      (∀ g m₁ nx h tk, J its.size g m₁ nx → Fr g env.locals h m₁ → News g env.locals h nx → Q .next { s₁ with heap := h, toks := tk })
theorem For_C {target iter : PySem.Expr} {body : List Stmt} {pos : Pos} {Q : Flow → Shared → Prop} {ax : Addr} {its : Array Value} (J : Nat → Heap → (Str → Option Value) → List (Addr × Obj) → Prop) (hJ : ∀ i g m nx, J i g m nx → g.IsList ax its)
    (hh : A.handled = none) (htn : ∃ x p, target = .Name x p)
    (h : wpAny (model prog w) A (eval iter env) (LoopC prog w A env target body Q E J ax its) E s)
    (hs : ∀ x, foldedSetIterable iter env x = pure x := by intro _; rfl) :
    wpC (model prog w) A (exec (.For target iter body [] pos) env) Q E s := by
  refine wpC_For (wpC_any (wpAny_mono h (fun xv s₁ h₁ => ?_) fun _ _ e => e)) hs
  obtain ⟨rfl, g₀, m₀, nx₀, F, N, h0, turn, done⟩ := h₁
  have ht : ∀ I v, letOwnedTupleGo target (.ref I) v = pure () := by obtain ⟨x, p, rfl⟩ := htn; intro _ _; rfl
  have hl : s₁.heap.IsList ax its := isList_keeps (hJ _ _ _ _ h0) F.keep
  have hlt : ax < s₁.heap.objs.size := hl.elim fun o e => Heap.lt_size e.1
  refine wpC_any (wpAny_pyIter_list hl ?_)
  generalize hI : s₁.heap.objs.size = I
  have W := Walks.list (prog := prog) (w := w) (A := A) hh I ax (by rw [← hI]; exact Nat.ne_of_lt hlt) its
  have hIL : env.locals ≠ I := by rw [← hI]; exact Nat.ne_of_lt F.ns.lt
  refine codeC_forLoop
    (fun k s' => ∃ h' tk g' m' nx i, s' = { s₁ with heap := h', toks := tk } ∧ (h'.IsListIter I ax i ∧ h'.IsList ax its) ∧ Fr g' env.locals h' m' ∧ News g' env.locals h' nx ∧ (∀ p ∈ nx, p.1 ≠ I) ∧ g'.get? I = none ∧ J i g' m' nx ∧ i ≤ its.size ∧ k = its.size + 1 - i) ?_ (its.size + 1)
    ⟨_, s₁.toks, g₀, m₀, nx₀, 0, rfl, ⟨⟨_, by rw [← hI]; exact Heap.get?_push_size _ rfl, rfl, rfl⟩, hl.push _⟩, F.keeps fun _ _ e => Heap.get?_push_of_some _ e, N.grown fun _ _ e => Heap.get?_push_of_some _ e, fun p hp => by rw [← hI]; exact Nat.ne_of_lt (Heap.lt_size (N p hp).1), by rw [← hI]; exact next_is_new F, h0, Nat.zero_le _, rfl⟩ (ht I)
  rintro k s' ⟨h', tk, g', m', nx, i, rfl, hst', F', N', hnw', hI₀, hJi, hi, rfl⟩
  have hk : ∀ {h₁ : Heap}, (∀ b o, b ∉ [I] → h'.get? b = some o → h₁.get? b = some o) → Fr g' env.locals h₁ m' ∧ News g' env.locals h₁ nx := fun hk₁ => ⟨fr_but F' hk₁ hIL hI₀, news_but N' hk₁ hnw'⟩
  by_cases hlt : i < its.size
  · refine wpC_any (W.item i _ _ _ hlt hst' fun v h₁ tk₁ hP hst₁ hk₁ => ?_)
    obtain ⟨F₁, N₁⟩ := hk hk₁
    obtain ⟨⟨oI, heI, hcI⟩, hl₁⟩ := hst₁
    have N₂ : News g' env.locals h₁ ((I, oI) :: nx) := fun p hp => by
      rcases List.mem_cons.mp hp with rfl | hp
      · exact ⟨heI, Ne.symm hIL, hI₀⟩
      · exact N₁ p hp
    refine wpC_mono (turn i v g' m' nx I h₁ tk₁ oI hlt hP hJi F₁ N₂ hnw') (fun _ s₂ h₂ => ?_) fun _ _ e => e
    refine wpC_mono h₂ (fun f s₃ h₃ => ?_) fun _ _ e => e
    obtain ⟨rfl, g₃, tk₃, gg₃, m₃, nx₃, rfl, F₃, N₃, off₃, hJ₃⟩ := h₃
    have hI₃ := N₃ (I, oI) List.mem_cons_self
    have N₃' : News gg₃ env.locals g₃ nx₃ := fun p hp => N₃ p (List.mem_cons_of_mem _ hp)
    exact ⟨its.size + 1 - (i + 1), by omega, g₃, tk₃, gg₃, m₃, nx₃, i + 1, rfl, ⟨⟨oI, hI₃.1, hcI⟩, isList_keeps (hJ _ _ _ _ hJ₃) F₃.keep⟩, F₃, N₃', off₃, hI₃.2.2, hJ₃, hlt, rfl⟩
  · obtain rfl : i = its.size := Nat.le_antisymm hi (Nat.not_lt.mp hlt)
    refine wpC_any (W.done _ _ _ hst' fun h₁ tk₁ hk₁ => wpAny_execs_nil ?_)
    obtain ⟨F₁, N₁⟩ := hk hk₁
    exact done g' m' nx h₁ tk₁ hJi F₁ N₁
end
section
variable {M : Model} {A : Around} {E : Value → Shared → Prop} {s : Shared} {env : Env} {pos : Pos} {first : List Value}
theorem wpC_callWith_builtin {id : String} {args : List (Bool × Sem Value)} {Q : Value → Shared → Prop} (hplain : args.any (·.1) = false)
    (h : wpC M A (evalArgs (.builtin id) true args []) (fun a s₁ => wpC M A (call (.builtin id) (first ++ a.pos) a.kw) Q E s₁) E s) :
    wpC M A (callWith pos (.builtin id) first args []) Q E s := by
  unfold callWith
  refine wpC_bind (wpC_holding (wpC_mono h (fun a s₁ h₁ => wpC_bind (wpC_any (wpAny_standAt ?_))) fun _ _ x => x))
  simp only [hplain, List.any_nil, Bool.or_false]
  refine wpC_bind (wpC_any (wpAny_pure ?_))
  exact wpC_bind (wpC_mono h₁ (fun r s₂ hr => wpC_any (wpAny_bind (wpAny_holding (wpAny_point (wpAny_pure hr))))) fun _ _ x => x)
theorem wpC_callWith_builtin1 {id : String} {e : PySem.Expr} {Q : Value → Shared → Prop}
    (h : wpC M A (eval e env) (fun v s₁ => wpC M A (call (.builtin id) (first ++ [v])) Q E s₁) E s)
    (he : starEach [e] env = [(false, eval e env)] := by rfl) :
    wpC M A (callWith pos (.builtin id) first (backTo pos (starEach [e] env)) []) Q E s := by
  rw [he]
  exact wpC_callWith_builtin rfl (wpC_evalArgs (wpC_spliced_cons (wpC_mono h (fun v s₁ h₁ => wpC_any (wpAny_pure h₁)) fun _ _ x => x)))
end
section
variable {g g' h h' : Heap} {L : Addr} {m : Str → Option Value} {env : Env} {outer : List Env} {news tl : List (Addr × Obj)}
theorem news_turn (hf : env.frame = some L) (D : KtsDicts (outer.filterMap (·.frame)) g) (N : News g L h news) (hst : ∀ b o, h.get? b = some o → b ∉ (env :: outer).filterMap (·.frame) → h'.get? b = some o)
    (T : KtsTurn (outer.filterMap (·.frame)) g g') : News g' L h' news := fun p hp => by
  obtain ⟨n1, n2, n3⟩ := N p hp
  refine ⟨hst _ _ n1 fun hm => ?_, n2, T.none_ _ n3⟩
  rcases (mem_frames hf).mp hm with z | z
  · exact n2 z
  · obtain ⟨o, _, _, e, _⟩ := D _ z
    rw [n3] at e
    cases e
theorem news_new (F : Fr g L h m) (T : KtsTurn (outer.filterMap (·.frame)) g g') (hn : ∀ p ∈ tl, h'.get? p.1 = some p.2 ∧ h.get? p.1 = none) : News g' L h' tl := fun p hp => by
  obtain ⟨n1, n2⟩ := hn p hp
  refine ⟨n1, fun e => ?_, T.none_ _ (kts_none F.keep n2)⟩
  obtain ⟨o, _, _, ho, _⟩ := F.ns
  rw [e, ho] at n2
  cases n2
theorem news_join (N1 : News g L h tl) (N2 : News g L h news) : News g L h (tl ++ news) := fun p hp => (List.mem_append.mp hp).elim (N1 p) (N2 p)
end
section
variable {prog : Program} {w : World} {A : Around} {E : Value → Shared → Prop} {s : Shared}
/-- an item of a list at a place that is reckoned -/
theorem sub_at {value slice : PySem.Expr} {l : Addr} {vs : List Value} {k : Int} {u : Tok} {v : Value} {Q : Value → Shared → Prop}
    (hl : s.heap.IsList l vs.toArray) (h0 : 0 ≤ k) (hhi : k < 2 ^ 63) (hx : vs[k.toNat]? = some v) (h : Q v s)
    (hs : subscripted slice false (.ref l) (.int k u) = operate [.ref l, .int k u] (getItem (.ref l) (.int k u)) := by with_unfolding_all rfl) :
    wpAny (model prog w) A (subscriptTail value slice (.ref l) (.int k u)) Q E s :=
  tail_any hl.typeIs slot_list_getitem.lookup (wpAny_getItem_list hl h0 hhi (by simpa using hx) h) hs
end
end
section
open LCg
abbrev celO : Obj := { cls := .type "cell", data := .cell none }
section
variable {M : Model} {A : Around} {E : Value → Shared → Prop} {s : Shared} {env : Env}
/-- a comprehension's own environment, its one name being a cell -/
theorem newEnv_X {scope : Scope} {cl : List (Str × Addr)} {x : Str} {Q : Env → Shared → Prop} (hpc : ∀ h, pushCells h scope.names = h.push celO) (hcf : ∀ n, cellsFrom n scope.names cl = (x, n) :: cl)
    (h : Q (newEnv scope s.heap.objs.size env.globals ((x, s.heap.objs.size + 1) :: cl) env.qual none .none (some env) builtinsNs) { s with heap := (s.heap.push { cls := .type "dict", data := .dict #[] }).push celO }) :
    wpAny M A (newFunctionEnv scope env.globals cl [] env.qual none .none (some env)) Q E s := by
  simp only [newFunctionEnv, Option.isSome_some, if_true]
  refine wpAny_bind (wpAny_alloc ?_)
  refine wpAny_bind (wpAny_layCells _ (fun name kind cells => by cases hkc : kind == NameKind.cell <;> simp [hkc]) _ _ _ _ ?_)
  rw [show ({ s with heap := s.heap.push { cls := .type "dict", data := .dict #[] } } : Shared).heap.objs.size = s.heap.objs.size + 1 from Heap.size_push ..]
  rw [hcf]
  dsimp only
  rw [hpc]
  simp only [List.forIn_nil]
  exact wpAny_bind (wpAny_pure (wpAny_pure h))
end
def EndX (h₀ : Heap) (L : Addr) (m : Str → Option Value) (s : Shared) (all : List (Addr × Obj)) (RP : Value → Prop) (y : Value) (s' : Shared) : Prop := RP y ∧ ∃ h' tk', s' = { s with heap := h', toks := tk' } ∧ Fr h₀ L h' m ∧ News h₀ L h' all
section
variable {prog : Program} {w : World} {A : Around} {E : Value → Shared → Prop} {s : Shared} {h₀ : Heap} {L : Addr} {m : Str → Option Value} {env : Env}
theorem Assign_ListComp_X {elt iter : PySem.Expr} {x y : Str} {px py : Pos} {scope : Scope} {cl : List (Str × Addr)} {pos spos : Pos} {Q : Flow → Shared → Prop} {ax : Addr} {its : Array Value} {k0 : Nat} {nx : List (Addr × Obj)} (RP : Nat → Value → Prop)
    (F₀ : Fr h₀ L s.heap m) (N₀ : News h₀ L s.heap nx) (hax : (ax, listOf its k0) ∈ nx) (hsz : its.size ≤ sizeLine) (hLe : env.locals = L) (hh : A.handled = none)
    (hsw : swapsWith (.ListComp elt [⟨.Name x px, iter, [], 0⟩] scope pos) (some (.Name y py)) spos.line env = pure true)
    (hclos : closureFor scope env = pure cl) (hkind : scope.kind = .function) (hpc : ∀ h, pushCells h scope.names = h.push celO) (hcf : ∀ n, cellsFrom n scope.names cl = (x, n) :: cl)
    (hnames : ∀ z ∈ scope.names, z.2 = .local → scope.names.lookup z.1 = some .local) (hx : ∀ C cl, (compEnvC scope cl C env).kindOf x = some .cell)
    (hy : env.kindOf y = some .local) (hp : (env.scope.kind == .class || (env.scope.kind == .module && env.locals != env.globals)) = false)
    (hev : wpAny (model prog w) A (eval iter env) (fun v s₁ => v = .ref ax ∧ s₁ = s) E s)
    (turn : ∀ i v I oI C oC c oc D ys h tk (E' : Value → Shared → Prop), its[i]? = some v → oc.data = .cell (some v) → Fr h₀ L h m → News h₀ L h ((I, oI) :: (C, oC) :: (c, oc) :: (D, lst ys) :: nx) → (∀ p ∈ nx, (@Ne Nat p.1 I) ∧ (@Ne Nat p.1 C) ∧ (@Ne Nat p.1 c) ∧ (@Ne Nat p.1 D)) → ((@Ne Nat I C) ∧ (@Ne Nat I c) ∧ (@Ne Nat I D) ∧ (@Ne Nat C c) ∧ (@Ne Nat C D) ∧ (@Ne Nat c D)) →
      wpAny (model prog w) A (eval elt (compEnvC scope ((x, c) :: cl) C env)) (EndX h₀ L m { s with heap := h, toks := tk } ((I, oI) :: (C, oC) :: (c, oc) :: (D, lst ys) :: nx) (RP i)) E' { s with heap := h, toks := tk })
    (fin : ∀ ys D h tk, ys.length = its.size → (∀ j y', ys[j]? = some y' → RP j y') → Fr h₀ L h (fun z => if z = y then some (.ref D) else m z) → News h₀ L h ((D, lst ys) :: nx) → (∀ p ∈ nx, (@Ne Nat p.1 D)) → Q .next { s with heap := h, toks := tk })
    (hs : ∀ x, foldedSetIterable iter env x = pure x := by intro _; rfl) :
    wpAny (model prog w) A (exec (.Assign [.Name y py] (.ListComp elt [⟨.Name x px, iter, [], 0⟩] scope pos) spos) env) Q E s := by
  subst hLe
  rw [exec_Assign_Name_used _ _ _ _ hsw]
  refine wpAny_bind (wpAny_standAt (wpAny_bind ?_))
  show wpAny _ A (do let _ ← comprehension (.ListComp elt [⟨.Name x px, iter, [], 0⟩] scope pos) scope env _ (newList []) false (eval iter env) (some (assign (.Name y py) env))) _ _ s
  refine wpAny_bind (wpAny_mono (wpAny_comprehension_free (use := some (assign (.Name y py) env)) (Q := fun _ s' => Q .next s') rfl hs hclos hkind hnames
    (wpAny_mono hev (fun xv s₁ h₁ => ?_) fun _ _ e => e)) (fun _ s' hq => wpAny_pure (wpAny_pure hq)) fun _ _ e => e)
  obtain ⟨rfl, rfl⟩ := h₁
  have hl : s₁.heap.IsList ax its := News.isList N₀ hax
  have hltx : ax < s₁.heap.objs.size := by obtain ⟨_, e, _⟩ := hl; exact Heap.lt_size e
  refine wpAny_pyIter_list hl ?_
  refine wpAny_newObj_type (newEnv_X hpc hcf ?_)
  dsimp only
  generalize hI : s₁.heap.objs.size = I at *
  have sI : (s₁.heap.push { cls := .type "list_iterator", data := .fields #[.ref ax, .int 0 0] }).objs.size = I + 1 := by rw [Heap.size_push, hI]
  have sD : ((s₁.heap.push { cls := .type "list_iterator", data := .fields #[.ref ax, .int 0 0] }).push { cls := .type "list", dict := none, data := .seq ([] : List Value).toArray }).objs.size = I + 1 + 1 := by rw [Heap.size_push, sI]
  rw [sD, sI]
  have old2 : ∀ b o, s₁.heap.get? b = some o → ((s₁.heap.push { cls := .type "list_iterator", data := .fields #[.ref ax, .int 0 0] }).push { cls := .type "list", dict := none, data := .seq ([] : List Value).toArray }).get? b = some o := fun b o e => Heap.get?_push_of_some _ (Heap.get?_push_of_some _ e)
  have gI2 : ((s₁.heap.push { cls := .type "list_iterator", data := .fields #[.ref ax, .int 0 0] }).push { cls := .type "list", dict := none, data := .seq ([] : List Value).toArray }).get? I = some { cls := .type "list_iterator", data := .fields #[.ref ax, .int 0 0] } := by
    refine Heap.get?_push_of_some _ ?_
    rw [← hI]
    exact Heap.get?_push_size _ rfl
  have gD2 : ((s₁.heap.push { cls := .type "list_iterator", data := .fields #[.ref ax, .int 0 0] }).push { cls := .type "list", dict := none, data := .seq ([] : List Value).toArray }).get? (I + 1) = some (lst []) := by
    rw [← sI]
    exact Heap.get?_push_size _ rfl
  generalize ((s₁.heap.push { cls := .type "list_iterator", data := .fields #[.ref ax, .int 0 0] }).push { cls := .type "list", dict := none, data := .seq ([] : List Value).toArray }) = H2 at *
  have nC := Heap.Ns.new H2 (.type "dict")
  have gc3 : ((H2.push { cls := .type "dict", data := .dict #[] }).push celO).get? (I + 1 + 1 + 1) = some celO := by
    have e : (H2.push { cls := .type "dict", data := .dict #[] }).objs.size = I + 1 + 1 + 1 := by rw [Heap.size_push, sD]
    rw [← e]
    exact Heap.get?_push_size _ rfl
  rw [sD] at nC
  have nC3 : ((H2.push { cls := .type "dict", data := .dict #[] }).push celO).Ns (I + 1 + 1) (fun _ => none) := nC.keeps fun b o e => Heap.get?_push_of_some _ e
  have old3 : ∀ b o, H2.get? b = some o → ((H2.push { cls := .type "dict", data := .dict #[] }).push celO).get? b = some o := fun b o e => Heap.get?_push_of_some _ (Heap.get?_push_of_some _ e)
  generalize ((H2.push { cls := .type "dict", data := .dict #[] }).push celO) = h₁ at *
  have old : ∀ b o, s₁.heap.get? b = some o → h₁.get? b = some o := fun b o e => old3 _ _ (old2 _ _ e)
  have lt : ∀ b o, s₁.heap.get? b = some o → @LT.lt Nat _ b I := fun b o e => by rw [← hI]; exact Heap.lt_size e
  have fresh : ∀ a : Nat, I ≤ a → h₀.get? a = none := fun a ha => by
    cases e : h₀.get? a with
    | none => rfl
    | some o' => exact absurd (lt _ _ (F₀.keep a o' e)) (Nat.not_lt.mpr ha)
  have hL : @LT.lt Nat _ env.locals I := by rw [← hI]; exact F₀.ns.lt
  have off : ∀ p ∈ nx, @LT.lt Nat _ p.1 I := fun p hp => lt _ _ (N₀ p hp).1
  have fI := fresh I (Nat.le_refl _)
  have fD := fresh (I + 1) (by omega)
  have fC := fresh (I + 1 + 1) (by omega)
  have fc := fresh (I + 1 + 1 + 1) (by omega)
  have hax' : @LT.lt Nat _ ax I := off _ hax
  have W := Walks.list (prog := prog) (w := w) (A := A) hh I ax (Nat.ne_of_lt hax') its
  have loop : ∀ s₃ : Shared, s₃ = { s₁ with heap := h₁ } →
      codeAny (model prog w) A (.compLoop (.ListComp elt [⟨.Name x px, iter, [], 0⟩] scope pos) 0 (.ref I) (.ref (I + 1)) (compEnvC scope ((x, I + 1 + 1 + 1) :: cl) (I + 1 + 1) env))
        (compPost (model prog w) A E (some (assign (.Name y py) env)) (fun _ s' => Q .next s') (.ref (I + 1)) (I + 1 + 1)) s₃ := by
    rintro s₃ rfl
    refine codeAny_compLoop_tests
      (fun k s' => ∃ h' tk i ys oI oC oc, s' = { s₁ with heap := h', toks := tk } ∧ i ≤ its.size ∧ k = its.size + 1 - i ∧ ys.length = i ∧ (∀ j y', ys[j]? = some y' → RP j y') ∧ (h'.IsListIter I ax i ∧ h'.IsList ax its) ∧ Fr h₀ env.locals h' m ∧ (∃ m', NsObj oC m') ∧ (∃ v, oc.data = .cell v) ∧
        News h₀ env.locals h' ((I, oI) :: (I + 1 + 1, oC) :: (I + 1 + 1 + 1, oc) :: (I + 1, lst ys) :: nx)) ?_ (its.size + 1) ?_
    · rintro k s' ⟨h', tk, i, ys, oI, oC, oc, rfl, hi, rfl, hyl, hRP, hst', F', ⟨mC, hoC⟩, ⟨vc, hoc⟩, N'⟩
      have zI := N' _ (.head _)
      have zC := N' _ (.tail _ (.head _))
      have zc := N' _ (.tail _ (.tail _ (.head _)))
      have zD := N' _ (.tail _ (.tail _ (.tail _ (.head _))))
      by_cases hlt : i < its.size
      · refine W.item i _ _ _ hlt hst' fun v h₂ tk₂ hPv hst₂ hk₂ => ?_
        have k2 : ∀ b o, (@Ne Nat b I) → h'.get? b = some o → h₂.get? b = some o := fun b o hb e => hk₂ b o (by simpa using hb) e
        obtain ⟨⟨oI2, eI2, cI2⟩, hl2⟩ := hst₂
        have F2 : Fr h₀ env.locals h₂ m := fr_but F' (fun b o hb e => hk₂ b o hb e) (Nat.ne_of_lt hL) fI
        refine wpAny_assign_Name (wpAny_storeName_cell (by exact hkind) (hx _ _) (show ((x, I + 1 + 1 + 1) :: cl).lookup x = some (I + 1 + 1 + 1) by simp [List.lookup_cons]) ⟨oc, k2 _ _ (by omega) zc.1, hoc⟩ fun h₃ hcell₃ hs₃ => ?_)
        refine wpAny_tests_nil ?_
        simp only [if_true]
        obtain ⟨oc3, ec3, dc3⟩ := hcell₃
        have k3 : ∀ b o, (@Ne Nat b I) → (@Ne Nat b (I + 1 + 1 + 1)) → h'.get? b = some o → h₃.get? b = some o := fun b o hb hc e => hs₃.extBut b o hc (k2 b o hb e)
        have F3 : Fr h₀ env.locals h₃ m := F2.change hs₃ (by show (@Ne Nat (I + 1 + 1 + 1) env.locals); omega) fc
        have N3 : News h₀ env.locals h₃ ((I, oI2) :: (I + 1 + 1, oC) :: (I + 1 + 1 + 1, oc3) :: (I + 1, lst ys) :: nx) := fun p hp => by
          rcases List.mem_cons.mp hp with rfl | hp
          · exact ⟨hs₃.extBut _ _ (by show (@Ne Nat I (I + 1 + 1 + 1)); omega) eI2, zI.2⟩
          rcases List.mem_cons.mp hp with rfl | hp
          · exact ⟨k3 _ _ (by show (@Ne Nat (I + 1 + 1) I); omega) (by show (@Ne Nat (I + 1 + 1) (I + 1 + 1 + 1)); omega) zC.1, zC.2⟩
          rcases List.mem_cons.mp hp with rfl | hp
          · exact ⟨ec3, zc.2⟩
          rcases List.mem_cons.mp hp with rfl | hp
          · exact ⟨k3 _ _ (by show (@Ne Nat (I + 1) I); omega) (by show (@Ne Nat (I + 1) (I + 1 + 1 + 1)); omega) zD.1, zD.2⟩
          · have := off p hp
            exact ⟨k3 _ _ (by omega) (by omega) (N' p (.tail _ (.tail _ (.tail _ (.tail _ hp))))).1, (N' p (.tail _ (.tail _ (.tail _ (.tail _ hp))))).2⟩
        refine wpAny_mono (turn i v I oI2 (I + 1 + 1) oC (I + 1 + 1 + 1) oc3 (I + 1) ys h₃ _ _ hPv dc3 F3 N3 (fun p hp => by have := off p hp; exact ⟨by omega, by omega, by omega, by omega⟩) ⟨by omega, by omega, by omega, by omega, by omega, by omega⟩) (fun y' s₄ h₄ => ?_) fun _ _ e => e
        obtain ⟨hR, h4, tk4, rfl, F4, N4⟩ := h₄
        have wI := N4 _ (.head _)
        have wC := N4 _ (.tail _ (.head _))
        have wc := N4 _ (.tail _ (.tail _ (.head _)))
        have wD := N4 _ (.tail _ (.tail _ (.tail _ (.head _))))
        refine append_at (hsz := by show ys.toArray.size ≤ sizeLine; rw [List.size_toArray, hyl]; exact Nat.le_trans hi hsz) wD.1 fun h₅ hs₅ hD₅ => ?_
        have k5 : ∀ b o, (@Ne Nat b (I + 1)) → h4.get? b = some o → h₅.get? b = some o := fun b o hb e => hs₅.extBut b o hb e
        have F5 : Fr h₀ env.locals h₅ m := F4.change hs₅ wD.2.1 wD.2.2
        refine ⟨its.size + 1 - (i + 1), by omega, h₅, tk4, i + 1, ys ++ [y'], oI2, oC, oc3, rfl, hlt, rfl, by rw [List.length_append, List.length_singleton, hyl], fun j z hz => ?_, ⟨⟨oI2, k5 _ _ (by omega) wI.1, cI2⟩, ?_⟩, F5, ⟨mC, hoC⟩, ⟨_, dc3⟩, fun p hp => ?_⟩
        · by_cases hj : j < ys.length
          · rw [List.getElem?_append_left hj] at hz
            exact hRP j z hz
          · have hj' : j = ys.length := by
              have := (List.getElem?_eq_some_iff.mp hz).1
              rw [List.length_append, List.length_singleton] at this
              omega
            subst hj'
            rw [List.getElem?_append_right (Nat.le_refl _)] at hz
            simp at hz
            rw [← hz, hyl]
            exact hR
        · have zz := N4 _ (.tail _ (.tail _ (.tail _ (.tail _ hax))))
          exact ⟨_, k5 _ _ (by omega) zz.1, rfl, _, rfl⟩
        · rcases List.mem_cons.mp hp with rfl | hp
          · exact ⟨k5 _ _ (by show (@Ne Nat I (I + 1)); omega) wI.1, wI.2⟩
          rcases List.mem_cons.mp hp with rfl | hp
          · exact ⟨k5 _ _ (by show (@Ne Nat (I + 1 + 1) (I + 1)); omega) wC.1, wC.2⟩
          rcases List.mem_cons.mp hp with rfl | hp
          · exact ⟨k5 _ _ (by show (@Ne Nat (I + 1 + 1 + 1) (I + 1)); omega) wc.1, wc.2⟩
          rcases List.mem_cons.mp hp with rfl | hp
          · exact ⟨hD₅.trans (congrArg some (lst_snoc ys y')), wD.2⟩
          · have := off p hp
            exact ⟨k5 _ _ (by omega) (N4 p (.tail _ (.tail _ (.tail _ (.tail _ hp))))).1, (N4 p (.tail _ (.tail _ (.tail _ (.tail _ hp))))).2⟩
      · obtain rfl : i = its.size := Nat.le_antisymm hi (Nat.not_lt.mp hlt)
        refine W.done _ _ _ hst' fun h₂ tk₂ hk₂ => ?_
        have k2 : ∀ b o, (@Ne Nat b I) → h'.get? b = some o → h₂.get? b = some o := fun b o hb e => hk₂ b o (by simpa using hb) e
        have F2 : Fr h₀ env.locals h₂ m := fr_but F' (fun b o hb e => hk₂ b o hb e) (Nat.ne_of_lt hL) fI
        show wpAny _ A (assign (.Name y py) env (.ref (I + 1))) _ _ _
        refine wpAny_assign_Name (wpAny_storeName_local hy F2.ns (fun h₃ hn₃ hs₃ => ?_) hp)
        have hL₀ : h₀.get? env.locals = none := Heap.get?_none_of_le F2.above
        have F3 : Fr h₀ env.locals h₃ (fun z => if z = y then some (.ref (I + 1)) else m z) := ⟨hn₃, fun b o e => hs₃.extBut b o (fun q => by rw [q, hL₀] at e; cases e) (F2.keep b o e), F2.above⟩
        have zC3 : h₃.get? (I + 1 + 1) = some oC := hs₃.extBut _ _ zC.2.1 (k2 _ _ (by omega) zC.1)
        refine ⟨mC, hoC.ns zC3, fun h'' hs'' => fin ys (I + 1) h'' _ hyl hRP (F3.change hs'' zC.2.1 fC) (fun p hp => ?_) fun p hp => by have := off p hp; omega⟩
        rcases List.mem_cons.mp hp with rfl | hp
        · exact ⟨hs''.extBut _ _ (by show (@Ne Nat (I + 1) (I + 1 + 1)); omega) (hs₃.extBut _ _ zD.2.1 (k2 _ _ (by show (@Ne Nat (I + 1) I); omega) zD.1)), zD.2⟩
        · have := off p hp
          have q := N' p (.tail _ (.tail _ (.tail _ (.tail _ hp))))
          exact ⟨hs''.extBut _ _ (by show (@Ne Nat p.1 (I + 1 + 1)); omega) (hs₃.extBut _ _ q.2.1 (k2 _ _ (by omega) q.1)), q.2⟩
    · obtain ⟨oC, eC, hoC⟩ := ns_obj nC3
      refine ⟨h₁, s₁.toks, 0, [], { cls := .type "list_iterator", data := .fields #[.ref ax, .int 0 0] }, oC, celO, rfl, Nat.zero_le _, rfl, rfl, (fun j y' hz => by simp at hz), ⟨⟨_, old3 _ _ gI2, rfl, rfl⟩, isList_keeps hl old⟩, F₀.keeps old, ⟨_, hoC⟩, ⟨none, rfl⟩, fun p hp => ?_⟩
      rcases List.mem_cons.mp hp with rfl | hp
      · exact ⟨old3 _ _ gI2, by show (@Ne Nat I env.locals); omega, fI⟩
      rcases List.mem_cons.mp hp with rfl | hp
      · exact ⟨eC, by show (@Ne Nat (I + 1 + 1) env.locals); omega, fC⟩
      rcases List.mem_cons.mp hp with rfl | hp
      · exact ⟨gc3, by show (@Ne Nat (I + 1 + 1 + 1) env.locals); omega, fc⟩
      rcases List.mem_cons.mp hp with rfl | hp
      · exact ⟨old3 _ _ gD2, by show (@Ne Nat (I + 1) env.locals); omega, fD⟩
      · exact ⟨old _ _ (N₀ p hp).1, (N₀ p hp).2⟩
  exact codeAny_compStart_list (loop _ rfl) (W.self 0 _ _ _ ⟨⟨_, old3 _ _ gI2, rfl, rfl⟩, isList_keeps hl old⟩ (loop _ rfl))
end
end
section
/-- the end of the law's own call: what stood stays -/
def EndL (g : Heap) (R : Result → Shared → Prop) (s' : Shared) : Prop := ∃ v L' m', Fr g L' s'.heap m' ∧ v = Value.bool true ∧ (g.StaysIn s'.heap → R (.ok (.ret v)) s')
/-- where the walk stops: words of my own and what a rule of my own takes -/
inductive Stops : Prop → Prop
  | c1 : Stops (wpAny m a (exec (Stmt.For b c d e f) g) q r s)
  | c2 : Stops (wpAny m a (exec (Stmt.Assign b (PySem.Expr.ListComp c d e f) h) g) q r s)
  | c3 : Stops (wpAny m a (eval (PySem.Expr.ListComp c d e f) g) q r s)
  | c4 : Stops (wpAny m a (pyIter (Value.ref b)) q r s)
  | c5 : Stops (LCg.CompSrc b c d e f g h i j k l m n o)
  | c6 : Stops (LCt.CompSrcT b c d e f g h i j k l m n o p)
  | c7 : Stops (LCg.CompEnd b c d e f g h i j k l m n o)
  | c8 : Stops (InvPostN b c d e f g h i j)
  | c9 : Stops (InvEndN b c d e f g h)
  | d1 : Stops (LeaveF b c d e)
  | d2 : Stops (LoopJ b c d e f g h i j k l)
  | d3 : Stops (JPost b c d e f g h i j)
  | d4 : Stops (wpAny m a (call (Value.type b) [Value.ref c, Value.ref d]) q r s)
  | d5 : Stops (wpAny m a (eval (PySem.Expr.DictComp b c d e f) g) q r s)
  | d6 : Stops (TurnsAt b c d e f g h i j k l)
  | d7 : Stops (UnrPostW b c d e f g h i)
  | d8 : Stops (DcSrc b c d e f g h i j k l m n o p)
  | d9 : Stops (DcEnd b c d e f g h i j k l m n o p q r)
  | e1 : Stops (LoopC b c d e f g h i j k l m n)
  | e2 : Stops (JPostC b c d e f g h)
  | e3 : Stops (EndC b c d e f g h i j k l m n o p q r)
  | e4 : Stops (wpC b c d e f g)
  | e5 : Stops (EndL b c d)
theorem stop_of {P : Prop} (_ : Stops P) (h : P) : P := h
end
local macro_rules | `(tactic| walk_at "stop") => `(tactic| (with_reducible (refine stop_of (by constructor) ?_)))
local macro_rules | `(tactic| walk_at "e2") => `(tactic| ((iterate 8 (first | done | with_reducible assumption | apply And.right)); done))
local macro_rules | `(tactic| walk_at "e1") => `(tactic| first | with_reducible assumption | (apply And.left; walk_at "e2") | (apply And.right; walk_at "e2"))
local macro_rules | `(tactic| k_ne) => `(tactic| (refine neN ?_; (try dsimp only); first | walk_at "e1" | (apply Ne.symm; walk_at "e1") | (apply Nat.ne_of_lt; walk_at "e1") | (apply Nat.ne_of_gt; walk_at "e1")))
local macro_rules | `(tactic| walk_at "my1") => `(tactic| ((fail_if_success (walk_at "stop")); first | (k_unfold; (try dsimp only)) | walk1 | (dsimp only; walk1)))
local macro_rules | `(tactic| walk_at "my") => `(tactic| (repeat' (walk_at "my1")))
local macro_rules | `(tactic| walk_at "known") => `(tactic| ((repeat (refine List.forall_mem_cons.mpr ⟨by rfl, ?_⟩)); exact fun _ hp => nomatch hp))
local macro_rules | `(tactic| walk_at "ms1") => `(tactic| ((fail_if_success (with_reducible show wpAny _ _ (subscriptTail _ _ (Value.ref _) (Value.int _ _)) _ _ _)); (walk_at "my1")))
local macro_rules | `(tactic| walk_at "ms") => `(tactic| (repeat' (walk_at "ms1")))
local macro_rules | `(tactic| walk_at "mz") => `(tactic| (repeat' (walk_at "my1"; (try dsimp only))))
local macro_rules | `(tactic| walk_at "mt") => `(tactic| (repeat' (walk_at "ms1"; (try dsimp only))))
section

open LCg
def Nines (nx : List (Addr × Obj)) (a : Addr) : Prop := ∃ (vs : List Value) (n : Nat), (a, listOf vs.toArray n) ∈ nx ∧ vs.length = 5 ∧ ∀ k : Int, 0 ≤ k → k < 5 → ∃ t, vs[k.toNat]? = some (.int 9 t)
def JC8 (i : Nat) (ys : List Value) (nx : List (Addr × Obj)) : Prop := ∃ adrs : List Addr, ys = adrs.map Value.ref ∧ adrs.length = i ∧ adrs.Nodup ∧ ∀ a ∈ adrs, Nines nx a
theorem jc_step {h₀ h2 : Heap} {L D2 l2 I C D : Addr} {o2 oI oC : Obj} {m : Str → Option Value} {s₁ : Shared} {ys : List Value} {nx : List (Addr × Obj)} {i tk tk1 n0 : Nat}
    (F : Fr h₀ L h2 m) (N : News h₀ L h2 ((D2, listOf (List.replicate (Int.toNat 5) [Value.int 9 tk1]).flatten.toArray n0) :: (l2, o2) :: (I, oI) :: (C, oC) :: (D, lst ys) :: nx))
    (hl : @LT.lt Nat _ l2 D2 ∧ @LT.lt Nat _ I D2 ∧ @LT.lt Nat _ C D2 ∧ @LT.lt Nat _ D D2 ∧ AllLt D2 nx) (off : Off3 I C D nx) (hJ : JC8 i ys nx) :
    CompEnd h₀ L m s₁ I oI C oC D (lst ys) (fun _ => True) (fun y nx' => JC8 (i + 1) (ys ++ [y]) nx') (.ref D2) { s₁ with heap := h2, toks := tk } := by
  obtain ⟨adrs, rfl, hlen, hnd, h9⟩ := hJ
  have hlt := kst_ltOf hl.2.2.2.2
  obtain ⟨_, h1, h2, h3, _⟩ := hl
  refine CompEnd.intro F N ((D2, listOf (List.replicate (Int.toNat 5) [Value.int 9 tk1]).flatten.toArray n0) :: nx) ?sub ⟨⟨Nat.ne_of_gt h1, Nat.ne_of_gt h2, Nat.ne_of_gt h3⟩, off⟩ trivial ?_
  case sub =>
    intro p hp
    simp only [List.mem_cons] at hp ⊢
    rcases hp with h | h | h | h | h
    · exact .inr (.inr (.inl h))
    · exact .inr (.inr (.inr (.inl h)))
    · exact .inr (.inr (.inr (.inr (.inl h))))
    · exact .inl h
    · exact .inr (.inr (.inr (.inr (.inr h))))
  refine ⟨adrs ++ [D2], by rw [List.map_append]; rfl, by rw [List.length_append, hlen]; rfl, ?_, ?_⟩
  · refine List.nodup_append.mpr ⟨hnd, by simp, fun a ha b hb => ?_⟩
    obtain ⟨vs, n, hm, _⟩ := h9 a ha
    rw [List.mem_singleton.mp hb]
    exact Nat.ne_of_lt (hlt _ hm)
  · intro a ha
    rcases List.mem_append.mp ha with ha | ha
    · obtain ⟨vs, n, hm, r⟩ := h9 a ha
      exact ⟨vs, n, .tail _ hm, r⟩
    · rw [List.mem_singleton.mp ha]
      refine ⟨_, n0, .head _, rfl, fun k k0 k1 => ⟨tk1, ?_⟩⟩
      have : k = 0 ∨ k = 1 ∨ k = 2 ∨ k = 3 ∨ k = 4 := by omega
      rcases this with rfl | rfl | rfl | rfl | rfl <;> rfl
theorem jc_fin {D : Addr} {adrs : List Addr} {nx : List (Addr × Obj)} (hlen : adrs.length = 32) (hnd : adrs.Nodup) (h9 : ∀ a ∈ adrs, Nines nx a) (off : Off1 D nx) :
    ∃ adr : Int → Addr, Tab D adr (fun _ _ => 9) ((D, lst (adrs.map Value.ref)) :: nx) := by
  have offm : ∀ {l : List (Addr × Obj)}, Off1 D l → ∀ p ∈ l, p.1 ≠ D := by
    intro l
    induction l with
    | nil => intro _ p hp; cases hp
    | cons q r ih =>
      intro h p hp
      rcases List.mem_cons.mp hp with rfl | hp
      · exact h.1
      · exact ih h.2 p hp
  have hg : ∀ g : Int, 0 ≤ g → g < 32 → ∃ a, adrs[g.toNat]? = some a := fun g g0 g1 => ⟨adrs[g.toNat]'(by omega), List.getElem?_eq_getElem (by omega)⟩
  have hd : ∀ (g : Int) a, adrs[g.toNat]? = some a → adrs.getD g.toNat 0 = a := fun g a e => by rw [List.getD_eq_getElem?_getD, e]; rfl
  refine ⟨fun g => adrs.getD g.toNat 0, ⟨_, _, .head _, fun g g0 g1 => ?_⟩, fun g g0 g1 => ?_, fun g g0 g1 => ?_, fun g g' g0 g1 g0' g1' e => ?_⟩
  · obtain ⟨a, e⟩ := hg g g0 g1
    rw [List.getElem?_map, e, hd g a e]; rfl
  · obtain ⟨a, e⟩ := hg g g0 g1
    obtain ⟨vs, n, hm, r⟩ := h9 a (List.mem_of_getElem? e)
    refine ⟨vs, n, .tail _ ?_, r⟩
    show (adrs.getD g.toNat 0, _) ∈ nx
    rw [hd g a e]; exact hm
  · obtain ⟨a, e⟩ := hg g g0 g1
    obtain ⟨vs, n, hm, _⟩ := h9 a (List.mem_of_getElem? e)
    show adrs.getD g.toNat 0 ≠ D
    rw [hd g a e]; exact offm off _ hm
  · obtain ⟨a, ea⟩ := hg g g0 g1
    obtain ⟨b, eb⟩ := hg g' g0' g1'
    change adrs.getD g.toNat 0 = adrs.getD g'.toNat 0 at e
    rw [hd g a ea, hd g' b eb] at e
    subst e
    obtain ⟨h1, h2⟩ := List.getElem?_eq_some_iff.mp ea
    obtain ⟨h1', h2'⟩ := List.getElem?_eq_some_iff.mp eb
    have hp := List.pairwise_iff_getElem.mp hnd
    rcases Nat.lt_trichotomy g.toNat g'.toNat with q | q | q
    · exact absurd (h2.trans h2'.symm) (hp _ _ h1 h1' q)
    · omega
    · exact absurd (h2'.trans h2.symm) (hp _ _ h1' h1 q)
theorem sub_app1 {α : Type} {a b : List α} : ∀ p ∈ a, p ∈ a ++ b := fun _ h => List.mem_append_left _ h
theorem sub_app2 {α : Type} {a b c : List α} : ∀ p ∈ a, p ∈ (a ++ b) ++ c := fun _ h => List.mem_append_left _ (List.mem_append_left _ h)
theorem sub_app3 {α : Type} {a b c d : List α} : ∀ p ∈ a, p ∈ ((a ++ b) ++ c) ++ d := fun _ h => List.mem_append_left _ (sub_app2 _ h)
theorem pow_bnd {k : Int} (k0 : 0 ≤ k) (k1 : k < 5) : 1 ≤ (2:Int) ^ k.toNat ∧ (2:Int) ^ k.toNat ≤ 16 := by
  have : k = 0 ∨ k = 1 ∨ k = 2 ∨ k = 3 ∨ k = 4 := by omega
  rcases this with rfl | rfl | rfl | rfl | rfl <;> decide
theorem bnd32 {g m : Int} (h : (g.fdiv (2 ^ m.toNat)).fmod 2 = 0) (g0 : 0 ≤ g) (g1 : g < 32) (m0 : 0 ≤ m) (m1 : m < 5) : 0 ≤ g + 1 * 2 ^ m.toNat ∧ g + 1 * 2 ^ m.toNat < 32 := by
  have a : ∀ m : Fin 5, ∀ g : Fin 32, ((g.val : Int).fdiv (2 ^ ((m.val : Int)).toNat)).fmod 2 = 0 → 0 ≤ (g.val : Int) + 1 * 2 ^ ((m.val : Int)).toNat ∧ (g.val : Int) + 1 * 2 ^ ((m.val : Int)).toNat < 32 := by decide +kernel
  have em : ((⟨m.toNat, by omega⟩ : Fin 5).val : Int) = m := by simp; omega
  have eg : ((⟨g.toNat, by omega⟩ : Fin 32).val : Int) = g := by simp; omega
  have := a ⟨m.toNat, by omega⟩ ⟨g.toNat, by omega⟩
  rw [em, eg] at this
  exact this h
theorem row_off {O : Addr} {adr : Int → Addr} {c : Tb} {n1 nx own : List (Addr × Obj)} (T : Tab O adr c n1) (ha : n1.map (·.1) = nx.map (·.1)) (ho : OwnOff own (nx.map (·.1))) {g : Int} (g0 : 0 ≤ g) (g1 : g < 32) : ∀ p ∈ own, p.1 ≠ adr g := by
  obtain ⟨vs, n, hm, _⟩ := T.rows g g0 g1
  refine fun p hp => ho p hp _ ?_
  rw [← ha]
  exact List.mem_map.mpr ⟨_, hm, rfl⟩
theorem row_off' {O : Addr} {adr : Int → Addr} {c : Tb} {n1 own : List (Addr × Obj)} {as : List Addr} (T : Tab O adr c n1) (ha : n1.map (·.1) = as) (ho : OwnOff own as) {g : Int} (g0 : 0 ≤ g) (g1 : g < 32) : ∀ p ∈ own, p.1 ≠ adr g := by
  obtain ⟨vs, n, hm, _⟩ := T.rows g g0 g1
  refine fun p hp => ho p hp _ ?_
  rw [← ha]
  exact List.mem_map.mpr ⟨_, hm, rfl⟩
def RT (ps : List (Str × Value)) (O : Addr) (adr : Int → Addr) (as : List Addr) (ow : List (Addr × Obj)) (c : Tb) (m : Str → Option Value) (nx : List (Addr × Obj)) : Prop :=
  (∀ p ∈ ps, m p.1 = some p.2) ∧ ∃ n2, nx = n2 ++ ow ∧ Tab O adr c n2 ∧ n2.map (·.1) = as
section
variable {prog : Program} {w : World} {A : Around} {E : Value → Shared → Prop} {s : Shared} {env : Env} {h₀ : Heap} {x : Str} {body : List Stmt} {Q : Flow → Shared → Prop} {O : Addr} {adr : Int → Addr} {as : List Addr} {ps : List (Str × Value)}
theorem tab_loop {r : Addr} {t₀ u₀ v₀ : Tok} {b₀ : Int} {n : Nat} {m : Str → Option Value} {n2 ow : List (Addr × Obj)} {c : Tb} (g : Tb → Int → Tb) (hh : A.handled = none)
    (hr : IsRange s.heap r 0 b₀ 1 t₀ u₀ v₀) (hsmall : Builtin.Range.small 0 b₀ 1 = true) (hn : Builtin.Range.rangeSize 0 b₀ 1 = (n : Int)) (F : Fr h₀ env.locals s.heap m) (N : News h₀ env.locals s.heap (n2 ++ ow)) (hT : Tab O adr c n2) (ha : n2.map (·.1) = as) (ho : OwnOff ow as)
    (hm : ∀ p ∈ ps, m p.1 = some p.2)
    (turn : ∀ (k : Int) (t : Tok) (c : Tb) (m₁ : Str → Option Value) (n1 : List (Addr × Obj)) (h : Heap) (tk : Nat) (own : List (Addr × Obj)), 0 ≤ k → k < (n : Int) → (∀ p ∈ ps, m₁ p.1 = some p.2) → Fr h₀ env.locals h (fun y => if y = x then some (.int k t) else m₁ y) → News h₀ env.locals h (n1 ++ (ow ++ own)) → OwnOff (ow ++ own) as → Tab O adr c n1 → n1.map (·.1) = as →
      wpAny (model prog w) A (execs body env) (InvPostN h₀ env.locals (RT ps O adr as ow (g c k)) own (as ++ ow.map (·.1)) { s with heap := h, toks := tk } Q) E { s with heap := h, toks := tk })
    (done : ∀ (m₁ : Str → Option Value) (n1 : List (Addr × Obj)) (h : Heap) (tk : Nat), (∀ p ∈ ps, m₁ p.1 = some p.2) → Fr h₀ env.locals h m₁ → News h₀ env.locals h (n1 ++ ow) → Tab O adr ((rangeKs 0 n).foldl g c) n1 → n1.map (·.1) = as → Q .next { s with heap := h, toks := tk }) :
    wpAny (model prog w) A (pyIter (.ref r)) (fun it s₂ => LoopAtV prog w A h₀ env x body Q E it s₂) E s := by
  have e0 : (n2 ++ ow).map (·.1) = as ++ ow.map (·.1) := by rw [List.map_append, ha]
  refine iter_rangeS (RT ps O adr as ow) g c hh hr hsmall hn F N ⟨hm, n2, rfl, hT, ha⟩ ?_ ?_
  · rintro k t c₁ m₁ nx h tk own hk hoff ⟨hm₁, n1, rfl, hT₁, ha₁⟩ F₁ N₁
    obtain ⟨k0, k1⟩ := mem_rangeKs hk
    rw [e0] at hoff ⊢
    rw [List.append_assoc] at N₁
    refine turn k t c₁ m₁ n1 h tk own k0 (by omega) hm₁ F₁ N₁ (fun p hp b hb => ?_) hT₁ ha₁
    rcases List.mem_append.mp hp with hp | hp
    · exact ho p hp b hb
    · exact hoff p hp b (List.mem_append_left _ hb)
  · rintro m₁ nx h tk ⟨hm₁, n1, rfl, hT₁, ha₁⟩ F₁ N₁
    exact done m₁ n1 h tk hm₁ F₁ N₁ hT₁ ha₁
theorem tab_end {L : Addr} {m' : Str → Option Value} {n3 ow own : List (Addr × Obj)} {c : Tb} {s₁ : Shared} {h' : Heap} {tk : Nat} (F : Fr h₀ L h' m') (N : News h₀ L h' (n3 ++ (ow ++ own))) (hT : Tab O adr c n3) (ha : n3.map (·.1) = as) (hm : ∀ p ∈ ps, m' p.1 = some p.2) :
    InvPostN h₀ L (RT ps O adr as ow c) own (as ++ ow.map (·.1)) s₁ Q .next { s₁ with heap := h', toks := tk } := by
  rw [← List.append_assoc] at N
  refine InvEndN.intro F N ⟨hm, n3, rfl, hT, ha⟩ (by rw [List.map_append, ha]) (fun p hp => List.mem_append_left _ hp) fun p hp => List.mem_append_right _ hp
end
local macro_rules | `(tactic| walk_at "subscriptTail") => `(tactic| (
   (with_reducible show wpAny _ _ (subscriptTail _ _ (Value.ref _) (Value.int _ _)) _ _ _);
   (rename Tab _ _ _ _ => hTx); (rename News _ _ _ _ => hNx); first
   | (refine tab_sub hNx hTx sub_app1 ?g0 ?g1 ?_; (case g0 => omega); (case g1 => omega))
   | ((have q9 := bnd32 (by assumption) (by assumption) (by assumption) (by assumption) (by assumption)); refine tab_sub hNx hTx sub_app1 ?g0 ?g1 ?_; (case g0 => omega); (case g1 => omega))
   | (refine row_sub hNx hTx sub_app1 ?g0 ?g1 ?k0 ?k1 ?_; (case g0 => omega); (case g1 => omega); (case k0 => omega); (case k1 => omega); intro _)))
local macro_rules | `(tactic| walk_at "setItem ref int") => `(tactic| (
   (rename Fr _ _ _ _ => hFx); (rename News _ _ _ _ => hNx); (rename Tab _ _ _ _ => hTx); (rename OwnOff _ _ => hOx); (rename List.map _ _ = _ => hAx);
   (refine row_set hFx hNx hTx (row_off' hTx hAx hOx ?g0 ?g1) ?g0 ?g1 ?k0 ?k1 ?_; (case g0 => omega); (case g1 => omega); (case k0 => omega); (case k1 => omega));
   intro h' n' F' N' T' a'; (replace a' := a'.trans hAx); (clear hFx hNx hTx hAx)))
theorem all3 {m : Str → Option Value} {a b c : Str × Value} (h1 : m a.1 = some a.2) (h2 : m b.1 = some b.2) (h3 : m c.1 = some c.2) : ∀ p ∈ [a, b, c], m p.1 = some p.2 :=
  List.forall_mem_cons.mpr ⟨h1, List.forall_mem_cons.mpr ⟨h2, List.forall_mem_cons.mpr ⟨h3, fun _ hp => nomatch hp⟩⟩⟩
theorem stepM_no {T H : List Int} {g k m : Int} {c : Tb} (h : (g.fdiv (2 ^ m.toNat)).fmod 2 ≠ 0) : stepM T H g k c m = c := if_neg h
theorem stepM_yes {T H : List Int} {g k m d : Int} {c : Tb} (h : (g.fdiv (2 ^ m.toNat)).fmod 2 = 0) (hd : (if H.getD k.toNat 0 = T.getD m.toNat 0 then 0 else 1) = d) (hlt : c g k + d < c (g + 1 * 2 ^ m.toNat) m) :
    stepM T H g k c m = updT c (g + 1 * 2 ^ m.toNat) m (c g k + d) := by subst hd; unfold stepM; rw [if_pos h, if_pos hlt]
theorem stepM_ge {T H : List Int} {g k m d : Int} {c : Tb} (h : (g.fdiv (2 ^ m.toNat)).fmod 2 = 0) (hd : (if H.getD k.toNat 0 = T.getD m.toNat 0 then 0 else 1) = d) (hlt : ¬ c g k + d < c (g + 1 * 2 ^ m.toNat) m) :
    stepM T H g k c m = c := by subst hd; unfold stepM; rw [if_pos h, if_neg hlt]
theorem ints_by : ∀ {vs : List Value} {ns : List Int}, vs.length = ns.length → (∀ j, j < ns.length → ∃ t, vs[j]? = some (Value.int (ns.getD j 0) t)) → IntsAre vs ns
  | [], [], _, _ => .nil
  | [], _ :: _, h, _ => nomatch h
  | _ :: _, [], h, _ => nomatch h
  | v :: vs, n :: ns, h, hp => by
    obtain ⟨t, e⟩ := hp 0 (Nat.zero_lt_succ _)
    cases Option.some.inj e
    exact .cons _ t (ints_by (Nat.succ.inj h) fun j hj => hp (j + 1) (Nat.succ_lt_succ hj))
theorem ints5 {vs : List Value} {c : Int → Int} (hl : vs.length = 5) (hv : ∀ k : Int, 0 ≤ k → k < 5 → ∃ t, vs[k.toNat]? = some (.int (c k) t)) : IntsAre vs [c 0, c 1, c 2, c 3, c 4] := by
  refine ints_by hl fun j hj => ?_
  rcases j with _ | _ | _ | _ | _ | j
  · exact hv 0 (by decide) (by decide)
  · exact hv 1 (by decide) (by decide)
  · exact hv 2 (by decide) (by decide)
  · exact hv 3 (by decide) (by decide)
  · exact hv 4 (by decide) (by decide)
  · exact absurd hj (Nat.not_lt.mpr (Nat.le_add_left 5 j))
theorem min5 {a b c d e M : Int} (h1 : M ∈ [a, b, c, d, e]) (h2 : ∀ x, x ∈ [a, b, c, d, e] → M ≤ x) : M = min (min (min (min a b) c) d) e := by
  refine Int.le_antisymm (Int.le_min.mpr ⟨Int.le_min.mpr ⟨Int.le_min.mpr ⟨Int.le_min.mpr ⟨h2 a (.head _), h2 b (.tail _ (.head _))⟩, h2 c (.tail _ (.tail _ (.head _)))⟩, h2 d (.tail _ (.tail _ (.tail _ (.head _))))⟩, h2 e (.tail _ (.tail _ (.tail _ (.tail _ (.head _)))))⟩) ?_
  clear h2
  have l1 := Int.min_le_left (min (min (min a b) c) d) e
  have l2 := Int.le_trans l1 (Int.min_le_left (min (min a b) c) d)
  have l3 := Int.le_trans l2 (Int.min_le_left (min a b) c)
  simp only [List.mem_cons, List.not_mem_nil, or_false] at h1
  rcases h1 with rfl | rfl | rfl | rfl | rfl
  · exact Int.le_trans l3 (Int.min_le_left _ _)
  · exact Int.le_trans l3 (Int.min_le_right _ _)
  · exact Int.le_trans l2 (Int.min_le_right _ _)
  · exact Int.le_trans l1 (Int.min_le_right _ _)
  · exact Int.min_le_right _ _
set_option maxHeartbeats 4000000 in
theorem fewest_spec : ∀ (w : World) (t h : Addr) (tv hv : List Value) (T H : List Int), Spec w 196 [.ref t, .ref h]
   (fun hp => hp.IsList t tv.toArray ∧ hp.IsList h hv.toArray ∧ IntsAre tv T ∧ IntsAre hv H ∧ T.length = 5 ∧ H.length = 5)
   (fun v _ => ∃ tk, v = .int (fewF T H) tk) := by
  refine eps7 (by (repeat' (refine neP ?_ ?_)) <;> (first | exact neW | exact neS | exact neA | exact inferInstance)) ?_
  (try dsimp only)
  generalize eps _ _ = zz
  generalize Prod.fst zz = w
  generalize Prod.fst (Prod.snd zz) = t
  generalize Prod.fst (Prod.snd (Prod.snd zz)) = h
  generalize Prod.fst (Prod.snd (Prod.snd (Prod.snd zz))) = tv
  generalize Prod.fst (Prod.snd (Prod.snd (Prod.snd (Prod.snd zz)))) = hv
  generalize Prod.fst (Prod.snd (Prod.snd (Prod.snd (Prod.snd (Prod.snd zz))))) = T
  generalize Prod.snd (Prod.snd (Prod.snd (Prod.snd (Prod.snd (Prod.snd zz))))) = H
  clear zz
  unfold Spec PRG LSE
  k_fill
  refine eps20 (by (repeat' (refine neP ?_ ?_)) <;> (first | exact neW | exact neS | exact neA | exact inferInstance)) ?_
  (try dsimp only)
  generalize eps _ _ = zz
  generalize Prod.fst zz = dp
  generalize Prod.fst (Prod.snd zz) = un
  generalize Prod.fst (Prod.snd (Prod.snd zz)) = gd
  generalize Prod.fst (Prod.snd (Prod.snd (Prod.snd zz))) = cn
  generalize Prod.fst (Prod.snd (Prod.snd (Prod.snd (Prod.snd zz)))) = cs
  generalize Prod.fst (Prod.snd (Prod.snd (Prod.snd (Prod.snd (Prod.snd zz))))) = a
  generalize Prod.fst (Prod.snd (Prod.snd (Prod.snd (Prod.snd (Prod.snd (Prod.snd zz)))))) = ccd
  generalize Prod.fst (Prod.snd (Prod.snd (Prod.snd (Prod.snd (Prod.snd (Prod.snd (Prod.snd zz))))))) = cl
  generalize Prod.fst (Prod.snd (Prod.snd (Prod.snd (Prod.snd (Prod.snd (Prod.snd (Prod.snd (Prod.snd zz)))))))) = outer
  generalize Prod.fst (Prod.snd (Prod.snd (Prod.snd (Prod.snd (Prod.snd (Prod.snd (Prod.snd (Prod.snd (Prod.snd zz))))))))) = A₀
  generalize Prod.fst (Prod.snd (Prod.snd (Prod.snd (Prod.snd (Prod.snd (Prod.snd (Prod.snd (Prod.snd (Prod.snd (Prod.snd zz)))))))))) = base
  generalize Prod.fst (Prod.snd (Prod.snd (Prod.snd (Prod.snd (Prod.snd (Prod.snd (Prod.snd (Prod.snd (Prod.snd (Prod.snd (Prod.snd zz))))))))))) = h₀
  generalize Prod.fst (Prod.snd (Prod.snd (Prod.snd (Prod.snd (Prod.snd (Prod.snd (Prod.snd (Prod.snd (Prod.snd (Prod.snd (Prod.snd (Prod.snd zz)))))))))))) = L
  generalize Prod.fst (Prod.snd (Prod.snd (Prod.snd (Prod.snd (Prod.snd (Prod.snd (Prod.snd (Prod.snd (Prod.snd (Prod.snd (Prod.snd (Prod.snd (Prod.snd zz))))))))))))) = m
  generalize Prod.fst (Prod.snd (Prod.snd (Prod.snd (Prod.snd (Prod.snd (Prod.snd (Prod.snd (Prod.snd (Prod.snd (Prod.snd (Prod.snd (Prod.snd (Prod.snd (Prod.snd zz)))))))))))))) = mg
  generalize Prod.fst (Prod.snd (Prod.snd (Prod.snd (Prod.snd (Prod.snd (Prod.snd (Prod.snd (Prod.snd (Prod.snd (Prod.snd (Prod.snd (Prod.snd (Prod.snd (Prod.snd (Prod.snd zz))))))))))))))) = mb
  generalize Prod.fst (Prod.snd (Prod.snd (Prod.snd (Prod.snd (Prod.snd (Prod.snd (Prod.snd (Prod.snd (Prod.snd (Prod.snd (Prod.snd (Prod.snd (Prod.snd (Prod.snd (Prod.snd (Prod.snd zz)))))))))))))))) = mean
  generalize Prod.fst (Prod.snd (Prod.snd (Prod.snd (Prod.snd (Prod.snd (Prod.snd (Prod.snd (Prod.snd (Prod.snd (Prod.snd (Prod.snd (Prod.snd (Prod.snd (Prod.snd (Prod.snd (Prod.snd (Prod.snd zz))))))))))))))))) = s
  generalize Prod.fst (Prod.snd (Prod.snd (Prod.snd (Prod.snd (Prod.snd (Prod.snd (Prod.snd (Prod.snd (Prod.snd (Prod.snd (Prod.snd (Prod.snd (Prod.snd (Prod.snd (Prod.snd (Prod.snd (Prod.snd (Prod.snd zz)))))))))))))))))) = Q
  generalize Prod.snd (Prod.snd (Prod.snd (Prod.snd (Prod.snd (Prod.snd (Prod.snd (Prod.snd (Prod.snd (Prod.snd (Prod.snd (Prod.snd (Prod.snd (Prod.snd (Prod.snd (Prod.snd (Prod.snd (Prod.snd (Prod.snd zz)))))))))))))))))) = E
  clear zz
  intro B F X TT hk hd hu hpre hret
  obtain ⟨ht, hh, hti, hhi, htl, hhl⟩ := hpre
  refine wpAny_call ?_
  k_dflt (refine' code_def0 (binds := [(Str.ofString "tails", .ref t), (Str.ofString "heads", .ref h)]) ?k1 ?k2 ?k3 ?k5 ?kA ?kF ?kK ?k6 ?k7 ?k8 ?k9 ?kB ?_ ?c2 ?c3 ?c4 ?c5; (case kA => exact rfl); (case kF => exact rfl); (case kK => assumption); (case k1 => k_asm); (case k2 => k_asm); (case k3 => k_asm); (case k5 => k_asm); (case k6 => k_is); (case k7 => k_is); (case k8 => ktr_room); (case k9 => exact BindsTo.of_eq rfl); (case c5 => decide); (case kB => exact locs rfl); (case c2 => exact rfl); (case c3 => exact rfl); (case c4 => exact rfl); k_whole; (refine eps2 (by (repeat' (refine neP ?_ ?_)) <;> (first | exact neW | exact neS | exact neA | exact inferInstance)) ?_); (try dsimp only); (generalize eps _ _ = zz); (generalize Prod.fst zz = L'); (generalize Prod.snd zz = h'); (clear zz); intro F' N' B' X' T'; (try dsimp only); (try k_fold))
  walk_at "my"
  refine LCg.Assign_ListComp_U (F₀ := F') (by rfl) (by with_unfolding_all rfl) (by rfl) (by decide) (by rfl) (by decide) (by rfl) (by rfl) (by rfl) ?_
  walk_at "my"
  refine LCg.CompSrc.range (by rfl) (by k_asm) (by k_asm) (by assumption) (by decide) (by rfl) (by exact Nat.le_of_ble_eq_true rfl) ?_
  intro g'
  refine compRest_inv JC8 ⟨[], rfl, rfl, List.nodup_nil, fun _ h => nomatch h⟩ ?fin ?step
  case step =>
    intro i ys nx v I oI C oC D m₂ h1 tk1 E1 hi hJ hP hC hx F1 N1 off1 ne1
    (try k_fold)
    walk_at "my"
    exact jc_step (by assumption) (by assumption) (by assumption) off1 hJ
  intro ys nx hJ D1 h1 tk1 F1 N1 off1
  obtain ⟨adrs, rfl, hlen, hnd, h9⟩ := hJ
  obtain ⟨adr, hT⟩ := jc_fin hlen hnd h9 off1
  generalize ((D1, LCg.lst (adrs.map Value.ref)) :: nx) = nx at hT N1
  clear off1 h9 hnd hlen
  try dsimp only
  try k_fold
  walk_at "my"
  k_dflt (refine' For_invVF F1 (by exact rfl) (by exact rfl) ?_; k_whole)
  walk_at "my"
  rename Fr _ _ _ _ => F1
  rename News _ _ _ _ => N1
  rename IsRange _ _ _ _ _ _ _ _ => R1
  have N2 : News s.heap L' _ (nx ++ []) := (List.append_nil nx).symm ▸ N1
  clear N1
  refine tab_loop (as := nx.map (·.1)) (ps := [(Str.ofString "fewest", Value.ref D1), (Str.ofString "tails", Value.ref t), (Str.ofString "heads", Value.ref h)]) stepI (by rfl) R1 (by decide) (by rfl) F1 N2 hT rfl (fun _ h => nomatch h) (by walk_at "known") ?turn ?done
  case turn =>
    intro k tk c m₁ n1 h1 tk1 own k0 k1 hm F4 N4 hoff hT1 hadr
    have F3 : Fr s.heap L' h1 (fun z => if z = Str.ofString "k" then some (.int k tk) else if z = Str.ofString "fewest" then some (.ref D1) else if z = Str.ofString "tails" then some (.ref t) else if z = Str.ofString "heads" then some (.ref h) else if z = Str.ofString "k" then some (.int k tk) else m₁ z) := fr_turn F4 hm (by rfl)
    have N3 : News s.heap L' h1 (n1 ++ ([] ++ own)) := N4
    clear F4 N4 F1 N2 hT
    have hpw := pow_bnd k0 k1
    (try dsimp only)
    (try k_fold)
    walk_at "my"
    rename Fr _ _ _ _ => Fe
    rename News _ _ _ _ => Ne
    rename Tab _ _ _ _ => Te
    rename List.map _ _ = _ => ae
    refine tab_end Fe Ne Te ae ?_
    walk_at "known"
  intro m₁ n1 h1 tk1 hm F4 N4 hT1 ha1
  clear F1 N2 hT R1
  have F3 : Fr s.heap L' h1 (fun z => if z = Str.ofString "fewest" then some (.ref D1) else if z = Str.ofString "tails" then some (.ref t) else if z = Str.ofString "heads" then some (.ref h) else m₁ z) := fr_known _ F4 hm
  have N3 : News s.heap L' h1 (n1 ++ []) := N4
  clear F4 N4 hm
  (try dsimp only)
  (try k_fold)
  walk_at "my"
  rename Fr _ _ _ _ => F1
  k_dflt (refine' For_invVF F1 (by exact rfl) (by exact rfl) ?_; k_whole)
  walk_at "my"
  rename Fr _ _ _ _ => F1
  rename News _ _ _ _ => N1
  rename IsRange _ _ _ _ _ _ _ _ => R1
  refine tab_loop (as := nx.map (·.1)) (ps := [(Str.ofString "fewest", Value.ref D1), (Str.ofString "tails", Value.ref t), (Str.ofString "heads", Value.ref h)]) (stepG T H) (by rfl) R1 (by decide) (by rfl) F1 N1 hT1 ha1 (fun _ h => nomatch h) (by walk_at "known") ?turnG ?doneG
  case turnG =>
    clear hT1 ha1 F1 N1
    intro g tg c1 m₂ n2 h2 tk2 ow g0 g1 hm2 F4 N4 hoff2 hT2 ha2
    have F3 : Fr s.heap L' h2 (fun z => if z = Str.ofString "gone" then some (.int g tg) else if z = Str.ofString "fewest" then some (.ref D1) else if z = Str.ofString "tails" then some (.ref t) else if z = Str.ofString "heads" then some (.ref h) else if z = Str.ofString "gone" then some (.int g tg) else m₂ z) := fr_turn F4 hm2 (by rfl)
    have N3 : News s.heap L' h2 (n2 ++ ([] ++ ow)) := N4
    replace g1 : g < 32 := g1
    clear F4 N4
    (try dsimp only)
    (try k_fold)
    walk_at "my"
    rename Fr _ _ _ _ => F1
    k_dflt (refine' For_invVF F1 (by exact rfl) (by exact rfl) ?_; k_whole)
    walk_at "my"
    rename Fr _ _ _ _ => F1
    rename News _ _ _ _ => N1
    rename IsRange _ _ _ _ _ _ _ _ => R1
    refine tab_loop (as := nx.map (·.1)) (ps := [(Str.ofString "gone", .int g tg), (Str.ofString "fewest", Value.ref D1), (Str.ofString "tails", Value.ref t), (Str.ofString "heads", Value.ref h)]) (stepK T H g) (by rfl) R1 (by decide) (by rfl) F1 N1 hT2 ha2 hoff2 (by walk_at "known") ?turnK ?doneK
    case turnK =>
      clear hT2 ha2 F1 N1
      intro k tkk c2 m₃ n3 h3 tk3 ow3 k0 k1 hm3 F4 N4 hoff3 hT3 ha3
      have F3 : Fr s.heap L' h3 (fun z => if z = Str.ofString "k" then some (.int k tkk) else if z = Str.ofString "gone" then some (.int g tg) else if z = Str.ofString "fewest" then some (.ref D1) else if z = Str.ofString "tails" then some (.ref t) else if z = Str.ofString "heads" then some (.ref h) else if z = Str.ofString "k" then some (.int k tkk) else m₃ z) := fr_turn F4 hm3 (by rfl)
      have N3 : News s.heap L' h3 (n3 ++ (([] ++ ow) ++ ow3)) := N4
      replace k1 : k < 5 := k1
      clear F4 N4
      (try dsimp only)
      (try k_fold)
      walk_at "my"
      · rename c2 g k < 9 => hlt9
        rename Fr _ _ _ _ => F1
        k_dflt (refine' For_invVF F1 (by exact rfl) (by exact rfl) ?_; k_whole)
        walk_at "my"
        rename Fr _ _ _ _ => F1
        rename News _ _ _ _ => N1
        rename IsRange _ _ _ _ _ _ _ _ => R1
        rename Tab _ _ _ _ => hT4
        refine tab_loop (as := nx.map (·.1)) (ps := [(Str.ofString "k", .int k tkk), (Str.ofString "gone", .int g tg), (Str.ofString "fewest", Value.ref D1), (Str.ofString "tails", Value.ref t), (Str.ofString "heads", Value.ref h)]) (stepM T H g k) (by rfl) R1 (by decide) (by rfl) F1 N1 hT4 ha3 hoff3 (by walk_at "known") ?turnM ?doneM
        case turnM =>
          clear hT4 ha3 F1 N1
          intro mm tm c3 m₄ n4 h4 tk4 ow4 mm0 mm1 hm4 F4 N4 hoff4 hT5 ha4
          have F3 : Fr s.heap L' h4 (fun z => if z = Str.ofString "m" then some (.int mm tm) else if z = Str.ofString "k" then some (.int k tkk) else if z = Str.ofString "gone" then some (.int g tg) else if z = Str.ofString "fewest" then some (.ref D1) else if z = Str.ofString "tails" then some (.ref t) else if z = Str.ofString "heads" then some (.ref h) else if z = Str.ofString "m" then some (.int mm tm) else m₄ z) := fr_turn F4 hm4 (by rfl)
          have N3 : News s.heap L' h4 (n4 ++ ((([] ++ ow) ++ ow3) ++ ow4)) := N4
          replace mm1 : mm < 5 := mm1
          clear F4 N4
          (try dsimp only)
          (try k_fold)
          walk_at "my"
          all_goals (rename Fr _ _ _ _ => Fe)
          all_goals (rename News _ _ _ _ => Ne)
          all_goals (rename Tab _ _ _ _ => Te)
          all_goals (rename List.map _ _ = _ => ae)
          all_goals (refine tab_end Fe Ne ?_ ae (by walk_at "known"))
          all_goals first
            | (rw [stepM_no (by assumption)]; exact Te)
            | (rw [stepM_yes (by assumption) (if_pos (by assumption)) (by assumption)]; exact Te)
            | (rw [stepM_yes (by assumption) (if_neg (by assumption)) (by assumption)]; exact Te)
            | (rw [stepM_ge (by assumption) (if_pos (by assumption)) (by assumption)]; exact Te)
            | (rw [stepM_ge (by assumption) (if_neg (by assumption)) (by assumption)]; exact Te)
        intro m₄ n4 h4 tk4 hm4 F4 N4 hT5 ha4
        clear F1 N1 hT4
        (try dsimp only)
        (try k_fold)
        walk_at "my"
        refine tab_end F4 N4 ?_ ha4 fun p hp => hm4 p (.tail _ hp)
        unfold stepK
        rw [if_pos hlt9]
        exact hT5
      · rename ¬ c2 g k < 9 => hlt9
        rename Fr _ _ _ _ => Fe
        rename News _ _ _ _ => Ne
        refine tab_end Fe Ne ?_ ha3 (by walk_at "known")
        unfold stepK
        rw [if_neg hlt9]
        assumption
    intro m₃ n3 h3 tk3 hm3 F4 N4 hT4 ha3
    clear F1 N1
    (try dsimp only)
    (try k_fold)
    walk_at "my"
    exact tab_end F4 N4 hT4 ha3 fun p hp => hm3 p (.tail _ hp)
  intro m₂ n2 h2 tk2 hm2 F4 N4 hT3 ha2
  have F3 : Fr s.heap L' h2 (fun z => if z = Str.ofString "fewest" then some (.ref D1) else if z = Str.ofString "tails" then some (.ref t) else if z = Str.ofString "heads" then some (.ref h) else m₂ z) := fr_known _ F4 hm2
  have N3 : News s.heap L' h2 (n2 ++ []) := N4
  clear F4 N4 hm2
  (try dsimp only)
  (try k_fold)
  walk_at "my"
  rename Fr _ _ _ _ => Fe
  rename News _ _ _ _ => Ne
  rename Tab _ _ _ _ => Te
  obtain ⟨vs5, nn, hm5, hl5, hv5⟩ := Te.rows 31 (by decide) (by decide)
  refine min_list_N (by rfl) Fe Ne (PySem.IsL.isList (n := nn) (Ne _ (sub_app1 _ hm5)).1) (ints5 hl5 hv5) (Nat.zero_lt_succ _) ?_
  intro h5 M tM tk5 F5 N5 hM1 hM2
  refine leaveF_ F5 N5 fun hst hnw => ?_
  exact hret _ _ _ _ hst hnw ⟨tM, by rw [min5 hM1 hM2]; rfl⟩
end
section

open LCg
theorem cells_five {cm : Str → Option Value} {n₁ n₂ n₃ n₄ n₅ : Str} {c₁ c₂ c₃ c₄ c₅ : Addr} {cells : List (Addr × Obj)} (x : CellsAre cm [(n₁, c₁), (n₂, c₂), (n₃, c₃), (n₄, c₄), (n₅, c₅)] cells) :
    ∃ o₁ o₂ o₃ o₄ o₅, cells = [(c₁, o₁), (c₂, o₂), (c₃, o₃), (c₄, o₄), (c₅, o₅)] ∧ o₁.data = .cell (cm n₁) ∧ o₂.data = .cell (cm n₂) ∧ o₃.data = .cell (cm n₃) ∧ o₄.data = .cell (cm n₄) ∧ o₅.data = .cell (cm n₅) := by
  cases x with | cons h r => obtain ⟨o₂, o₃, o₄, o₅, rfl, h₂, h₃, h₄, h₅⟩ := r.four; exact ⟨_, o₂, o₃, o₄, o₅, rfl, h, h₂, h₃, h₄, h₅⟩
def relab (T H : List Int) (lab : List Int) (i : Nat) : List Int := lab.map fun one => if one = lab.getD (H.getD (i : Int).toNat 0).toNat 0 then lab.getD (T.getD (i : Int).toNat 0).toNat 0 else one
noncomputable def labF (T H : List Int) : Nat → List Int
  | 0 => [0, 1, 2, 3, 4]
  | i + 1 => relab T H (labF T H i) i
theorem labF_len (T H : List Int) : ∀ i, (labF T H i).length = 5
  | 0 => rfl
  | i + 1 => by show (relab T H (labF T H i) i).length = 5; unfold relab; rw [List.length_map]; exact labF_len T H i
def pickG (G lab : List Int) (g : Int) (l : List Int) (k : Int) : List Int := if lab.getD k.toNat 0 = g ∧ G.getD k.toNat 0 > 0 then l ++ [G.getD k.toNat 0] else l
def addG (T G lab : List Int) (acc : Int) (g : Int) : Int := if ((T.map (fun p => lab.getD p.toNat 0)).any fun x => x == g) = true then acc + (if ((rangeKs 0 5).foldl (pickG G lab g) []).sum > 1 then ((rangeKs 0 5).foldl (pickG G lab g) []).sum else 1) else acc
def neeF (T G lab : List Int) (i : Nat) : Int := (rangeKs 0 i).foldl (addG T G lab) 0
noncomputable def neeAll (T H G : List Int) : Int := neeF T G (labF T H 5) 5
def Cells5 (L' g al : Addr) (c1 c2 c3 : Option Value) (o1 o2 o3 o4 o5 : Obj) : Prop := o1.data = .cell c1 ∧ o2.data = .cell c2 ∧ o3.data = .cell c3 ∧ o4.data = .cell (some (.ref al)) ∧ o5.data = .cell (some (.ref g))
def J1n (L' g t h : Addr) (T H : List Int) (i : Nat) (m : Str → Option Value) (nx : List (Addr × Obj)) : Prop :=
  (∀ p ∈ [(Str.ofString "heads", Value.ref h), (Str.ofString "tails", Value.ref t)], m p.1 = some p.2) ∧ ∃ (al : Addr) (lv : List Value) (nn : Nat) (c1 c2 c3 : Option Value) (o1 o2 o3 o4 o5 : Obj),
    nx = [(al, listOf lv.toArray nn), (L' + 1 + 1 + 1 + 1 + 1, o1), (L' + 1 + 1 + 1 + 1, o2), (L' + 1 + 1 + 1, o3), (L' + 1 + 1, o4), (L' + 1, o5)] ∧ Cells5 L' g al c1 c2 c3 o1 o2 o3 o4 o5 ∧ IntsAre lv (labF T H i) ∧ ((@Ne Nat (L' + 1 + 1 + 1 + 1 + 1) al) ∧ (@Ne Nat (L' + 1 + 1 + 1 + 1) al) ∧ (@Ne Nat (L' + 1 + 1 + 1) al) ∧ (@Ne Nat (L' + 1 + 1) al) ∧ (@Ne Nat (L' + 1) al))
theorem j1n_end {L' g t h al I D6 : Addr} {T H : List Int} {i tk : Nat} {m' : Str → Option Value} {h₀ h' : Heap} {ys : List Value} {X : Addr × Obj} {oI ol q1 q2 q3 q4 q5 : Obj} {c1 c2 c3 : Option Value} {s₁ : Shared} {Q : Flow → Shared → Prop}
    (F : Fr h₀ L' h' m') (N : News h₀ L' h' [(D6, LCg.lst ys), X, (I, oI), (al, ol), (L' + 1 + 1 + 1 + 1 + 1, q1), (L' + 1 + 1 + 1 + 1, q2), (L' + 1 + 1 + 1, q3), (L' + 1 + 1, q4), (L' + 1, q5)])
    (hm : ∀ p ∈ [(Str.ofString "heads", Value.ref h), (Str.ofString "tails", Value.ref t)], m' p.1 = some p.2) (e1 : q1.data = .cell c1) (e2 : q2.data = .cell c2) (e3 : q3.data = .cell c3) (e4 : q4.data = .cell (some (.ref D6))) (e5 : q5.data = .cell (some (.ref g)))
    (hys : IntsAre ys (labF T H (i + 1))) (hn : X.1 ≠ D6 ∧ (@Ne Nat I D6) ∧ (@Ne Nat al D6) ∧ (@Ne Nat (L' + 1 + 1 + 1 + 1 + 1) D6) ∧ (@Ne Nat (L' + 1 + 1 + 1 + 1) D6) ∧ (@Ne Nat (L' + 1 + 1 + 1) D6) ∧ (@Ne Nat (L' + 1 + 1) D6) ∧ (@Ne Nat (L' + 1) D6))
    (hI : (@Ne Nat al I) ∧ (@Ne Nat (L' + 1 + 1 + 1 + 1 + 1) I) ∧ (@Ne Nat (L' + 1 + 1 + 1 + 1) I) ∧ (@Ne Nat (L' + 1 + 1 + 1) I) ∧ (@Ne Nat (L' + 1 + 1) I) ∧ (@Ne Nat (L' + 1) I)) :
    JPost h₀ L' I oI (J1n L' g t h T H (i + 1)) s₁ Q .next { s₁ with heap := h', toks := tk } := by
  refine jpost_next (nx := [(D6, LCg.lst ys), (L' + 1 + 1 + 1 + 1 + 1, q1), (L' + 1 + 1 + 1 + 1, q2), (L' + 1 + 1 + 1, q3), (L' + 1 + 1, q4), (L' + 1, q5)]) F (fun p hp => N p ?_) (fun p hp => ?_) ?_
  · simp only [List.mem_cons, List.not_mem_nil, or_false] at hp ⊢
    rcases hp with h | h | h | h | h | h | h <;> simp [h]
  · simp only [List.mem_cons, List.not_mem_nil, or_false] at hp
    obtain ⟨i1, i2, i3, i4, i5, i6⟩ := hI
    rcases hp with rfl | rfl | rfl | rfl | rfl | rfl
    · exact Ne.symm hn.2.1
    · exact i2
    · exact i3
    · exact i4
    · exact i5
    · exact i6
  · exact ⟨hm, D6, ys, ys.length, c1, c2, c3, q1, q2, q3, q4, q5, rfl, ⟨e1, e2, e3, e4, e5⟩, hys, hn.2.2.2⟩
def J2n (L' g t h al : Addr) (T G lab : List Int) (lv : List Value) (nn : Nat) (i : Nat) (m : Str → Option Value) (nx : List (Addr × Obj)) : Prop :=
  (∀ p ∈ [(Str.ofString "heads", Value.ref h), (Str.ofString "tails", Value.ref t)], m p.1 = some p.2) ∧ (∃ tn, m (Str.ofString "needed") = some (.int (neeF T G lab i) tn)) ∧ ∃ (c1 c2 c3 : Option Value) (o1 o2 o3 o4 o5 : Obj),
    nx = [(al, listOf lv.toArray nn), (L' + 1 + 1 + 1 + 1 + 1, o1), (L' + 1 + 1 + 1 + 1, o2), (L' + 1 + 1 + 1, o3), (L' + 1 + 1, o4), (L' + 1, o5)] ∧ Cells5 L' g al c1 c2 c3 o1 o2 o3 o4 o5
theorem neeF_succ (T G lab : List Int) (i : Nat) : neeF T G lab (i + 1) = addG T G lab (neeF T G lab i) (i : Int) := by
  unfold neeF rangeKs
  rw [List.range_succ, List.map_append, List.foldl_append]
  simp
theorem j2n_end {L' g t h al I : Addr} {T G lab : List Int} {i nn tk : Nat} {m' : Str → Option Value} {h₀ h' : Heap} {lv : List Value} {oI q1 q2 q3 q4 q5 : Obj} {c1 c2 c3 : Option Value} {a : Int} {tn : Tok} {s₁ : Shared} {Q : Flow → Shared → Prop}
    (F : Fr h₀ L' h' m') (N : News h₀ L' h' [(I, oI), (al, listOf lv.toArray nn), (L' + 1 + 1 + 1 + 1 + 1, q1), (L' + 1 + 1 + 1 + 1, q2), (L' + 1 + 1 + 1, q3), (L' + 1 + 1, q4), (L' + 1, q5)])
    (hm : ∀ p ∈ [(Str.ofString "heads", Value.ref h), (Str.ofString "tails", Value.ref t)], m' p.1 = some p.2) (hn : m' (Str.ofString "needed") = some (.int a tn)) (ha : a = addG T G lab (neeF T G lab i) (i : Int))
    (e1 : q1.data = .cell c1) (e2 : q2.data = .cell c2) (e3 : q3.data = .cell c3) (e4 : q4.data = .cell (some (.ref al))) (e5 : q5.data = .cell (some (.ref g)))
    (hI : (@Ne Nat al I) ∧ (@Ne Nat (L' + 1 + 1 + 1 + 1 + 1) I) ∧ (@Ne Nat (L' + 1 + 1 + 1 + 1) I) ∧ (@Ne Nat (L' + 1 + 1 + 1) I) ∧ (@Ne Nat (L' + 1 + 1) I) ∧ (@Ne Nat (L' + 1) I)) :
    JPost h₀ L' I oI (J2n L' g t h al T G lab lv nn (i + 1)) s₁ Q .next { s₁ with heap := h', toks := tk } := by
  refine jpost_next F N (fun p hp => ?_) ⟨hm, ⟨tn, by rw [neeF_succ, ← ha]; exact hn⟩, c1, c2, c3, q1, q2, q3, q4, q5, rfl, ⟨e1, e2, e3, e4, e5⟩⟩
  simp only [List.mem_cons, List.not_mem_nil, or_false] at hp
  obtain ⟨i1, i2, i3, i4, i5, i6⟩ := hI
  rcases hp with rfl | rfl | rfl | rfl | rfl | rfl <;> assumption
theorem add_yes {T G lab : List Int} {acc g : Int} (h : ((T.map (fun p => lab.getD p.toNat 0)).any fun x => x == g) = true) : acc + (if ((rangeKs 0 5).foldl (pickG G lab g) []).sum > 1 then ((rangeKs 0 5).foldl (pickG G lab g) []).sum else 1) = addG T G lab acc g := (if_pos h).symm
theorem add_no {T G lab : List Int} {acc g : Int} (h : ((T.map (fun p => lab.getD p.toNat 0)).any fun x => x == g) = false) : acc = addG T G lab acc g := (if_neg (by rw [h]; decide)).symm
theorem pick_yes {G lab : List Int} {g k : Int} {l : List Int} (h1 : lab.getD k.toNat 0 = g) (h2 : 0 < G.getD k.toNat 0) : pickG G lab g l k = l ++ [G.getD k.toNat 0] := if_pos ⟨h1, h2⟩
theorem pick_no {G lab : List Int} {g k : Int} {l : List Int} (h : ¬ (lab.getD k.toNat 0 = g ∧ 0 < G.getD k.toNat 0)) : pickG G lab g l k = l := if_neg h
theorem bnd5 {T : List Int} (hl : T.length = 5) (hb : ∀ x ∈ T, 0 ≤ x ∧ x < 5) {k : Int} (k0 : 0 ≤ k) (k1 : k < 5) : 0 ≤ T.getD k.toNat 0 ∧ T.getD k.toNat 0 < 5 := by
  have : k.toNat < T.length := by omega
  rw [List.getD_eq_getElem?_getD, List.getElem?_eq_getElem this]
  exact hb _ (List.getElem_mem this)
set_option maxHeartbeats 4000000 in
theorem needed_spec : ∀ (w : World) (t h g : Addr) (tv hv gv : List Value) (T H G : List Int), Spec w 191 [.ref t, .ref h, .ref g]
   (fun hp => hp.IsList t tv.toArray ∧ hp.IsList h hv.toArray ∧ hp.IsList g gv.toArray ∧ IntsAre tv T ∧ IntsAre hv H ∧ IntsAre gv G ∧ T.length = 5 ∧ H.length = 5 ∧ G.length = 5 ∧ (∀ x ∈ T, 0 ≤ x ∧ x < 5) ∧ (∀ x ∈ H, 0 ≤ x ∧ x < 5) ∧ (∀ x ∈ G, -5 ≤ x ∧ x ≤ 5))
   (fun v _ => ∃ tk, v = .int (neeAll T H G) tk) := by
  refine eps10 (by (repeat' (refine neP ?_ ?_)) <;> (first | exact neW | exact neS | exact neA | exact inferInstance)) ?_
  (try dsimp only)
  generalize eps _ _ = zz
  generalize Prod.fst zz = w
  generalize Prod.fst (Prod.snd zz) = t
  generalize Prod.fst (Prod.snd (Prod.snd zz)) = h
  generalize Prod.fst (Prod.snd (Prod.snd (Prod.snd zz))) = g
  generalize Prod.fst (Prod.snd (Prod.snd (Prod.snd (Prod.snd zz)))) = tv
  generalize Prod.fst (Prod.snd (Prod.snd (Prod.snd (Prod.snd (Prod.snd zz))))) = hv
  generalize Prod.fst (Prod.snd (Prod.snd (Prod.snd (Prod.snd (Prod.snd (Prod.snd zz)))))) = gv
  generalize Prod.fst (Prod.snd (Prod.snd (Prod.snd (Prod.snd (Prod.snd (Prod.snd (Prod.snd zz))))))) = T
  generalize Prod.fst (Prod.snd (Prod.snd (Prod.snd (Prod.snd (Prod.snd (Prod.snd (Prod.snd (Prod.snd zz)))))))) = H
  generalize Prod.snd (Prod.snd (Prod.snd (Prod.snd (Prod.snd (Prod.snd (Prod.snd (Prod.snd (Prod.snd zz)))))))) = G
  clear zz
  unfold Spec PRG LSE
  k_fill
  refine eps20 (by (repeat' (refine neP ?_ ?_)) <;> (first | exact neW | exact neS | exact neA | exact inferInstance)) ?_
  (try dsimp only)
  generalize eps _ _ = zz
  generalize Prod.fst zz = dp
  generalize Prod.fst (Prod.snd zz) = un
  generalize Prod.fst (Prod.snd (Prod.snd zz)) = gd
  generalize Prod.fst (Prod.snd (Prod.snd (Prod.snd zz))) = cn
  generalize Prod.fst (Prod.snd (Prod.snd (Prod.snd (Prod.snd zz)))) = cs
  generalize Prod.fst (Prod.snd (Prod.snd (Prod.snd (Prod.snd (Prod.snd zz))))) = a
  generalize Prod.fst (Prod.snd (Prod.snd (Prod.snd (Prod.snd (Prod.snd (Prod.snd zz)))))) = ccd
  generalize Prod.fst (Prod.snd (Prod.snd (Prod.snd (Prod.snd (Prod.snd (Prod.snd (Prod.snd zz))))))) = cl
  generalize Prod.fst (Prod.snd (Prod.snd (Prod.snd (Prod.snd (Prod.snd (Prod.snd (Prod.snd (Prod.snd zz)))))))) = outer
  generalize Prod.fst (Prod.snd (Prod.snd (Prod.snd (Prod.snd (Prod.snd (Prod.snd (Prod.snd (Prod.snd (Prod.snd zz))))))))) = A₀
  generalize Prod.fst (Prod.snd (Prod.snd (Prod.snd (Prod.snd (Prod.snd (Prod.snd (Prod.snd (Prod.snd (Prod.snd (Prod.snd zz)))))))))) = base
  generalize Prod.fst (Prod.snd (Prod.snd (Prod.snd (Prod.snd (Prod.snd (Prod.snd (Prod.snd (Prod.snd (Prod.snd (Prod.snd (Prod.snd zz))))))))))) = h₀
  generalize Prod.fst (Prod.snd (Prod.snd (Prod.snd (Prod.snd (Prod.snd (Prod.snd (Prod.snd (Prod.snd (Prod.snd (Prod.snd (Prod.snd (Prod.snd zz)))))))))))) = L
  generalize Prod.fst (Prod.snd (Prod.snd (Prod.snd (Prod.snd (Prod.snd (Prod.snd (Prod.snd (Prod.snd (Prod.snd (Prod.snd (Prod.snd (Prod.snd (Prod.snd zz))))))))))))) = m
  generalize Prod.fst (Prod.snd (Prod.snd (Prod.snd (Prod.snd (Prod.snd (Prod.snd (Prod.snd (Prod.snd (Prod.snd (Prod.snd (Prod.snd (Prod.snd (Prod.snd (Prod.snd zz)))))))))))))) = mg
  generalize Prod.fst (Prod.snd (Prod.snd (Prod.snd (Prod.snd (Prod.snd (Prod.snd (Prod.snd (Prod.snd (Prod.snd (Prod.snd (Prod.snd (Prod.snd (Prod.snd (Prod.snd (Prod.snd zz))))))))))))))) = mb
  generalize Prod.fst (Prod.snd (Prod.snd (Prod.snd (Prod.snd (Prod.snd (Prod.snd (Prod.snd (Prod.snd (Prod.snd (Prod.snd (Prod.snd (Prod.snd (Prod.snd (Prod.snd (Prod.snd (Prod.snd zz)))))))))))))))) = mean
  generalize Prod.fst (Prod.snd (Prod.snd (Prod.snd (Prod.snd (Prod.snd (Prod.snd (Prod.snd (Prod.snd (Prod.snd (Prod.snd (Prod.snd (Prod.snd (Prod.snd (Prod.snd (Prod.snd (Prod.snd (Prod.snd zz))))))))))))))))) = s
  generalize Prod.fst (Prod.snd (Prod.snd (Prod.snd (Prod.snd (Prod.snd (Prod.snd (Prod.snd (Prod.snd (Prod.snd (Prod.snd (Prod.snd (Prod.snd (Prod.snd (Prod.snd (Prod.snd (Prod.snd (Prod.snd (Prod.snd zz)))))))))))))))))) = Q
  generalize Prod.snd (Prod.snd (Prod.snd (Prod.snd (Prod.snd (Prod.snd (Prod.snd (Prod.snd (Prod.snd (Prod.snd (Prod.snd (Prod.snd (Prod.snd (Prod.snd (Prod.snd (Prod.snd (Prod.snd (Prod.snd (Prod.snd zz)))))))))))))))))) = E
  clear zz
  intro B F X TT hk hd hu hpre hret
  obtain ⟨ht, hh, hg, hti, hhi, hgi, htl, hhl, hgl, htb, hhb, hgb⟩ := hpre
  refine wpAny_call ?_
  k_dflt (refine' code_def0C (binds := [(Str.ofString "tails", .ref t), (Str.ofString "heads", .ref h), (Str.ofString "grown", .ref g)]) ?k1 ?k2 ?k3 ?k5 ?kA ?kF ?kK ?k6 ?k7 ?k8 ?k9 ?kB ?kD ?_ ?c2 ?c3 ?c4; (case kA => exact rfl); (case kF => exact rfl); (case kK => assumption); (case k1 => k_asm); (case k2 => k_asm); (case k3 => k_asm); (case k5 => k_asm); (case k6 => k_is); (case k7 => k_is); (case k8 => ktr_room); (case k9 => exact BindsTo.of_eq rfl); (case kB => rfl); (case kD => decide); (case c2 => exact rfl); (case c3 => exact rfl); (case c4 => exact rfl); k_whole; (refine eps4 (by (repeat' (refine neP ?_ ?_)) <;> (first | exact neW | exact neS | exact neA | exact inferInstance)) ?_); (try dsimp only); (generalize eps _ _ = zz); (generalize Prod.fst zz = L'); (generalize Prod.fst (Prod.snd zz) = h'); (generalize Prod.fst (Prod.snd (Prod.snd zz)) = tk'); (generalize Prod.snd (Prod.snd (Prod.snd zz)) = cells); (clear zz); intro F' N' Y' B' X' T')
  have hY := cells_five Y'
  clear Y'
  obtain ⟨o1, o2, o3, o4, o5, rfl, d1, d2, d3, d4, d5⟩ := hY
  replace d1 : o1.data = .cell none := d1
  replace d2 : o2.data = .cell none := d2
  replace d3 : o3.data = .cell none := d3
  replace d4 : o4.data = .cell none := d4
  replace d5 : o5.data = .cell (some (.ref g)) := d5
  have F0 : Fr s.heap L' h' (fun y => if y = Str.ofString "heads" then some (.ref h) else if y = Str.ofString "tails" then some (.ref t) else none) := F'
  clear F'
  (try dsimp only)
  (try k_fold)
  walk_at "my"
  refine For_J (h₀ := s.heap) (by rfl) ⟨_, _, rfl⟩ ?_
  walk_at "my"
  rename Fr _ _ _ _ => F1
  rename News _ _ _ _ => N1
  rename IsRange _ _ _ _ _ _ _ _ => R1
  rename Obj => o4'
  rename o4'.data = _ => d4'
  refine ⟨_, _, _, _, _, J1n L' g t h T H, .range R1 (by decide) (by rfl), F1, N1, ?_, fun _ _ _ _ => trivial, ?_, ?_⟩
  · refine ⟨by walk_at "known", _, _, _, _, _, _, _, _, _, _, _, rfl, ⟨d1, d2, d3, d4', d5⟩, ?_, ⟨by omega, by omega, by omega, by omega, by omega⟩⟩
    exact .cons _ _ (.cons _ _ (.cons _ _ (.cons _ _ (.cons _ _ .nil))))
  · clear F1 N1 R1 d4'
    rintro i v m₁ nx I h1 tk1 oI hi ⟨tk2, rfl⟩ ⟨hm, al, lv, nn, c1, c2, c3, q1, q2, q3, q4, q5, rfl, ⟨e1, e2, e3, e4, e5⟩, hlv, hal⟩ F2 N2 off
    have F3 : Fr s.heap L' h1 (fun z => if z = Str.ofString "heads" then some (.ref h) else if z = Str.ofString "tails" then some (.ref t) else m₁ z) := fr_known _ F2 hm
    have N3 : News s.heap L' h1 [(I, oI), (al, listOf lv.toArray nn), (L' + 1 + 1 + 1 + 1 + 1, q1), (L' + 1 + 1 + 1 + 1, q2), (L' + 1 + 1 + 1, q3), (L' + 1 + 1, q4), (L' + 1, q5)] := N2
    have hI1 : (@Ne Nat al I) ∧ (@Ne Nat (L' + 1 + 1 + 1 + 1 + 1) I) ∧ (@Ne Nat (L' + 1 + 1 + 1 + 1) I) ∧ (@Ne Nat (L' + 1 + 1 + 1) I) ∧ (@Ne Nat (L' + 1 + 1) I) ∧ (@Ne Nat (L' + 1) I) := by
      simpa using off
    clear F2 N2
    have hi5 : i < 5 := hi
    have hll := labF_len T H i
    have hTk := bnd5 htl htb (k := (i : Int)) (by omega) (by omega)
    have hHk := bnd5 hhl hhb (k := (i : Int)) (by omega) (by omega)
    (try dsimp only)
    (try k_fold)
    walk_at "my"
    refine wpAny_Assign_Name ?_ (by with_unfolding_all rfl)
    k_dflt (refine LCg.ListComp_U (F₀ := by k_asm) (by with_unfolding_all rfl) (by decide) (by rfl) (by decide) (by rfl) ?_)
    walk_at "my"
    rename Fr _ _ _ _ => F4
    rename News _ _ _ _ => N4
    refine LCg.CompSrc.ledger (by rfl) F4 N4 (by k_dflt k_mem) (by rw [List.size_toArray, hlv.length, hll]; exact Nat.le_of_ble_eq_true rfl) ?_
    intro g'
    refine kcf_list (fun one => if one = (labF T H i).getD (H.getD (i : Int).toNat 0).toNat 0 then (labF T H i).getD (T.getD (i : Int).toNat 0).toNat 0 else one) hlv ?turnC ?finC
    case turnC =>
      intro k t5 I5 oI5 C5 oC5 D5 m5 ys h5 tk5 E5 hk5 hC5 hx5 F5 N5 off5 ne5 mk5
      clear F4 N4
      (try k_fold)
      walk_at "my"
      · exact cf_end F5 N5 (fun _ h => h) off5 (.inr ⟨_, by k_dflt k_mem, rfl, _, rfl⟩) (if_pos (by assumption))
      · exact cf_end F5 N5 (fun _ h => h) off5 (.inr ⟨_, by k_dflt k_mem, rfl, _, rfl⟩) (if_neg (by assumption))
    intro ys hys D6 h6 tk6 F6 N6 off6
    clear F4 N4
    have hne6 := off6
    simp only [LCg.Off1, and_true] at hne6
    (try dsimp only)
    (try k_fold)
    walk_at "my"
    rename Fr _ _ _ _ => Fe
    rename News _ _ _ _ => Ne
    exact j1n_end Fe Ne (by walk_at "known") (by assumption) (by assumption) (by assumption) (by assumption) (by assumption) hys hne6 hI1
  clear F1 N1 R1 d4'
  rintro m₁ nx h1 tk1 ⟨hm, al, lv, nn, c1, c2, c3, q1, q2, q3, q4, q5, rfl, ⟨e1, e2, e3, e4, e5⟩, hlv, hal⟩ F2 N2
  replace hlv : IntsAre lv (labF T H 5) := hlv
  have F3 : Fr s.heap L' h1 (fun z => if z = Str.ofString "heads" then some (.ref h) else if z = Str.ofString "tails" then some (.ref t) else m₁ z) := fr_known _ F2 hm
  have N3 : News s.heap L' h1 [(al, listOf lv.toArray nn), (L' + 1 + 1 + 1 + 1 + 1, q1), (L' + 1 + 1 + 1 + 1, q2), (L' + 1 + 1 + 1, q3), (L' + 1 + 1, q4), (L' + 1, q5)] := N2
  clear F2 N2
  have hll := labF_len T H 5
  generalize hlab : labF T H 5 = lab at hlv hll
  (try dsimp only)
  (try k_fold)
  walk_at "my"
  refine For_J (h₀ := s.heap) (by rfl) ⟨_, _, rfl⟩ ?_
  walk_at "my"
  rename Fr _ _ _ _ => F1
  rename News _ _ _ _ => N1
  rename IsRange _ _ _ _ _ _ _ _ => R1
  refine ⟨_, _, _, _, _, J2n L' g t h al T G lab lv nn, .range R1 (by decide) (by rfl), F1, N1, ?_, fun _ _ _ _ => trivial, ?_, ?_⟩
  · exact ⟨by walk_at "known", ⟨_, rfl⟩, c1, c2, c3, _, _, _, _, _, rfl, ⟨e1, e2, e3, e4, e5⟩⟩
  · clear F1 N1 R1 e1 e2 e3 e4 e5
    rintro i v m₁ nx I h1 tk1 oI hi ⟨tk2, rfl⟩ ⟨hm, ⟨tn, hn⟩, c1, c2, c3, q1, q2, q3, q4, q5, rfl, ⟨e1, e2, e3, e4, e5⟩⟩ F2 N2 off
    have F3 : Fr s.heap L' h1 (fun z => if z = Str.ofString "needed" then some (.int (neeF T G lab i) tn) else if z = Str.ofString "heads" then some (.ref h) else if z = Str.ofString "tails" then some (.ref t) else m₁ z) := fr_known [(Str.ofString "needed", _), _, _] F2 (List.forall_mem_cons.mpr ⟨hn, hm⟩)
    have N3 : News s.heap L' h1 [(I, oI), (al, listOf lv.toArray nn), (L' + 1 + 1 + 1 + 1 + 1, q1), (L' + 1 + 1 + 1 + 1, q2), (L' + 1 + 1 + 1, q3), (L' + 1 + 1, q4), (L' + 1, q5)] := N2
    have hI1 : (@Ne Nat al I) ∧ (@Ne Nat (L' + 1 + 1 + 1 + 1 + 1) I) ∧ (@Ne Nat (L' + 1 + 1 + 1 + 1) I) ∧ (@Ne Nat (L' + 1 + 1 + 1) I) ∧ (@Ne Nat (L' + 1 + 1) I) ∧ (@Ne Nat (L' + 1) I) := by
      simpa using off
    clear F2 N2
    have hi5 : i < 5 := hi
    (try dsimp only)
    (try k_fold)
    walk_at "my"
    k_dflt (refine LCg.ListComp_U (F₀ := by k_asm) (by with_unfolding_all rfl) (by decide) (by rfl) (by decide) (by rfl) ?_)
    walk_at "my"
    rename Fr _ _ _ _ => F4
    rename News _ _ _ _ => N4
    refine LCg.CompSrc.base (by rfl) F4 N4 ht (by rw [List.size_toArray, hti.length, htl]; exact Nat.le_of_ble_eq_true rfl) ?_
    intro g'
    refine kcf_list (fun p => lab.getD p.toNat 0) hti ?turnC2 ?finC2
    case turnC2 =>
      intro k t5 I5 oI5 C5 oC5 D5 m5 ys h5 tk5 E5 hk5 hC5 hx5 F5 N5 off5 ne5 mk5
      clear F4 N4
      have hb5 := htb k hk5
      (try k_fold)
      walk_at "my"
      exact cf_end F5 N5 (fun _ h => h) off5 (.inl (by assumption)) rfl
    intro ys hys D6 h6 tk6 F6 N6 off6
    clear F4 N4
    have hne6 := off6
    simp only [LCg.Off1, and_true] at hne6
    (try dsimp only)
    (try k_fold)
    walk_at "my"
    · rename List.any _ _ = true => hany
      k_dflt (refine LCt.ListComp_T (F₀ := by k_asm) (by with_unfolding_all rfl) (by decide) (by rfl) (by decide) (by rfl) ?_)
      walk_at "my"
      rename Fr _ _ _ _ => F4
      rename News _ _ _ _ => N4
      rename IsRange _ _ _ _ _ _ _ _ => R4
      refine LCt.CompSrcT.range (by rfl) F4 N4 R4 (by decide) (by rfl) (by exact Nat.le_of_ble_eq_true rfl) ?_
      intro g2
      refine kci_range (pickG G lab (i : Int)) ?turnC3 ?finC3 ?growC3
      case growC3 => intro a k; unfold pickG; split <;> simp
      case turnC3 =>
        intro k t5 I5 oI5 C5 oC5 D5 m5 ys l5 h5 tk5 E5 hk0 hk5 hl5 hC5 hx5 F5 N5 off5 ne5 mk5
        clear F4 N4 R4
        replace hk5 : k < 5 := by simpa using hk5
        (try k_fold)
        walk_at "my"
        · exact ci_end F5 N5 (fun _ h => h) off5 trivial (pick_yes (by assumption) (by assumption))
        · exact ci_no F5 N5 (fun _ h => h) off5 trivial (pick_no fun q => absurd q.2 (by assumption))
        · exact ci_no F5 N5 (fun _ h => h) off5 trivial (pick_no fun q => absurd q.1 (by assumption))
      intro ys hys hle D7 h7 tk7 F7 N7 off7
      clear F4 N4 R4
      (try dsimp only)
      (try k_fold)
      walk_at "my"
      rename Fr _ _ _ _ => Fe
      rename News _ _ _ _ => Ne
      exact j2n_end Fe (fun p hp => Ne p (.tail _ (.tail _ hp))) (by walk_at "known") rfl (add_yes hany) (by assumption) e2 e3 e4 e5 hI1
    · rename List.any _ _ = false => hany
      rename Fr _ _ _ _ => Fe
      rename News _ _ _ _ => Ne
      exact j2n_end Fe (fun p hp => Ne p (.tail _ hp)) (by walk_at "known") rfl (add_no hany) (by assumption) e2 e3 e4 e5 hI1
  clear F1 N1 R1 e1 e2 e3 e4 e5
  rintro m₁ nx h1 tk1 ⟨hm, ⟨tn, hn⟩, c1, c2, c3, q1, q2, q3, q4, q5, rfl, ⟨e1, e2, e3, e4, e5⟩⟩ F2 N2
  have F3 : Fr s.heap L' h1 (fun z => if z = Str.ofString "needed" then some (.int (neeF T G lab 5) tn) else m₁ z) := fr_known [(Str.ofString "needed", _)] F2 (List.forall_mem_cons.mpr ⟨hn, fun _ hp => nomatch hp⟩)
  have N3 : News s.heap L' h1 [(al, listOf lv.toArray nn), (L' + 1 + 1 + 1 + 1 + 1, q1), (L' + 1 + 1 + 1 + 1, q2), (L' + 1 + 1 + 1, q3), (L' + 1 + 1, q4), (L' + 1, q5)] := N2
  clear F2 N2
  (try dsimp only)
  (try k_fold)
  walk_at "my"
  rename Fr _ _ _ _ => Fe
  rename News _ _ _ _ => Ne
  refine leaveF_ Fe Ne fun hst hnw => ?_
  exact hret _ _ _ _ hst hnw ⟨tn, by rw [← hlab]; rfl⟩
end
section

open LCg
def addO (o : List Int) (p : Int) : List Int := if (o.any fun x => x == p) = true then o else o ++ [p]
def ordF (T H : List Int) (i : Nat) : List Int := ((H ++ T).take i).foldl addO []
abbrev Led1 (L' aS ao : Addr) (ws ov : List Value) (nn : Nat) (q1 q2 q3 q4 : Obj) : List (Addr × Obj) := [(aS, listOf ws.toArray 0), (ao, listOf ov.toArray nn), (L' + 1 + 1 + 1 + 1, q1), (L' + 1 + 1 + 1, q2), (L' + 1 + 1, q3), (L' + 1, q4)]
def Cells4 (t h o : Addr) (c : Option Value) (q1 q2 q3 q4 : Obj) : Prop := q1.data = .cell c ∧ q2.data = .cell (some (.ref o)) ∧ q3.data = .cell (some (.ref h)) ∧ q4.data = .cell (some (.ref t))
def J1 (L' n t h o aS ao : Addr) (ws : List Value) (T H : List Int) (i : Nat) (m : Str → Option Value) (nx : List (Addr × Obj)) : Prop :=
  (∀ p ∈ [(Str.ofString "order", Value.ref ao), (Str.ofString "names", Value.ref n)], m p.1 = some p.2) ∧ ∃ (ov : List Value) (nn : Nat) (c : Option Value) (q1 q2 q3 q4 : Obj),
    nx = [(aS, listOf ws.toArray 0), (ao, listOf ov.toArray nn), (L' + 1 + 1 + 1 + 1, q1), (L' + 1 + 1 + 1, q2), (L' + 1 + 1, q3), (L' + 1, q4)] ∧ Cells4 t h o c q1 q2 q3 q4 ∧ IntsAre ov (ordF T H i)
theorem addO_len (o : List Int) (p : Int) : (addO o p).length ≤ o.length + 1 := by unfold addO; split <;> simp
theorem ordF_succ {T H : List Int} {i : Nat} {p : Int} (h : (H ++ T)[i]? = some p) : ordF T H (i + 1) = addO (ordF T H i) p := by
  unfold ordF
  rw [List.take_add_one, h]; simp
theorem ordF_len (T H : List Int) (i : Nat) : (ordF T H i).length ≤ i := by
  unfold ordF
  have : ∀ (l a : List Int), (l.foldl addO a).length ≤ a.length + l.length := by
    intro l
    induction l with
    | nil => intro a; simp
    | cons x r ih => intro a; have := ih (addO a x); have := addO_len a x; simp only [List.foldl_cons, List.length_cons]; omega
  have h := this ((H ++ T).take i) []
  simp only [List.length_nil, List.length_take] at h
  omega
theorem j1_end {L' n t h o aS ao I : Addr} {T H : List Int} {i tk : Nat} {m' : Str → Option Value} {h₀ h' : Heap} {ws : List Value} {oI ob q1 q2 q3 q4 : Obj} {c : Option Value} {s₁ : Shared} {Q : Flow → Shared → Prop}
    (F : Fr h₀ L' h' m') (N : News h₀ L' h' [(I, oI), (aS, listOf ws.toArray 0), (ao, ob), (L' + 1 + 1 + 1 + 1, q1), (L' + 1 + 1 + 1, q2), (L' + 1 + 1, q3), (L' + 1, q4)])
    (hm : ∀ p ∈ [(Str.ofString "order", Value.ref ao), (Str.ofString "names", Value.ref n)], m' p.1 = some p.2) (hob : ∃ (ov : List Value) (nn : Nat), ob = listOf ov.toArray nn ∧ IntsAre ov (ordF T H (i + 1)))
    (e1 : q1.data = .cell c) (e2 : q2.data = .cell (some (.ref o))) (e3 : q3.data = .cell (some (.ref h))) (e4 : q4.data = .cell (some (.ref t)))
    (hI : (@Ne Nat aS I) ∧ (@Ne Nat ao I) ∧ (@Ne Nat (L' + 1 + 1 + 1 + 1) I) ∧ (@Ne Nat (L' + 1 + 1 + 1) I) ∧ (@Ne Nat (L' + 1 + 1) I) ∧ (@Ne Nat (L' + 1) I)) :
    JPost h₀ L' I oI (J1 L' n t h o aS ao ws T H (i + 1)) s₁ Q .next { s₁ with heap := h', toks := tk } := by
  obtain ⟨ov, nn, rfl, hov⟩ := hob
  refine jpost_next F N (fun p hp => ?_) ⟨hm, ov, nn, c, q1, q2, q3, q4, rfl, ⟨e1, e2, e3, e4⟩, hov⟩
  simp only [List.mem_cons, List.not_mem_nil, or_false] at hp
  obtain ⟨i1, i2, i3, i4, i5, i6⟩ := hI
  rcases hp with rfl | rfl | rfl | rfl | rfl | rfl <;> assumption
theorem addO_yes {o : List Int} {p : Int} (h : (o.any fun x => x == p) = true) : addO o p = o := if_pos h
theorem addO_no {o : List Int} {p : Int} (h : (o.any fun x => x == p) = false) : addO o p = o ++ [p] := if_neg (by rw [h]; decide)
theorem ordF_in {T H : List Int} (ht : ∀ x ∈ T, 0 ≤ x ∧ x < 5) (hh : ∀ x ∈ H, 0 ≤ x ∧ x < 5) (i : Nat) : ∀ x ∈ ordF T H i, 0 ≤ x ∧ x < 5 := by
  have all : ∀ x ∈ H ++ T, 0 ≤ x ∧ x < 5 := fun x hx => (List.mem_append.mp hx).elim (hh x) (ht x)
  have : ∀ (l a : List Int), (∀ x ∈ l, 0 ≤ x ∧ x < 5) → (∀ x ∈ a, 0 ≤ x ∧ x < 5) → ∀ x ∈ l.foldl addO a, 0 ≤ x ∧ x < 5 := by
    intro l
    induction l with
    | nil => intro a _ ha; exact ha
    | cons y r ih =>
      intro a hl ha
      refine ih (addO a y) (fun x hx => hl x (List.mem_cons_of_mem _ hx)) fun x hx => ?_
      unfold addO at hx
      split at hx
      · exact ha x hx
      · rcases List.mem_append.mp hx with hx | hx
        · exact ha x hx
        · rw [List.mem_singleton.mp hx]; exact hl y List.mem_cons_self
  exact this _ [] (fun x hx => all x (List.mem_of_mem_take hx)) (fun _ h => nomatch h)
def pickW (O H : List Int) (p : Int) (l : List Int) (k : Int) : List Int := if H.getD k.toNat 0 = p then l ++ [O.getD k.toNat 0] else l
def wentF (O H : List Int) (p : Int) : List Int := (rangeKs 0 5).foldl (pickW O H p) []
theorem pickW_yes {O H : List Int} {p k : Int} {l : List Int} (h : H.getD k.toNat 0 = p) : pickW O H p l k = l ++ [O.getD k.toNat 0] := if_pos h
theorem pickW_no {O H : List Int} {p k : Int} {l : List Int} (h : ¬ H.getD k.toNat 0 = p) : pickW O H p l k = l := if_neg h
/-- a row of what is due: a text and four ints -/
structure Row5 where
  nm : Str
  a : Int
  b : Int
  c : Int
  d : Int
def dueRow (NM : List Str) (T H O : List Int) (p : Int) : Row5 :=
  ⟨NM.getD p.toNat Str.empty, (wentF O H p).sum, (wentF O H p).sum - (wentF O T p).sum, (wentF O H p).length, (wentF O H p).length - (wentF O T p).length⟩
def IsRow (tl : List (Addr × Obj)) (r : Row5) (v : Value) : Prop := ∃ (a : Addr) (t1 t2 t3 t4 t5 : Tok) (k : Nat), v = .ref a ∧ (a, ({ cls := .type "tuple", data := .seq #[.str r.nm t1, .int r.a t2, .int r.b t3, .int r.c t4, .int r.d t5] k } : Obj)) ∈ tl
theorem IsRow.mono {tl tl' : List (Addr × Obj)} {r : Row5} {v : Value} (x : IsRow tl r v) (h : ∀ p ∈ tl, p ∈ tl') : IsRow tl' r v := let ⟨a, t1, t2, t3, t4, t5, k, e, m⟩ := x; ⟨a, t1, t2, t3, t4, t5, k, e, h _ m⟩
def J2 (L' n t h o ao ad : Addr) (ov : List Value) (nn : Nat) (NM : List Str) (T H O od : List Int) (i : Nat) (m : Str → Option Value) (nx : List (Addr × Obj)) : Prop :=
  (∀ p ∈ [(Str.ofString "due", Value.ref ad), (Str.ofString "names", Value.ref n)], m p.1 = some p.2) ∧ ∃ (dv : List Value) (nd : Nat) (c : Option Value) (q1 q2 q3 q4 : Obj) (tl : List (Addr × Obj)),
    nx = (ad, listOf dv.toArray nd) :: (ao, listOf ov.toArray nn) :: (L' + 1 + 1 + 1 + 1, q1) :: (L' + 1 + 1 + 1, q2) :: (L' + 1 + 1, q3) :: (L' + 1, q4) :: tl ∧ Cells4 t h o c q1 q2 q3 q4 ∧
    OwnOff tl [ad, ao, L' + 1 + 1 + 1 + 1, L' + 1 + 1 + 1, L' + 1 + 1, L' + 1] ∧ Paired (IsRow tl) ((od.take i).map (dueRow NM T H O)) dv
theorem paired_mono {α β : Type} {R R' : α → β → Prop} (h : ∀ a b, R a b → R' a b) : ∀ {l : List α} {l' : List β}, Paired R l l' → Paired R' l l'
  | _, _, .nil => .nil
  | _, _, .cons a r => .cons (h _ _ a) (paired_mono h r)
theorem j2_end {L' n t h o ao ad I aT DA DB : Addr} {NM : List Str} {T H O od : List Int} {i tk nd nn k : Nat} {p : Int} {m' : Str → Option Value} {h₀ h' : Heap} {ov dv : List Value} {oI oA oB q1 q2 q3 q4 : Obj} {c : Option Value} {tl : List (Addr × Obj)} {t1 t2 t3 t4 t5 : Tok} {s₁ : Shared} {Q : Flow → Shared → Prop} {nm : Str} {a b d e : Int}
    (F : Fr h₀ L' h' m') (N : News h₀ L' h' ((aT, ({ cls := .type "tuple", data := .seq #[.str nm t1, .int a t2, .int b t3, .int d t4, .int e t5] k } : Obj)) :: (DB, oB) :: (DA, oA) :: (I, oI) :: (ad, listOf (dv.toArray.push (.ref aT)) (nd + 1)) :: (ao, listOf ov.toArray nn) :: (L' + 1 + 1 + 1 + 1, q1) :: (L' + 1 + 1 + 1, q2) :: (L' + 1 + 1, q3) :: (L' + 1, q4) :: tl))
    (hm : ∀ p ∈ [(Str.ofString "due", Value.ref ad), (Str.ofString "names", Value.ref n)], m' p.1 = some p.2)
    (hr : (⟨nm, a, b, d, e⟩ : Row5) = dueRow NM T H O p) (hp : od[i]? = some p) (hrow : Paired (IsRow tl) ((od.take i).map (dueRow NM T H O)) dv)
    (e1 : q1.data = .cell c) (e2 : q2.data = .cell (some (.ref o))) (e3 : q3.data = .cell (some (.ref h))) (e4 : q4.data = .cell (some (.ref t)))
    (hl : (@LT.lt Nat _ DB aT) ∧ (@LT.lt Nat _ DA aT) ∧ (@LT.lt Nat _ I aT) ∧ (@LT.lt Nat _ ad aT) ∧ (@LT.lt Nat _ ao aT) ∧ (@LT.lt Nat _ (L' + 1 + 1 + 1 + 1) aT) ∧ (@LT.lt Nat _ (L' + 1 + 1 + 1) aT) ∧ (@LT.lt Nat _ (L' + 1 + 1) aT) ∧ (@LT.lt Nat _ (L' + 1) aT) ∧ AllLt aT tl)
    (htl : OwnOff tl [I, ad, ao, L' + 1 + 1 + 1 + 1, L' + 1 + 1 + 1, L' + 1 + 1, L' + 1])
    (hI : (@Ne Nat ad I) ∧ (@Ne Nat ao I) ∧ (@Ne Nat (L' + 1 + 1 + 1 + 1) I) ∧ (@Ne Nat (L' + 1 + 1 + 1) I) ∧ (@Ne Nat (L' + 1 + 1) I) ∧ (@Ne Nat (L' + 1) I)) :
    JPost h₀ L' I oI (J2 L' n t h o ao ad ov nn NM T H O od (i + 1)) s₁ Q .next { s₁ with heap := h', toks := tk } := by
  obtain ⟨_, _, l3, l4, l5, l6, l7, l8, l9, _⟩ := hl
  rw [List.push_toArray] at N
  obtain ⟨i1, i2, i3, i4, i5, i6⟩ := hI
  refine jpost_next (nx := (ad, listOf (dv ++ [Value.ref aT]).toArray (nd + 1)) :: (ao, listOf ov.toArray nn) :: (L' + 1 + 1 + 1 + 1, q1) :: (L' + 1 + 1 + 1, q2) :: (L' + 1 + 1, q3) :: (L' + 1, q4) :: (aT, ({ cls := .type "tuple", data := .seq #[.str nm t1, .int a t2, .int b t3, .int d t4, .int e t5] k } : Obj)) :: tl) F (fun p hp => N p ?_) (fun p hp => ?_) ?_
  · simp only [List.mem_cons] at hp ⊢
    rcases hp with h | h | h | h | h | h | h | h | h
    · exact .inr (.inr (.inr (.inl h)))
    · exact .inr (.inr (.inr (.inr (.inl h))))
    · exact .inr (.inr (.inr (.inr (.inr (.inl h)))))
    · exact .inr (.inr (.inr (.inr (.inr (.inr (.inl h))))))
    · exact .inr (.inr (.inr (.inr (.inr (.inr (.inr (.inl h)))))))
    · exact .inr (.inr (.inr (.inr (.inr (.inr (.inr (.inr (.inl h))))))))
    · exact .inr (.inr (.inr (.inr (.inr (.inr (.inr (.inr (.inr (.inl h)))))))))
    · exact .inl h
    · exact .inr (.inr (.inr (.inr (.inr (.inr (.inr (.inr (.inr (.inr h)))))))))
  · simp only [List.mem_cons] at hp
    rcases hp with rfl | rfl | rfl | rfl | rfl | rfl | rfl | hp
    · exact i1
    · exact i2
    · exact i3
    · exact i4
    · exact i5
    · exact i6
    · exact Nat.ne_of_gt l3
    · exact htl p hp _ (.head _)
  · refine ⟨hm, dv ++ [Value.ref aT], nd + 1, c, q1, q2, q3, q4, _, rfl, ⟨e1, e2, e3, e4⟩, fun p hp b' hb => ?_, ?_⟩
    · rcases List.mem_cons.mp hp with rfl | hp
      · simp only [List.mem_cons, List.not_mem_nil, or_false] at hb
        rcases hb with rfl | rfl | rfl | rfl | rfl | rfl
        · exact Nat.ne_of_gt l4
        · exact Nat.ne_of_gt l5
        · exact Nat.ne_of_gt l6
        · exact Nat.ne_of_gt l7
        · exact Nat.ne_of_gt l8
        · exact Nat.ne_of_gt l9
      · exact htl p hp b' (.tail _ hb)
    · rw [List.take_add_one, hp, List.map_append]
      refine Paired.snoc (paired_mono (fun a b x => x.mono fun p hp => .tail _ hp) hrow) ?_
      show IsRow _ (dueRow NM T H O p) _
      rw [← hr]
      exact ⟨aT, t1, t2, t3, t4, t5, k, rfl, .head _⟩
local macro_rules | `(tactic| walk_at "call builtin:len") => `(tactic| (
   (with_reducible show wpAny _ _ (call (Value.builtin "len") [Value.ref _]) _ _ _);
   (rename News _ _ _ _ => hNx);
   refine kst_len hNx (by k_dflt k_mem) rfl (by omega) ?_))
set_option maxHeartbeats 4000000 in
theorem due_spec : ∀ (w : World) (n t h o : Addr) (nv tv hv ov : List Value) (NM : List Str) (T H O : List Int), Spec w 186 [.ref n, .ref t, .ref h, .ref o]
   (fun hp => hp.IsList n nv.toArray ∧ hp.IsList t tv.toArray ∧ hp.IsList h hv.toArray ∧ hp.IsList o ov.toArray ∧ StrsAre nv NM ∧ IntsAre tv T ∧ IntsAre hv H ∧ IntsAre ov O ∧ NM.length = 5 ∧ T.length = 5 ∧ H.length = 5 ∧ O.length = 5 ∧ (∀ x ∈ T, 0 ≤ x ∧ x < 5) ∧ (∀ x ∈ H, 0 ≤ x ∧ x < 5))
   (fun v tl => ∃ (ad : Addr) (dv : List Value) (nd : Nat), v = .ref ad ∧ (ad, listOf dv.toArray nd) ∈ tl ∧ Paired (IsRow tl) ((ordF T H 10).map (dueRow NM T H O)) dv) := by
  refine eps13 (by (repeat' (refine neP ?_ ?_)) <;> (first | exact neW | exact neS | exact neA | exact inferInstance)) ?_
  (try dsimp only)
  generalize eps _ _ = zz
  generalize Prod.fst zz = w
  generalize Prod.fst (Prod.snd zz) = n
  generalize Prod.fst (Prod.snd (Prod.snd zz)) = t
  generalize Prod.fst (Prod.snd (Prod.snd (Prod.snd zz))) = h
  generalize Prod.fst (Prod.snd (Prod.snd (Prod.snd (Prod.snd zz)))) = o
  generalize Prod.fst (Prod.snd (Prod.snd (Prod.snd (Prod.snd (Prod.snd zz))))) = nv
  generalize Prod.fst (Prod.snd (Prod.snd (Prod.snd (Prod.snd (Prod.snd (Prod.snd zz)))))) = tv
  generalize Prod.fst (Prod.snd (Prod.snd (Prod.snd (Prod.snd (Prod.snd (Prod.snd (Prod.snd zz))))))) = hv
  generalize Prod.fst (Prod.snd (Prod.snd (Prod.snd (Prod.snd (Prod.snd (Prod.snd (Prod.snd (Prod.snd zz)))))))) = ov
  generalize Prod.fst (Prod.snd (Prod.snd (Prod.snd (Prod.snd (Prod.snd (Prod.snd (Prod.snd (Prod.snd (Prod.snd zz))))))))) = NM
  generalize Prod.fst (Prod.snd (Prod.snd (Prod.snd (Prod.snd (Prod.snd (Prod.snd (Prod.snd (Prod.snd (Prod.snd (Prod.snd zz)))))))))) = T
  generalize Prod.fst (Prod.snd (Prod.snd (Prod.snd (Prod.snd (Prod.snd (Prod.snd (Prod.snd (Prod.snd (Prod.snd (Prod.snd (Prod.snd zz))))))))))) = H
  generalize Prod.snd (Prod.snd (Prod.snd (Prod.snd (Prod.snd (Prod.snd (Prod.snd (Prod.snd (Prod.snd (Prod.snd (Prod.snd (Prod.snd zz))))))))))) = O
  clear zz
  unfold Spec PRG LSE
  k_fill
  refine eps20 (by (repeat' (refine neP ?_ ?_)) <;> (first | exact neW | exact neS | exact neA | exact inferInstance)) ?_
  (try dsimp only)
  generalize eps _ _ = zz
  generalize Prod.fst zz = dp
  generalize Prod.fst (Prod.snd zz) = un
  generalize Prod.fst (Prod.snd (Prod.snd zz)) = gd
  generalize Prod.fst (Prod.snd (Prod.snd (Prod.snd zz))) = cn
  generalize Prod.fst (Prod.snd (Prod.snd (Prod.snd (Prod.snd zz)))) = cs
  generalize Prod.fst (Prod.snd (Prod.snd (Prod.snd (Prod.snd (Prod.snd zz))))) = a
  generalize Prod.fst (Prod.snd (Prod.snd (Prod.snd (Prod.snd (Prod.snd (Prod.snd zz)))))) = ccd
  generalize Prod.fst (Prod.snd (Prod.snd (Prod.snd (Prod.snd (Prod.snd (Prod.snd (Prod.snd zz))))))) = cl
  generalize Prod.fst (Prod.snd (Prod.snd (Prod.snd (Prod.snd (Prod.snd (Prod.snd (Prod.snd (Prod.snd zz)))))))) = outer
  generalize Prod.fst (Prod.snd (Prod.snd (Prod.snd (Prod.snd (Prod.snd (Prod.snd (Prod.snd (Prod.snd (Prod.snd zz))))))))) = A₀
  generalize Prod.fst (Prod.snd (Prod.snd (Prod.snd (Prod.snd (Prod.snd (Prod.snd (Prod.snd (Prod.snd (Prod.snd (Prod.snd zz)))))))))) = base
  generalize Prod.fst (Prod.snd (Prod.snd (Prod.snd (Prod.snd (Prod.snd (Prod.snd (Prod.snd (Prod.snd (Prod.snd (Prod.snd (Prod.snd zz))))))))))) = h₀
  generalize Prod.fst (Prod.snd (Prod.snd (Prod.snd (Prod.snd (Prod.snd (Prod.snd (Prod.snd (Prod.snd (Prod.snd (Prod.snd (Prod.snd (Prod.snd zz)))))))))))) = L
  generalize Prod.fst (Prod.snd (Prod.snd (Prod.snd (Prod.snd (Prod.snd (Prod.snd (Prod.snd (Prod.snd (Prod.snd (Prod.snd (Prod.snd (Prod.snd (Prod.snd zz))))))))))))) = m
  generalize Prod.fst (Prod.snd (Prod.snd (Prod.snd (Prod.snd (Prod.snd (Prod.snd (Prod.snd (Prod.snd (Prod.snd (Prod.snd (Prod.snd (Prod.snd (Prod.snd (Prod.snd zz)))))))))))))) = mg
  generalize Prod.fst (Prod.snd (Prod.snd (Prod.snd (Prod.snd (Prod.snd (Prod.snd (Prod.snd (Prod.snd (Prod.snd (Prod.snd (Prod.snd (Prod.snd (Prod.snd (Prod.snd (Prod.snd zz))))))))))))))) = mb
  generalize Prod.fst (Prod.snd (Prod.snd (Prod.snd (Prod.snd (Prod.snd (Prod.snd (Prod.snd (Prod.snd (Prod.snd (Prod.snd (Prod.snd (Prod.snd (Prod.snd (Prod.snd (Prod.snd (Prod.snd zz)))))))))))))))) = mean
  generalize Prod.fst (Prod.snd (Prod.snd (Prod.snd (Prod.snd (Prod.snd (Prod.snd (Prod.snd (Prod.snd (Prod.snd (Prod.snd (Prod.snd (Prod.snd (Prod.snd (Prod.snd (Prod.snd (Prod.snd (Prod.snd zz))))))))))))))))) = s
  generalize Prod.fst (Prod.snd (Prod.snd (Prod.snd (Prod.snd (Prod.snd (Prod.snd (Prod.snd (Prod.snd (Prod.snd (Prod.snd (Prod.snd (Prod.snd (Prod.snd (Prod.snd (Prod.snd (Prod.snd (Prod.snd (Prod.snd zz)))))))))))))))))) = Q
  generalize Prod.snd (Prod.snd (Prod.snd (Prod.snd (Prod.snd (Prod.snd (Prod.snd (Prod.snd (Prod.snd (Prod.snd (Prod.snd (Prod.snd (Prod.snd (Prod.snd (Prod.snd (Prod.snd (Prod.snd (Prod.snd (Prod.snd zz)))))))))))))))))) = E
  clear zz
  intro B F X TT hk hd hu hpre hret
  obtain ⟨hn, ht, hh, ho, hni, hti, hhi, hoi, hnl, htl, hhl, hol, htb, hhb⟩ := hpre
  refine wpAny_call ?_
  k_dflt (refine' code_def0C (binds := [(Str.ofString "names", .ref n), (Str.ofString "tails", .ref t), (Str.ofString "heads", .ref h), (Str.ofString "hours", .ref o)]) ?k1 ?k2 ?k3 ?k5 ?kA ?kF ?kK ?k6 ?k7 ?k8 ?k9 ?kB ?kD ?_ ?c2 ?c3 ?c4; (case kA => exact rfl); (case kF => exact rfl); (case kK => assumption); (case k1 => k_asm); (case k2 => k_asm); (case k3 => k_asm); (case k5 => k_asm); (case k6 => k_is); (case k7 => k_is); (case k8 => ktr_room); (case k9 => exact BindsTo.of_eq rfl); (case kB => rfl); (case kD => decide); (case c2 => exact rfl); (case c3 => exact rfl); (case c4 => exact rfl); k_whole; (refine eps4 (by (repeat' (refine neP ?_ ?_)) <;> (first | exact neW | exact neS | exact neA | exact inferInstance)) ?_); (try dsimp only); (generalize eps _ _ = zz); (generalize Prod.fst zz = L'); (generalize Prod.fst (Prod.snd zz) = h'); (generalize Prod.fst (Prod.snd (Prod.snd zz)) = tk'); (generalize Prod.snd (Prod.snd (Prod.snd zz)) = cells); (clear zz); intro F' N' Y' B' X' T')
  have hY := CellsAre.four Y'
  clear Y'
  obtain ⟨o1, o2, o3, o4, rfl, d1, d2, d3, d4⟩ := hY
  replace d1 : o1.data = .cell none := d1
  replace d2 : o2.data = .cell (some (.ref o)) := d2
  replace d3 : o3.data = .cell (some (.ref h)) := d3
  replace d4 : o4.data = .cell (some (.ref t)) := d4
  have F0 : Fr s.heap L' h' (fun y => if y = Str.ofString "names" then some (.ref n) else none) := F'
  clear F'
  (try dsimp only)
  (try k_fold)
  walk_at "my"
  refine For_J (h₀ := s.heap) (by rfl) ⟨_, _, rfl⟩ ?_
  walk_at "my"
  rename_i ao x2 x3 x4 aS ws x5 F1 N1 hws hl
  refine ⟨_, _, _, _, _, J1 L' n t h o aS ao ws T H, .list (.inr ⟨_, .head _, rfl, _, rfl⟩), F1, N1, ?_, ?_, ?_, ?_⟩
  · exact ⟨by walk_at "known", [], _, none, _, _, _, _, rfl, ⟨d1, d2, d3, d4⟩, .nil⟩
  · rintro i m nx ⟨_, ov, nn, c, q1, q2, q3, q4, rfl, _⟩
    exact .inr ⟨_, .head _, rfl, _, rfl⟩
  · clear F1 N1 d1 d2 d3 d4
    rintro i v m₁ nx I h1 tk1 oI hi hP ⟨hm, ov, nn, c, q1, q2, q3, q4, rfl, ⟨e1, e2, e3, e4⟩, hov⟩ F2 N2 off
    obtain ⟨p, tk2, rfl, hp⟩ := IntsAre.at hws i v (by simpa using hP)
    have F3 : Fr s.heap L' h1 (fun z => if z = Str.ofString "order" then some (.ref ao) else if z = Str.ofString "names" then some (.ref n) else m₁ z) := fr_known _ F2 hm
    have N3 : News s.heap L' h1 [(I, oI), (aS, listOf ws.toArray 0), (ao, listOf ov.toArray nn), (L' + 1 + 1 + 1 + 1, q1), (L' + 1 + 1 + 1, q2), (L' + 1 + 1, q3), (L' + 1, q4)] := N2
    have hI1 : (@Ne Nat aS I) ∧ (@Ne Nat ao I) ∧ (@Ne Nat (L' + 1 + 1 + 1 + 1) I) ∧ (@Ne Nat (L' + 1 + 1 + 1) I) ∧ (@Ne Nat (L' + 1 + 1) I) ∧ (@Ne Nat (L' + 1) I) := by
      simpa using off
    clear F2 N2
    have hi10 : i < 10 := by have : ws.toArray.size = 10 := by rw [List.size_toArray, hws.length, List.length_append, htl, hhl]
                             omega
    have hol := ordF_len T H i
    have hovl := hov.length
    (try dsimp only)
    (try k_fold)
    walk_at "my"
    · rename Fr _ _ _ _ => Fe
      rename News _ _ _ _ => Ne
      exact j1_end Fe Ne (by walk_at "known") ⟨ov, nn, rfl, by rw [ordF_succ hp, addO_yes (by assumption)]; exact hov⟩ (by assumption) e2 e3 e4 hI1
    · rename Fr _ _ _ _ => Fe
      rename News _ _ _ _ => Ne
      exact j1_end Fe Ne (by walk_at "known") ⟨ov ++ [.int p tk2], nn + 1, by rw [List.push_toArray], by rw [ordF_succ hp, addO_no (by assumption)]; exact IntsAre.append hov (.cons p tk2 .nil)⟩ (by assumption) e2 e3 e4 hI1
  clear F1 N1 d1 d2 d3 d4
  rintro m₁ nx h1 tk1 ⟨hm, ov, nn, c, q1, q2, q3, q4, rfl, ⟨e1, e2, e3, e4⟩, hov⟩ F2 N2
  have hsz : ws.toArray.size = 10 := by rw [List.size_toArray, hws.length, List.length_append, htl, hhl]
  rw [hsz] at hov
  have F3 : Fr s.heap L' h1 (fun z => if z = Str.ofString "order" then some (.ref ao) else if z = Str.ofString "names" then some (.ref n) else m₁ z) := fr_known _ F2 hm
  have N3 : News s.heap L' h1 [(ao, listOf ov.toArray nn), (L' + 1 + 1 + 1 + 1, q1), (L' + 1 + 1 + 1, q2), (L' + 1 + 1, q3), (L' + 1, q4)] := fun p hp => N2 p (.tail _ hp)
  clear F2 N2
  have hod := ordF_in htb hhb 10
  have hol := ordF_len T H 10
  have hovl := hov.length
  generalize hodE : ordF T H 10 = od at hov hod hol hovl
  have hla : (@LT.lt Nat _ (L' + 1 + 1 + 1 + 1) ao) := x3.1
  clear hws hl hsz
  (try dsimp only)
  (try k_fold)
  walk_at "my"
  refine For_J (h₀ := s.heap) (by rfl) ⟨_, _, rfl⟩ ?_
  walk_at "my"
  rename_i ad y2 hla2 y4 F1 N1
  refine ⟨_, _, _, _, _, J2 L' n t h o ao ad ov nn NM T H O od, .list (.inr ⟨_, .tail _ (.head _), rfl, _, rfl⟩), F1, N1, ?_, ?_, ?_, ?_⟩
  · exact ⟨by walk_at "known", [], 0, c, q1, q2, q3, q4, [], rfl, ⟨e1, e2, e3, e4⟩, (fun _ h => nomatch h), .nil⟩
  · rintro i m nx ⟨_, dv, nd, c, q1, q2, q3, q4, tl, rfl, _⟩
    exact .inr ⟨_, .tail _ (.head _), rfl, _, rfl⟩
  · clear F1 N1 e1 e2 e3 e4
    rintro i v m₁ nx I h1 tk1 oI hi hP ⟨hm, dv, nd, c, q1, q2, q3, q4, tl, rfl, ⟨e1, e2, e3, e4⟩, htl2, hrow⟩ F2 N2 off
    obtain ⟨p, tk2, rfl, hp⟩ := IntsAre.at hov i v (by simpa using hP)
    have F3 : Fr s.heap L' h1 (fun z => if z = Str.ofString "due" then some (.ref ad) else if z = Str.ofString "names" then some (.ref n) else m₁ z) := fr_known _ F2 hm
    have N3 : News s.heap L' h1 ((I, oI) :: (ad, listOf dv.toArray nd) :: (ao, listOf ov.toArray nn) :: (L' + 1 + 1 + 1 + 1, q1) :: (L' + 1 + 1 + 1, q2) :: (L' + 1 + 1, q3) :: (L' + 1, q4) :: tl) := N2
    have hI1 : (@Ne Nat ad I) ∧ (@Ne Nat ao I) ∧ (@Ne Nat (L' + 1 + 1 + 1 + 1) I) ∧ (@Ne Nat (L' + 1 + 1 + 1) I) ∧ (@Ne Nat (L' + 1 + 1) I) ∧ (@Ne Nat (L' + 1) I) :=
      ⟨off _ (.head _), off _ (.tail _ (.head _)), off _ (.tail _ (.tail _ (.head _))), off _ (.tail _ (.tail _ (.tail _ (.head _)))), off _ (.tail _ (.tail _ (.tail _ (.tail _ (.head _))))), off _ (.tail _ (.tail _ (.tail _ (.tail _ (.tail _ (.head _))))))⟩
    have htlI : OwnOff tl [I, ad, ao, L' + 1 + 1 + 1 + 1, L' + 1 + 1 + 1, L' + 1 + 1, L' + 1] := fun q hq b hb => by
      rcases List.mem_cons.mp hb with rfl | hb
      · exact off _ (.tail _ (.tail _ (.tail _ (.tail _ (.tail _ (.tail _ hq))))))
      · exact htl2 q hq b hb
    clear F2 N2 htl2 off
    have hi10 : i < 10 := by have : ov.toArray.size ≤ 10 := by rw [List.size_toArray, hovl]; exact hol
                             omega
    have hdv : dv.length ≤ 10 := by
      have := hrow.length
      simp only [List.length_map, List.length_take] at this
      omega
    have hpb := hod p (List.mem_of_getElem? hp)
    (try dsimp only)
    (try k_fold)
    walk_at "my"
    k_dflt (refine LCt.Assign_ListComp_T (F₀ := by k_asm) (by rfl) (by with_unfolding_all rfl) (by with_unfolding_all rfl) (by decide) (by rfl) (by decide) (by rfl) (by rfl) (by rfl) ?_)
    walk_at "my"
    rename Fr _ _ _ _ => F4
    rename News _ _ _ _ => N4
    rename IsRange _ _ _ _ _ _ _ _ => R4
    refine LCt.CompSrcT.range (by rfl) F4 N4 R4 (by decide) (by rfl) (by exact Nat.le_of_ble_eq_true rfl) ?_
    intro gA
    refine kci_range (pickW O H p) ?turnA ?finA ?growA
    case growA => intro a k; unfold pickW; split <;> simp
    case turnA =>
      intro k t5 I5 oI5 C5 oC5 D5 m5 ys l5 h5 tk5 E5 hk0 hk5 hl5 hC5 hx5 F5 N5 off5 ne5 mk5
      clear F4 N4 R4
      replace hk5 : k < 5 := by simpa using hk5
      (try k_fold)
      walk_at "my"
      · exact ci_end F5 N5 (fun _ h => h) off5 trivial (pickW_yes (by assumption))
      · exact ci_no F5 N5 (fun _ h => h) off5 trivial (pickW_no (by assumption))
    intro ysA hysA hleA DA hA tkA FA NA offA
    clear F4 N4 R4
    have hneA := offA
    simp only [LCg.Off1, and_true] at hneA
    replace hleA : ysA.length ≤ 5 := hleA
    (try dsimp only)
    (try k_fold)
    walk_at "my"
    k_dflt (refine LCt.Assign_ListComp_T (F₀ := by k_asm) (by rfl) (by with_unfolding_all rfl) (by with_unfolding_all rfl) (by decide) (by rfl) (by decide) (by rfl) (by rfl) (by rfl) ?_)
    walk_at "my"
    rename Fr _ _ _ _ => F4
    rename News _ _ _ _ => N4
    rename IsRange _ _ _ _ _ _ _ _ => R4
    refine LCt.CompSrcT.range (by rfl) F4 N4 R4 (by decide) (by rfl) (by exact Nat.le_of_ble_eq_true rfl) ?_
    intro gB
    refine kci_range (pickW O T p) ?turnB ?finB ?growB
    case growB => intro a k; unfold pickW; split <;> simp
    case turnB =>
      intro k t5 I5 oI5 C5 oC5 D5 m5 ys l5 h5 tk5 E5 hk0 hk5 hl5 hC5 hx5 F5 N5 off5 ne5 mk5
      clear F4 N4 R4
      replace hk5 : k < 5 := by simpa using hk5
      (try k_fold)
      walk_at "my"
      · exact ci_end F5 N5 (fun _ h => h) off5 trivial (pickW_yes (by assumption))
      · exact ci_no F5 N5 (fun _ h => h) off5 trivial (pickW_no (by assumption))
    intro ysB hysB hleB DB hB tkB FB NB offB
    clear F4 N4 R4
    have hneB := offB
    simp only [LCg.Off1, and_true] at hneB
    replace hleB : ysB.length ≤ 5 := hleB
    (try dsimp only)
    (try k_fold)
    walk_at "my"
    rename Fr _ _ _ _ => Fe
    rename News _ _ _ _ => Ne
    refine j2_end Fe Ne (by walk_at "known") ?_ hp hrow (by assumption) e2 e3 e4 (by assumption) htlI hI1
    unfold dueRow wentF
    rw [hysA.length, hysB.length]
  clear F1 N1 e1 e2 e3 e4
  rintro m₁ nx h1 tk1 ⟨hm, dv, nd, c, q1, q2, q3, q4, tl, rfl, ⟨e1, e2, e3, e4⟩, htl2, hrow⟩ F2 N2
  have hsz : ov.toArray.size = od.length := by rw [List.size_toArray, hovl]
  rw [hsz, List.take_length] at hrow
  have F3 : Fr s.heap L' h1 (fun z => if z = Str.ofString "due" then some (.ref ad) else m₁ z) := fr_known [(Str.ofString "due", _)] F2 (List.forall_mem_cons.mpr ⟨hm _ (.head _), fun _ hp => nomatch hp⟩)
  have N3 := N2
  clear F2 N2
  (try dsimp only)
  (try k_fold)
  walk_at "my"
  rename Fr _ _ _ _ => Fe
  rename News _ _ _ _ => Ne
  refine leaveF_ Fe Ne fun hst hnw => ?_
  exact hret _ _ _ _ hst hnw ⟨ad, dv, nd, rfl, .head _, by rw [hodE]; exact paired_mono (fun a b x => x.mono fun p hp => .tail _ (.tail _ (.tail _ (.tail _ (.tail _ (.tail _ hp)))))) hrow⟩
end
section
local macro_rules | `(tactic| k_all) => `(tactic| exact NeAll.at (by assumption) (by intro p hp; k_ownIn))
local macro_rules | `(tactic| walk_at "call ref") => `(tactic| (k_dflt
  (refine' call_cls ?k1 ?k2 ?k3 ?k4 ?k5 ?k6 ?_; (case k1 => k_asm); (case k2 => k_asm); (case k3 => k_asm); (case k4 => k_is); (case k5 => k_is); (case k6 => k_is); k_whole; intro x' d' h' F' N' l1 l2; (have l3 := neAll_of l1 l2); (have l4 := neAll_lt l1); (try k_lt l1); (try k_lt2 l2); (try k_sweep); (refine' code_def ?k1 ?k2 ?k3 ?k4 ?k5 ?kA ?kF ?kK ?k6 ?k7 ?k8 ?k9 ?kB ?_ ?c2 ?c3 ?c4 ?c5; (case kA => exact rfl); (case kF => exact rfl); (case kK => first | exact rfl | assumption); (case k1 => k_asm); (case k2 => k_asm); (case k3 => k_asm); (case k4 => k_asm); (case k5 => k_asm); (case k6 => k_is); (case k7 => k_is); (case k8 => ktr_room); (case k9 => exact BindsTo.of_eq rfl); (case c5 => decide); (case kB => exact locs rfl); (case c2 => exact rfl); (case c3 => exact rfl); (case c4 => exact rfl); k_whole; intro g' L' h' FG' F' N' B' X' T'; (try dsimp only); (try k_fold)))))
section

open LCg
def sizF (Ks : List Str) (O : List Int) (i : Nat) : List (Str × Int) := ((Ks.zip O).take i).foldl (fun c p => kdpPut c p.1 (kdpLook c p.1 0 + p.2)) []
def cntF (Ks : List Str) (O : List Int) (i : Nat) : List (Str × Int) := ((Ks.zip O).take i).foldl (fun c p => kdpPut c p.1 (kdpLook c p.1 0 + 1)) []
theorem sizF_succ {Ks : List Str} {O : List Int} {i : Nat} {k : Str} {n : Int} (h1 : Ks[i]? = some k) (h2 : O[i]? = some n) : sizF Ks O (i + 1) = kdpPut (sizF Ks O i) k (kdpLook (sizF Ks O i) k 0 + n) := by
  have h : (Ks.zip O)[i]? = some (k, n) := by rw [List.getElem?_zip_eq_some]; exact ⟨h1, h2⟩
  unfold sizF
  rw [List.take_add_one, h, List.foldl_append]
  rfl
theorem cntF_succ {Ks : List Str} {O : List Int} {i : Nat} {k : Str} {n : Int} (h1 : Ks[i]? = some k) (h2 : O[i]? = some n) : cntF Ks O (i + 1) = kdpPut (cntF Ks O i) k (kdpLook (cntF Ks O i) k 0 + 1) := by
  have h : (Ks.zip O)[i]? = some (k, n) := by rw [List.getElem?_zip_eq_some]; exact ⟨h1, h2⟩
  unfold cntF
  rw [List.take_add_one, h, List.foldl_append]
  rfl
theorem sizF_len (Ks : List Str) (O : List Int) (i : Nat) : (sizF Ks O i).length ≤ i := by
  unfold sizF
  have : ∀ (l : List (Str × Int)) (a : List (Str × Int)), (l.foldl (fun c p => kdpPut c p.1 (kdpLook c p.1 0 + p.2)) a).length ≤ a.length + l.length := by
    intro l
    induction l with
    | nil => intro a; simp
    | cons x r ih => intro a; have := ih (kdpPut a x.1 (kdpLook a x.1 0 + x.2)); have := kdpPut_len a x.1 (kdpLook a x.1 0 + x.2); simp only [List.foldl_cons, List.length_cons]; omega
  have h := this ((Ks.zip O).take i) []
  simp only [List.length_nil, List.length_take] at h
  omega
theorem cntF_len (Ks : List Str) (O : List Int) (i : Nat) : (cntF Ks O i).length ≤ i := by
  unfold cntF
  have : ∀ (l : List (Str × Int)) (a : List (Str × Int)), (l.foldl (fun c p => kdpPut c p.1 (kdpLook c p.1 0 + 1)) a).length ≤ a.length + l.length := by
    intro l
    induction l with
    | nil => intro a; simp
    | cons x r ih => intro a; have := ih (kdpPut a x.1 (kdpLook a x.1 0 + 1)); have := kdpPut_len a x.1 (kdpLook a x.1 0 + 1); simp only [List.foldl_cons, List.length_cons]; omega
  have h := this ((Ks.zip O).take i) []
  simp only [List.length_nil, List.length_take] at h
  omega
def JB (prog : Program) (w : World) (L' aC aS : Addr) (q1 q2 : Obj) (Ks : List Str) (O : List Int) (i : Nat) (_m : Str → Option Value) (nx : List (Addr × Obj)) : Prop :=
  ∃ (oc os : Obj) (kc ks : List (Str × Value)), nx = [(aC, oc), (aS, os), (L' + 1 + 1, q1), (L' + 1, q2)] ∧ oc.IsDictOf (strKind prog w) kc ∧ PyProof.V.FlatPairs PyData.str kc (kdpD (cntF Ks O i)) ∧ os.IsDictOf (strKind prog w) ks ∧ PyProof.V.FlatPairs PyData.str ks (kdpD (sizF Ks O i))
theorem strs_get : ∀ {vs : List Value} {ns : List Str} {i : Nat}, StrsAre vs ns → i < ns.length → ∃ K t, vs[i]? = some (.str K t) ∧ ns[i]? = some K
  | _, _, 0, .cons k t _, _ => ⟨k, t, rfl, rfl⟩
  | _, _, i + 1, .cons _ _ h, hi => strs_get (i := i) h (Nat.lt_of_succ_lt_succ hi)
theorem ints_get : ∀ {vs : List Value} {ns : List Int} {i : Nat}, IntsAre vs ns → i < ns.length → ∃ K t, vs[i]? = some (.int K t) ∧ ns[i]? = some K
  | _, _, 0, .cons k t _, _ => ⟨k, t, rfl, rfl⟩
  | _, _, i + 1, .cons _ _ h, hi => ints_get (i := i) h (Nat.lt_of_succ_lt_succ hi)
theorem jb_end {w : World} {L' aC aS I : Addr} {q1 q2 : Obj} {Ks : List Str} {O : List Int} {i tk : Nat} {m' : Str → Option Value} {h₀ h' : Heap} {oz oT oO oI1 oI2 oc os : Obj} {kc ks : List (Str × Value)} {K : Str} {Z : Int} {s₁ : Shared} {Q : Flow → Shared → Prop}
    (F : Fr h₀ L' h' m') (N : News h₀ L' h' [(I + 4, oz), (I + 2, oT), (I + 3, oO), (I, oI1), (I + 1, oI2), (aC, oc), (aS, os), (L' + 1 + 1, q1), (L' + 1, q2)])
    (hK : Ks[i]? = some K) (hZ : O[i]? = some Z)
    (hc1 : oc.IsDictOf (strKind PRG w) kc) (hc2 : PyProof.V.FlatPairs PyData.str kc (kdpD (kdpPut (cntF Ks O i) K (kdpLook (cntF Ks O i) K 0 + 1)))) (hs1 : os.IsDictOf (strKind PRG w) ks) (hs2 : PyProof.V.FlatPairs PyData.str ks (kdpD (kdpPut (sizF Ks O i) K (kdpLook (sizF Ks O i) K 0 + Z))))
    (hI : (@LT.lt Nat _ aC I) ∧ (@LT.lt Nat _ aS I) ∧ (@LT.lt Nat _ (L' + 1 + 1) I) ∧ (@LT.lt Nat _ (L' + 1) I)) :
    UnrPostW h₀ L' s₁ [(I + 4, oz), (I + 2, oT), (I + 3, oO), (I, oI1), (I + 1, oI2)] (fun m' n' => JB PRG w L' aC aS q1 q2 Ks O (i + 1) m' n') Q .next { s₁ with heap := h', toks := tk } := by
  refine ⟨h', tk, m', [(aC, oc), (aS, os), (L' + 1 + 1, q1), (L' + 1, q2)], rfl, F, N, fun p hp q hq => ?_, oc, os, kc, ks, rfl, hc1, ?_, hs1, ?_⟩
  · have hp' : @LT.lt Nat _ p.1 I := by
      simp only [List.mem_cons, List.not_mem_nil, or_false] at hp
      rcases hp with rfl | rfl | rfl | rfl
      · exact hI.1
      · exact hI.2.1
      · exact hI.2.2.1
      · exact hI.2.2.2
    have hq' : @LE.le Nat _ I q.1 := by
      simp only [List.mem_cons, List.not_mem_nil, or_false] at hq
      rcases hq with rfl | rfl | rfl | rfl | rfl
      · exact Nat.le_add_right _ _
      · exact Nat.le_add_right _ _
      · exact Nat.le_add_right _ _
      · exact Nat.le_refl _
      · exact Nat.le_add_right _ _
    exact Nat.ne_of_lt (Nat.lt_of_lt_of_le hp' hq')
  · rw [cntF_succ hK hZ]; exact hc2
  · rw [sizF_succ hK hZ]; exact hs2
local macro_rules | `(tactic| walk_at "call builtin:dict.get") => `(tactic| (k_dflt (refine kdp_get2 (by k_tabat) ?_); intro _))
local macro_rules | `(tactic| walk_at "setItem ref str") => `(tactic| (k_dflt (refine' kdp_setItem ?F ?N ?U ?d ?f ?z ?_; (case F => k_asm); (case N => k_asm); (case U => k_updF); (case d => k_asm); (case f => k_asm); (case z => omega)); intro h' o' kvs' F' N' hd' hf'; (try dsimp only at N'); (try k_sweep)))
theorem key_str {prog : Program} {w : World} {k : Str} {v : Value} (h : (strKind prog w).is k v = true) : ∃ t, v = .str k t := by
  have h1 := kdl_flat_str h
  exact PyProof.V.Flat.str_inv h1
theorem flat_at {kvs : List (Str × Value)} {c : List (Str × Int)} (hf : PyProof.V.FlatPairs PyData.str kvs (kdpD c)) {j : Nat} {k : Str} {v : Value} (hx : kvs[j]? = some (k, v)) : ∃ n, c[j]? = some (k, n) := by
  obtain ⟨dv, hd, _⟩ := hf.at hx
  have hd' : (c[j]?).map (fun p => (PyData.str p.1, PyData.int p.2)) = some (PyData.str k, dv) := by rw [← List.getElem?_map]; exact hd
  cases hcj : c[j]? with
  | none => rw [hcj] at hd'; cases hd'
  | some p =>
    rw [hcj] at hd'
    have e1 : PyData.str p.1 = PyData.str k := congrArg Prod.fst (Option.some.inj hd')
    cases e1
    exact ⟨p.2, rfl⟩
theorem put_keys (c : List (Str × Int)) (k : Str) (v : Int) : (kdpPut c k v).map (·.1) = if k ∈ c.map (·.1) then c.map (·.1) else c.map (·.1) ++ [k] := by
  unfold kdpPut
  by_cases h : (c.any fun p => decide (p.1 = k)) = true
  · have hm : k ∈ c.map (·.1) := by
      obtain ⟨p, hp, e⟩ := List.any_eq_true.mp h
      exact List.mem_map.mpr ⟨p, hp, of_decide_eq_true e⟩
    rw [if_pos h, if_pos hm, List.map_map]
    refine List.map_congr_left fun p _ => ?_
    show (if decide (p.1 = k) = true then (p.1, v) else p).1 = p.1
    split <;> rfl
  · have hm : ¬ k ∈ c.map (·.1) := fun hm => h (by
      obtain ⟨p, hp, e⟩ := List.mem_map.mp hm
      exact List.any_eq_true.mpr ⟨p, hp, decide_eq_true e⟩)
    rw [if_neg h, if_neg hm, List.map_append]; rfl
theorem keys_eq (l : List (Str × Int)) : ∀ a b : List (Str × Int), a.map (·.1) = b.map (·.1) →
    (l.foldl (fun c p => kdpPut c p.1 (kdpLook c p.1 0 + p.2)) a).map (·.1) = (l.foldl (fun c p => kdpPut c p.1 (kdpLook c p.1 0 + 1)) b).map (·.1) := by
  induction l with
  | nil => intro a b h; exact h
  | cons p r ih => intro a b h; exact ih _ _ (by rw [put_keys, put_keys, h])
theorem keys_same (Ks : List Str) (O : List Int) (i : Nat) : (sizF Ks O i).map (·.1) = (cntF Ks O i).map (·.1) := keys_eq _ [] [] rfl
theorem has_of {c : List (Str × Int)} {k : Str} (h : k ∈ c.map (·.1)) : kdpHas c k = true := by
  obtain ⟨p, hp, e⟩ := List.mem_map.mp h
  exact List.any_eq_true.mpr ⟨p, hp, decide_eq_true e⟩
local macro_rules | `(tactic| walk_at "subscriptTail") => `(tactic| (
  (with_reducible show wpAny _ _ (subscriptTail _ _ (Value.ref _) (Value.str _ _)) _ _ _);
  k_dflt (refine kdp_item (by k_tabat) (by assumption) ?_); intro _))
abbrev statObj (dx : Addr) (nm : Str) (sz ct : Int) (t1 t2 t3 : Tok) : Obj := { cls := .ref 89, dict := some dx, slots := #[some (.int ct t1), some (.int sz t2), some (.str nm t3)] }
def IsStat (tl : List (Addr × Obj)) (nm : Str) (sz ct : Int) (v : Value) : Prop := ∃ (a dx : Addr) (t1 t2 t3 : Tok), v = .ref a ∧ (a, statObj dx nm sz ct t1 t2 t3) ∈ tl ∧ (dx, dictOf [] 0) ∈ tl
def StatE (tl : List (Addr × Obj)) (cnt : List (Str × Int)) (p : Str × Int) (e : Str × Value) : Prop := e.1 = p.1 ∧ IsStat tl p.1 p.2 (kdpLook cnt p.1 0) e.2
theorem StatE.mono {tl tl' : List (Addr × Obj)} {cnt : List (Str × Int)} {p : Str × Int} {e : Str × Value} (x : StatE tl cnt p e) (h : ∀ q ∈ tl, q ∈ tl') : StatE tl' cnt p e := by
  obtain ⟨e1, a, dx, t1, t2, t3, e2, m1, m2⟩ := x
  exact ⟨e1, a, dx, t1, t2, t3, e2, h _ m1, h _ m2⟩
theorem paired_keys {tl : List (Addr × Obj)} {cnt : List (Str × Int)} : ∀ {l : List (Str × Int)} {es : List (Str × Value)}, Paired (StatE tl cnt) l es → es.map (·.1) = l.map (·.1)
  | _, _, .nil => rfl
  | _, _, .cons a r => by rw [List.map_cons, List.map_cons, paired_keys r, a.1]
theorem nodup_sizF (Ks : List Str) (O : List Int) (i : Nat) : ((sizF Ks O i).map (·.1)).Nodup := by
  unfold sizF
  have : ∀ (l a : List (Str × Int)), (a.map (·.1)).Nodup → ((l.foldl (fun c p => kdpPut c p.1 (kdpLook c p.1 0 + p.2)) a).map (·.1)).Nodup := by
    intro l
    induction l with
    | nil => intro a h; exact h
    | cons p r ih =>
      intro a h
      refine ih _ ?_
      rw [put_keys]
      split
      · exact h
      · rename_i hn
        refine List.nodup_append.mpr ⟨h, by simp, fun x hx y hy => ?_⟩
        rw [List.mem_singleton.mp hy]
        rintro rfl
        exact hn hx
  exact this _ [] List.nodup_nil
theorem stored_new {es : List (Str × Value)} {k : Str} {v : Value} (h : k ∉ es.map (·.1)) : stored es k v = es ++ [(k, v)] := by
  unfold stored
  rw [if_neg]
  intro h2
  obtain ⟨p, hp, e⟩ := List.any_eq_true.mp h2
  exact h (List.mem_map.mpr ⟨p, hp, of_decide_eq_true e⟩)
def JS (L' aC aS : Addr) (oc os q1 q2 : Obj) (siz cnt : List (Str × Int)) (i : Nat) (es : List (Str × Value)) (nx : List (Addr × Obj)) : Prop :=
  ∃ tl : List (Addr × Obj), nx = (aC, oc) :: (aS, os) :: (L' + 1 + 1, q1) :: (L' + 1, q2) :: tl ∧ OwnOff tl [aC, aS, L' + 1 + 1, L' + 1] ∧ Paired (StatE tl cnt) (siz.take i) es
theorem js_end {w : World} {L' aC aS I C D dx x : Addr} {m' : Str → Option Value} {h₀ h' : Heap} {oI oC oD oc os q1 q2 : Obj} {siz cnt : List (Str × Int)} {i tk : Nat} {es : List (Str × Value)} {tl : List (Addr × Obj)} {k : Str} {n : Int} {t1 t2 t3 tK : Tok} {s₁ : Shared}
    (F : Fr h₀ L' h' m') (N : News h₀ L' h' ((x, statObj dx k (kdpLook siz k 0) (kdpLook cnt k 0) t1 t2 t3) :: (dx, dictOf [] 0) :: (I, oI) :: (C, oC) :: (D, oD) :: (aC, oc) :: (aS, os) :: (L' + 1 + 1, q1) :: (L' + 1, q2) :: tl))
    (hl : (@LT.lt Nat _ I dx) ∧ (@LT.lt Nat _ C dx) ∧ (@LT.lt Nat _ D dx) ∧ (@LT.lt Nat _ aC dx) ∧ (@LT.lt Nat _ aS dx) ∧ (@LT.lt Nat _ (L' + 1 + 1) dx) ∧ (@LT.lt Nat _ (L' + 1) dx) ∧ AllLt dx tl) (hx : @LT.lt Nat _ dx x)
    (off : Off3 I C D ((aC, oc) :: (aS, os) :: (L' + 1 + 1, q1) :: (L' + 1, q2) :: tl)) (htl : OwnOff tl [aC, aS, L' + 1 + 1, L' + 1]) (hst : Paired (StatE tl cnt) (siz.take i) es)
    (hn : siz[i]? = some (k, n)) (hnd : (siz.map (·.1)).Nodup) (hv : n = kdpLook siz k 0) (hkey : (strKind PRG w).is k (.str k tK) = true) :
    DcEnd PRG w h₀ L' m' s₁ I oI C oC D oD (JS L' aC aS oc os q1 q2 siz cnt (i + 1)) es (.str k tK) (.ref x) { s₁ with heap := h', toks := tk } := by
  obtain ⟨l1, l2, l3, l4, l5, l6, l7, _⟩ := hl
  have hI : @LT.lt Nat _ I x := Nat.lt_trans l1 hx
  have hC : @LT.lt Nat _ C x := Nat.lt_trans l2 hx
  have hD : @LT.lt Nat _ D x := Nat.lt_trans l3 hx
  obtain ⟨o1, o2, o3, o4, o5⟩ := off
  refine ⟨h', tk, k, (aC, oc) :: (aS, os) :: (L' + 1 + 1, q1) :: (L' + 1, q2) :: (x, statObj dx k (kdpLook siz k 0) (kdpLook cnt k 0) t1 t2 t3) :: (dx, dictOf [] 0) :: tl, rfl, F, fun p hp => N p ?_, ⟨o1, o2, o3, o4, ⟨Nat.ne_of_gt hI, Nat.ne_of_gt hC, Nat.ne_of_gt hD⟩, ⟨Nat.ne_of_gt l1, Nat.ne_of_gt l2, Nat.ne_of_gt l3⟩, o5⟩, hkey, _, rfl, ?_, ?_⟩
  · simp only [List.mem_cons] at hp ⊢
    rcases hp with h | h | h | h | h | h | h | h | h | h
    · exact .inr (.inr (.inl h))
    · exact .inr (.inr (.inr (.inl h)))
    · exact .inr (.inr (.inr (.inr (.inl h))))
    · exact .inr (.inr (.inr (.inr (.inr (.inl h)))))
    · exact .inr (.inr (.inr (.inr (.inr (.inr (.inl h))))))
    · exact .inr (.inr (.inr (.inr (.inr (.inr (.inr (.inl h)))))))
    · exact .inr (.inr (.inr (.inr (.inr (.inr (.inr (.inr (.inl h))))))))
    · exact .inl h
    · exact .inr (.inl h)
    · exact .inr (.inr (.inr (.inr (.inr (.inr (.inr (.inr (.inr h))))))))
  · intro p hp b hb
    rcases List.mem_cons.mp hp with rfl | hp
    · simp only [List.mem_cons, List.not_mem_nil, or_false] at hb
      rcases hb with rfl | rfl | rfl | rfl
      · exact Nat.ne_of_gt (Nat.lt_trans l4 hx)
      · exact Nat.ne_of_gt (Nat.lt_trans l5 hx)
      · exact Nat.ne_of_gt (Nat.lt_trans l6 hx)
      · exact Nat.ne_of_gt (Nat.lt_trans l7 hx)
    · rcases List.mem_cons.mp hp with rfl | hp
      · simp only [List.mem_cons, List.not_mem_nil, or_false] at hb
        rcases hb with rfl | rfl | rfl | rfl
        · exact Nat.ne_of_gt l4
        · exact Nat.ne_of_gt l5
        · exact Nat.ne_of_gt l6
        · exact Nat.ne_of_gt l7
      · exact htl p hp b hb
  · have hnew : k ∉ es.map (·.1) := by
      rw [paired_keys hst, List.map_take]
      intro hm
      obtain ⟨j, hj⟩ := List.mem_iff_getElem?.mp hm
      have hk1 : (siz.map (·.1))[i]? = some k := by rw [List.getElem?_map, hn]; rfl
      have hji : j < i := by
        have := (List.getElem?_eq_some_iff.mp hj).1
        rw [List.length_take] at this; omega
      rw [List.getElem?_take_of_lt hji] at hj
      obtain ⟨a1, a2⟩ := List.getElem?_eq_some_iff.mp hj
      obtain ⟨b1, b2⟩ := List.getElem?_eq_some_iff.mp hk1
      exact List.pairwise_iff_getElem.mp hnd j i a1 b1 hji (a2.trans b2.symm)
    rw [stored_new hnew, List.take_add_one, hn]
    refine Paired.snoc (paired_mono (fun a b x => x.mono fun q hq => .tail _ (.tail _ hq)) hst) ⟨rfl, x, dx, t1, t2, t3, rfl, ?_, .tail _ (.head _)⟩
    rw [← hv]
    subst hv
    exact .head _
theorem look_of {c : List (Str × Int)} (hnd : (c.map (·.1)).Nodup) {i : Nat} {k : Str} {n : Int} (h : c[i]? = some (k, n)) : n = kdpLook c k 0 := by
  induction c generalizing i with
  | nil => cases h
  | cons p r ih =>
    rw [List.map_cons, List.nodup_cons] at hnd
    unfold kdpLook
    rw [List.find?_cons]
    cases i with
    | zero =>
      have e : p = (k, n) := Option.some.inj h
      subst e
      simp
    | succ i =>
      have h' : r[i]? = some (k, n) := h
      have hne : p.1 ≠ k := fun e => hnd.1 (e ▸ List.mem_map.mpr ⟨_, List.mem_of_getElem? h', rfl⟩)
      rw [decide_eq_false hne]
      exact ih hnd.2 h'
set_option maxHeartbeats 4000000 in
theorem book_spec : ∀ (w : World) (k o : Addr) (kv ov : List Value) (Ks : List Str) (O : List Int), Spec w 174 [.ref k, .ref o]
   (fun hp => hp.IsList k kv.toArray ∧ hp.IsList o ov.toArray ∧ StrsAre kv Ks ∧ IntsAre ov O ∧ Ks.length = 5 ∧ O.length = 5)
   (fun v tl => ∃ (D : Addr) (oD : Obj) (es : List (Str × Value)), v = .ref D ∧ (D, oD) ∈ tl ∧ oD.IsDictOf (strKind PRG w) es ∧ (D == sysModules) = false ∧ Paired (StatE tl (cntF Ks O 5)) (sizF Ks O 5) es) := by
  refine eps7 (by (repeat' (refine neP ?_ ?_)) <;> (first | exact neW | exact neS | exact neA | exact inferInstance)) ?_
  (try dsimp only)
  generalize eps _ _ = zz
  generalize Prod.fst zz = w
  generalize Prod.fst (Prod.snd zz) = k
  generalize Prod.fst (Prod.snd (Prod.snd zz)) = o
  generalize Prod.fst (Prod.snd (Prod.snd (Prod.snd zz))) = kv
  generalize Prod.fst (Prod.snd (Prod.snd (Prod.snd (Prod.snd zz)))) = ov
  generalize Prod.fst (Prod.snd (Prod.snd (Prod.snd (Prod.snd (Prod.snd zz))))) = Ks
  generalize Prod.snd (Prod.snd (Prod.snd (Prod.snd (Prod.snd (Prod.snd zz))))) = O
  clear zz
  unfold Spec PRG LSE
  k_fill
  refine eps20 (by (repeat' (refine neP ?_ ?_)) <;> (first | exact neW | exact neS | exact neA | exact inferInstance)) ?_
  (try dsimp only)
  generalize eps _ _ = zz
  generalize Prod.fst zz = dp
  generalize Prod.fst (Prod.snd zz) = un
  generalize Prod.fst (Prod.snd (Prod.snd zz)) = gd
  generalize Prod.fst (Prod.snd (Prod.snd (Prod.snd zz))) = cn
  generalize Prod.fst (Prod.snd (Prod.snd (Prod.snd (Prod.snd zz)))) = cs
  generalize Prod.fst (Prod.snd (Prod.snd (Prod.snd (Prod.snd (Prod.snd zz))))) = a
  generalize Prod.fst (Prod.snd (Prod.snd (Prod.snd (Prod.snd (Prod.snd (Prod.snd zz)))))) = ccd
  generalize Prod.fst (Prod.snd (Prod.snd (Prod.snd (Prod.snd (Prod.snd (Prod.snd (Prod.snd zz))))))) = cl
  generalize Prod.fst (Prod.snd (Prod.snd (Prod.snd (Prod.snd (Prod.snd (Prod.snd (Prod.snd (Prod.snd zz)))))))) = outer
  generalize Prod.fst (Prod.snd (Prod.snd (Prod.snd (Prod.snd (Prod.snd (Prod.snd (Prod.snd (Prod.snd (Prod.snd zz))))))))) = A₀
  generalize Prod.fst (Prod.snd (Prod.snd (Prod.snd (Prod.snd (Prod.snd (Prod.snd (Prod.snd (Prod.snd (Prod.snd (Prod.snd zz)))))))))) = base
  generalize Prod.fst (Prod.snd (Prod.snd (Prod.snd (Prod.snd (Prod.snd (Prod.snd (Prod.snd (Prod.snd (Prod.snd (Prod.snd (Prod.snd zz))))))))))) = h₀
  generalize Prod.fst (Prod.snd (Prod.snd (Prod.snd (Prod.snd (Prod.snd (Prod.snd (Prod.snd (Prod.snd (Prod.snd (Prod.snd (Prod.snd (Prod.snd zz)))))))))))) = L
  generalize Prod.fst (Prod.snd (Prod.snd (Prod.snd (Prod.snd (Prod.snd (Prod.snd (Prod.snd (Prod.snd (Prod.snd (Prod.snd (Prod.snd (Prod.snd (Prod.snd zz))))))))))))) = m
  generalize Prod.fst (Prod.snd (Prod.snd (Prod.snd (Prod.snd (Prod.snd (Prod.snd (Prod.snd (Prod.snd (Prod.snd (Prod.snd (Prod.snd (Prod.snd (Prod.snd (Prod.snd zz)))))))))))))) = mg
  generalize Prod.fst (Prod.snd (Prod.snd (Prod.snd (Prod.snd (Prod.snd (Prod.snd (Prod.snd (Prod.snd (Prod.snd (Prod.snd (Prod.snd (Prod.snd (Prod.snd (Prod.snd (Prod.snd zz))))))))))))))) = mb
  generalize Prod.fst (Prod.snd (Prod.snd (Prod.snd (Prod.snd (Prod.snd (Prod.snd (Prod.snd (Prod.snd (Prod.snd (Prod.snd (Prod.snd (Prod.snd (Prod.snd (Prod.snd (Prod.snd (Prod.snd zz)))))))))))))))) = mean
  generalize Prod.fst (Prod.snd (Prod.snd (Prod.snd (Prod.snd (Prod.snd (Prod.snd (Prod.snd (Prod.snd (Prod.snd (Prod.snd (Prod.snd (Prod.snd (Prod.snd (Prod.snd (Prod.snd (Prod.snd (Prod.snd zz))))))))))))))))) = s
  generalize Prod.fst (Prod.snd (Prod.snd (Prod.snd (Prod.snd (Prod.snd (Prod.snd (Prod.snd (Prod.snd (Prod.snd (Prod.snd (Prod.snd (Prod.snd (Prod.snd (Prod.snd (Prod.snd (Prod.snd (Prod.snd (Prod.snd zz)))))))))))))))))) = Q
  generalize Prod.snd (Prod.snd (Prod.snd (Prod.snd (Prod.snd (Prod.snd (Prod.snd (Prod.snd (Prod.snd (Prod.snd (Prod.snd (Prod.snd (Prod.snd (Prod.snd (Prod.snd (Prod.snd (Prod.snd (Prod.snd (Prod.snd zz)))))))))))))))))) = E
  clear zz
  intro B F X TT hk hd hu hpre hret
  obtain ⟨hk1, ho, hki, hoi, hkl, hol⟩ := hpre
  refine wpAny_call ?_
  k_dflt (refine' code_def0C (binds := [(Str.ofString "keys", .ref k), (Str.ofString "hours", .ref o)]) ?k1 ?k2 ?k3 ?k5 ?kA ?kF ?kK ?k6 ?k7 ?k8 ?k9 ?kB ?kD ?_ ?c2 ?c3 ?c4; (case kA => exact rfl); (case kF => exact rfl); (case kK => assumption); (case k1 => k_asm); (case k2 => k_asm); (case k3 => k_asm); (case k5 => k_asm); (case k6 => k_is); (case k7 => k_is); (case k8 => ktr_room); (case k9 => exact BindsTo.of_eq rfl); (case kB => rfl); (case kD => decide); (case c2 => exact rfl); (case c3 => exact rfl); (case c4 => exact rfl); k_whole; (refine eps4 (by (repeat' (refine neP ?_ ?_)) <;> (first | exact neW | exact neS | exact neA | exact inferInstance)) ?_); (try dsimp only); (generalize eps _ _ = zz); (generalize Prod.fst zz = L'); (generalize Prod.fst (Prod.snd zz) = h'); (generalize Prod.fst (Prod.snd (Prod.snd zz)) = tk'); (generalize Prod.snd (Prod.snd (Prod.snd zz)) = cells); (clear zz); intro F' N' Y' B' X' T')
  have hY := CellsAre.two Y'
  clear Y'
  obtain ⟨o1, o2, rfl, d1, d2⟩ := hY
  replace d1 : o1.data = .cell none := d1
  replace d2 : o2.data = .cell none := d2
  have F0 : Fr s.heap L' h' (fun y => if y = Str.ofString "hours" then some (.ref o) else if y = Str.ofString "keys" then some (.ref k) else none) := F'
  clear F'
  (try dsimp only)
  (try k_fold)
  walk_at "my"
  rename Fr _ _ _ _ => F1
  refine For_turns F1 ?_
  walk_at "my"
  rename_i aS y1 oS loS hsS hfS y2 y3 hlS y4 qS eS aC y5 oC loC hsC hfC y6 y7 hlC y8 qC N2 eC
  refine zip_base (by rfl) F1 N2 hk1 ho ?_
  intro I hI
  refine itemsRest_inv (JB PRG w L' aC aS qC qS Ks O) ⟨oC, oS, [], [], rfl, hsC, hfC, hsS, hfS⟩ ?turn ?done
  case turn =>
    clear F1 N2 hsC hfC hsS hfS y2 y3 y6 y7
    intro i a m₁ nx v h1 tk1 hx ha hJ F3 oz hz oT hT oO hO oI1 hI1 oI2 hI2 N3
    obtain ⟨oc, os, kc, ks, rfl, hc1, hc2, hs1, hs2⟩ := hJ
    have hlx : i < 5 := by
      have h9 := (List.getElem?_eq_some_iff.mp hx).1
      rw [zipItems_length, hki.length, hoi.length] at h9
      omega
    obtain ⟨K, tK, hK1, hK2⟩ : ∃ K tK, kv[i]? = some (.str K tK) ∧ Ks[i]? = some K := strs_get hki (by omega)
    obtain ⟨Z, tZ, hZ1, hZ2⟩ : ∃ Z tZ, ov[i]? = some (.int Z tZ) ∧ O[i]? = some Z := ints_get hoi (by omega)
    rw [zipItems_get kv ov i hK1 hZ1] at hx
    cases hx
    obtain ⟨T, t9, rfl, hTup⟩ := ha
    dsimp only at hTup
    have N4 : News s.heap L' h1 [(I + 4, oz), (I + 2, oT), (I + 3, oO), (I, oI1), (I + 1, oI2), (aC, oc), (aS, os), (L' + 1 + 1, qC), (L' + 1, qS)] := N3
    clear N3
    have hI3 : (@LT.lt Nat _ aC I) ∧ (@LT.lt Nat _ aS I) ∧ (@LT.lt Nat _ (L' + 1 + 1) I) ∧ (@LT.lt Nat _ (L' + 1) I) := ⟨hI _ (.head _), hI _ (.tail _ (.head _)), hI _ (.tail _ (.tail _ (.head _))), hI _ (.tail _ (.tail _ (.tail _ (.head _))))⟩
    have hcl := cntF_len Ks O i
    have hsl := sizF_len Ks O i
    (try dsimp only)
    (try k_fold)
    walk_at "my"
    rename Fr _ _ _ _ => Fe
    rename News _ _ _ _ => Ne
    exact jb_end Fe Ne hK2 hZ2 (by assumption) (by assumption) (by assumption) (by assumption) hI3
  clear F1 N2 hsC hfC hsS hfS y2 y3 y6 y7
  intro m₁ nx h1 tk1 hJ F3 N3
  have hxl : (zipItems kv ov).length = 5 := by rw [zipItems_length, hki.length, hoi.length]; omega
  rw [hxl] at hJ
  obtain ⟨oc, os, kc, ks, rfl, hc1, hc2, hs1, hs2⟩ := hJ
  (try dsimp only)
  (try k_fold)
  walk_at "my"
  refine DictComp_J (h₀ := s.heap) (L := L') (m := m₁) (modules_low T'.nolimit) (by with_unfolding_all rfl) (by decide) (by rfl) (by decide) (by rfl) ?_
  walk_at "my"
  have F4 : Fr s.heap L' h1 m₁ := F3
  have N4 : News s.heap L' h1 [(aC, oc), (aS, os), (L' + 1 + 1, qC), (L' + 1, qS)] := N3
  clear F3 N3
  have hnd := nodup_sizF Ks O 5
  have hsl5 := sizF_len Ks O 5
  have hkl5 : ks.length = (sizF Ks O 5).length := hs2.length.symm.trans (by simp [kdpD])
  refine ⟨aS, os, ks, _, JS L' aC aS oc os qC qS (sizF Ks O 5) (cntF Ks O 5), rfl, by rfl, F4, N4, hs1, loS, ?_, ?_, ⟨[], rfl, (fun _ h => nomatch h), .nil⟩, ?_, ?_⟩
  · rw [hkl5]; exact Nat.le_trans hsl5 (Nat.le_of_ble_eq_true rfl)
  · rintro i es nx ⟨tl, rfl, _, hst⟩
    refine ⟨.tail _ (.head _), ?_⟩
    rw [← hst.length, List.length_take]
    exact Nat.min_le_left _ _
  · clear F4 N4
    intro i k1 xv key es nx I2 oI2 C2 oC2 D2 oD2 m2 h2 tk2 E2 hx hkey hJ hC2 hx2 F5 N5 hoD off2 ne2
    obtain ⟨tl, rfl, htl, hst⟩ := hJ
    obtain ⟨tK, rfl⟩ := key_str hkey
    obtain ⟨n1, hn1⟩ := flat_at hs2 hx
    have hmS : k1 ∈ (sizF Ks O 5).map (·.1) := List.mem_map.mpr ⟨_, List.mem_of_getElem? hn1, rfl⟩
    have hmC : k1 ∈ (cntF Ks O 5).map (·.1) := keys_same Ks O 5 ▸ hmS
    have hasS := has_of hmS
    have hasC := has_of hmC
    (try k_fold)
    walk_at "my"
    exact js_end (by assumption) (by assumption) (by assumption) (by assumption) off2 htl hst hn1 hnd (look_of hnd hn1) hkey
  · intro D1 oD1 es nx h2 tk2 hJ F5 N5 hoD offD loD
    obtain ⟨tl, rfl, htl, hst⟩ := hJ
    rw [hkl5, List.take_length] at hst
    (try dsimp only)
    (try k_fold)
    walk_at "my"
    refine leaveF_ F5 N5 fun hstay hnw => ?_
    exact hret _ _ _ _ hstay hnw ⟨D1, oD1, es, rfl, .head _, hoD, loD, paired_mono (fun a b x => x.mono fun q hq => .tail _ (.tail _ (.tail _ (.tail _ (.tail _ hq))))) hst⟩
end
section
open LCg
abbrev diffObj (dx : Addr) (r : Row5) (t1 t2 t3 t4 t5 : Tok) : Obj := { cls := .ref 148, dict := some dx, slots := #[some (.int r.c t1), some (.int r.d t2), some (.int r.a t3), some (.int r.b t4), some (.str r.nm t5)] }
def IsDiff (tl : List (Addr × Obj)) (r : Row5) (v : Value) : Prop := ∃ (a dx : Addr) (t1 t2 t3 t4 t5 : Tok), v = .ref a ∧ (a, diffObj dx r t1 t2 t3 t4 t5) ∈ tl ∧ (dx, dictOf [] 0) ∈ tl
theorem IsDiff.mono {tl tl' : List (Addr × Obj)} {r : Row5} {v : Value} (x : IsDiff tl r v) (h : ∀ p ∈ tl, p ∈ tl') : IsDiff tl' r v := let ⟨a, dx, t1, t2, t3, t4, t5, e, m1, m2⟩ := x; ⟨a, dx, t1, t2, t3, t4, t5, e, h _ m1, h _ m2⟩
/-- an entry of a book: name, size, count -/
abbrev Ent := Str × Int × Int
def StG (g : Heap) (p : Ent) (e : Str × Value) : Prop := e.1 = p.1 ∧ ∃ (a dx : Addr) (t1 t2 t3 : Tok), e.2 = .ref a ∧ g.get? a = some (statObj dx p.1 p.2.1 p.2.2 t1 t2 t3) ∧ g.get? dx = some (dictOf [] 0)
def StE (hid : List Addr) (g : Heap) (p : Ent) (e : Str × Value) : Prop := e.1 = p.1 ∧ ∃ (a dx : Addr) (t1 t2 t3 : Tok), e.2 = .ref a ∧ g.get? a = some (statObj dx p.1 p.2.1 p.2.2 t1 t2 t3) ∧ g.get? dx = some (dictOf [] 0) ∧ a ∉ hid ∧ dx ∉ hid
theorem StE.g {hid : List Addr} {h g : Heap} (k : ∀ b o, h.get? b = some o → b ∉ hid → g.get? b = some o) {p : Ent} {e : Str × Value} (x : StE hid h p e) : StG g p e := by
  obtain ⟨e1, a, dx, t1, t2, t3, e2, m1, m2, n1, n2⟩ := x
  exact ⟨e1, a, dx, t1, t2, t3, e2, k _ _ m1 n1, k _ _ m2 n2⟩
theorem stat_at {g h : Heap} {L a dx : Addr} {m : Str → Option Value} {k : Str} {z c : Int} {t1 t2 t3 : Tok} (F : Fr g L h m) (h1 : g.get? a = some (statObj dx k z c t1 t2 t3)) (h2 : g.get? dx = some (dictOf [] 0)) : InstAt h a (statObj dx k z c t1 t2 t3) 89 (some (dictOf [] 0)) := ⟨F.keep _ _ h1, rfl, rfl, F.keep _ _ h2⟩
def findE (O : List Ent) (k : Str) : Option (Int × Int) := (O.find? fun p => decide (p.1 = k)).map (·.2)
def cmpRow (O : List Ent) (p : Ent) : Row5 := match findE O p.1 with
  | some q => ⟨p.1, p.2.1, p.2.1 - q.1, p.2.2, p.2.2 - q.2⟩
  | none => ⟨p.1, p.2.1, p.2.1, p.2.2, p.2.2⟩
def goneRow (p : Ent) : Row5 := ⟨p.1, 0, - p.2.1, 0, - p.2.2⟩
def remL {α : Type} (l : List (Str × α)) (ks : List Str) : List (Str × α) := l.filter fun e => decide (e.1 ∉ ks)
def cmpF (O N : List Ent) : List Row5 := N.map (cmpRow O) ++ (remL O (N.map (·.1))).map goneRow
theorem without_rem (l : List (Str × Value)) (ks : List Str) (k : Str) : without (remL l ks) k = remL l (ks ++ [k]) := by
  unfold without remL
  rw [List.filter_filter]
  refine List.filter_congr fun e _ => ?_
  by_cases h1 : e.1 = k <;> by_cases h2 : e.1 ∈ ks <;> simp [h1, h2]
theorem rem_none {l : List (Str × Value)} {ks : List Str} {k : Str} (h : valueAt (remL l ks) k = none) : remL l ks = remL l (ks ++ [k]) := by
  rw [← without_rem, without_of_not_mem]
  intro hm
  obtain ⟨e, he, hk⟩ := List.mem_map.mp hm
  unfold valueAt at h
  rw [Option.map_eq_none_iff, List.find?_eq_none] at h
  exact h e he (by simpa using hk)
theorem value_rem {l : List (Str × Value)} {ks : List Str} {k : Str} (h : k ∉ ks) : valueAt (remL l ks) k = valueAt l k := by
  unfold valueAt remL
  rw [List.find?_filter]
  congr 2
  funext e
  by_cases h1 : e.1 = k <;> simp [h1, h]
theorem paired_find {g : Heap} {k : Str} : ∀ {O : List Ent} {es : List (Str × Value)}, Paired (StG g) O es → match findE O k, valueAt es k with
    | some q, some v => StG g (k, q) (k, v)
    | none, none => True
    | _, _ => False
  | _, _, .nil => trivial
  | p :: O, e :: es, .cons a r => by
    have ih := paired_find (k := k) r
    unfold findE valueAt
    rw [List.find?_cons, List.find?_cons, a.1]
    by_cases h : p.1 = k
    · simp only [h, decide_true, Option.map_some]
      have a' := a
      unfold StG at a' ⊢
      obtain ⟨e1, q⟩ := a'
      subst h
      exact ⟨rfl, q⟩
    · simp only [h, decide_false]
      exact ih
theorem find_some {g : Heap} {k : Str} {v : Value} {O : List Ent} {es : List (Str × Value)} (P : Paired (StG g) O es) (h : valueAt es k = some v) : ∃ q, findE O k = some q ∧ StG g (k, q) (k, v) := by
  have := paired_find (k := k) P
  rw [h] at this
  cases hq : findE O k with
  | none => rw [hq] at this; exact this.elim
  | some q => rw [hq] at this; exact ⟨q, rfl, this⟩
theorem find_none {g : Heap} {k : Str} {O : List Ent} {es : List (Str × Value)} (P : Paired (StG g) O es) (h : valueAt es k = none) : findE O k = none := by
  have := paired_find (k := k) P
  rw [h] at this
  cases hq : findE O k with
  | none => rfl
  | some q => rw [hq] at this; exact this.elim
theorem paired_get {α β : Type} {R : α → β → Prop} : ∀ {l : List α} {l' : List β} {i : Nat} {b : β}, Paired R l l' → l'[i]? = some b → ∃ a, l[i]? = some a ∧ R a b
  | _, _, 0, _, .cons a _, h => ⟨_, rfl, by cases h; exact a⟩
  | _, _, i + 1, _, .cons _ r, h => paired_get (i := i) r h
theorem paired_rem {g : Heap} {ks : List Str} : ∀ {O : List Ent} {es : List (Str × Value)}, Paired (StG g) O es → Paired (StG g) (remL O ks) (remL es ks)
  | _, _, .nil => .nil
  | p :: O, e :: es, .cons a r => by
    have ih := paired_rem (ks := ks) r
    unfold remL at ih ⊢
    rw [List.filter_cons, List.filter_cons, a.1]
    by_cases h : p.1 ∈ ks
    · simp only [h, not_true, decide_false, Bool.false_eq_true, if_false]; exact ih
    · simp only [h, not_false_eq_true, decide_true, if_true]; exact .cons a ih
theorem two_of_map {l : List (Addr × Obj)} {a b : Addr} (h : l.map (·.1) = [a, b]) : ∃ o1 o2, l = [(a, o1), (b, o2)] := by
  obtain ⟨p, r, rfl, rfl, h2⟩ := List.map_eq_cons_iff.mp h
  obtain ⟨q, r', rfl, rfl, h3⟩ := List.map_eq_cons_iff.mp h2
  rw [List.map_eq_nil_iff.mp h3]
  exact ⟨p.2, q.2, rfl⟩
theorem keys_g {g : Heap} : ∀ {O : List Ent} {es : List (Str × Value)}, Paired (StG g) O es → es.map (·.1) = O.map (·.1)
  | _, _, .nil => rfl
  | _, _, .cons a r => by rw [List.map_cons, List.map_cons, keys_g r, a.1]
theorem not_before {l : List (Str × Value)} (hn : (l.map (·.1)).Nodup) {i : Nat} {k : Str} {v : Value} (h : l[i]? = some (k, v)) : k ∉ (l.take i).map (·.1) := by
  intro hm
  rw [List.map_take] at hm
  obtain ⟨j, hj⟩ := List.mem_iff_getElem?.mp hm
  have hk1 : (l.map (·.1))[i]? = some k := by rw [List.getElem?_map, h]; rfl
  have hji : j < i := by
    have := (List.getElem?_eq_some_iff.mp hj).1
    rw [List.length_take] at this; omega
  rw [List.getElem?_take_of_lt hji] at hj
  obtain ⟨a1, a2⟩ := List.getElem?_eq_some_iff.mp hj
  obtain ⟨b1, b2⟩ := List.getElem?_eq_some_iff.mp hk1
  exact List.pairwise_iff_getElem.mp hn j i a1 b1 hji (a2.trans b2.symm)
theorem take_key {l : List (Str × Value)} {i : Nat} {k : Str} {v : Value} (h : l[i]? = some (k, v)) : (l.take (i + 1)).map (·.1) = (l.take i).map (·.1) ++ [k] := by
  rw [List.take_add_one, h, List.map_append]; rfl
theorem rem_len {α : Type} (l : List (Str × α)) (ks : List Str) : (remL l ks).length ≤ l.length := List.length_filter_le ..
def xsOf (es : List (Str × Value)) : List Itm := es.map fun p => Itm.pair (kyVal (PyData.str p.1)) p.2
theorem xs_get {es : List (Str × Value)} {i : Nat} {a : Itm} (h : (xsOf es)[i]? = some a) : ∃ k x, es[i]? = some (k, x) ∧ a = .pair (kyVal (PyData.str k)) x := by
  unfold xsOf at h
  rw [List.getElem?_map] at h
  cases he : es[i]? with
  | none => rw [he] at h; cases h
  | some p => rw [he] at h; cases h; exact ⟨p.1, p.2, rfl, rfl⟩
end
section

open LCg
local macro_rules | `(tactic| walk_at "call builtin:dict.pop") => `(tactic| (k_dflt (first
  | ((refine' pop_there ?F ?N ?U ?d ?v ?z ?_; (case F => k_asm); (case N => k_asm); (case U => k_updF); (case d => k_asm); (case v => assumption); (case z => assumption)); intro h' o' F' N' hd'; (try dsimp only at N'); (try k_sweep))
  | (refine' pop_none ?N ?p ?d ?l ?v ?_; (case N => k_asm); (case p => k_mem); (case d => k_asm); (case l => assumption); (case v => assumption)))))
local macro_rules | `(tactic| walk_at "getAttr ref") => `(tactic| (k_dflt (refine' get_slot ?k1 ?k2 (stat_at ?k3 ?h1 ?h2) ?k4 ?k5 ?k6 ?k7 ?k8 ?k9 ?k10 ?k11 ?_; (case h1 => assumption); (case h2 => assumption); (case k3 => k_asm); (case k1 => k_asm); (case k2 => k_asm); (case k4 => k_is); (case k5 => k_is); (case k6 => k_is); (case k7 => k_is); (case k8 => k_is); (case k9 => k_is); (case k10 => k_slotget); (case k11 => k_handed); k_whole)))
theorem fr_two {g h : Heap} {L : Addr} {a b : Str} {va vb : Value} (F : Fr g L h (fun y => List.lookup y [(a, va), (b, vb)].reverse)) : Fr g L h (fun y => if y = b then some vb else if y = a then some va else none) := by
  have e : (fun y => List.lookup y [(a, va), (b, vb)].reverse) = (fun y => if y = b then some vb else if y = a then some va else none) := by
    funext y
    show List.lookup y [(b, vb), (a, va)] = _
    by_cases h1 : y = b
    · simp [List.lookup, h1]
    · by_cases h2 : y = a
      · subst h2; simp [List.lookup, h1, beq_eq_false_iff_ne.mpr h1]
      · simp [List.lookup, h1, h2, beq_eq_false_iff_ne.mpr h1, beq_eq_false_iff_ne.mpr h2]
  rw [← e]; exact F
abbrev viewObj (d : Addr) : Obj := { cls := Value.type "dict_items", data := Data.fields #[Value.ref d] }
def JC (w : World) (I S vw D D2 : Addr) (o2 : Obj) (es1 es2 : List (Str × Value)) (O N : List Ent) (i : Nat) (m : Str → Option Value) (nx : List (Addr × Obj)) : Prop :=
  (∀ p ∈ [(Str.ofString "statistics", Value.ref S), (Str.ofString "old_group", Value.ref D)], m p.1 = some p.2) ∧ ∃ (oD : Obj) (sv : List Value) (ns : Nat) (tl : List (Addr × Obj)),
    nx = (vw, viewObj D2) :: (S, listOf sv.toArray ns) :: (D, oD) :: (D2, o2) :: tl ∧ oD.IsDictOf (strKind PRG w) (remL es1 ((es2.take i).map (·.1))) ∧ OwnOff tl [I, vw, S, D, D2] ∧ Paired (IsDiff tl) ((N.take i).map (cmpRow O)) sv
theorem jc_end {w : World} {L' I S vw D D2 dx x : Addr} {o2 oI oD : Obj} {es1 es2 : List (Str × Value)} {O N : List Ent} {i tk ns : Nat} {m' : Str → Option Value} {g h' : Heap} {sv : List Value} {tl : List (Addr × Obj)} {k : Str} {v : Value} {e : Ent} {r : Row5} {t1 t2 t3 t4 t5 : Tok} {s₁ : Shared} {Q : Flow → Shared → Prop}
    (F : Fr g L' h' m') (Nw : News g L' h' ((x, diffObj dx r t1 t2 t3 t4 t5) :: (dx, dictOf [] 0) :: (I, oI) :: (vw, viewObj D2) :: (S, listOf (sv.toArray.push (.ref x)) (ns + 1)) :: (D, oD) :: (D2, o2) :: tl))
    (hm : ∀ p ∈ [(Str.ofString "statistics", Value.ref S), (Str.ofString "old_group", Value.ref D)], m' p.1 = some p.2)
    (hl : (@LT.lt Nat _ I dx) ∧ (@LT.lt Nat _ vw dx) ∧ (@LT.lt Nat _ S dx) ∧ (@LT.lt Nat _ D dx) ∧ (@LT.lt Nat _ D2 dx) ∧ AllLt dx tl) (hx : @LT.lt Nat _ dx x)
    (htl : OwnOff tl [I, vw, S, D, D2]) (hst : Paired (IsDiff tl) ((N.take i).map (cmpRow O)) sv) (hN : N[i]? = some e) (hr : r = cmpRow O e) (hes : es2[i]? = some (k, v))
    (hoD : oD.IsDictOf (strKind PRG w) (remL es1 ((es2.take i).map (·.1) ++ [k])))
    (hI : (@LT.lt Nat _ vw I) ∧ (@LT.lt Nat _ S I) ∧ (@LT.lt Nat _ D I) ∧ (@LT.lt Nat _ D2 I)) :
    UnrPostW g L' s₁ [(I, oI)] (fun m' n' => JC w I S vw D D2 o2 es1 es2 O N (i + 1) m' n') Q .next { s₁ with heap := h', toks := tk } := by
  obtain ⟨l1, l2, l3, l4, l5, l6⟩ := hl
  obtain ⟨i1, i2, i3, i4⟩ := hI
  rw [List.push_toArray] at Nw
  refine ⟨h', tk, m', (vw, viewObj D2) :: (S, listOf (sv ++ [Value.ref x]).toArray (ns + 1)) :: (D, oD) :: (D2, o2) :: (x, diffObj dx r t1 t2 t3 t4 t5) :: (dx, dictOf [] 0) :: tl, rfl, F, fun p hp => Nw p ?_, ?_, hm, oD, sv ++ [.ref x], ns + 1, (x, diffObj dx r t1 t2 t3 t4 t5) :: (dx, dictOf [] 0) :: tl, rfl, ?_, ?_, ?_⟩
  · simp only [List.mem_append, List.mem_cons, List.not_mem_nil, or_false] at hp ⊢
    rcases hp with h | h | h | h | h | h | h | h
    · exact .inr (.inr (.inl h))
    · exact .inr (.inr (.inr (.inl h)))
    · exact .inr (.inr (.inr (.inr (.inl h))))
    · exact .inr (.inr (.inr (.inr (.inr (.inl h)))))
    · exact .inr (.inr (.inr (.inr (.inr (.inr (.inl h))))))
    · exact .inl h
    · exact .inr (.inl h)
    · exact .inr (.inr (.inr (.inr (.inr (.inr (.inr h))))))
  · intro p hp q hq
    rw [List.mem_singleton.mp hq]
    simp only [List.mem_cons] at hp
    rcases hp with rfl | rfl | rfl | rfl | rfl | rfl | hp
    · exact Nat.ne_of_lt i1
    · exact Nat.ne_of_lt i2
    · exact Nat.ne_of_lt i3
    · exact Nat.ne_of_lt i4
    · exact Nat.ne_of_gt (Nat.lt_trans l1 hx)
    · exact Nat.ne_of_gt l1
    · exact htl p hp I (.head _)
  · rw [take_key hes]; exact hoD
  · intro p hp b hb
    rcases List.mem_cons.mp hp with rfl | hp
    · simp only [List.mem_cons, List.not_mem_nil, or_false] at hb
      rcases hb with rfl | rfl | rfl | rfl | rfl
      · exact Nat.ne_of_gt (Nat.lt_trans l1 hx)
      · exact Nat.ne_of_gt (Nat.lt_trans l2 hx)
      · exact Nat.ne_of_gt (Nat.lt_trans l3 hx)
      · exact Nat.ne_of_gt (Nat.lt_trans l4 hx)
      · exact Nat.ne_of_gt (Nat.lt_trans l5 hx)
    · rcases List.mem_cons.mp hp with rfl | hp
      · simp only [List.mem_cons, List.not_mem_nil, or_false] at hb
        rcases hb with rfl | rfl | rfl | rfl | rfl
        · exact Nat.ne_of_gt l1
        · exact Nat.ne_of_gt l2
        · exact Nat.ne_of_gt l3
        · exact Nat.ne_of_gt l4
        · exact Nat.ne_of_gt l5
      · exact htl p hp b hb
  · rw [List.take_add_one, hN, List.map_append]
    refine Paired.snoc (paired_mono (fun a b y => y.mono fun q hq => .tail _ (.tail _ hq)) hst) ?_
    show IsDiff _ (cmpRow O e) _
    rw [← hr]
    exact ⟨x, dx, t1, t2, t3, t4, t5, rfl, .head _, .tail _ (.head _)⟩
theorem rem_nil {α : Type} (l : List (Str × α)) : remL l [] = l := by simp [remL]
def JG (I S vw2 vw D D2 : Addr) (oD o2 : Obj) (R0 : List Row5) (G : List Ent) (i : Nat) (m : Str → Option Value) (nx : List (Addr × Obj)) : Prop :=
  (∀ p ∈ [(Str.ofString "statistics", Value.ref S)], m p.1 = some p.2) ∧ ∃ (sv : List Value) (ns : Nat) (tl : List (Addr × Obj)),
    nx = (vw2, viewObj D) :: (vw, viewObj D2) :: (S, listOf sv.toArray ns) :: (D, oD) :: (D2, o2) :: tl ∧ OwnOff tl [I, S, D, D2] ∧ Paired (IsDiff tl) (R0 ++ (G.take i).map goneRow) sv
theorem jg_end {L' I S vw2 vw D D2 dx x : Addr} {o2 oI oD : Obj} {R0 : List Row5} {G : List Ent} {i tk ns : Nat} {m' : Str → Option Value} {g h' : Heap} {sv : List Value} {tl : List (Addr × Obj)} {e : Ent} {r : Row5} {t1 t2 t3 t4 t5 : Tok} {s₁ : Shared} {Q : Flow → Shared → Prop}
    (F : Fr g L' h' m') (Nw : News g L' h' ((x, diffObj dx r t1 t2 t3 t4 t5) :: (dx, dictOf [] 0) :: (I, oI) :: (vw2, viewObj D) :: (vw, viewObj D2) :: (S, listOf (sv.toArray.push (.ref x)) (ns + 1)) :: (D, oD) :: (D2, o2) :: tl))
    (hm : ∀ p ∈ [(Str.ofString "statistics", Value.ref S)], m' p.1 = some p.2)
    (hl : (@LT.lt Nat _ I dx) ∧ (@LT.lt Nat _ vw2 dx) ∧ (@LT.lt Nat _ vw dx) ∧ (@LT.lt Nat _ S dx) ∧ (@LT.lt Nat _ D dx) ∧ (@LT.lt Nat _ D2 dx) ∧ AllLt dx tl) (hx : @LT.lt Nat _ dx x)
    (htl : OwnOff tl [I, S, D, D2]) (hst : Paired (IsDiff tl) (R0 ++ (G.take i).map goneRow) sv) (hN : G[i]? = some e) (hr : r = goneRow e)
    (hI : (@LT.lt Nat _ vw2 I) ∧ (@LT.lt Nat _ vw I) ∧ (@LT.lt Nat _ S I) ∧ (@LT.lt Nat _ D I) ∧ (@LT.lt Nat _ D2 I)) :
    UnrPostW g L' s₁ [(I, oI)] (fun m' n' => JG I S vw2 vw D D2 oD o2 R0 G (i + 1) m' n') Q .next { s₁ with heap := h', toks := tk } := by
  obtain ⟨l1, l0, l2, l3, l4, l5, l6⟩ := hl
  obtain ⟨i0, i1, i2, i3, i4⟩ := hI
  rw [List.push_toArray] at Nw
  refine ⟨h', tk, m', (vw2, viewObj D) :: (vw, viewObj D2) :: (S, listOf (sv ++ [Value.ref x]).toArray (ns + 1)) :: (D, oD) :: (D2, o2) :: (x, diffObj dx r t1 t2 t3 t4 t5) :: (dx, dictOf [] 0) :: tl, rfl, F, fun p hp => Nw p ?_, ?_, hm, sv ++ [.ref x], ns + 1, (x, diffObj dx r t1 t2 t3 t4 t5) :: (dx, dictOf [] 0) :: tl, rfl, ?_, ?_⟩
  · simp only [List.mem_append, List.mem_cons, List.not_mem_nil, or_false] at hp ⊢
    rcases hp with h | h | h | h | h | h | h | h | h
    · exact .inr (.inr (.inl h))
    · exact .inr (.inr (.inr (.inl h)))
    · exact .inr (.inr (.inr (.inr (.inl h))))
    · exact .inr (.inr (.inr (.inr (.inr (.inl h)))))
    · exact .inr (.inr (.inr (.inr (.inr (.inr (.inl h))))))
    · exact .inr (.inr (.inr (.inr (.inr (.inr (.inr (.inl h)))))))
    · exact .inl h
    · exact .inr (.inl h)
    · exact .inr (.inr (.inr (.inr (.inr (.inr (.inr (.inr h)))))))
  · intro p hp q hq
    rw [List.mem_singleton.mp hq]
    simp only [List.mem_cons] at hp
    rcases hp with rfl | rfl | rfl | rfl | rfl | rfl | rfl | hp
    · exact Nat.ne_of_lt i0
    · exact Nat.ne_of_lt i1
    · exact Nat.ne_of_lt i2
    · exact Nat.ne_of_lt i3
    · exact Nat.ne_of_lt i4
    · exact Nat.ne_of_gt (Nat.lt_trans l1 hx)
    · exact Nat.ne_of_gt l1
    · exact htl p hp I (.head _)
  · intro p hp b hb
    rcases List.mem_cons.mp hp with rfl | hp
    · simp only [List.mem_cons, List.not_mem_nil, or_false] at hb
      rcases hb with rfl | rfl | rfl | rfl
      · exact Nat.ne_of_gt (Nat.lt_trans l1 hx)
      · exact Nat.ne_of_gt (Nat.lt_trans l3 hx)
      · exact Nat.ne_of_gt (Nat.lt_trans l4 hx)
      · exact Nat.ne_of_gt (Nat.lt_trans l5 hx)
    · rcases List.mem_cons.mp hp with rfl | hp
      · simp only [List.mem_cons, List.not_mem_nil, or_false] at hb
        rcases hb with rfl | rfl | rfl | rfl
        · exact Nat.ne_of_gt l1
        · exact Nat.ne_of_gt l3
        · exact Nat.ne_of_gt l4
        · exact Nat.ne_of_gt l5
      · exact htl p hp b hb
  · rw [List.take_add_one, hN, List.map_append, ← List.append_assoc]
    refine Paired.snoc (paired_mono (fun a b y => y.mono fun q hq => .tail _ (.tail _ hq)) hst) ?_
    show IsDiff _ (goneRow e) _
    rw [← hr]
    exact ⟨x, dx, t1, t2, t3, t4, t5, rfl, .head _, .tail _ (.head _)⟩
theorem cmp_none {O : List Ent} {k : Str} {sz ct : Int} (h : findE O k = none) : (⟨k, sz, sz, ct, ct⟩ : Row5) = cmpRow O (k, sz, ct) := by unfold cmpRow; rw [h]
theorem cmp_some {O : List Ent} {k : Str} {sz ct : Int} {q : Int × Int} (h : findE O k = some q) : (⟨k, sz, sz - q.1, ct, ct - q.2⟩ : Row5) = cmpRow O (k, sz, ct) := by unfold cmpRow; rw [h]
set_option maxHeartbeats 4000000 in
theorem cmp_spec : ∀ (w : World) (D D2 : Addr) (O N : List Ent), SpecM w 162 [.ref D, .ref D2] [D, D2]
   (fun hp => ∃ o1 o2 es1 es2, hp.get? D = some o1 ∧ o1.IsDictOf (strKind PRG w) es1 ∧ hp.get? D2 = some o2 ∧ o2.IsDictOf (strKind PRG w) es2 ∧ (D == sysModules) = false ∧ (D2 == sysModules) = false ∧ (@Ne Nat D D2) ∧
     Paired (StE [D, D2] hp) O es1 ∧ Paired (StE [D, D2] hp) N es2 ∧ (N.map (·.1)).Nodup ∧ O.length ≤ 5 ∧ N.length ≤ 5)
   (fun v tl => ∃ (S : Addr) (sv : List Value) (ns : Nat), v = .ref S ∧ (S, listOf sv.toArray ns) ∈ tl ∧ Paired (IsDiff tl) (cmpF O N) sv) := by
  refine eps5 (by (repeat' (refine neP ?_ ?_)) <;> (first | exact neW | exact neS | exact neA | exact inferInstance)) ?_
  (try dsimp only)
  generalize eps _ _ = zz
  generalize Prod.fst zz = w
  generalize Prod.fst (Prod.snd zz) = D
  generalize Prod.fst (Prod.snd (Prod.snd zz)) = D2
  generalize Prod.fst (Prod.snd (Prod.snd (Prod.snd zz))) = O
  generalize Prod.snd (Prod.snd (Prod.snd (Prod.snd zz))) = N
  clear zz
  unfold SpecM PRG LSE
  k_fill
  refine eps20 (by (repeat' (refine neP ?_ ?_)) <;> (first | exact neW | exact neS | exact neA | exact inferInstance)) ?_
  (try dsimp only)
  generalize eps _ _ = zz
  generalize Prod.fst zz = dp
  generalize Prod.fst (Prod.snd zz) = un
  generalize Prod.fst (Prod.snd (Prod.snd zz)) = gd
  generalize Prod.fst (Prod.snd (Prod.snd (Prod.snd zz))) = cn
  generalize Prod.fst (Prod.snd (Prod.snd (Prod.snd (Prod.snd zz)))) = cs
  generalize Prod.fst (Prod.snd (Prod.snd (Prod.snd (Prod.snd (Prod.snd zz))))) = a
  generalize Prod.fst (Prod.snd (Prod.snd (Prod.snd (Prod.snd (Prod.snd (Prod.snd zz)))))) = ccd
  generalize Prod.fst (Prod.snd (Prod.snd (Prod.snd (Prod.snd (Prod.snd (Prod.snd (Prod.snd zz))))))) = cl
  generalize Prod.fst (Prod.snd (Prod.snd (Prod.snd (Prod.snd (Prod.snd (Prod.snd (Prod.snd (Prod.snd zz)))))))) = outer
  generalize Prod.fst (Prod.snd (Prod.snd (Prod.snd (Prod.snd (Prod.snd (Prod.snd (Prod.snd (Prod.snd (Prod.snd zz))))))))) = A₀
  generalize Prod.fst (Prod.snd (Prod.snd (Prod.snd (Prod.snd (Prod.snd (Prod.snd (Prod.snd (Prod.snd (Prod.snd (Prod.snd zz)))))))))) = base
  generalize Prod.fst (Prod.snd (Prod.snd (Prod.snd (Prod.snd (Prod.snd (Prod.snd (Prod.snd (Prod.snd (Prod.snd (Prod.snd (Prod.snd zz))))))))))) = h₀
  generalize Prod.fst (Prod.snd (Prod.snd (Prod.snd (Prod.snd (Prod.snd (Prod.snd (Prod.snd (Prod.snd (Prod.snd (Prod.snd (Prod.snd (Prod.snd zz)))))))))))) = L
  generalize Prod.fst (Prod.snd (Prod.snd (Prod.snd (Prod.snd (Prod.snd (Prod.snd (Prod.snd (Prod.snd (Prod.snd (Prod.snd (Prod.snd (Prod.snd (Prod.snd zz))))))))))))) = m
  generalize Prod.fst (Prod.snd (Prod.snd (Prod.snd (Prod.snd (Prod.snd (Prod.snd (Prod.snd (Prod.snd (Prod.snd (Prod.snd (Prod.snd (Prod.snd (Prod.snd (Prod.snd zz)))))))))))))) = mg
  generalize Prod.fst (Prod.snd (Prod.snd (Prod.snd (Prod.snd (Prod.snd (Prod.snd (Prod.snd (Prod.snd (Prod.snd (Prod.snd (Prod.snd (Prod.snd (Prod.snd (Prod.snd (Prod.snd zz))))))))))))))) = mb
  generalize Prod.fst (Prod.snd (Prod.snd (Prod.snd (Prod.snd (Prod.snd (Prod.snd (Prod.snd (Prod.snd (Prod.snd (Prod.snd (Prod.snd (Prod.snd (Prod.snd (Prod.snd (Prod.snd (Prod.snd zz)))))))))))))))) = mean
  generalize Prod.fst (Prod.snd (Prod.snd (Prod.snd (Prod.snd (Prod.snd (Prod.snd (Prod.snd (Prod.snd (Prod.snd (Prod.snd (Prod.snd (Prod.snd (Prod.snd (Prod.snd (Prod.snd (Prod.snd (Prod.snd zz))))))))))))))))) = s
  generalize Prod.fst (Prod.snd (Prod.snd (Prod.snd (Prod.snd (Prod.snd (Prod.snd (Prod.snd (Prod.snd (Prod.snd (Prod.snd (Prod.snd (Prod.snd (Prod.snd (Prod.snd (Prod.snd (Prod.snd (Prod.snd (Prod.snd zz)))))))))))))))))) = Q
  generalize Prod.snd (Prod.snd (Prod.snd (Prod.snd (Prod.snd (Prod.snd (Prod.snd (Prod.snd (Prod.snd (Prod.snd (Prod.snd (Prod.snd (Prod.snd (Prod.snd (Prod.snd (Prod.snd (Prod.snd (Prod.snd (Prod.snd zz)))))))))))))))))) = E
  clear zz
  intro news B F NW hnw X TT hk hd hu hpre hret
  obtain ⟨o1, o2, es1, es2, hg1, hd1, hg2, hd2, loD, loD2, hne, hP1, hP2, hndN, hlO, hlN⟩ := hpre
  obtain ⟨o1', o2', rfl⟩ := two_of_map hnw
  have e1 := Option.some.inj ((NW _ (.head _)).1.symm.trans hg1)
  have e2 := Option.some.inj ((NW _ (.tail _ (.head _))).1.symm.trans hg2)
  dsimp only at e1 e2
  subst e1 e2
  refine wpAny_call ?_
  k_dflt (refine' code_def1 (binds := [(Str.ofString "old_group", .ref D), (Str.ofString "new_group", .ref D2)]) ?k1 ?k2 ?k3 NW ?k5 ?kA ?kF ?kK ?k6 ?k7 ?k8 ?k9 ?kB ?_ ?c2 ?c3 ?c4 ?c5; (case kA => exact rfl); (case kF => exact rfl); (case kK => assumption); (case k1 => k_asm); (case k2 => k_asm); (case k3 => k_asm); (case k5 => k_asm); (case k6 => k_is); (case k7 => k_is); (case k8 => ktr_room); (case k9 => exact BindsTo.of_eq rfl); (case c5 => decide); (case kB => exact locs rfl); (case c2 => exact rfl); (case c3 => exact rfl); (case c4 => exact rfl); k_whole; intro g L' h' hgg F' N' B' X' T'; (try dsimp only); (try k_fold))
  have hG1 : Paired (StG g) O es1 := paired_mono (fun _ _ x => x.g hgg) hP1
  have hG2 : Paired (StG g) N es2 := paired_mono (fun _ _ x => x.g hgg) hP2
  have F0 := fr_two F'
  clear F'
  walk_at "mz"
  rename Fr _ _ _ _ => F1
  refine For_turns F1 ?_
  walk_at "mz"
  rename Fr _ _ _ _ => F2
  rename News _ _ _ _ => N2
  rename_i S y1 lS y2 N0 vw y3 lV
  refine kta_items (knd := strKind PRG w) (enc := PyData.str) (xs := xsOf es2) (by rfl) F2 N2 ⟨_, (N2 _ (.head _)).1, rfl, rfl⟩ (.tail _ (.tail _ (.tail _ (.head _)))) hd2 (fun k v h => key_str h) rfl ?_
  intro I hI
  refine itemsRest_invK (JC w I S vw D D2 o2' es1 es2 O N) ?hK ?h0 ?turn ?done
  case hK => rintro i m nx ⟨_, oD, sv, ns, tl, rfl, _⟩; exact ⟨.tail _ (.tail _ (.tail _ (.head _))), trivial⟩
  case h0 => exact ⟨by walk_at "known", o1', [], 0, [], rfl, (rem_nil es1).symm ▸ hd1, (fun _ h => nomatch h), .nil⟩
  case turn =>
    clear F1 F2 N2 N0 hd1
    intro i a m₁ nx v h1 tk1 hx ha hJ F3 oI hoI N3
    obtain ⟨hm, oD, sv, ns, tl, rfl, hoD, htl, hst⟩ := hJ
    obtain ⟨k, x, hes, rfl⟩ := xs_get hx
    obtain ⟨⟨k', sz, ct⟩, hN, hS⟩ := paired_get hG2 hes
    obtain ⟨e1, ax, dxx, t1, t2, t3, e2, hax, hdx⟩ := hS
    dsimp only at e1 e2 hax
    subst e1 e2
    obtain ⟨T, t9, rfl, hTup⟩ := ha
    replace hTup : IsTup h1 T #[.str k t9, .ref ax] := hTup
    have F4 : Fr g L' h1 (fun z => if z = Str.ofString "statistics" then some (.ref S) else if z = Str.ofString "old_group" then some (.ref D) else m₁ z) := fr_known _ F3 hm
    have N4 : News g L' h1 ((I, oI) :: (vw, viewObj D2) :: (S, listOf sv.toArray ns) :: (D, oD) :: (D2, o2') :: tl) := N3
    clear F3 N3
    have hI1 : (@LT.lt Nat _ vw I) ∧ (@LT.lt Nat _ S I) ∧ (@LT.lt Nat _ D I) ∧ (@LT.lt Nat _ D2 I) := ⟨hI _ (.head _), hI _ (.tail _ (.head _)), hI _ (.tail _ (.tail _ (.head _))), hI _ (.tail _ (.tail _ (.tail _ (.head _))))⟩
    have hks := not_before (keys_g hG2 ▸ hndN) hes
    have hi5 : i < 5 := by have := (List.getElem?_eq_some_iff.mp hN).1; omega
    have hsv : sv.length ≤ 5 := by
      have := hst.length
      simp only [List.length_map, List.length_take] at this
      omega
    have hz : (remL es1 ((es2.take i).map (·.1))).length ≤ sizeLine := Nat.le_trans (Nat.le_trans (rem_len _ _) (by rw [← hG1.length]; exact hlO)) (Nat.le_of_ble_eq_true rfl)
    cases hv : valueAt (remL es1 ((es2.take i).map (·.1))) k with
    | none =>
      walk_at "mz"
      rename Fr _ _ _ _ => Fe
      rename News _ _ _ _ => Ne
      have hv' := hv
      rw [value_rem hks] at hv'
      exact jc_end (r := ⟨k, sz, sz, ct, ct⟩) Fe Ne (by walk_at "known") (by assumption) (by assumption) htl hst hN (cmp_none (find_none hG1 hv')) hes (by rw [← rem_none hv]; exact hoD) hI1
    | some v =>
      have hv' := hv
      rw [value_rem hks] at hv'
      obtain ⟨q, hq, hS1⟩ := find_some hG1 hv'
      obtain ⟨_, ap, dpp, u1, u2, u3, e3, hap, hdp⟩ := hS1
      dsimp only at e3 hap
      subst e3
      walk_at "mz"
      rename Fr _ _ _ _ => Fe
      rename News _ _ _ _ => Ne
      rename Obj.IsDictOf _ _ _ => hde
      rw [without_rem] at hde
      exact jc_end (r := ⟨k, sz, sz - q.1, ct, ct - q.2⟩) Fe Ne (by walk_at "known") (by assumption) (by assumption) htl hst hN (cmp_some hq) hes hde hI1
  clear F1 F2 N2 N0 hd1
  intro m₁ nx h1 tk1 hJ F3 N3
  obtain ⟨hm, oD, sv, ns, tl, rfl, hoD, htl, hst⟩ := hJ
  have hlx : (xsOf es2).length = N.length := (List.length_map ..).trans hG2.length.symm
  rw [hlx, List.take_length] at hst
  rw [hlx, hG2.length, List.take_length, keys_g hG2] at hoD
  have hGr := paired_rem (ks := N.map (·.1)) hG1
  have hlG : (remL O (N.map (·.1))).length ≤ 5 := Nat.le_trans (rem_len _ _) hlO
  generalize hE1 : remL es1 (N.map (·.1)) = er at hoD hGr
  generalize hE2 : remL O (N.map (·.1)) = G at hGr hlG
  have hsv0 : sv.length ≤ 5 := by
    have := hst.length
    simp only [List.length_map] at this
    omega
  have F4 : Fr g L' h1 (fun z => if z = Str.ofString "statistics" then some (.ref S) else if z = Str.ofString "old_group" then some (.ref D) else m₁ z) := fr_known _ F3 hm
  have N4 : News g L' h1 ((vw, viewObj D2) :: (S, listOf sv.toArray ns) :: (D, oD) :: (D2, o2') :: tl) := N3
  clear F3 N3
  have hSt : OwnOff tl [S, D, D2] := fun p hp b hb => by
    simp only [List.mem_cons, List.not_mem_nil, or_false] at hb
    rcases hb with rfl | rfl | rfl
    · exact htl p hp _ (.tail _ (.tail _ (.head _)))
    · exact htl p hp _ (.tail _ (.tail _ (.tail _ (.head _))))
    · exact htl p hp _ (.tail _ (.tail _ (.tail _ (.tail _ (.head _)))))
  clear htl
  walk_at "mz"
  rename Fr _ _ _ _ => F1
  refine For_turns F1 ?_
  walk_at "mz"
  rename Fr _ _ _ _ => F2
  rename News _ _ _ _ => N2
  (try dsimp only)
  rename_i vw2 y5 lW
  refine kta_items (knd := strKind PRG w) (enc := PyData.str) (xs := xsOf er) (by rfl) F2 N2 ⟨_, (N2 _ (.head _)).1, rfl, rfl⟩ (.tail _ (.tail _ (.tail _ (.head _)))) hoD (fun k v h => key_str h) rfl ?_
  intro I2 hI2
  refine itemsRest_invK (JG I2 S vw2 vw D D2 oD o2' (N.map (cmpRow O)) G) ?hK2 ?h02 ?turn2 ?done2
  case hK2 => rintro i m nx ⟨_, sv, ns, tl, rfl, _⟩; exact ⟨.tail _ (.tail _ (.tail _ (.head _))), trivial⟩
  case h02 =>
    refine ⟨by walk_at "known", sv, ns, tl, rfl, fun p hp b hb => ?_, ?_⟩
    · simp only [List.mem_cons, List.not_mem_nil, or_false] at hb
      rcases hb with rfl | rfl | rfl | rfl
      · exact Nat.ne_of_lt (hI2 p (.tail _ (.tail _ (.tail _ (.tail _ (.tail _ hp))))))
      · exact hSt p hp _ (.head _)
      · exact hSt p hp _ (.tail _ (.head _))
      · exact hSt p hp _ (.tail _ (.tail _ (.head _)))
    · rw [List.take_zero, List.map_nil, List.append_nil]; exact hst
  case turn2 =>
    clear F1 F2 N2 hst hSt hsv0
    intro i a m₁ nx v h1 tk1 hx ha hJ F3 oI hoI N3
    obtain ⟨hm, sv, ns, tl, rfl, htl, hst⟩ := hJ
    obtain ⟨k, x, hes, rfl⟩ := xs_get hx
    obtain ⟨⟨k', sz, ct⟩, hN, hS⟩ := paired_get hGr hes
    obtain ⟨e1, ax, dxx, t1, t2, t3, e2, hax, hdx⟩ := hS
    dsimp only at e1 e2 hax
    subst e1 e2
    obtain ⟨T, t9, rfl, hTup⟩ := ha
    replace hTup : IsTup h1 T #[.str k t9, .ref ax] := hTup
    have F4 : Fr g L' h1 (fun z => if z = Str.ofString "statistics" then some (.ref S) else m₁ z) := fr_known _ F3 hm
    have N4 : News g L' h1 ((I2, oI) :: (vw2, viewObj D) :: (vw, viewObj D2) :: (S, listOf sv.toArray ns) :: (D, oD) :: (D2, o2') :: tl) := N3
    clear F3 N3
    have hI1 : (@LT.lt Nat _ vw2 I2) ∧ (@LT.lt Nat _ vw I2) ∧ (@LT.lt Nat _ S I2) ∧ (@LT.lt Nat _ D I2) ∧ (@LT.lt Nat _ D2 I2) := ⟨hI2 _ (.head _), hI2 _ (.tail _ (.head _)), hI2 _ (.tail _ (.tail _ (.head _))), hI2 _ (.tail _ (.tail _ (.tail _ (.head _)))), hI2 _ (.tail _ (.tail _ (.tail _ (.tail _ (.head _)))))⟩
    have hi5 : i < 5 := by have := (List.getElem?_eq_some_iff.mp hN).1; omega
    have hsv : sv.length ≤ 10 := by
      have := hst.length
      simp only [List.length_append, List.length_map, List.length_take] at this
      omega
    walk_at "mz"
    rename Fr _ _ _ _ => Fe
    rename News _ _ _ _ => Ne
    exact jg_end (r := ⟨k, 0, -sz, 0, -ct⟩) Fe Ne (by walk_at "known") (by assumption) (by assumption) htl hst hN rfl hI1
  clear F1 F2 N2 hst hSt hsv0
  intro m₁ nx h1 tk1 hJ F3 N3
  obtain ⟨hm, sv, ns, tl, rfl, htl, hst⟩ := hJ
  have hlx : (xsOf er).length = G.length := (List.length_map ..).trans hGr.length.symm
  rw [hlx, List.take_length] at hst
  have F4 : Fr g L' h1 (fun z => if z = Str.ofString "statistics" then some (.ref S) else m₁ z) := fr_known _ F3 hm
  have N4 := N3
  clear F3 N3
  walk_at "mz"
  refine leaveF_ F4 N4 fun hstay hnw => ?_
  refine hret _ ((S, listOf sv.toArray ns) :: tl) _ _ (fun b o hb e => hstay b o (hgg b o e hb)) (fun p hp => ?_) ⟨S, sv, ns, rfl, .head _, ?_⟩
  · have hp' : p ∈ (vw2, viewObj D) :: (vw, viewObj D2) :: (S, listOf sv.toArray ns) :: (D, oD) :: (D2, o2') :: tl := by
      rcases List.mem_cons.mp hp with rfl | hp
      · exact .tail _ (.tail _ (.head _))
      · exact .tail _ (.tail _ (.tail _ (.tail _ (.tail _ hp))))
    refine ⟨(hnw p hp').1, ?_⟩
    have hn := (hnw p hp').2
    cases hq : s.heap.get? p.1 with
    | none => rfl
    | some ob =>
      have hmem : p.1 ∈ [D, D2] := Decidable.byContradiction fun hm => by rw [hgg _ _ hq hm] at hn; cases hn
      exfalso
      have hS : (@Ne Nat S D) ∧ (@Ne Nat S D2) := ⟨Nat.ne_of_gt lS.1, Nat.ne_of_gt lS.2⟩
      simp only [List.mem_cons, List.not_mem_nil, or_false] at hmem
      rcases List.mem_cons.mp hp with rfl | hp
      · exact hmem.elim hS.1 hS.2
      · rcases hmem with e | e
        · exact htl p hp D (.tail _ (.tail _ (.head _))) e
        · exact htl p hp D2 (.tail _ (.tail _ (.tail _ (.head _)))) e
  · unfold cmpF
    rw [hE2]
    exact paired_mono (fun a b y => y.mono fun q hq => .tail _ hq) hst
end
end
section

section
variable {prog : Program} {w : World} {A : Around} {E : Value → Shared → Prop} {s : Shared} {x y : Str} {t u : Tok}
theorem lt_no {Q : Value → Shared → Prop} (hl : decide (x.cps.toList < y.cps.toList) = false) (h : Q (.bool false) s) : wpAny (model prog w) A (compareOp .Lt (.str x t) (.str y u)) Q E s := by
  refine lt_str ?_
  rw [hl]; exact h
theorem lt_yes {Q : Value → Shared → Prop} (hl : decide (x.cps.toList < y.cps.toList) = true) (h : Q (.bool true) s) : wpAny (model prog w) A (compareOp .Lt (.str x t) (.str y u)) Q E s := by
  refine lt_str ?_
  rw [hl]; exact h
theorem lt_any {Q : Value → Shared → Prop} (h : ∀ b, Q (.bool b) s) : wpAny (model prog w) A (compareOp .Lt (.str x t) (.str y u)) Q E s := lt_str (h _)
theorem eq_no {Q : Value → Shared → Prop} (hl : (x == y) = false) (h : Q (.bool false) s) : wpAny (model prog w) A (compareOp .Eq (.str x t) (.str y u)) Q E s := by
  refine eq_str ?_
  rw [hl]; exact h
end
local macro_rules | `(tactic| walk_at "compareOp Lt str str") => `(tactic| (k_dflt (first | (refine lt_no (by assumption) ?_) | (refine lt_yes (by assumption) ?_) | (refine lt_any ?_; intro b9; cases b9))))
local macro_rules | `(tactic| walk_at "call builtin:str.split") => `(tactic| (k_here; (with_reducible show wpAny _ _ (call (Value.builtin "str.split") _) _ _ _); (with_reducible rename PySem.Txt.split _ _ = _ => hsp); (refine KSpl.split1 (by k_asm) (by k_asm) (by decide) ?_ (by assumption)); intro D' l' h' k' e' a' F' N' l1; (try k_lt l1); (replace e' := e'.trans hsp); (kspl_open e'); (simp only [strValues, List.map_cons, List.map_nil] at N' a')))
local macro_rules | `(tactic| walk_at "call builtin:str.join") => `(tactic| (k_here; (with_reducible show wpAny _ _ (call (Value.builtin _) [Value.str _ _, Value.ref _]) _ _ _); k_dflt (refine join_listW (by is_list) (by kct_strs) (by decide +kernel) (by assumption) ?_); intro _ _))
/-- a tuple of three texts -/
def IsTri (tl : List (Addr × Obj)) (a b c : Str) (v : Value) : Prop := ∃ (d : Addr) (u1 u2 u3 : Tok) (k : Nat), v = .ref d ∧ (d, ({ cls := .type "tuple", data := .seq #[.str a u1, .str b u2, .str c u3] k } : Obj)) ∈ tl
set_option maxHeartbeats 4000000 in
theorem sysal_num_a (w : World) (t1 t2 t3 : Tok) (R P V : Str) (n : Int) (h5 : decide (R.cps.toList < (Str.ofString "5").cps.toList) = false) (hR : R.length + 2 ≤ sizeLine) (hsp0 : PySem.Txt.split R (Str.ofString ".") = [P])
    (hi : PySem.intText? P = some n) (hP : P.length ≤ 640) (hn0 : 0 ≤ n) (hn1 : n < 1000) (hj : (([Str.ofString (toString (n - 3))] : List Str).map (·.length)).sum + ([Str.ofString (toString (n - 3))] : List Str).length ≤ 1048576) :
    Spec w 28 [.str (Str.ofString "SunOS") t1, .str R t2, .str V t3] (fun _ => True) (fun v tl => IsTri tl (Str.ofString "Solaris") (Txt.join (Str.ofString ".") [Str.ofString (toString (n - 3))]) V v) := by
  unfold Spec PRG LSE
  k_fill
  intro dp un gd cn cs a ccd cl outer A₀ base h₀ L m mg mb mean s Q E B F X TT hk hd hu hpre hret
  refine wpAny_call ?_
  k_dflt (refine' code_def0 (binds := [(Str.ofString "system", .str (Str.ofString "SunOS") t1), (Str.ofString "release", .str R t2), (Str.ofString "version", .str V t3)]) ?k1 ?k2 ?k3 ?k5 ?kA ?kF ?kK ?k6 ?k7 ?k8 ?k9 ?kB ?_ ?c2 ?c3 ?c4 ?c5; (case kA => exact rfl); (case kF => exact rfl); (case kK => assumption); (case k1 => k_asm); (case k2 => k_asm); (case k3 => k_asm); (case k5 => k_asm); (case k6 => k_is); (case k7 => k_is); (case k8 => ktr_room); (case k9 => exact BindsTo.of_eq rfl); (case c5 => decide); (case kB => exact locs rfl); (case c2 => exact rfl); (case c3 => exact rfl); (case c4 => exact rfl); k_whole; intro L' h' F' N' B' X' T'; (try dsimp only); (try k_fold))
  walk_at "mz"

  all_goals
    rename Fr _ _ _ _ => Fe
    rename News _ _ _ _ => Ne
    exact leaveF_ Fe Ne fun hst hnw => hret _ _ _ _ hst hnw ⟨_, _, _, _, _, rfl, .head _⟩
set_option maxHeartbeats 4000000 in
theorem sysal_num_b (w : World) (t1 t2 t3 : Tok) (R P V : Str) (n : Int) (h5 : decide (R.cps.toList < (Str.ofString "5").cps.toList) = false) (hR : R.length + 2 ≤ sizeLine) (hsp0 : PySem.Txt.split R (Str.ofString ".") = [P, { cps := #[53] }])
    (hi : PySem.intText? P = some n) (hP : P.length ≤ 640) (hn0 : 0 ≤ n) (hn1 : n < 1000) (hj : (([Str.ofString (toString (n - 3)), { cps := #[53] }] : List Str).map (·.length)).sum + ([Str.ofString (toString (n - 3)), { cps := #[53] }] : List Str).length ≤ 1048576) :
    Spec w 28 [.str (Str.ofString "SunOS") t1, .str R t2, .str V t3] (fun _ => True) (fun v tl => IsTri tl (Str.ofString "Solaris") (Txt.join (Str.ofString ".") [Str.ofString (toString (n - 3)), { cps := #[53] }]) V v) := by
  unfold Spec PRG LSE
  k_fill
  intro dp un gd cn cs a ccd cl outer A₀ base h₀ L m mg mb mean s Q E B F X TT hk hd hu hpre hret
  refine wpAny_call ?_
  k_dflt (refine' code_def0 (binds := [(Str.ofString "system", .str (Str.ofString "SunOS") t1), (Str.ofString "release", .str R t2), (Str.ofString "version", .str V t3)]) ?k1 ?k2 ?k3 ?k5 ?kA ?kF ?kK ?k6 ?k7 ?k8 ?k9 ?kB ?_ ?c2 ?c3 ?c4 ?c5; (case kA => exact rfl); (case kF => exact rfl); (case kK => assumption); (case k1 => k_asm); (case k2 => k_asm); (case k3 => k_asm); (case k5 => k_asm); (case k6 => k_is); (case k7 => k_is); (case k8 => ktr_room); (case k9 => exact BindsTo.of_eq rfl); (case c5 => decide); (case kB => exact locs rfl); (case c2 => exact rfl); (case c3 => exact rfl); (case c4 => exact rfl); k_whole; intro L' h' F' N' B' X' T'; (try dsimp only); (try k_fold))
  walk_at "mz"

  all_goals
    rename Fr _ _ _ _ => Fe
    rename News _ _ _ _ => Ne
    exact leaveF_ Fe Ne fun hst hnw => hret _ _ _ _ hst hnw ⟨_, _, _, _, _, rfl, .head _⟩
set_option maxHeartbeats 4000000 in
theorem sysal_num_c (w : World) (t1 t2 t3 : Tok) (R P V : Str) (n : Int) (h5 : decide (R.cps.toList < (Str.ofString "5").cps.toList) = false) (hR : R.length + 2 ≤ sizeLine) (hsp0 : PySem.Txt.split R (Str.ofString ".") = [P, { cps := #[56] }, { cps := #[120] }])
    (hi : PySem.intText? P = some n) (hP : P.length ≤ 640) (hn0 : 0 ≤ n) (hn1 : n < 1000) (hj : (([Str.ofString (toString (n - 3)), { cps := #[56] }, { cps := #[120] }] : List Str).map (·.length)).sum + ([Str.ofString (toString (n - 3)), { cps := #[56] }, { cps := #[120] }] : List Str).length ≤ 1048576) :
    Spec w 28 [.str (Str.ofString "SunOS") t1, .str R t2, .str V t3] (fun _ => True) (fun v tl => IsTri tl (Str.ofString "Solaris") (Txt.join (Str.ofString ".") [Str.ofString (toString (n - 3)), { cps := #[56] }, { cps := #[120] }]) V v) := by
  unfold Spec PRG LSE
  k_fill
  intro dp un gd cn cs a ccd cl outer A₀ base h₀ L m mg mb mean s Q E B F X TT hk hd hu hpre hret
  refine wpAny_call ?_
  k_dflt (refine' code_def0 (binds := [(Str.ofString "system", .str (Str.ofString "SunOS") t1), (Str.ofString "release", .str R t2), (Str.ofString "version", .str V t3)]) ?k1 ?k2 ?k3 ?k5 ?kA ?kF ?kK ?k6 ?k7 ?k8 ?k9 ?kB ?_ ?c2 ?c3 ?c4 ?c5; (case kA => exact rfl); (case kF => exact rfl); (case kK => assumption); (case k1 => k_asm); (case k2 => k_asm); (case k3 => k_asm); (case k5 => k_asm); (case k6 => k_is); (case k7 => k_is); (case k8 => ktr_room); (case k9 => exact BindsTo.of_eq rfl); (case c5 => decide); (case kB => exact locs rfl); (case c2 => exact rfl); (case c3 => exact rfl); (case c4 => exact rfl); k_whole; intro L' h' F' N' B' X' T'; (try dsimp only); (try k_fold))
  walk_at "mz"

  all_goals
    rename Fr _ _ _ _ => Fe
    rename News _ _ _ _ => Ne
    exact leaveF_ Fe Ne fun hst hnw => hret _ _ _ _ hst hnw ⟨_, _, _, _, _, rfl, .head _⟩
set_option maxHeartbeats 4000000 in
theorem sysal_old (w : World) (t1 t2 t3 : Tok) (R V : Str) (h5 : decide (R.cps.toList < (Str.ofString "5").cps.toList) = true) :
    Spec w 28 [.str (Str.ofString "SunOS") t1, .str R t2, .str V t3] (fun _ => True) (fun v tl => IsTri tl (Str.ofString "SunOS") R V v) := by
  unfold Spec PRG LSE
  k_fill
  intro dp un gd cn cs a ccd cl outer A₀ base h₀ L m mg mb mean s Q E B F X TT hk hd hu hpre hret
  refine wpAny_call ?_
  k_dflt (refine' code_def0 (binds := [(Str.ofString "system", .str (Str.ofString "SunOS") t1), (Str.ofString "release", .str R t2), (Str.ofString "version", .str V t3)]) ?k1 ?k2 ?k3 ?k5 ?kA ?kF ?kK ?k6 ?k7 ?k8 ?k9 ?kB ?_ ?c2 ?c3 ?c4 ?c5; (case kA => exact rfl); (case kF => exact rfl); (case kK => assumption); (case k1 => k_asm); (case k2 => k_asm); (case k3 => k_asm); (case k5 => k_asm); (case k6 => k_is); (case k7 => k_is); (case k8 => ktr_room); (case k9 => exact BindsTo.of_eq rfl); (case c5 => decide); (case kB => exact locs rfl); (case c2 => exact rfl); (case c3 => exact rfl); (case c4 => exact rfl); k_whole; intro L' h' F' N' B' X' T'; (try dsimp only); (try k_fold))
  walk_at "mz"

  all_goals
    rename Fr _ _ _ _ => Fe
    rename News _ _ _ _ => Ne
    exact leaveF_ Fe Ne fun hst hnw => hret _ _ _ _ hst hnw ⟨_, _, _, _, _, rfl, .head _⟩
set_option maxHeartbeats 4000000 in
theorem sysal_sol (w : World) (t1 t2 t3 : Tok) (R V : Str) :
    Spec w 28 [.str (Str.ofString "Solaris") t1, .str R t2, .str V t3] (fun _ => True) (fun v tl => IsTri tl (Str.ofString "Solaris") R V v) := by
  unfold Spec PRG LSE
  k_fill
  intro dp un gd cn cs a ccd cl outer A₀ base h₀ L m mg mb mean s Q E B F X TT hk hd hu hpre hret
  refine wpAny_call ?_
  k_dflt (refine' code_def0 (binds := [(Str.ofString "system", .str (Str.ofString "Solaris") t1), (Str.ofString "release", .str R t2), (Str.ofString "version", .str V t3)]) ?k1 ?k2 ?k3 ?k5 ?kA ?kF ?kK ?k6 ?k7 ?k8 ?k9 ?kB ?_ ?c2 ?c3 ?c4 ?c5; (case kA => exact rfl); (case kF => exact rfl); (case kK => assumption); (case k1 => k_asm); (case k2 => k_asm); (case k3 => k_asm); (case k5 => k_asm); (case k6 => k_is); (case k7 => k_is); (case k8 => ktr_room); (case k9 => exact BindsTo.of_eq rfl); (case c5 => decide); (case kB => exact locs rfl); (case c2 => exact rfl); (case c3 => exact rfl); (case c4 => exact rfl); k_whole; intro L' h' F' N' B' X' T'; (try dsimp only); (try k_fold))
  walk_at "mz"

  all_goals
    rename Fr _ _ _ _ => Fe
    rename News _ _ _ _ => Ne
    exact leaveF_ Fe Ne fun hst hnw => hret _ _ _ _ hst hnw ⟨_, _, _, _, _, rfl, .head _⟩
set_option maxHeartbeats 4000000 in
theorem sysal_win (w : World) (t1 t2 t3 : Tok) (R V : Str) :
    Spec w 28 [.str (Str.ofString "Windows") t1, .str R t2, .str V t3] (fun _ => True) (fun v tl => IsTri tl (Str.ofString "Windows") R V v) := by
  unfold Spec PRG LSE
  k_fill
  intro dp un gd cn cs a ccd cl outer A₀ base h₀ L m mg mb mean s Q E B F X TT hk hd hu hpre hret
  refine wpAny_call ?_
  k_dflt (refine' code_def0 (binds := [(Str.ofString "system", .str (Str.ofString "Windows") t1), (Str.ofString "release", .str R t2), (Str.ofString "version", .str V t3)]) ?k1 ?k2 ?k3 ?k5 ?kA ?kF ?kK ?k6 ?k7 ?k8 ?k9 ?kB ?_ ?c2 ?c3 ?c4 ?c5; (case kA => exact rfl); (case kF => exact rfl); (case kK => assumption); (case k1 => k_asm); (case k2 => k_asm); (case k3 => k_asm); (case k5 => k_asm); (case k6 => k_is); (case k7 => k_is); (case k8 => ktr_room); (case k9 => exact BindsTo.of_eq rfl); (case c5 => decide); (case kB => exact locs rfl); (case c2 => exact rfl); (case c3 => exact rfl); (case c4 => exact rfl); k_whole; intro L' h' F' N' B' X' T'; (try dsimp only); (try k_fold))
  walk_at "mz"

  all_goals
    rename Fr _ _ _ _ => Fe
    rename News _ _ _ _ => Ne
    exact leaveF_ Fe Ne fun hst hnw => hret _ _ _ _ hst hnw ⟨_, _, _, _, _, rfl, .head _⟩
set_option maxHeartbeats 4000000 in
theorem sysal_w32 (w : World) (t1 t2 t3 : Tok) (R V : Str) :
    Spec w 28 [.str (Str.ofString "win32") t1, .str R t2, .str V t3] (fun _ => True) (fun v tl => IsTri tl (Str.ofString "Windows") R V v) := by
  unfold Spec PRG LSE
  k_fill
  intro dp un gd cn cs a ccd cl outer A₀ base h₀ L m mg mb mean s Q E B F X TT hk hd hu hpre hret
  refine wpAny_call ?_
  k_dflt (refine' code_def0 (binds := [(Str.ofString "system", .str (Str.ofString "win32") t1), (Str.ofString "release", .str R t2), (Str.ofString "version", .str V t3)]) ?k1 ?k2 ?k3 ?k5 ?kA ?kF ?kK ?k6 ?k7 ?k8 ?k9 ?kB ?_ ?c2 ?c3 ?c4 ?c5; (case kA => exact rfl); (case kF => exact rfl); (case kK => assumption); (case k1 => k_asm); (case k2 => k_asm); (case k3 => k_asm); (case k5 => k_asm); (case k6 => k_is); (case k7 => k_is); (case k8 => ktr_room); (case k9 => exact BindsTo.of_eq rfl); (case c5 => decide); (case kB => exact locs rfl); (case c2 => exact rfl); (case c3 => exact rfl); (case c4 => exact rfl); k_whole; intro L' h' F' N' B' X' T'; (try dsimp only); (try k_fold))
  walk_at "mz"

  all_goals
    rename Fr _ _ _ _ => Fe
    rename News _ _ _ _ => Ne
    exact leaveF_ Fe Ne fun hst hnw => hret _ _ _ _ hst hnw ⟨_, _, _, _, _, rfl, .head _⟩
set_option maxHeartbeats 4000000 in
theorem sysal_w16 (w : World) (t1 t2 t3 : Tok) (R V : Str) :
    Spec w 28 [.str (Str.ofString "win16") t1, .str R t2, .str V t3] (fun _ => True) (fun v tl => IsTri tl (Str.ofString "Windows") R V v) := by
  unfold Spec PRG LSE
  k_fill
  intro dp un gd cn cs a ccd cl outer A₀ base h₀ L m mg mb mean s Q E B F X TT hk hd hu hpre hret
  refine wpAny_call ?_
  k_dflt (refine' code_def0 (binds := [(Str.ofString "system", .str (Str.ofString "win16") t1), (Str.ofString "release", .str R t2), (Str.ofString "version", .str V t3)]) ?k1 ?k2 ?k3 ?k5 ?kA ?kF ?kK ?k6 ?k7 ?k8 ?k9 ?kB ?_ ?c2 ?c3 ?c4 ?c5; (case kA => exact rfl); (case kF => exact rfl); (case kK => assumption); (case k1 => k_asm); (case k2 => k_asm); (case k3 => k_asm); (case k5 => k_asm); (case k6 => k_is); (case k7 => k_is); (case k8 => ktr_room); (case k9 => exact BindsTo.of_eq rfl); (case c5 => decide); (case kB => exact locs rfl); (case c2 => exact rfl); (case c3 => exact rfl); (case c4 => exact rfl); k_whole; intro L' h' F' N' B' X' T'; (try dsimp only); (try k_fold))
  walk_at "mz"

  all_goals
    rename Fr _ _ _ _ => Fe
    rename News _ _ _ _ => Ne
    exact leaveF_ Fe Ne fun hst hnw => hret _ _ _ _ hst hnw ⟨_, _, _, _, _, rfl, .head _⟩
section


set_option maxHeartbeats 4000000 in
theorem sysal_x_a (w : World) (t1 t2 t3 : Tok) (R V : Str) (h5 : decide (R.cps.toList < (Str.ofString "5").cps.toList) = false) (hR : R.length + 2 ≤ sizeLine) (hsp0 : PySem.Txt.split R (Str.ofString ".") = [{ cps := #[120] }]) :
    SpecC w 28 [.str (Str.ofString "SunOS") t1, .str R t2, .str V t3] (fun v tl => IsTri tl (Str.ofString "Solaris") R V v) := by
  unfold SpecC PRG LSE
  k_fill
  intro dp un gd cn cs a ccd cl outer A₀ base h₀ L m mg mb mean s Q E B F X TT XB TB D hk hd hu hret
  refine wpC_call ?_
  k_dflt (refine' code_defC0 (binds := [(Str.ofString "system", .str (Str.ofString "SunOS") t1), (Str.ofString "release", .str R t2), (Str.ofString "version", .str V t3)]) ?k1 ?k2 ?k3 ?k5 ?kX ?kT ?kD ?kA ?kF ?kK ?k6 ?k7 ?k8 ?k9 ?kB ?_ ?c2 ?c3 ?c4 ?c5; (case kA => exact rfl); (case kF => exact rfl); (case kK => assumption); (case k1 => exact B); (case k2 => exact F); (case k3 => exact X); (case k5 => exact TT); (case kX => exact XB); (case kT => exact TB); (case kD => exact D); (case k6 => k_is); (case k7 => k_is); (case k8 => ktr_room); (case k9 => exact BindsTo.of_eq rfl); (case c5 => decide); (case kB => exact locs rfl); (case c2 => exact rfl); (case c3 => exact rfl); (case c4 => exact rfl); k_whole; intro L' h' F' N' B' X' T' D'; (try dsimp only); (try k_fold))
  refine wpC_execs_cons (wpC_If (wpC_any ?_))
  walk_at "my"
  refine wpC_execs_cons (wpC_any ?_)
  walk_at "my"
  refine wpC_execs_cons (wpC_any ?_)
  walk_at "my"
  refine wpC_execs_cons (wpC_If (wpC_any ?_))
  walk_at "my"
  refine wpC_execs_cons (wpC_Try (wpC_execs_cons (wpC_Assign_Name (wpC_Call (wpC_any ?_)))))
  walk_at "my"
  refine wpC_callWith_type1 (wpC_any ?_)
  walk_at "my"
  rename Fr s.heap _ _ _ => Fc
  rename News s.heap _ _ _ => Nc
  refine call_int_x rfl fun h1 tk1 e1 hx => ?_
  (try dsimp only)
  k_dflt (refine' caught_hereN (T' := "ValueError") hx Fc Nc B' XB TB D' KtsTurn.refl ?ex PyProof.Rows.Boot.«ValueError» ?hn PySem.F.isExc_ValueError PySem.F.notTuple_ValueError ?hs ?_; (case hs => kts_sub); (case ex => k_is); (case hn => decide); k_whole)
  intro h2 g2 T2 F2 N2 B2 X2 TT2 D2 _
  clear hx Fc Nc B' X' T' D'
  walk_at "my"
  all_goals ((try dsimp only); refine wpC_any ?_; walk_at "my")
  all_goals ((try dsimp only); refine wpC_any ?_; walk_at "my")
  all_goals ((try dsimp only); refine wpC_any ?_; walk_at "my")
  all_goals
    rename Fr g2 _ _ _ => Fe
    rename News g2 _ _ _ => Ne
    exact ⟨_, _, _, _, T2, Fe, Ne, fun h₀' k1 k2 k3 k4 k5 k6 k7 k8 => hret _ _ _ _ _ k1 k2 k3 k4 k5 k6 k7 k8 ⟨_, _, _, _, _, rfl, .head _⟩⟩
set_option maxHeartbeats 4000000 in
theorem sysal_x_b (w : World) (t1 t2 t3 : Tok) (R V : Str) (h5 : decide (R.cps.toList < (Str.ofString "5").cps.toList) = false) (hR : R.length + 2 ≤ sizeLine) (hsp0 : PySem.Txt.split R (Str.ofString ".") = [{ cps := #[120] }, { cps := #[53] }]) :
    SpecC w 28 [.str (Str.ofString "SunOS") t1, .str R t2, .str V t3] (fun v tl => IsTri tl (Str.ofString "Solaris") R V v) := by
  unfold SpecC PRG LSE
  k_fill
  intro dp un gd cn cs a ccd cl outer A₀ base h₀ L m mg mb mean s Q E B F X TT XB TB D hk hd hu hret
  refine wpC_call ?_
  k_dflt (refine' code_defC0 (binds := [(Str.ofString "system", .str (Str.ofString "SunOS") t1), (Str.ofString "release", .str R t2), (Str.ofString "version", .str V t3)]) ?k1 ?k2 ?k3 ?k5 ?kX ?kT ?kD ?kA ?kF ?kK ?k6 ?k7 ?k8 ?k9 ?kB ?_ ?c2 ?c3 ?c4 ?c5; (case kA => exact rfl); (case kF => exact rfl); (case kK => assumption); (case k1 => exact B); (case k2 => exact F); (case k3 => exact X); (case k5 => exact TT); (case kX => exact XB); (case kT => exact TB); (case kD => exact D); (case k6 => k_is); (case k7 => k_is); (case k8 => ktr_room); (case k9 => exact BindsTo.of_eq rfl); (case c5 => decide); (case kB => exact locs rfl); (case c2 => exact rfl); (case c3 => exact rfl); (case c4 => exact rfl); k_whole; intro L' h' F' N' B' X' T' D'; (try dsimp only); (try k_fold))
  refine wpC_execs_cons (wpC_If (wpC_any ?_))
  walk_at "my"
  refine wpC_execs_cons (wpC_any ?_)
  walk_at "my"
  refine wpC_execs_cons (wpC_any ?_)
  walk_at "my"
  refine wpC_execs_cons (wpC_If (wpC_any ?_))
  walk_at "my"
  refine wpC_execs_cons (wpC_Try (wpC_execs_cons (wpC_Assign_Name (wpC_Call (wpC_any ?_)))))
  walk_at "my"
  refine wpC_callWith_type1 (wpC_any ?_)
  walk_at "my"
  rename Fr s.heap _ _ _ => Fc
  rename News s.heap _ _ _ => Nc
  refine call_int_x rfl fun h1 tk1 e1 hx => ?_
  (try dsimp only)
  k_dflt (refine' caught_hereN (T' := "ValueError") hx Fc Nc B' XB TB D' KtsTurn.refl ?ex PyProof.Rows.Boot.«ValueError» ?hn PySem.F.isExc_ValueError PySem.F.notTuple_ValueError ?hs ?_; (case hs => kts_sub); (case ex => k_is); (case hn => decide); k_whole)
  intro h2 g2 T2 F2 N2 B2 X2 TT2 D2 _
  clear hx Fc Nc B' X' T' D'
  walk_at "my"
  all_goals ((try dsimp only); refine wpC_any ?_; walk_at "my")
  all_goals ((try dsimp only); refine wpC_any ?_; walk_at "my")
  all_goals ((try dsimp only); refine wpC_any ?_; walk_at "my")
  all_goals
    rename Fr g2 _ _ _ => Fe
    rename News g2 _ _ _ => Ne
    exact ⟨_, _, _, _, T2, Fe, Ne, fun h₀' k1 k2 k3 k4 k5 k6 k7 k8 => hret _ _ _ _ _ k1 k2 k3 k4 k5 k6 k7 k8 ⟨_, _, _, _, _, rfl, .head _⟩⟩
set_option maxHeartbeats 4000000 in
theorem sysal_x_c (w : World) (t1 t2 t3 : Tok) (R V : Str) (h5 : decide (R.cps.toList < (Str.ofString "5").cps.toList) = false) (hR : R.length + 2 ≤ sizeLine) (hsp0 : PySem.Txt.split R (Str.ofString ".") = [{ cps := #[120] }, { cps := #[56] }, { cps := #[120] }]) :
    SpecC w 28 [.str (Str.ofString "SunOS") t1, .str R t2, .str V t3] (fun v tl => IsTri tl (Str.ofString "Solaris") R V v) := by
  unfold SpecC PRG LSE
  k_fill
  intro dp un gd cn cs a ccd cl outer A₀ base h₀ L m mg mb mean s Q E B F X TT XB TB D hk hd hu hret
  refine wpC_call ?_
  k_dflt (refine' code_defC0 (binds := [(Str.ofString "system", .str (Str.ofString "SunOS") t1), (Str.ofString "release", .str R t2), (Str.ofString "version", .str V t3)]) ?k1 ?k2 ?k3 ?k5 ?kX ?kT ?kD ?kA ?kF ?kK ?k6 ?k7 ?k8 ?k9 ?kB ?_ ?c2 ?c3 ?c4 ?c5; (case kA => exact rfl); (case kF => exact rfl); (case kK => assumption); (case k1 => exact B); (case k2 => exact F); (case k3 => exact X); (case k5 => exact TT); (case kX => exact XB); (case kT => exact TB); (case kD => exact D); (case k6 => k_is); (case k7 => k_is); (case k8 => ktr_room); (case k9 => exact BindsTo.of_eq rfl); (case c5 => decide); (case kB => exact locs rfl); (case c2 => exact rfl); (case c3 => exact rfl); (case c4 => exact rfl); k_whole; intro L' h' F' N' B' X' T' D'; (try dsimp only); (try k_fold))
  refine wpC_execs_cons (wpC_If (wpC_any ?_))
  walk_at "my"
  refine wpC_execs_cons (wpC_any ?_)
  walk_at "my"
  refine wpC_execs_cons (wpC_any ?_)
  walk_at "my"
  refine wpC_execs_cons (wpC_If (wpC_any ?_))
  walk_at "my"
  refine wpC_execs_cons (wpC_Try (wpC_execs_cons (wpC_Assign_Name (wpC_Call (wpC_any ?_)))))
  walk_at "my"
  refine wpC_callWith_type1 (wpC_any ?_)
  walk_at "my"
  rename Fr s.heap _ _ _ => Fc
  rename News s.heap _ _ _ => Nc
  refine call_int_x rfl fun h1 tk1 e1 hx => ?_
  (try dsimp only)
  k_dflt (refine' caught_hereN (T' := "ValueError") hx Fc Nc B' XB TB D' KtsTurn.refl ?ex PyProof.Rows.Boot.«ValueError» ?hn PySem.F.isExc_ValueError PySem.F.notTuple_ValueError ?hs ?_; (case hs => kts_sub); (case ex => k_is); (case hn => decide); k_whole)
  intro h2 g2 T2 F2 N2 B2 X2 TT2 D2 _
  clear hx Fc Nc B' X' T' D'
  walk_at "my"
  all_goals ((try dsimp only); refine wpC_any ?_; walk_at "my")
  all_goals ((try dsimp only); refine wpC_any ?_; walk_at "my")
  all_goals ((try dsimp only); refine wpC_any ?_; walk_at "my")
  all_goals
    rename Fr g2 _ _ _ => Fe
    rename News g2 _ _ _ => Ne
    exact ⟨_, _, _, _, T2, Fe, Ne, fun h₀' k1 k2 k3 k4 k5 k6 k7 k8 => hret _ _ _ _ _ k1 k2 k3 k4 k5 k6 k7 k8 ⟨_, _, _, _, _, rfl, .head _⟩⟩
end
section

/-- a contract at the claim's caller, with what it asks of the heap -/
def SpecCP (w : World) (f : Addr) (vs : List Value) (Pre : Heap → Prop) (Post : Value → List (Addr × Obj) → Prop) : Prop :=
  ∀ (dp un : Nat) (gd : Option (List Code)) (cn : Str) (cs : Scope) (a : Addr) (ccd : Value) (cl : List (Str × Addr)) (outer : List Env) (A₀ : Around) (base h₀ : Heap) (L : Addr) (m mg mb : Str → Option Value) (mean : ExcName → Option Value) (s : Shared)
    (Q E : Value → Shared → Prop),
    Below A₀ base outer h₀ → Fr h₀ L s.heap m → (K2 w.params).In h₀ → Top hd.view_39 LSE mean mg mb h₀ → (K2 w.params).In base → Top hd.view_39 LSE mean mg mb base → KtsDicts (outer.filterMap (·.frame)) h₀ → cs.kind = .function → dp + 8 < recursionLimit → un + 128 < cLine → Pre s.heap →
    (∀ v tl h' h₀' tk', KtsTurn (outer.filterMap (·.frame)) h₀ h₀' → Fr h₀' L h' m → (∀ b o, s.heap.get? b = some o → b ∉ (envX cn cs L a ccd cl :: outer).filterMap (·.frame) → h'.get? b = some o) → (∀ p ∈ tl, h'.get? p.1 = some p.2 ∧ s.heap.get? p.1 = none) →
      Below A₀ base outer h₀' → (K2 w.params).In h₀' → Top hd.view_39 LSE mean mg mb h₀' → KtsDicts (outer.filterMap (·.frame)) h₀' → Post v tl → Q v { s with heap := h', toks := tk' }) →
    wpC (model PRG w) (ktrTop dp un gd cn cs L a ccd cl outer) (call (.ref f) vs) Q E s
local macro_rules | `(tactic| walk_at "subscriptTail") => `(tactic| (k_here; (with_reducible show wpAny _ _ (subscriptTail _ _ (Value.ref _) (Value.int _ _)) _ _ _); k_dflt (refine sub_at (by is_list) (And.left (by assumption)) (And.right (by assumption)) (by assumption) ?_ (by with_unfolding_all rfl))))
/-- the name that the law gives a system -/
def nmF (S R : Nat → Str) (i : Nat) : Str := Txt.join (Str.ofString " ") [S i, R i, Str.ofString "v"]
def HB (w : World) (S R S1 R1 : Nat → Str) : Prop := ∀ i, i < 8 → (∀ t1 t2 t3, SpecC w 28 [.str (S i) t1, .str (R i) t2, .str (Str.ofString "v") t3] (fun v tl => IsTri tl (S1 i) (R1 i) (Str.ofString "v") v)) ∧
  (∀ t1 t2 t3, SpecC w 28 [.str (S1 i) t1, .str (R1 i) t2, .str (Str.ofString "v") t3] (fun v tl => IsTri tl (S1 i) (R1 i) (Str.ofString "v") v)) ∧ (S1 i).length + (R1 i).length ≤ 100
theorem new_ne {g h : Heap} {L d b : Addr} {o : Obj} {news : List (Addr × Obj)} (hn : h.get? d = none) (N : News g L h news) (hm : (b, o) ∈ news) : (@Ne Nat d b) := fun e => by
  subst e
  rw [(N _ hm).1] at hn
  cases hn
theorem news_tail {g h : Heap} {L : Addr} {p : Addr × Obj} {news : List (Addr × Obj)} (N : News g L h (p :: news)) : News g L h news := fun q hq => N q (.tail _ hq)
section
variable {prog : Program} {w : World} {A : Around} {E : Value → Shared → Prop} {s : Shared} {h₀ : Heap} {L d : Addr} {nx : List (Addr × Obj)} {a b : Str} {u1 u2 u3 t : Tok} {k : Nat}
theorem join3 {Q : Value → Shared → Prop} (N : News h₀ L s.heap nx) (hm : (d, ({ cls := .type "tuple", data := .seq #[.str a u1, .str b u2, .str (Str.ofString "v") u3] k } : Obj)) ∈ nx) (hl : a.length + b.length ≤ 100)
    (h : ∀ t' k', Q (.str (Txt.join (Str.ofString " ") [a, b, Str.ofString "v"]) t') { s with toks := k' }) : wpAny (model prog w) A (call (.builtin "str.join") [.str (Str.ofString " ") t, .ref d]) Q E s := by
  refine join_tupleW (News.isTup N hm) (.cons _ _ (.cons _ _ (.cons _ _ .nil))) (by decide) ?_ h
  have hv : (Str.ofString "v").length = 1 := by decide
  simp only [List.map_cons, List.map_nil, List.sum_cons, List.sum_nil, List.length_cons, List.length_nil, hv]
  omega
end
/-- the list of the names so far -/
def NmList (l : Addr) (g : Nat → Nat) (S1 R1 : Nat → Str) (i : Nat) (nx : List (Addr × Obj)) : Prop := ∃ vs n, (l, listOf vs.toArray n) ∈ nx ∧ StrsAre vs ((List.range i).map fun k => nmF S1 R1 (g k))
def JL (A₀ : Around) (base : Heap) (outer : List Env) (ar ac ah tl hl : Addr) (S1 R1 : Nat → Str) (C : List Int) (g₀ : Heap) (i : Nat) (g : Heap) (m : Str → Option Value) (nx : List (Addr × Obj)) : Prop :=
  KtsTurn (outer.filterMap (·.frame)) g₀ g ∧ Below A₀ base outer g ∧ (∀ p ∈ [(Str.ofString "raws", Value.ref ar), (Str.ofString "cells", .ref ac), (Str.ofString "hours", .ref ah), (Str.ofString "tails", .ref tl), (Str.ofString "heads", .ref hl)], m p.1 = some p.2) ∧
  ∃ vt vh n1 n2, nx = [(hl, listOf vh.toArray n2), (tl, listOf vt.toArray n1)] ∧ StrsAre vt ((C.take i).map fun c => nmF S1 R1 (c % 8).toNat) ∧ StrsAre vh ((C.take i).map fun c => nmF S1 R1 (c / 8 % 8).toNat) ∧ (@Ne Nat hl tl)
theorem strs_snoc {y : Str} {t : Tok} : ∀ {vs : List Value} {ys : List Str}, StrsAre vs ys → StrsAre (vs ++ [.str y t]) (ys ++ [y])
  | _, _, .nil => .cons _ _ .nil
  | _, _, .cons a b r => .cons a b (strs_snoc r)
theorem jl_end {A₀ : Around} {base : Heap} {outer : List Env} {ar ac ah l1 l2 L' I : Addr} {S1 R1 : Nat → Str} {C : List Int} {g₀ g' h' : Heap} {i : Nat} {c : Int} {oI : Obj} {m' : Str → Option Value} {nws : List (Addr × Obj)} {vt vh : List Value} {k1 k2 : Nat} {t1 t2 : Tok} {s₁ : Shared} {tk : Nat}
    (F : Fr g' L' h' m') (N : News g' L' h' nws) (hI : (I, oI) ∈ nws) (h2 : (l2, listOf (vh.toArray.push (.str (nmF S1 R1 (c / 8 % 8).toNat) t2)) k2) ∈ nws) (h1 : (l1, listOf (vt ++ [Value.str (nmF S1 R1 (c % 8).toNat) t1]).toArray k1) ∈ nws)
    (hc : C[i]? = some c) (hm : ∀ p ∈ [(Str.ofString "raws", Value.ref ar), (Str.ofString "cells", .ref ac), (Str.ofString "hours", .ref ah), (Str.ofString "tails", .ref l1), (Str.ofString "heads", .ref l2)], m' p.1 = some p.2)
    (TT : KtsTurn (outer.filterMap (·.frame)) g₀ g') (B : Below A₀ base outer g') (sT : StrsAre vt ((C.take i).map fun c => nmF S1 R1 (c % 8).toNat)) (sH : StrsAre vh ((C.take i).map fun c => nmF S1 R1 (c / 8 % 8).toNat)) (hne : @Ne Nat l2 l1) (hI1 : (@Ne Nat l2 I) ∧ (@Ne Nat l1 I)) :
    JPostC L' I oI (JL A₀ base outer ar ac ah l1 l2 S1 R1 C g₀ (i + 1)) s₁ .next { s₁ with heap := h', toks := tk } := by
  rw [List.push_toArray] at h2
  refine ⟨rfl, h', tk, g', m', [(l2, listOf (vh ++ [Value.str (nmF S1 R1 (c / 8 % 8).toNat) t2]).toArray k2), (l1, listOf (vt ++ [Value.str (nmF S1 R1 (c % 8).toNat) t1]).toArray k1)], rfl, F, fun p hp => ?_, fun p hp => ?_, TT, B, hm, _, _, k1, k2, rfl, ?_, ?_, hne⟩
  · simp only [List.mem_cons, List.not_mem_nil, or_false] at hp
    rcases hp with rfl | rfl | rfl
    · exact N _ hI
    · exact N _ h2
    · exact N _ h1
  · simp only [List.mem_cons, List.not_mem_nil, or_false] at hp
    rcases hp with rfl | rfl
    · exact hI1.1
    · exact hI1.2
  · rw [List.take_add_one, hc, List.map_append]
    exact strs_snoc sT
  · rw [List.take_add_one, hc, List.map_append]
    exact strs_snoc sH
set_option maxHeartbeats 4000000 in
theorem books_spec : ∀ (w : World) (ar ac ah : Addr) (rv cv hv : List Value) (S R S1 R1 : Nat → Str) (C O : List Int) (hal : HB w S R S1 R1), SpecCP w 181 [.ref ar, .ref ac, .ref ah]
   (fun hp => hp.IsList ar rv.toArray ∧ rv.length = 8 ∧ (∀ i, i < 8 → ∃ ai t t', rv[i]? = some (.ref ai) ∧ hp.IsList ai #[.str (S i) t, .str (R i) t']) ∧ hp.IsList ac cv.toArray ∧ IntsAre cv C ∧ C.length = 5 ∧ hp.IsList ah hv.toArray ∧ IntsAre hv O ∧ O.length = 5)
   (fun v tl => ∃ (d D1 D2 : Addr) (o1 o2 : Obj) (es1 es2 : List (Str × Value)) (k : Nat), v = .ref d ∧ (d, ({ cls := .type "tuple", data := .seq #[.ref D1, .ref D2] k } : Obj)) ∈ tl ∧ (D1, o1) ∈ tl ∧ (D2, o2) ∈ tl ∧ o1.IsDictOf (strKind PRG w) es1 ∧ o2.IsDictOf (strKind PRG w) es2 ∧
     (D1 == sysModules) = false ∧ (D2 == sysModules) = false ∧ (@Ne Nat D1 D2) ∧ Paired (StatE tl (cntF (C.map fun c => nmF S1 R1 (c % 8).toNat) O 5)) (sizF (C.map fun c => nmF S1 R1 (c % 8).toNat) O 5) es1 ∧
     Paired (StatE tl (cntF (C.map fun c => nmF S1 R1 (c / 8 % 8).toNat) O 5)) (sizF (C.map fun c => nmF S1 R1 (c / 8 % 8).toNat) O 5) es2) := by
  refine eps13 (by (repeat' (refine neP ?_ ?_)) <;> (first | exact neW | exact neS | exact neA | exact inferInstance)) ?_
  (try dsimp only)
  generalize eps _ _ = zz
  generalize Prod.fst zz = w
  generalize Prod.fst (Prod.snd zz) = ar
  generalize Prod.fst (Prod.snd (Prod.snd zz)) = ac
  generalize Prod.fst (Prod.snd (Prod.snd (Prod.snd zz))) = ah
  generalize Prod.fst (Prod.snd (Prod.snd (Prod.snd (Prod.snd zz)))) = rv
  generalize Prod.fst (Prod.snd (Prod.snd (Prod.snd (Prod.snd (Prod.snd zz))))) = cv
  generalize Prod.fst (Prod.snd (Prod.snd (Prod.snd (Prod.snd (Prod.snd (Prod.snd zz)))))) = hv
  generalize Prod.fst (Prod.snd (Prod.snd (Prod.snd (Prod.snd (Prod.snd (Prod.snd (Prod.snd zz))))))) = S
  generalize Prod.fst (Prod.snd (Prod.snd (Prod.snd (Prod.snd (Prod.snd (Prod.snd (Prod.snd (Prod.snd zz)))))))) = R
  generalize Prod.fst (Prod.snd (Prod.snd (Prod.snd (Prod.snd (Prod.snd (Prod.snd (Prod.snd (Prod.snd (Prod.snd zz))))))))) = S1
  generalize Prod.fst (Prod.snd (Prod.snd (Prod.snd (Prod.snd (Prod.snd (Prod.snd (Prod.snd (Prod.snd (Prod.snd (Prod.snd zz)))))))))) = R1
  generalize Prod.fst (Prod.snd (Prod.snd (Prod.snd (Prod.snd (Prod.snd (Prod.snd (Prod.snd (Prod.snd (Prod.snd (Prod.snd (Prod.snd zz))))))))))) = C
  generalize Prod.snd (Prod.snd (Prod.snd (Prod.snd (Prod.snd (Prod.snd (Prod.snd (Prod.snd (Prod.snd (Prod.snd (Prod.snd (Prod.snd zz))))))))))) = O
  clear zz
  intro hal
  unfold SpecCP PRG LSE
  k_fill
  refine eps20 (by (repeat' (refine neP ?_ ?_)) <;> (first | exact neW | exact neS | exact neA | exact inferInstance)) ?_
  (try dsimp only)
  generalize eps _ _ = zz
  generalize Prod.fst zz = dp
  generalize Prod.fst (Prod.snd zz) = un
  generalize Prod.fst (Prod.snd (Prod.snd zz)) = gd
  generalize Prod.fst (Prod.snd (Prod.snd (Prod.snd zz))) = cn
  generalize Prod.fst (Prod.snd (Prod.snd (Prod.snd (Prod.snd zz)))) = cs
  generalize Prod.fst (Prod.snd (Prod.snd (Prod.snd (Prod.snd (Prod.snd zz))))) = a
  generalize Prod.fst (Prod.snd (Prod.snd (Prod.snd (Prod.snd (Prod.snd (Prod.snd zz)))))) = ccd
  generalize Prod.fst (Prod.snd (Prod.snd (Prod.snd (Prod.snd (Prod.snd (Prod.snd (Prod.snd zz))))))) = cl
  generalize Prod.fst (Prod.snd (Prod.snd (Prod.snd (Prod.snd (Prod.snd (Prod.snd (Prod.snd (Prod.snd zz)))))))) = outer
  generalize Prod.fst (Prod.snd (Prod.snd (Prod.snd (Prod.snd (Prod.snd (Prod.snd (Prod.snd (Prod.snd (Prod.snd zz))))))))) = A₀
  generalize Prod.fst (Prod.snd (Prod.snd (Prod.snd (Prod.snd (Prod.snd (Prod.snd (Prod.snd (Prod.snd (Prod.snd (Prod.snd zz)))))))))) = base
  generalize Prod.fst (Prod.snd (Prod.snd (Prod.snd (Prod.snd (Prod.snd (Prod.snd (Prod.snd (Prod.snd (Prod.snd (Prod.snd (Prod.snd zz))))))))))) = h₀
  generalize Prod.fst (Prod.snd (Prod.snd (Prod.snd (Prod.snd (Prod.snd (Prod.snd (Prod.snd (Prod.snd (Prod.snd (Prod.snd (Prod.snd (Prod.snd zz)))))))))))) = L
  generalize Prod.fst (Prod.snd (Prod.snd (Prod.snd (Prod.snd (Prod.snd (Prod.snd (Prod.snd (Prod.snd (Prod.snd (Prod.snd (Prod.snd (Prod.snd (Prod.snd zz))))))))))))) = m
  generalize Prod.fst (Prod.snd (Prod.snd (Prod.snd (Prod.snd (Prod.snd (Prod.snd (Prod.snd (Prod.snd (Prod.snd (Prod.snd (Prod.snd (Prod.snd (Prod.snd (Prod.snd zz)))))))))))))) = mg
  generalize Prod.fst (Prod.snd (Prod.snd (Prod.snd (Prod.snd (Prod.snd (Prod.snd (Prod.snd (Prod.snd (Prod.snd (Prod.snd (Prod.snd (Prod.snd (Prod.snd (Prod.snd (Prod.snd zz))))))))))))))) = mb
  generalize Prod.fst (Prod.snd (Prod.snd (Prod.snd (Prod.snd (Prod.snd (Prod.snd (Prod.snd (Prod.snd (Prod.snd (Prod.snd (Prod.snd (Prod.snd (Prod.snd (Prod.snd (Prod.snd (Prod.snd zz)))))))))))))))) = mean
  generalize Prod.fst (Prod.snd (Prod.snd (Prod.snd (Prod.snd (Prod.snd (Prod.snd (Prod.snd (Prod.snd (Prod.snd (Prod.snd (Prod.snd (Prod.snd (Prod.snd (Prod.snd (Prod.snd (Prod.snd (Prod.snd zz))))))))))))))))) = s
  generalize Prod.fst (Prod.snd (Prod.snd (Prod.snd (Prod.snd (Prod.snd (Prod.snd (Prod.snd (Prod.snd (Prod.snd (Prod.snd (Prod.snd (Prod.snd (Prod.snd (Prod.snd (Prod.snd (Prod.snd (Prod.snd (Prod.snd zz)))))))))))))))))) = Q
  generalize Prod.snd (Prod.snd (Prod.snd (Prod.snd (Prod.snd (Prod.snd (Prod.snd (Prod.snd (Prod.snd (Prod.snd (Prod.snd (Prod.snd (Prod.snd (Prod.snd (Prod.snd (Prod.snd (Prod.snd (Prod.snd (Prod.snd zz)))))))))))))))))) = E
  clear zz
  intro B F X TT XB TB D hk hd hu hpre hret
  refine wpC_call ?_
  k_dflt (refine' code_defC0 (binds := [(Str.ofString "raws", .ref ar), (Str.ofString "cells", .ref ac), (Str.ofString "hours", .ref ah)]) ?k1 ?k2 ?k3 ?k5 ?kX ?kT ?kD ?kA ?kF ?kK ?k6 ?k7 ?k8 ?k9 ?kB ?_ ?c2 ?c3 ?c4 ?c5; (case kA => exact rfl); (case kF => exact rfl); (case kK => assumption); (case k1 => exact B); (case k2 => exact F); (case k3 => exact X); (case k5 => exact TT); (case kX => exact XB); (case kT => exact TB); (case kD => exact D); (case k6 => k_is); (case k7 => k_is); (case k8 => ktr_room); (case k9 => exact BindsTo.of_eq rfl); (case c5 => decide); (case kB => exact locs rfl); (case c2 => exact rfl); (case c3 => exact rfl); (case c4 => exact rfl); k_whole; (refine eps2 (by (repeat' (refine neP ?_ ?_)) <;> (first | exact neW | exact neS | exact neA | exact inferInstance)) ?_); (try dsimp only); (generalize eps _ _ = zz); (generalize Prod.fst zz = L'); (generalize Prod.snd zz = h'); (clear zz); intro F' N' B' X' T' D'; (try dsimp only); (try k_fold))
  obtain ⟨hr, hrl, hri, hc, hci, hcl, hh, hhi, hhl⟩ := hpre
  refine wpC_execs_cons (wpC_any ?_)
  walk_at "my"
  refine wpC_execs_cons (wpC_any ?_)
  walk_at "my"
  refine wpC_execs_cons ?_
  rename Fr _ _ _ _ => F1
  rename News _ _ _ _ => N1
  rename_i l1 _ _ _ l2 _ hlt _
  refine For_C (ax := ac) (its := cv.toArray) (JL (ktrTop dp un gd cn cs L a ccd cl outer) base (envX cn cs L a ccd cl :: outer) ar ac ah l1 l2 S1 R1 C s.heap) ?_ (by rfl) ⟨_, _, rfl⟩ ?_
  · intro i g m nx hJ
    exact isList_turn hc D' hJ.1
  walk_at "my"
  refine ⟨rfl, _, _, _, F1, N1, ⟨.refl, B', ?_, _, _, _, _, rfl, .nil, .nil, ?_⟩, ?_, ?_⟩
  · walk_at "known"
  · omega
  · intro i v g m₁ nx I h1 tk1 oI hi hv hJ F2 N2 off
    obtain ⟨TT2, B2, hm, vt, vh, n1, n2, rfl, sT, sH, hne⟩ := hJ
    obtain ⟨c, u, rfl, hc'⟩ := hci.at i v (by simpa using hv)
    have X2 := XB.keeps B2.stays
    have T2 := TB.keeps B2.stays
    have D2 := D'.turn TT2
    have hrg := isList_turn hr D' TT2
    obtain ⟨ai, t1, t2, hai, hla⟩ := hri (c % 8).toNat (by omega)
    obtain ⟨bi, t3, t4, hbi, hlb⟩ := hri (c / 8 % 8).toNat (by omega)
    replace hla := isList_turn hla D' TT2
    replace hlb := isList_turn hlb D' TT2
    have F3 : Fr g L' h1 (fun z => if z = Str.ofString "raws" then some (.ref ar) else if z = Str.ofString "cells" then some (.ref ac) else if z = Str.ofString "hours" then some (.ref ah) else if z = Str.ofString "tails" then some (.ref l1) else if z = Str.ofString "heads" then some (.ref l2) else m₁ z) := fr_known _ F2 hm
    have N3 : News g L' h1 [(I, oI), (l2, listOf vh.toArray n2), (l1, listOf vt.toArray n1)] := N2
    have hI1 : (@Ne Nat l2 I) ∧ (@Ne Nat l1 I) := by simpa using off
    have hvt : vt.length ≤ 5 := by rw [sT.length, List.length_map, List.length_take]; omega
    have hvh : vh.length ≤ 5 := by rw [sH.length, List.length_map, List.length_take]; omega
    clear F2 N2 F1 N1 X' T' B' off hr hc hri
    have e1 : c.fmod 8 = c % 8 := Int.fmod_eq_emod_of_nonneg _ (by decide)
    have e2 : (c.fdiv 8).fmod 8 = c / 8 % 8 := by rw [Int.fdiv_eq_ediv_of_nonneg _ (by decide)]; exact Int.fmod_eq_emod_of_nonneg _ (by decide)
    have q1 : 0 ≤ c.fmod 8 ∧ c.fmod 8 < 2 ^ 63 := by rw [e1]; omega
    have q2 : 0 ≤ (c.fdiv 8).fmod 8 ∧ (c.fdiv 8).fmod 8 < 2 ^ 63 := by rw [e2]; omega
    rw [← e1] at hai
    rw [← e2] at hbi
    obtain ⟨al1, al2, alL⟩ := hal (c % 8).toNat (by omega)
    obtain ⟨bl1, bl2, blL⟩ := hal (c / 8 % 8).toNat (by omega)
    refine wpC_any ?_
    (try dsimp only)
    (try k_fold)
    walk_at "my"
    refine wpC_execs_cons (wpC_any ?_)
    walk_at "my"
    (try dsimp only)
    refine wpC_execs_cons (wpC_Expr (wpC_MethodCall (wpC_any ?_)))
    walk_at "my"
    refine wpC_any ?_
    walk_at "my"
    refine wpC_callWith_builtin1 (wpC_MethodCall (wpC_any ?_))
    walk_at "my"
    refine wpC_any ?_
    walk_at "my"
    refine wpC_callWith_builtin1 (wpC_Call (wpC_any ?_))
    walk_at "my"
    refine wpC_callWith (K := K2 w.params) (by k_is) (wpC_any ?_)
    walk_at "my"
    rename Fr g _ _ _ => Fc
    rename News g _ _ _ => Nc
    with_unfolding_all refine al1 _ _ _ (dp + 1) (un + 3) gd (Str.ofString "_law_books") _ 181 (.ref 180) [] (envX cn cs L a ccd cl :: outer) _ _ _ _ _ _ _ _ _ _ _ B2 Fc X2 T2 XB TB D2 (by rfl) (by omega) (by omega) ?_
    intro v5 tl5 h5 g5 tk5 TT5 F5 hst5 hnew5 B5 X5 T5 D5 hp5
    obtain ⟨d5, u1, u2, u3, k5, rfl, hd5⟩ := hp5
    have N5 : News g5 L' h5 [(d5, ({ cls := .type "tuple", data := .seq #[.str (S1 (c % 8).toNat) u1, .str (R1 (c % 8).toNat) u2, .str (Str.ofString "v") u3] k5 } : Obj)), (I, oI), (l2, listOf vh.toArray n2), (l1, listOf vt.toArray n1)] := news_join (news_new (tl := [_]) Fc TT5 (fun p hp => by rw [List.mem_singleton.mp hp]; exact hnew5 _ hd5)) (news_turn (env := envX (Str.ofString "_law_books") _ L' 181 (.ref 180) []) rfl D2 Nc hst5 TT5)
    have TT6 := TT2.trans TT5
    have hd6 : (@Ne Nat d5 I) ∧ (@Ne Nat d5 l2) ∧ (@Ne Nat d5 l1) := by
      have z := (hnew5 _ hd5).2
      exact ⟨new_ne z Nc (.head _), new_ne z Nc (.tail _ (.head _)), new_ne z Nc (.tail _ (.tail _ (.head _)))⟩
    replace hrg := isList_turn hrg D2 TT5
    replace hlb := isList_turn hlb D2 TT5
    clear Fc Nc T2 X2 B2 D2 hla hst5 hnew5 TT5
    (try dsimp only)
    (try k_fold)
    refine wpC_any (join3 N5 (.head _) alL ?_)
    intro t9 k9
    refine wpC_any ?_
    walk_at "my"
    rename News g5 _ _ _ => Nx
    replace Nx := news_tail Nx
    refine wpC_execs_cons (wpC_any ?_)
    walk_at "my"
    (try dsimp only)
    refine wpC_execs_cons (wpC_Assign_Tuple (wpC_Call (wpC_any ?_)))
    walk_at "my"
    refine wpC_callWith (K := K2 w.params) (by k_is) (wpC_any ?_)
    walk_at "my"
    rename Fr g5 _ _ _ => Fc
    rename News g5 _ _ _ => Nc
    clear hd6
    with_unfolding_all refine bl1 _ _ _ (dp + 1) (un + 3) gd (Str.ofString "_law_books") _ 181 (.ref 180) [] (envX cn cs L a ccd cl :: outer) _ _ _ _ _ _ _ _ _ _ _ B5 Fc X5 T5 XB TB D5 (by rfl) (by omega) (by omega) ?_
    intro v7 tl7 h7 g7 tk7 TT7 F7 hst7 hnew7 B7 X7 T7 D7 hp7
    obtain ⟨d7, u4, u5, u6, k7, rfl, hd7⟩ := hp7
    have N7 := news_join (news_new (tl := [(d7, _)]) Fc TT7 (fun p hp => by rw [List.mem_singleton.mp hp]; exact hnew7 _ hd7)) (news_turn (env := envX (Str.ofString "_law_books") _ L' 181 (.ref 180) []) rfl D5 Nc hst7 TT7)
    rw [List.singleton_append] at N7
    have TT8 := TT6.trans TT7
    clear Fc Nc T5 X5 B5 D5 hlb hrg hst7 TT7 TT6
    (try dsimp only)
    (try k_fold)
    walk_at "my"
    (try dsimp only)
    rename News g7 _ _ _ => Ny
    replace Ny := news_tail Ny
    refine wpC_execs_cons (wpC_Expr (wpC_MethodCall (wpC_any ?_)))
    walk_at "my"
    refine wpC_any ?_
    walk_at "my"
    refine wpC_callWith_builtin1 (wpC_MethodCall (wpC_any ?_))
    walk_at "my"
    refine wpC_any ?_
    walk_at "my"
    refine wpC_callWith_builtin1 (wpC_Call (wpC_any ?_))
    walk_at "my"
    refine wpC_callWith (K := K2 w.params) (by k_is) (wpC_any ?_)
    walk_at "my"
    rename Fr g7 _ _ _ => Fc
    rename News g7 _ _ _ => Nc
    with_unfolding_all refine bl2 _ _ _ (dp + 1) (un + 3) gd (Str.ofString "_law_books") _ 181 (.ref 180) [] (envX cn cs L a ccd cl :: outer) _ _ _ _ _ _ _ _ _ _ _ B7 Fc X7 T7 XB TB D7 (by rfl) (by omega) (by omega) ?_
    intro v9 tl9 h9 g9 tk9 TT9 F9 hst9 hnew9 B9 X9 T9 D9 hp9
    obtain ⟨d9, u7, u8, u9, k9, rfl, hd9⟩ := hp9
    have N9 := news_join (news_new (tl := [(d9, _)]) Fc TT9 (fun p hp => by rw [List.mem_singleton.mp hp]; exact hnew9 _ hd9)) (news_turn (env := envX (Str.ofString "_law_books") _ L' 181 (.ref 180) []) rfl D7 Nc hst9 TT9)
    rw [List.singleton_append] at N9
    have TTA := TT8.trans TT9
    have hd10 : (@Ne Nat d9 I) ∧ (@Ne Nat d9 l2) ∧ (@Ne Nat d9 l1) := by
      have z := (hnew9 _ hd9).2
      exact ⟨new_ne z Nc (by k_dflt k_mem), new_ne z Nc (by k_dflt k_mem), new_ne z Nc (by k_dflt k_mem)⟩
    clear Fc Nc T7 X7 B7 D7 hst9 hnew9 TT9 TT8
    (try dsimp only)
    (try k_fold)
    refine wpC_any (join3 N9 (.head _) blL ?_)
    intro t9 k9
    refine wpC_any ?_
    walk_at "my"
    (try dsimp only)
    refine wpC_any (wpAny_execs_nil ?_)
    rename Fr g9 _ _ _ => Fe
    rename News g9 _ _ _ => Ne
    exact jl_end Fe Ne (.tail _ (.head _)) (.tail _ (.tail _ (.head _))) (.tail _ (.tail _ (.tail _ (.head _)))) hc' (by walk_at "known") TTA B9 sT sH hne hI1
  intro g m₁ nx h1 tk1 hJ F2 N2
  obtain ⟨TT2, B2, hm, vt, vh, n1, n2, rfl, sT, sH, hne⟩ := hJ
  have X2 := XB.keeps B2.stays
  have T2 := TB.keeps B2.stays
  have hlh := isList_turn hh D' TT2
  have F3 : Fr g L' h1 (fun z => if z = Str.ofString "raws" then some (.ref ar) else if z = Str.ofString "cells" then some (.ref ac) else if z = Str.ofString "hours" then some (.ref ah) else if z = Str.ofString "tails" then some (.ref l1) else if z = Str.ofString "heads" then some (.ref l2) else m₁ z) := fr_known _ F2 hm
  have N3 : News g L' h1 [(l2, listOf vh.toArray n2), (l1, listOf vt.toArray n1)] := N2
  have hcs : cv.toArray.size = C.length := by rw [List.size_toArray, hci.length]
  rw [hcs, List.take_length] at sT sH
  clear F2 N2 F1 N1 X' T' B' hr hc hri hh
  (try dsimp only)
  refine wpC_any ?_
  (try k_fold)
  walk_at "my"
  rename Fr g _ _ _ => Fc
  rename News g _ _ _ => Nc
  have hTl : (C.map fun c => nmF S1 R1 (c % 8).toNat).length = 5 := by rw [List.length_map]; exact hcl
  have hHl : (C.map fun c => nmF S1 R1 (c / 8 % 8).toNat).length = 5 := by rw [List.length_map]; exact hcl
  with_unfolding_all refine book_spec w l1 ah vt hv _ O (dp + 1) (un + 3) gd (Str.ofString "_law_books") _ 181 (.ref 180) [] (envX cn cs L a ccd cl :: outer) _ _ _ _ _ _ _ _ _ _ _ B2 Fc X2 T2 (by rfl) (by omega) (by omega) ⟨News.isList Nc (.tail _ (.head _)), isList_keeps hlh Fc.keep, sT, hhi, hTl, hhl⟩ ?_
  intro v5 tl5 h5 tk5 hst5 hnew5 hp5
  obtain ⟨D5, oD5, es5, rfl, hm5, hd5, hs5, hpa5⟩ := hp5
  have F5 := Fr.keeps Fc hst5
  have N5 := news_join (news_new (outer := []) (tl := tl5) Fc .refl hnew5) (Nc.grown hst5)
  clear Fc Nc
  (try dsimp only)
  walk_at "my"
  rename Fr g _ _ _ => Fc
  rename News g _ _ _ => Nc
  with_unfolding_all refine book_spec w l2 ah vh hv _ O (dp + 1) (un + 3) gd (Str.ofString "_law_books") _ 181 (.ref 180) [] (envX cn cs L a ccd cl :: outer) _ _ _ _ _ _ _ _ _ _ _ B2 Fc X2 T2 (by rfl) (by omega) (by omega) ⟨News.isList Nc (List.mem_append_right _ (.head _)), isList_keeps hlh Fc.keep, sH, hhi, hHl, hhl⟩ ?_
  intro v7 tl7 h7 tk7 hst7 hnew7 hp7
  obtain ⟨D7, oD7, es7, rfl, hm7, hd7, hs7, hpa7⟩ := hp7
  have F7 := Fr.keeps Fc hst7
  have N7 := news_join (news_new (outer := []) (tl := tl7) Fc .refl hnew7) (Nc.grown hst7)
  have hne57 : @Ne Nat D5 D7 := (new_ne (hnew7 _ hm7).2 Nc (List.mem_append_left _ hm5)).symm
  clear Fc Nc hst7 hnew7 hst5 hnew5
  (try dsimp only)
  walk_at "my"
  rename Fr g _ _ _ => Fe
  rename News g _ _ _ => Ne
  show EndC _ _ _ _ _ _ _ _ _ _ _ _ _ _ _ _ _
  refine ⟨_, _, _, _, TT2, Fe, Ne, fun h₀' k1 k2 k3 k4 k5 k6 k7 k8 => hret _ _ _ _ _ k1 k2 k3 k4 k5 k6 k7 k8 ⟨_, D5, D7, oD5, oD7, es5, es7, _, rfl, .head _, .tail _ (List.mem_append_right _ (List.mem_append_left _ hm5)), .tail _ (List.mem_append_left _ hm7), hd5, hd7, hs5, hs7, hne57, ?_, ?_⟩⟩
  · exact paired_mono (fun a b x => x.mono fun q hq => .tail _ (List.mem_append_right _ (List.mem_append_left _ hq))) hpa5
  · exact paired_mono (fun a b x => x.mono fun q hq => .tail _ (List.mem_append_left _ hq)) hpa7
end
end
section

section
variable {prog : Program} {w : World} {A : Around} {E : Value → Shared → Prop} {s : Shared} {value slice : PySem.Expr} {l : Addr} {items : Array Value} {k : Int} {u : Tok} {Q : Value → Shared → Prop}
theorem sub_ints {ns : List Int} (hl : s.heap.IsList l items) (hi : IntsAre items.toList ns) (h0 : 0 ≤ k) (h1 : k < ns.length) (hb : ns.length ≤ 8) (h : ∀ x t, x ∈ ns → Q (.int x t) s)
    (hs : subscripted slice false (.ref l) (.int k u) = operate [.ref l, .int k u] (getItem (.ref l) (.int k u)) := by with_unfolding_all rfl) :
    wpAny (model prog w) A (subscriptTail value slice (.ref l) (.int k u)) Q E s := by
  obtain ⟨t, ht⟩ := hi.get k.toNat (ns[k.toNat]'(by omega)) (List.getElem?_eq_getElem _)
  exact sub_at (vs := items.toList) hl h0 (by omega) ht (h _ _ (List.getElem_mem _)) hs
theorem sub_strs {ns : List Str} (hl : s.heap.IsList l items) (hi : StrsAre items.toList ns) (h0 : 0 ≤ k) (h1 : k < ns.length) (hb : ns.length ≤ 8) (h : ∀ x t, x ∈ ns → Q (.str x t) s)
    (hs : subscripted slice false (.ref l) (.int k u) = operate [.ref l, .int k u] (getItem (.ref l) (.int k u)) := by with_unfolding_all rfl) :
    wpAny (model prog w) A (subscriptTail value slice (.ref l) (.int k u)) Q E s := by
  obtain ⟨t, ht⟩ := hi.at (j := k.toNat) (y := ns[k.toNat]'(by omega)) (List.getElem?_eq_getElem _)
  exact sub_at (vs := items.toList) hl h0 (by omega) ht (h _ _ (List.getElem_mem _)) hs
end
theorem nums_at {x : Int} (h : x ∈ [(5 : Int), 6, 53, 700]) : 5 ≤ x ∧ x ≤ 700 ∧ (Str.ofString (toString x)).length ≤ 3 ∧ (Str.ofString (toString (x - 3))).length ≤ 3 ∧ (Str.ofString (toString (x + 3))).length ≤ 3 := by
  simp only [List.mem_cons, List.not_mem_nil, or_false] at h
  rcases h with rfl | rfl | rfl | rfl <;> decide
theorem rest_at {y : Str} (h : y ∈ [Str.ofString "", Str.ofString ".5", Str.ofString ".8.x"]) : y.length ≤ 4 := by
  simp only [List.mem_cons, List.not_mem_nil, or_false] at h
  rcases h with rfl | rfl | rfl <;> decide
theorem short_at {y : Str} (h : y ∈ [Str.ofString "win32", Str.ofString "win16"]) : y.length ≤ 5 := by
  simp only [List.mem_cons, List.not_mem_nil, or_false] at h
  rcases h with rfl | rfl <;> decide
theorem elder_at {y : Str} (h : y ∈ [Str.ofString "4", Str.ofString "10", Str.ofString "49", Str.ofString "400"]) : y.length ≤ 3 := by
  simp only [List.mem_cons, List.not_mem_nil, or_false] at h
  rcases h with rfl | rfl | rfl | rfl <;> decide
local macro_rules | `(tactic| walk_at "all1") => `(tactic| (repeat (first | exact .nil | refine .cons _ _ ?_)))
local macro_rules | `(tactic| walk_at "mod1") => `(tactic| (first | exact Int.fmod_nonneg_of_pos _ (by decide) | exact Int.fmod_lt_of_pos _ (by decide)))
abbrev lessS (n : Int) (b : Str) : Str := Str.ofString (toString (n - 3)) ++ b
abbrev sameS (n : Int) (b : Str) : Str := Str.ofString (toString n) ++ b
abbrev moreS (n : Int) (b : Str) : Str := Str.ofString (toString (n + 3)) ++ b
def rawS (sh : Str) (i : Nat) : Str := [Str.ofString "SunOS", Str.ofString "Solaris", Str.ofString "SunOS", Str.ofString "Solaris", sh, Str.ofString "Windows", Str.ofString "SunOS", Str.ofString "SunOS"].getD i Str.empty
def rawR (n : Int) (b e : Str) (i : Nat) : Str := [sameS n b, lessS n b, moreS n b, sameS n b, sameS n b, sameS n b, Str.ofString "x" ++ b, e ++ b].getD i Str.empty
def namesF (n : Int) (b e : Str) : List Str := [Str.ofString "Solaris " ++ lessS n b ++ Str.ofString " v", Str.ofString "Solaris " ++ sameS n b ++ Str.ofString " v", Str.ofString "Windows " ++ sameS n b ++ Str.ofString " v", Str.ofString "Solaris x" ++ b ++ Str.ofString " v", Str.ofString "SunOS " ++ (e ++ b) ++ Str.ofString " v"]
/-- the menus' choice -/
structure Pick (n : Int) (b sh e : Str) : Prop where
  n : n ∈ [(5 : Int), 6, 53, 700]
  b : b ∈ [Str.ofString "", Str.ofString ".5", Str.ofString ".8.x"]
  sh : sh ∈ [Str.ofString "win32", Str.ofString "win16"]
  e : e ∈ [Str.ofString "4", Str.ofString "10", Str.ofString "49", Str.ofString "400"]
theorem lt8 : ∀ i : Nat, i < 8 → i = 0 ∨ i = 1 ∨ i = 2 ∨ i = 3 ∨ i = 4 ∨ i = 5 ∨ i = 6 ∨ i = 7 := by decide
def IsSys (v : Value) (tl : List (Addr × Obj)) : Prop := ∃ (n : Int) (b sh e : Str) (d ar an : Addr) (rv nv : List Value) (k1 k2 k3 : Nat), Pick n b sh e ∧ v = .ref d ∧ (d, ({ cls := .type "tuple", data := .seq #[.ref ar, .ref an] k1 } : Obj)) ∈ tl ∧
  (ar, listOf rv.toArray k2) ∈ tl ∧ (an, listOf nv.toArray k3) ∈ tl ∧ StrsAre nv (namesF n b e) ∧ rv.length = 8 ∧ ∀ i, i < 8 → ∃ ai t t' k, rv[i]? = some (.ref ai) ∧ (ai, listOf #[.str (rawS sh i) t, .str (rawR n b e i) t'] k) ∈ tl
local macro_rules | `(tactic| walk_at "mem1") => `(tactic| (repeat (first | exact .head _ | refine .tail _ ?_)))
set_option maxHeartbeats 4000000 in
theorem systems_spec : ∀ (w : World) (total : Int) (tt : Tok), Spec w 169 [.int total tt] (fun _ => True) (fun v tl => IsSys v tl) := by
  refine eps3 (by (repeat' (refine neP ?_ ?_)) <;> (first | exact neW | exact neS | exact neA | exact inferInstance)) ?_
  (try dsimp only)
  generalize eps _ _ = zz
  generalize Prod.fst zz = w
  generalize Prod.fst (Prod.snd zz) = total
  generalize Prod.snd (Prod.snd zz) = tt
  clear zz
  unfold Spec PRG LSE
  k_fill
  refine eps20 (by (repeat' (refine neP ?_ ?_)) <;> (first | exact neW | exact neS | exact neA | exact inferInstance)) ?_
  (try dsimp only)
  generalize eps _ _ = zz
  generalize Prod.fst zz = dp
  generalize Prod.fst (Prod.snd zz) = un
  generalize Prod.fst (Prod.snd (Prod.snd zz)) = gd
  generalize Prod.fst (Prod.snd (Prod.snd (Prod.snd zz))) = cn
  generalize Prod.fst (Prod.snd (Prod.snd (Prod.snd (Prod.snd zz)))) = cs
  generalize Prod.fst (Prod.snd (Prod.snd (Prod.snd (Prod.snd (Prod.snd zz))))) = a
  generalize Prod.fst (Prod.snd (Prod.snd (Prod.snd (Prod.snd (Prod.snd (Prod.snd zz)))))) = ccd
  generalize Prod.fst (Prod.snd (Prod.snd (Prod.snd (Prod.snd (Prod.snd (Prod.snd (Prod.snd zz))))))) = cl
  generalize Prod.fst (Prod.snd (Prod.snd (Prod.snd (Prod.snd (Prod.snd (Prod.snd (Prod.snd (Prod.snd zz)))))))) = outer
  generalize Prod.fst (Prod.snd (Prod.snd (Prod.snd (Prod.snd (Prod.snd (Prod.snd (Prod.snd (Prod.snd (Prod.snd zz))))))))) = A₀
  generalize Prod.fst (Prod.snd (Prod.snd (Prod.snd (Prod.snd (Prod.snd (Prod.snd (Prod.snd (Prod.snd (Prod.snd (Prod.snd zz)))))))))) = base
  generalize Prod.fst (Prod.snd (Prod.snd (Prod.snd (Prod.snd (Prod.snd (Prod.snd (Prod.snd (Prod.snd (Prod.snd (Prod.snd (Prod.snd zz))))))))))) = h₀
  generalize Prod.fst (Prod.snd (Prod.snd (Prod.snd (Prod.snd (Prod.snd (Prod.snd (Prod.snd (Prod.snd (Prod.snd (Prod.snd (Prod.snd (Prod.snd zz)))))))))))) = L
  generalize Prod.fst (Prod.snd (Prod.snd (Prod.snd (Prod.snd (Prod.snd (Prod.snd (Prod.snd (Prod.snd (Prod.snd (Prod.snd (Prod.snd (Prod.snd (Prod.snd zz))))))))))))) = m
  generalize Prod.fst (Prod.snd (Prod.snd (Prod.snd (Prod.snd (Prod.snd (Prod.snd (Prod.snd (Prod.snd (Prod.snd (Prod.snd (Prod.snd (Prod.snd (Prod.snd (Prod.snd zz)))))))))))))) = mg
  generalize Prod.fst (Prod.snd (Prod.snd (Prod.snd (Prod.snd (Prod.snd (Prod.snd (Prod.snd (Prod.snd (Prod.snd (Prod.snd (Prod.snd (Prod.snd (Prod.snd (Prod.snd (Prod.snd zz))))))))))))))) = mb
  generalize Prod.fst (Prod.snd (Prod.snd (Prod.snd (Prod.snd (Prod.snd (Prod.snd (Prod.snd (Prod.snd (Prod.snd (Prod.snd (Prod.snd (Prod.snd (Prod.snd (Prod.snd (Prod.snd (Prod.snd zz)))))))))))))))) = mean
  generalize Prod.fst (Prod.snd (Prod.snd (Prod.snd (Prod.snd (Prod.snd (Prod.snd (Prod.snd (Prod.snd (Prod.snd (Prod.snd (Prod.snd (Prod.snd (Prod.snd (Prod.snd (Prod.snd (Prod.snd (Prod.snd zz))))))))))))))))) = s
  generalize Prod.fst (Prod.snd (Prod.snd (Prod.snd (Prod.snd (Prod.snd (Prod.snd (Prod.snd (Prod.snd (Prod.snd (Prod.snd (Prod.snd (Prod.snd (Prod.snd (Prod.snd (Prod.snd (Prod.snd (Prod.snd (Prod.snd zz)))))))))))))))))) = Q
  generalize Prod.snd (Prod.snd (Prod.snd (Prod.snd (Prod.snd (Prod.snd (Prod.snd (Prod.snd (Prod.snd (Prod.snd (Prod.snd (Prod.snd (Prod.snd (Prod.snd (Prod.snd (Prod.snd (Prod.snd (Prod.snd (Prod.snd zz)))))))))))))))))) = E
  clear zz
  intro B F X TT hk hd hu hpre hret
  refine wpAny_call ?_
  k_dflt (refine' code_def0 (binds := [(Str.ofString "total", .int total tt)]) ?k1 ?k2 ?k3 ?k5 ?kA ?kF ?kK ?k6 ?k7 ?k8 ?k9 ?kB ?_ ?c2 ?c3 ?c4 ?c5; (case kA => exact rfl); (case kF => exact rfl); (case kK => assumption); (case k1 => k_asm); (case k2 => k_asm); (case k3 => k_asm); (case k5 => k_asm); (case k6 => k_is); (case k7 => k_is); (case k8 => ktr_room); (case k9 => exact BindsTo.of_eq rfl); (case c5 => decide); (case kB => exact locs rfl); (case c2 => exact rfl); (case c3 => exact rfl); (case c4 => exact rfl); k_whole; (refine eps2 (by (repeat' (refine neP ?_ ?_)) <;> (first | exact neW | exact neS | exact neA | exact inferInstance)) ?_); (try dsimp only); (generalize eps _ _ = zz); (generalize Prod.fst zz = L'); (generalize Prod.snd zz = h'); (clear zz); intro F' N' B' X' T'; (try dsimp only); (try k_fold))
  walk_at "mt"
  k_dflt (refine' sub_ints (ns := [5, 6, 53, 700]) ?k1 ?k2 ?k3 ?k4 ?k5 ?_ ?k6; (case k1 => is_list); (case k2 => walk_at "all1"); (case k3 => exact Int.fmod_nonneg_of_pos _ (by decide)); (case k4 => exact Int.fmod_lt_of_pos _ (by decide)); (case k5 => decide); (case k6 => with_unfolding_all rfl); k_whole)
  intro nn tnn hnn
  have bnn := nums_at hnn
  walk_at "mt"
  k_dflt (refine' sub_strs (ns := [Str.ofString "", Str.ofString ".5", Str.ofString ".8.x"]) ?k1 ?k2 ?k3 ?k4 ?k5 ?_ ?k6; (case k1 => is_list); (case k2 => walk_at "all1"); (case k3 => exact Int.fmod_nonneg_of_pos _ (by decide)); (case k4 => exact Int.fmod_lt_of_pos _ (by decide)); (case k5 => decide); (case k6 => with_unfolding_all rfl); k_whole)
  intro bb tbb hbb
  have bbb := rest_at hbb
  walk_at "mt"
  k_dflt (refine' sub_strs (ns := [Str.ofString "win32", Str.ofString "win16"]) ?k1 ?k2 ?k3 ?k4 ?k5 ?_ ?k6; (case k1 => is_list); (case k2 => walk_at "all1"); (case k3 => exact Int.fmod_nonneg_of_pos _ (by decide)); (case k4 => exact Int.fmod_lt_of_pos _ (by decide)); (case k5 => decide); (case k6 => with_unfolding_all rfl); k_whole)
  intro sh tsh hsh
  have bsh := short_at hsh
  walk_at "mt"
  k_dflt (refine' sub_strs (ns := [Str.ofString "4", Str.ofString "10", Str.ofString "49", Str.ofString "400"]) ?k1 ?k2 ?k3 ?k4 ?k5 ?_ ?k6; (case k1 => is_list); (case k2 => walk_at "all1"); (case k3 => exact Int.fmod_nonneg_of_pos _ (by decide)); (case k4 => exact Int.fmod_lt_of_pos _ (by decide)); (case k5 => decide); (case k6 => with_unfolding_all rfl); k_whole)
  intro el tel hel
  have bel := elder_at hel
  walk_at "mt"
  rename Fr _ _ _ _ => Fe
  rename News _ _ _ _ => Ne
  show LeaveF _ _ _ _
  refine leaveF_ Fe Ne fun hst hnw => ?_
  refine hret _ _ _ _ hst hnw ?_
  refine' ⟨nn, bb, sh, el, _, _, _, _, _, _, _, _, ⟨hnn, hbb, hsh, hel⟩, rfl, .head _, ?m1, ?m2, ?m3, ?m4, ?m5⟩
  case m1 => walk_at "mem1"
  case m2 => walk_at "mem1"
  case m3 => exact .cons _ _ (.cons _ _ (.cons _ _ (.cons _ _ (.cons _ _ .nil))))
  case m4 => rfl
  case m5 =>
    intro i hi
    rcases lt8 i hi with rfl | rfl | rfl | rfl | rfl | rfl | rfl | rfl
    all_goals (refine' ⟨_, _, _, _, rfl, ?mm⟩; (case mm => walk_at "mem1"))
end
section
section
variable {prog : Program} {w : World} {A : Around} {E : Value → Shared → Prop} {s : Shared}
theorem all_tt (n : Nat) : ((List.range n).all fun _ => true) = true := List.all_eq_true.mpr fun _ _ => rfl
theorem row_at {r : Row5} {t1 t2 : List (Addr × Obj)} {v v' : Value} (h1 : IsRow t1 r v) (h2 : IsRow t2 r v') (n1 : ∀ p ∈ t1, s.heap.get? p.1 = some p.2) (n2 : ∀ p ∈ t2, s.heap.get? p.1 = some p.2) (hu : A.units < cLine) : PySem.SeqAt.EqAt A s v v' true := by
  obtain ⟨a, a1, a2, a3, a4, a5, ka, rfl, ma⟩ := h1
  obtain ⟨b, b1, b2, b3, b4, b5, kb, rfl, mb⟩ := h2
  by_cases he : a = b
  · subst he
    exact PySem.SeqAt.EqAt.same _
  · refine PySem.SeqAt.EqAt.of_refs he ?_
    have := PySem.SeqAt.RcAt.tuples (A := A) (s := s) (l := a) (b := b) (e := fun _ => true) ⟨_, n1 _ ma, rfl, _, rfl⟩ ⟨_, n2 _ mb, rfl, _, rfl⟩ hu (fun j h1 h2 => ?_)
    · rw [all_tt] at this; exact this
    · have hs := PySem.SeqAt.EqAt.str_str (A := A.in1) (s := s) r.nm a1 r.nm b1
      have hi := fun (x : Int) t u => PySem.SeqAt.EqAt.int_int (A := A.in1) (s := s) x t x u
      simp only [beq_self_eq_true] at hs hi
      rcases j with _ | _ | _ | _ | _ | j
      · exact hs
      · exact hi _ _ _
      · exact hi _ _ _
      · exact hi _ _ _
      · exact hi _ _ _
      · simp at h1; omega
theorem rows_eq {rows : List Row5} {t1 t2 : List (Addr × Obj)} {l b : Addr} {ys zs : List Value} {Q : Value → Shared → Prop} (hl : s.heap.IsList l ys.toArray) (hb : s.heap.IsList b zs.toArray) (h1 : Paired (IsRow t1) rows ys) (h2 : Paired (IsRow t2) rows zs)
    (n1 : ∀ p ∈ t1, s.heap.get? p.1 = some p.2) (n2 : ∀ p ∈ t2, s.heap.get? p.1 = some p.2) (hu : A.units + 64 < cLine) (h : Q (.bool true) s) : wpAny (model prog w) A (compareOp .Eq (.ref l) (.ref b)) Q E s := by
  have len : ∀ {t : List (Addr × Obj)} {rows : List Row5} {ys : List Value}, Paired (IsRow t) rows ys → ys.length = rows.length := by
    intro t rows ys hp
    induction hp with
    | nil => rfl
    | cons _ _ ih => simp [ih]
  refine PySem.SeqAt.eq_listAt (e := fun _ => true) hl hb (by rw [List.size_toArray, List.size_toArray, len h1, len h2]) (by omega) (fun j q1 q2 => ?_) (by rw [all_tt]; exact h)
  have hj : j < rows.length := by rw [← len h1]; simpa using q1
  obtain ⟨r, hr, x1⟩ := paired_get h1 (i := j) (b := ys.toArray[j]) (by simp; done)
  obtain ⟨r', hr', x2⟩ := paired_get h2 (i := j) (b := zs.toArray[j]) (by simp; done)
  rw [hr] at hr'
  cases hr'
  exact row_at x1 x2 n1 n2 (show A.units + 1 < cLine by omega)
end
end
section
namespace EU
/-- a way from u along the edges l to v -/
noncomputable def W (t h : Nat → Nat) : Nat → List Nat → Nat → Prop
  | u, [], v => u = v
  | u, e :: l, v => t e = u ∧ W t h (h e) l v
theorem W_append {t h : Nat → Nat} : ∀ {l₁ l₂ : List Nat} {u v : Nat}, W t h u (l₁ ++ l₂) v ↔ ∃ w, W t h u l₁ w ∧ W t h w l₂ v
  | [], l₂, u, v => ⟨fun x => ⟨u, rfl, x⟩, fun ⟨w, a, b⟩ => by cases a; exact b⟩
  | e :: l, l₂, u, v => by
    show (t e = u ∧ W t h (h e) (l ++ l₂) v) ↔ _
    rw [W_append]
    exact ⟨fun ⟨a, w, b, c⟩ => ⟨w, ⟨a, b⟩, c⟩, fun ⟨w, ⟨a, b⟩, c⟩ => ⟨a, w, b, c⟩⟩
def st (t : Nat → Nat) : List Nat → Nat
  | [] => 0
  | e :: _ => t e
noncomputable def en (h : Nat → Nat) : List Nat → Nat
  | [] => 0
  | [e] => h e
  | _ :: e :: l => en h (e :: l)
def Trail (t h : Nat → Nat) (X : List Nat) : Prop := X ≠ [] ∧ W t h (st t X) X (en h X)
theorem W_ends {t h : Nat → Nat} : ∀ {X : List Nat} {u v : Nat}, X ≠ [] → W t h u X v → u = st t X ∧ v = en h X
  | [], _, _, hn, _ => absurd rfl hn
  | [e], u, v, _, x => ⟨x.1.symm, x.2.symm⟩
  | e :: f :: l, u, v, _, x => ⟨x.1.symm, (W_ends (X := f :: l) (by simp) x.2).2⟩
theorem Trail.of {t h : Nat → Nat} {X : List Nat} {u v : Nat} (hn : X ≠ []) (x : W t h u X v) : Trail t h X := by
  obtain ⟨rfl, rfl⟩ := W_ends hn x
  exact ⟨hn, x⟩
structure Dec (t h : Nat → Nat) (Es : List Nat) (D : List (List Nat)) : Prop where
  all : ∀ X ∈ D, Trail t h X
  perm : D.flatten.Perm Es
def ind (p : Prop) [Decidable p] : Int := if p then 1 else 0
theorem bal1 {t h : Nat → Nat} (z : Nat) : ∀ {X : List Nat} {u v : Nat}, W t h u X v → (X.countP (fun e => h e == z) : Int) - (X.countP (fun e => t e == z) : Int) = (if v = z then 1 else 0) - (if u = z then 1 else 0)
  | [], u, v, x => by cases x; simp
  | e :: l, u, v, ⟨a, b⟩ => by
    have ih := bal1 z b
    subst a
    rw [List.countP_cons, List.countP_cons]
    by_cases h1 : h e = z <;> by_cases h2 : t e = z <;> simp only [h1, h2, beq_self_eq_true, if_true, beq_iff_eq, if_false, Nat.add_zero] at ih ⊢ <;> simp at ih ⊢ <;> omega
theorem bal2 {t h : Nat → Nat} (z : Nat) : ∀ {D : List (List Nat)}, (∀ X ∈ D, Trail t h X) → (D.flatten.countP (fun e => h e == z) : Int) - (D.flatten.countP (fun e => t e == z) : Int) = (D.countP (fun X => en h X == z) : Int) - (D.countP (fun X => st t X == z) : Int)
  | [], _ => by simp
  | X :: D, hD => by
    have ih := bal2 z (D := D) fun Y hY => hD Y (List.mem_cons_of_mem _ hY)
    have x := bal1 z (hD X List.mem_cons_self).2
    rw [List.flatten_cons, List.countP_append, List.countP_append, List.countP_cons, List.countP_cons]
    generalize D.flatten.countP (fun e => h e == z) = A at *
    generalize D.flatten.countP (fun e => t e == z) = B at *
    by_cases h1 : en h X = z <;> by_cases h2 : st t X = z <;> simp [h1, h2] at x ⊢ <;> omega
theorem W_lab {t h : Nat → Nat} {lab : Nat → Nat} : ∀ {X : List Nat} {u v : Nat}, (∀ e ∈ X, lab (t e) = lab (h e)) → W t h u X v → lab u = lab v ∧ ∀ e ∈ X, lab (t e) = lab u
  | [], _, _, _, x => by cases x; exact ⟨rfl, fun _ h => nomatch h⟩
  | e :: l, u, v, hl, ⟨a, b⟩ => by
    obtain ⟨i1, i2⟩ := W_lab (fun e he => hl e (List.mem_cons_of_mem _ he)) b
    have h1 := hl e List.mem_cons_self
    subst a
    refine ⟨h1.trans i1, fun f hf => ?_⟩
    rcases List.mem_cons.mp hf with rfl | hf
    · rfl
    · exact (i2 f hf).trans h1.symm
theorem W_next {t h : Nat → Nat} : ∀ {X : List Nat} {u v x : Nat}, W t h u X v → x ∈ X → h x = v ∨ ∃ y ∈ X, t y = h x
  | e :: l, u, v, x, ⟨a, b⟩, hx => by
    rcases List.mem_cons.mp hx with rfl | hx
    · cases l with
      | nil => exact .inl b
      | cons f l => exact .inr ⟨f, by simp, b.1⟩
    · rcases W_next b hx with q | ⟨y, hy, q⟩
      · exact .inl q
      · exact .inr ⟨y, List.mem_cons_of_mem _ hy, q⟩
section
variable {t h : Nat → Nat} {Es : List Nat} {D R : List (List Nat)} {X Y : List Nat}
theorem no_join (hD : Dec t h Es D) (hmin : ∀ D', Dec t h Es D' → D.length ≤ D'.length) (hp : D.Perm (X :: Y :: R)) {u v w : Nat} (hX : W t h u X v) (hY : W t h v Y w) : False := by
  have hX0 : X ≠ [] := (hD.all X (hp.mem_iff.mpr (by simp))).1
  have h1 : Dec t h Es ((X ++ Y) :: R) := by
    refine ⟨fun Z hZ => ?_, ?_⟩
    · rcases List.mem_cons.mp hZ with rfl | hZ
      · exact Trail.of (by simp [hX0]) (W_append.mpr ⟨v, hX, hY⟩)
      · exact hD.all Z (hp.mem_iff.mpr (by simp [hZ]))
    · have e : ((X ++ Y) :: R).flatten = (X :: Y :: R).flatten := by simp [List.append_assoc]
      rw [e]
      exact hp.symm.flatten.trans hD.perm
  have := hmin _ h1
  have hl := hp.length_eq
  simp only [List.length_cons] at this hl
  omega
theorem no_meet (hD : Dec t h Es D) (hmin : ∀ D', Dec t h Es D' → D.length ≤ D'.length) (hp : D.Perm (X :: Y :: R)) {u : Nat} (hX : W t h u X u) {x e : Nat} (hx : x ∈ X) (he : e ∈ Y) (hm : t e = t x ∨ h e = t x) : False := by
  obtain ⟨X1, X2, rfl⟩ := List.append_of_mem hx
  obtain ⟨Y1, Y2, rfl⟩ := List.append_of_mem he
  obtain ⟨c, a1, a2, a3⟩ := W_append.mp hX
  subst a2
  have hYt := (hD.all _ (hp.mem_iff.mpr (by simp : Y1 ++ e :: Y2 ∈ _ :: (Y1 ++ e :: Y2) :: R))).2
  obtain ⟨d, b1, b2, b3⟩ := W_append.mp hYt
  subst b2
  have hXr : W t h (t x) ((x :: X2) ++ X1) (t x) := W_append.mpr ⟨u, ⟨rfl, a3⟩, a1⟩
  have key : ∃ Z a b, Z ≠ [] ∧ W t h a Z b ∧ Z.Perm ((X1 ++ x :: X2) ++ (Y1 ++ e :: Y2)) := by
    rcases hm with hm | hm
    · refine ⟨Y1 ++ (((x :: X2) ++ X1) ++ e :: Y2), _, _, by simp, W_append.mpr ⟨_, b1, W_append.mpr ⟨t x, by rw [hm]; exact hXr, hm, b3⟩⟩, ?_⟩
      refine List.perm_iff_count.mpr fun a => ?_
      simp only [List.count_append, List.count_cons]
      omega
    · refine ⟨Y1 ++ (e :: (((x :: X2) ++ X1) ++ Y2)), _, _, by simp, W_append.mpr ⟨_, b1, rfl, W_append.mpr ⟨t x, by rw [hm]; exact hXr, by rw [← hm]; exact b3⟩⟩, ?_⟩
      refine List.perm_iff_count.mpr fun a => ?_
      simp only [List.count_append, List.count_cons]
      omega
  obtain ⟨Z, a, b, hZ0, hZ, hZp⟩ := key
  have h1 : Dec t h Es (Z :: R) := by
    refine ⟨fun V hV => ?_, ?_⟩
    · rcases List.mem_cons.mp hV with rfl | hV
      · exact Trail.of hZ0 hZ
      · exact hD.all V (hp.mem_iff.mpr (by simp [hV]))
    · refine List.Perm.trans ?_ (hp.symm.flatten.trans hD.perm)
      rw [List.flatten_cons, List.flatten_cons, List.flatten_cons, ← List.append_assoc]
      exact hZp.append_right _
  have := hmin _ h1
  have hl := hp.length_eq
  simp only [List.length_cons] at this hl
  omega
end
/-- a sum over five places -/
def S5 (f : Nat → Nat) : Nat := f 0 + f 1 + f 2 + f 3 + f 4
theorem S5_le {f g : Nat → Nat} (k : ∀ z, z < 5 → f z ≤ g z) : S5 f ≤ S5 g := by
  unfold S5
  have := k 0 (by omega); have := k 1 (by omega); have := k 2 (by omega); have := k 3 (by omega); have := k 4 (by omega)
  omega
theorem S5_congr {f g : Nat → Nat} (k : ∀ z, z < 5 → f z = g z) : S5 f = S5 g := by
  unfold S5
  rw [k 0 (by omega), k 1 (by omega), k 2 (by omega), k 3 (by omega), k 4 (by omega)]
theorem key5 {α : Type} {key : α → Nat} {p : α → Bool} : ∀ {D : List α}, (∀ X ∈ D, key X < 5) → D.countP p = S5 (fun g => D.countP (fun X => p X && key X == g))
  | [], _ => rfl
  | X :: D, hk => by
    have ih := key5 (p := p) (D := D) fun Y hY => hk Y (List.mem_cons_of_mem _ hY)
    have hX := hk X List.mem_cons_self
    unfold S5 at ih ⊢
    dsimp only at ih ⊢
    simp only [List.countP_cons]
    rw [ih]
    have hc : key X = 0 ∨ key X = 1 ∨ key X = 2 ∨ key X = 3 ∨ key X = 4 := by omega
    generalize List.countP (fun X => p X && key X == 0) D = a0
    generalize List.countP (fun X => p X && key X == 1) D = a1
    generalize List.countP (fun X => p X && key X == 2) D = a2
    generalize List.countP (fun X => p X && key X == 3) D = a3
    generalize List.countP (fun X => p X && key X == 4) D = a4
    cases p X <;> rcases hc with e | e | e | e | e <;> rw [e] <;> simp <;> omega
theorem perm_two {α : Type} [BEq α] [LawfulBEq α] {D : List α} {X : α} (h : X ∈ D) : D.Perm (X :: D.erase X) := List.perm_cons_erase h
section
variable {t h : Nat → Nat} {Es : List Nat} {D : List (List Nat)} {lab : Nat → Nat}
/-- what a place has gained -/
def gr (t h : Nat → Nat) (Es : List Nat) (z : Nat) : Int := (Es.countP (fun e => h e == z) : Int) - (Es.countP (fun e => t e == z) : Int)
def PF (gr : Nat → Int) (lab : Nat → Nat) (g : Nat) : Nat := S5 fun z => if lab z = g ∧ gr z > 0 then (gr z).toNat else 0
def need (t : Nat → Nat) (Es : List Nat) (gr : Nat → Int) (lab : Nat → Nat) (g : Nat) : Nat := if (∃ e ∈ Es, lab (t e) = g) then max 1 (PF gr lab g) else 0
theorem gr_eq (hD : Dec t h Es D) (z : Nat) : gr t h Es z = (D.countP (fun X => en h X == z) : Int) - (D.countP (fun X => st t X == z) : Int) := by
  unfold gr
  rw [← hD.perm.countP_eq, ← hD.perm.countP_eq]
  exact bal2 z hD.all
theorem edge_in (hD : Dec t h Es D) {e : Nat} (he : e ∈ Es) : ∃ X ∈ D, e ∈ X := List.mem_flatten.mp (hD.perm.mem_iff.mpr he)
theorem in_edge (hD : Dec t h Es D) {X : List Nat} (hX : X ∈ D) {e : Nat} (he : e ∈ X) : e ∈ Es := hD.perm.mem_iff.mp (List.mem_flatten.mpr ⟨X, hX, he⟩)
theorem lab_trail (hD : Dec t h Es D) (hlab : ∀ e ∈ Es, lab (t e) = lab (h e)) {X : List Nat} (hX : X ∈ D) : lab (st t X) = lab (en h X) ∧ ∀ e ∈ X, lab (t e) = lab (st t X) :=
  W_lab (fun e he => hlab e (in_edge hD hX he)) (hD.all X hX).2
def Ng (t : Nat → Nat) (lab : Nat → Nat) (D : List (List Nat)) (g : Nat) : Nat := D.countP fun X => lab (st t X) == g
theorem st_mem {X : List Nat} (h : X ≠ []) : ∃ e ∈ X, t e = st t X := by
  cases X with
  | nil => exact absurd rfl h
  | cons e l => exact ⟨e, by simp, rfl⟩
theorem en_lt (hh : ∀ e ∈ Es, h e < 5) : ∀ {X : List Nat}, X ≠ [] → (∀ e ∈ X, e ∈ Es) → en h X < 5
  | [], hn, _ => absurd rfl hn
  | [e], _, hs => hh e (hs e (by simp))
  | _ :: f :: l, _, hs => en_lt hh (X := f :: l) (by simp) fun e he => hs e (List.mem_cons_of_mem _ he)
theorem Ng_split (hD : Dec t h Es D) (hlab : ∀ e ∈ Es, lab (t e) = lab (h e)) (hh : ∀ e ∈ Es, h e < 5) (g : Nat) : Ng t lab D g = S5 fun z => if lab z = g then D.countP (fun X => en h X == z) else 0 := by
  unfold Ng
  rw [key5 (key := en h) fun X hX => en_lt hh (hD.all X hX).1 fun e he => in_edge hD hX he]
  refine S5_congr fun z _ => ?_
  by_cases hz : lab z = g
  · rw [if_pos hz]
    refine List.countP_congr fun X hX => ?_
    rw [(lab_trail hD hlab hX).1]
    constructor
    · intro q; exact (Bool.and_eq_true_iff.mp q).2
    · intro q
      have : en h X = z := by simpa using q
      rw [this, hz]; simp
  · rw [if_neg hz, List.countP_eq_zero]
    intro X hX q
    obtain ⟨q1, q2⟩ := Bool.and_eq_true_iff.mp q
    rw [(lab_trail hD hlab hX).1] at q1
    have e1 : lab (en h X) = g := by simpa using q1
    have e2 : en h X = z := by simpa using q2
    exact hz (e2 ▸ e1)
theorem low (hD : Dec t h Es D) (hlab : ∀ e ∈ Es, lab (t e) = lab (h e)) (hh : ∀ e ∈ Es, h e < 5) (g : Nat) : need t Es (gr t h Es) lab g ≤ Ng t lab D g := by
  unfold need
  split
  · rename_i hx
    obtain ⟨e, he, hg⟩ := hx
    obtain ⟨X, hX, heX⟩ := edge_in hD he
    have h1 : 1 ≤ Ng t lab D g := by
      unfold Ng
      refine List.one_le_countP_iff.mpr ⟨X, hX, ?_⟩
      rw [← (lab_trail hD hlab hX).2 e heX, hg]; simp
    have h2 : PF (gr t h Es) lab g ≤ Ng t lab D g := by
      rw [Ng_split hD hlab hh]
      refine S5_le fun z _ => ?_
      split
      · rename_i q
        rw [if_pos q.1, gr_eq hD z]
        omega
      · exact Nat.zero_le _
    omega
  · exact Nat.zero_le _
theorem high (hD : Dec t h Es D) (hmin : ∀ D', Dec t h Es D' → D.length ≤ D'.length) (hlab : ∀ e ∈ Es, lab (t e) = lab (h e)) (ht : ∀ e ∈ Es, t e < 5) (hh : ∀ e ∈ Es, h e < 5)
    (hfin : ∀ f : Nat → Bool, (∀ e ∈ Es, f (t e) = f (h e)) → ∀ z w, z < 5 → w < 5 → lab z = lab w → f z = f w) (g : Nat) : Ng t lab D g ≤ need t Es (gr t h Es) lab g := by
  by_cases h0 : Ng t lab D g = 0
  · rw [h0]; exact Nat.zero_le _
  obtain ⟨X₀, hX₀, hg₀⟩ := List.one_le_countP_iff.mp (by unfold Ng at h0; omega : 1 ≤ D.countP fun X => lab (st t X) == g)
  have hg₀ : lab (st t X₀) = g := by simpa using hg₀
  have hex : ∃ e ∈ Es, lab (t e) = g := by
    obtain ⟨e, he, hq⟩ := st_mem (t := t) (hD.all X₀ hX₀).1
    exact ⟨e, in_edge hD hX₀ he, by rw [hq]; exact hg₀⟩
  unfold need
  rw [if_pos hex]
  by_cases hcl : ∃ X ∈ D, lab (st t X) = g ∧ st t X = en h X
  · obtain ⟨X, hX, hXg, hXc⟩ := hcl
    have hp := perm_two hX
    have hXW : W t h (st t X) X (st t X) := by have := (hD.all X hX).2; rw [← hXc] at this; exact this
    have meet : ∀ Y ∈ D.erase X, ∀ x ∈ X, ∀ e ∈ Y, t e = t x ∨ h e = t x → False := fun Y hY x hx e he hm =>
      no_meet hD hmin (hp.trans ((perm_two hY).cons _)) hXW hx he hm
    have one : Ng t lab (D.erase X) g = 0 := by
      unfold Ng
      rw [List.countP_eq_zero]
      intro Y hY hq
      have hYg : lab (st t Y) = g := by simpa using hq
      have hYD : Y ∈ D := List.mem_of_mem_erase hY
      have hXe : ∀ e ∈ X, X.any (fun x => t x == t e) = true := fun e he => List.any_eq_true.mpr ⟨e, he, by simp⟩
      have hXh : ∀ e ∈ X, X.any (fun x => t x == h e) = true := fun e he => by
        rcases W_next hXW he with q | ⟨y, hy, q⟩
        · obtain ⟨f, hf, hq⟩ := st_mem (t := t) (hD.all X hX).1
          exact List.any_eq_true.mpr ⟨f, hf, by rw [q, hq]; simp⟩
        · exact List.any_eq_true.mpr ⟨y, hy, by rw [q]; simp⟩
      have hres : ∀ e ∈ Es, X.any (fun x => t x == t e) = X.any (fun x => t x == h e) := fun e he => by
        obtain ⟨Z, hZ, heZ⟩ := edge_in hD he
        rcases List.mem_cons.mp (hp.mem_iff.mp hZ) with rfl | hZ'
        · rw [hXe e heZ, hXh e heZ]
        · cases h1 : X.any (fun x => t x == t e) with
          | true =>
            obtain ⟨x, hx, hq⟩ := List.any_eq_true.mp h1
            exact (meet Z hZ' x hx e heZ (.inl (by simpa using hq : t x = t e).symm)).elim
          | false =>
            cases h2 : X.any (fun x => t x == h e) with
            | false => rfl
            | true =>
              obtain ⟨x, hx, hq⟩ := List.any_eq_true.mp h2
              exact (meet Z hZ' x hx e heZ (.inr (by simpa using hq : t x = h e).symm)).elim
      obtain ⟨x0, hx0, hq0⟩ := st_mem (t := t) (hD.all X hX).1
      obtain ⟨y0, hy0, hq1⟩ := st_mem (t := t) (hD.all Y hYD).1
      have hs := hfin (fun z => X.any fun x => t x == z) hres (st t X) (st t Y) (by rw [← hq0]; exact ht _ (in_edge hD hX hx0)) (by rw [← hq1]; exact ht _ (in_edge hD hYD hy0)) (hXg.trans hYg.symm)
      have h1 : (X.any fun x => t x == st t X) = true := by rw [← hq0]; exact hXe x0 hx0
      have h2 : (X.any fun x => t x == st t Y) = true := hs ▸ h1
      obtain ⟨x, hx, hq⟩ := List.any_eq_true.mp h2
      exact meet Y hY x hx y0 hy0 (.inl (hq1.trans (by simpa using hq : t x = st t Y).symm))
    have : Ng t lab D g = Ng t lab (X :: D.erase X) g := hp.countP_eq _
    rw [this]
    unfold Ng at one ⊢
    rw [List.countP_cons, one]
    split <;> omega
  · have hle : Ng t lab D g ≤ PF (gr t h Es) lab g := by
      rw [Ng_split hD hlab hh]
      refine S5_le fun z _ => ?_
      by_cases hz : lab z = g
      · rw [if_pos hz]
        have hor : D.countP (fun X => en h X == z) = 0 ∨ D.countP (fun X => st t X == z) = 0 := by
          by_cases ha : D.countP (fun X => en h X == z) = 0
          · exact .inl ha
          by_cases hb : D.countP (fun X => st t X == z) = 0
          · exact .inr hb
          exfalso
          obtain ⟨X, hX, hXq⟩ := List.one_le_countP_iff.mp (by omega : 1 ≤ D.countP fun X => en h X == z)
          obtain ⟨Y, hY, hYq⟩ := List.one_le_countP_iff.mp (by omega : 1 ≤ D.countP fun X => st t X == z)
          have hXz : en h X = z := by simpa using hXq
          have hYz : st t Y = z := by simpa using hYq
          have hp := perm_two hX
          rcases List.mem_cons.mp (hp.mem_iff.mp hY) with rfl | hY'
          · exact hcl ⟨Y, hY, by rw [hYz]; exact hz, by rw [hYz, hXz]⟩
          · have w1 := (hD.all X hX).2
            have w2 := (hD.all Y hY).2
            rw [hXz] at w1
            rw [hYz] at w2
            exact no_join hD hmin (hp.trans ((perm_two hY').cons _)) w1 w2
        have hgz := gr_eq hD z
        by_cases hpos : gr t h Es z > 0
        · rw [if_pos ⟨hz, hpos⟩]; omega
        · rw [if_neg (fun q => hpos q.2)]; omega
      · rw [if_neg hz]; exact Nat.zero_le _
    omega
theorem euler (hD : Dec t h Es D) (hmin : ∀ D', Dec t h Es D' → D.length ≤ D'.length) (hlab : ∀ e ∈ Es, lab (t e) = lab (h e)) (ht : ∀ e ∈ Es, t e < 5) (hh : ∀ e ∈ Es, h e < 5) (hl5 : ∀ z, z < 5 → lab z < 5)
    (hfin : ∀ f : Nat → Bool, (∀ e ∈ Es, f (t e) = f (h e)) → ∀ z w, z < 5 → w < 5 → lab z = lab w → f z = f w) : D.length = S5 (need t Es (gr t h Es) lab) := by
  have e1 : D.length = S5 (Ng t lab D) := by
    have := key5 (key := fun X => lab (st t X)) (p := fun _ => true) (D := D) fun X hX => hl5 _ (by
      obtain ⟨e, he, hq⟩ := st_mem (t := t) (hD.all X hX).1
      rw [← hq]; exact ht _ (in_edge hD hX he))
    rw [List.countP_true] at this
    rw [this]
    exact S5_congr fun z _ => by unfold Ng; simp
  rw [e1]
  exact S5_congr fun g _ => Nat.le_antisymm (high hD hmin hlab ht hh hfin g) (low hD hlab hh g)
end
end EU
end
section
namespace EU
/-- the journeys of an order of edges, the last one ahead -/
noncomputable def jc (t h : Nat → Nat) : List Nat → Int
  | [] => 0
  | [_] => 1
  | m :: k :: r => jc t h (k :: r) + (if h k = t m then 0 else 1)
theorem jc_cons {t h : Nat → Nat} {m : Nat} : ∀ {l : List Nat}, jc t h (m :: l) ≤ jc t h l + 1
  | [] => by show (1 : Int) ≤ 0 + 1; omega
  | k :: r => by show jc t h (k :: r) + (if h k = t m then 0 else 1) ≤ _; split <;> omega
theorem jc_len {t h : Nat → Nat} : ∀ (l : List Nat), jc t h l ≤ l.length
  | [] => by show (0 : Int) ≤ 0; omega
  | m :: l => by
    have := jc_len (t := t) (h := h) l
    have := jc_cons (t := t) (h := h) (m := m) (l := l)
    rw [List.length_cons]
    omega
/-- an order falls into ways -/
theorem to_dec {t h : Nat → Nat} : ∀ (l : List Nat), ∃ D, (∀ X ∈ D, Trail t h X) ∧ D.flatten.Perm l ∧ (D.length : Int) = jc t h l ∧ ∀ e r, l = e :: r → ∃ X D', D = X :: D' ∧ en h X = h e
  | [] => ⟨[], (fun _ h => nomatch h), .refl _, rfl, (fun _ _ h => nomatch h)⟩
  | [m] => ⟨[[m]], fun X hX => by rw [List.mem_singleton.mp hX]; exact ⟨by simp, rfl, rfl⟩, .refl _, rfl, (fun e r q => by cases q; exact ⟨[m], [], rfl, rfl⟩)⟩
  | m :: k :: r => by
    obtain ⟨D, h1, h2, h3, h4⟩ := to_dec (t := t) (h := h) (k :: r)
    by_cases hm : h k = t m
    · obtain ⟨X, D', rfl, hX⟩ := h4 k r rfl
      have hXt := h1 X List.mem_cons_self
      have hW : W t h (st t X) (X ++ [m]) (h m) := W_append.mpr ⟨en h X, hXt.2, by rw [hX, hm], rfl⟩
      have hT : Trail t h (X ++ [m]) := Trail.of (by simp) hW
      refine ⟨(X ++ [m]) :: D', fun Y hY => ?_, ?_, ?_, fun e r' q => ?_⟩
      · rcases List.mem_cons.mp hY with rfl | hY
        · exact hT
        · exact h1 Y (List.mem_cons_of_mem _ hY)
      · refine List.Perm.trans ?_ (h2.cons m)
        refine List.perm_iff_count.mpr fun a => ?_
        simp only [List.flatten_cons, List.count_append, List.count_cons, List.count_nil]
        omega
      · show _ = jc t h (k :: r) + (if h k = t m then 0 else 1)
        rw [if_pos hm, ← h3]
        simp
      · cases q
        exact ⟨_, _, rfl, ((W_ends (by simp) hW).2).symm⟩
    · refine ⟨[m] :: D, fun Y hY => ?_, ?_, ?_, fun e r' q => ?_⟩
      · rcases List.mem_cons.mp hY with rfl | hY
        · exact ⟨by simp, rfl, rfl⟩
        · exact h1 Y hY
      · exact h2.cons m
      · show _ = jc t h (k :: r) + (if h k = t m then 0 else 1)
        rw [if_neg hm, ← h3]
        simp
      · cases q
        exact ⟨_, _, rfl, rfl⟩
theorem jc_on {t h : Nat → Nat} : ∀ {X : List Nat} {u v : Nat} {k : Nat} {r : List Nat}, W t h u X v → h k = u → jc t h (X.reverse ++ k :: r) ≤ jc t h (k :: r)
  | [], _, _, _, _, _, _ => Int.le_refl _
  | e :: X, u, v, k, r, ⟨a, b⟩, hk => by
    rw [List.reverse_cons, List.append_assoc]
    show jc t h (X.reverse ++ e :: k :: r) ≤ _
    refine Int.le_trans (jc_on b rfl) ?_
    show jc t h (k :: r) + (if h k = t e then 0 else 1) ≤ _
    rw [if_pos (hk.trans a.symm)]
    omega
theorem jc_way {t h : Nat → Nat} {X : List Nat} {l : List Nat} (hX : Trail t h X) : jc t h (X.reverse ++ l) ≤ jc t h l + 1 := by
  obtain ⟨hn, hW⟩ := hX
  cases X with
  | nil => exact absurd rfl hn
  | cons e X =>
    rw [List.reverse_cons, List.append_assoc]
    show jc t h (X.reverse ++ e :: l) ≤ _
    exact Int.le_trans (jc_on hW.2 rfl) jc_cons
theorem of_dec {t h : Nat → Nat} : ∀ (D : List (List Nat)), (∀ X ∈ D, Trail t h X) → ∃ l, l.Perm D.flatten ∧ jc t h l ≤ D.length
  | [], _ => ⟨[], .nil, Int.le_refl _⟩
  | X :: D, hD => by
    obtain ⟨l, h1, h2⟩ := of_dec D fun Y hY => hD Y (List.mem_cons_of_mem _ hY)
    refine ⟨X.reverse ++ l, ?_, ?_⟩
    · rw [List.flatten_cons]
      exact (List.reverse_perm X).append h1
    · have := jc_way (l := l) (hD X List.mem_cons_self)
      rw [List.length_cons]
      omega
/-- bit e of g -/
abbrev bt (g : Int) (e : Nat) : Int := (g.fdiv (2 ^ e)).fmod 2
theorem bit_add1 : ∀ n : Nat, n < 32 → ∀ m : Nat, m < 5 → (bt (n : Int) m = 0 → (n : Int) + 1 * 2 ^ m < 32) := by decide +kernel
theorem bit_add3 : ∀ n : Nat, n < 32 → ∀ m : Nat, m < 5 → ∀ e : Nat, e < 5 → bt (n : Int) m = 0 → bt ((n : Int) + 1 * 2 ^ m) e = (if e = m then 1 else bt (n : Int) e) := by decide +kernel
theorem bit_add2 (n : Nat) (hn : n < 32) (m : Nat) (hm : m < 5) (e : Nat) (he : e < 5) (h : bt (n : Int) m = 0) : bt ((n : Int) + 1 * 2 ^ m) e ≠ 0 ↔ (e = m ∨ bt (n : Int) e ≠ 0) := by
  rw [bit_add3 n hn m hm e he h]
  by_cases q : e = m
  · rw [if_pos q]; simp [q]
  · rw [if_neg q]; simp [q]
theorem bit_sub1 : ∀ n : Nat, n < 32 → ∀ m : Nat, m < 5 → (bt (n : Int) m ≠ 0 → 0 ≤ (n : Int) - 1 * 2 ^ m ∧ bt ((n : Int) - 1 * 2 ^ m) m = 0) := by decide +kernel
theorem bit_sub3 : ∀ n : Nat, n < 32 → ∀ m : Nat, m < 5 → ∀ e : Nat, e < 5 → (bt (n : Int) m = 0 ∨ e = m ∨ bt ((n : Int) - 1 * 2 ^ m) e = bt (n : Int) e) := by decide +kernel
theorem bit_sub2 (n : Nat) (hn : n < 32) (m : Nat) (hm : m < 5) (e : Nat) (he : e < 5) (h : bt (n : Int) m ≠ 0) (q : e ≠ m) : bt ((n : Int) - 1 * 2 ^ m) e ≠ 0 ↔ bt (n : Int) e ≠ 0 := by
  rw [((bit_sub3 n hn m hm e he).resolve_left h).resolve_left q]
theorem bit_none : ∀ n : Nat, n < 32 → (∀ e : Nat, e < 5 → bt (n : Int) e = 0) → n = 0 := by decide +kernel
theorem bit_all : ∀ e : Nat, e < 5 → bt 31 e ≠ 0 := by decide +kernel
structure Rep (l : List Nat) (g : Int) : Prop where
  nd : l.Nodup
  lt : ∀ e ∈ l, e < 5
  lo : 0 ≤ g
  hi : g < 32
  bits : ∀ e, e < 5 → (e ∈ l ↔ bt g e ≠ 0)
theorem Rep.cons {l : List Nat} {g : Int} (r : Rep l g) {m : Nat} (hm : m < 5) (hb : bt g m = 0) : Rep (m :: l) (g + 1 * 2 ^ m) := by
  obtain ⟨n, rfl⟩ := Int.eq_ofNat_of_zero_le r.lo
  have hn : n < 32 := by have := r.hi; omega
  have a := bit_add1 n hn m hm hb
  have b := fun e he => bit_add2 n hn m hm e he hb
  refine ⟨List.nodup_cons.mpr ⟨fun q => (r.bits m hm).mp q hb, r.nd⟩, fun e he => ?_, ?_, a, fun e he => ?_⟩
  · rcases List.mem_cons.mp he with rfl | he
    · exact hm
    · exact r.lt e he
  · have : (0 : Int) < 2 ^ m := Int.pow_pos (by decide)
    omega
  · rw [b e he, List.mem_cons, r.bits e he]
theorem Rep.tail {l : List Nat} {m : Nat} {g : Int} (r : Rep (m :: l) g) : m < 5 ∧ Rep l (g - 1 * 2 ^ m) ∧ bt (g - 1 * 2 ^ m) m = 0 := by
  obtain ⟨n, rfl⟩ := Int.eq_ofNat_of_zero_le r.lo
  have hn : n < 32 := by have := r.hi; omega
  have hm := r.lt m List.mem_cons_self
  have hb := (r.bits m hm).mp List.mem_cons_self
  obtain ⟨a, b⟩ := bit_sub1 n hn m hm hb
  have c := fun e he => bit_sub2 n hn m hm e he hb
  obtain ⟨nd1, nd2⟩ := List.nodup_cons.mp r.nd
  refine ⟨hm, ⟨nd2, fun e he => r.lt e (List.mem_cons_of_mem _ he), a, ?_, fun e he => ?_⟩, b⟩
  · have : (0 : Int) < 2 ^ m := Int.pow_pos (by decide)
    omega
  · by_cases q : e = m
    · subst q
      exact ⟨fun z => absurd z nd1, fun z => absurd b z⟩
    · rw [c e he q, ← r.bits e he, List.mem_cons]
      exact ⟨.inr, fun z => z.resolve_left q⟩
theorem Rep.nil {g : Int} (r : Rep [] g) : g = 0 := by
  obtain ⟨n, rfl⟩ := Int.eq_ofNat_of_zero_le r.lo
  have hn : n < 32 := by have := r.hi; omega
  have := bit_none n hn fun e he => Decidable.byContradiction fun q => nomatch (r.bits e he).mpr q
  rw [this]; rfl
theorem bit_zero : ∀ e : Nat, e < 5 → bt 0 e = 0 := by decide +kernel
theorem Rep.zero : Rep [] 0 := ⟨List.nodup_nil, (fun _ h => nomatch h), by omega, by omega, fun e he => ⟨(fun h => nomatch h), fun h => absurd (bit_zero e he) h⟩⟩
theorem rep_all {l : List Nat} (p : l.Perm [0, 1, 2, 3, 4]) : Rep l 31 :=
  ⟨p.nodup_iff.mpr (by decide), fun e he => by have := p.mem_iff.mp he; simp at this; omega, by omega, by omega, fun e he => ⟨fun _ => bit_all e he, fun _ => p.mem_iff.mpr (by simp; omega)⟩⟩
theorem rep_perm {l : List Nat} (r : Rep l 31) : l.Perm [0, 1, 2, 3, 4] := by
  refine (List.perm_ext_iff_of_nodup r.nd (by decide)).mpr fun e => ⟨fun he => ?_, fun he => ?_⟩
  · have := r.lt e he; simp; omega
  · have h5 : e < 5 := by simp at he; omega
    exact (r.bits e h5).mpr (bit_all e h5)
theorem Rep.length {l : List Nat} {g : Int} (r : Rep l g) : l.length ≤ 5 := by
  have e := key5 (key := fun e : Nat => e) (p := fun _ => true) (D := l) r.lt
  rw [List.countP_true] at e
  have c := fun z => List.nodup_iff_count.mp r.nd z
  have q : ∀ z, l.countP (fun X => true && X == z) = l.count z := fun z => by unfold List.count; simp
  unfold S5 at e
  dsimp only at e
  rw [q 0, q 1, q 2, q 3, q 4] at e
  have := c 0; have := c 1; have := c 2; have := c 3; have := c 4
  omega
end EU
end
section
namespace EU
theorem fold_inv {α β : Type} {f : β → α → β} {I : β → Prop} : ∀ (l : List α) (b : β), (∀ b a, a ∈ l → I b → I (f b a)) → I b → I (l.foldl f b)
  | [], _, _, h => h
  | a :: l, b, hs, h => fold_inv l (f b a) (fun b x hx => hs b x (List.mem_cons_of_mem _ hx)) (hs b a List.mem_cons_self h)
theorem fold_each {α β : Type} {f : β → α → β} {I : β → Prop} {P : α → β → Prop} : ∀ (l : List α) (b : β), (∀ b a, a ∈ l → I b → I (f b a)) → (∀ b a, a ∈ l → I b → P a (f b a)) → (∀ b a x, a ∈ l → I b → P x b → P x (f b a)) → I b → ∀ x ∈ l, P x (l.foldl f b)
  | [], _, _, _, _, _ => fun _ h => nomatch h
  | a :: l, b, hI, hP, hS, h => fun x hx => by
    have hI' : ∀ b x, x ∈ l → I b → I (f b x) := fun b x hx => hI b x (List.mem_cons_of_mem _ hx)
    rcases List.mem_cons.mp hx with rfl | hx
    · exact (fold_inv (I := fun c => I c ∧ P x c) l (f b x) (fun c y hy q => ⟨hI' c y hy q.1, hS c y x (List.mem_cons_of_mem _ hy) q.1 q.2⟩) ⟨hI b x List.mem_cons_self h, hP b x List.mem_cons_self h⟩).2
    · exact fold_each l (f b a) hI' (fun b x hx => hP b x (List.mem_cons_of_mem _ hx)) (fun b a x ha => hS b a x (List.mem_cons_of_mem _ ha)) (hI b a List.mem_cons_self h) x hx
theorem in_rangeKs {n e : Nat} (h : e < n) : (e : Int) ∈ rangeKs 0 n := List.mem_map.mpr ⟨e, List.mem_range.mpr h, by omega⟩
theorem of_rangeKs {n : Nat} {k : Int} (h : k ∈ rangeKs 0 n) : ∃ e : Nat, k = (e : Int) ∧ e < n := by
  have := mem_rangeKs h
  exact ⟨k.toNat, by omega, by omega⟩
section
variable {T H : List Int} {t h : Nat → Nat}
/-- the lists say the edges' places -/
structure Says (T H : List Int) (t h : Nat → Nat) : Prop where
  eq : ∀ k m, k < 5 → m < 5 → (H.getD k 0 = T.getD m 0 ↔ h k = t m)
def dl (t h : Nat → Nat) (k m : Nat) : Int := if h k = t m then 0 else 1
theorem Says.dl (S : Says T H t h) {k m : Nat} (hk : k < 5) (hm : m < 5) : (if H.getD (k : Int).toNat 0 = T.getD (m : Int).toNat 0 then (0 : Int) else 1) = dl t h k m := by
  unfold EU.dl
  simp only [Int.toNat_natCast]
  by_cases q : h k = t m
  · rw [if_pos q, if_pos ((S.eq k m hk hm).mpr q)]
  · rw [if_neg q, if_neg fun z => q ((S.eq k m hk hm).mp z)]
def Sound (t h : Nat → Nat) (c : Tb) : Prop := ∀ (g : Int) (k : Nat), k < 5 → c g k < 9 → ∃ l, Rep (k :: l) g ∧ jc t h (k :: l) = c g k
def Down (c c' : Tb) : Prop := ∀ g k, c' g k ≤ c g k
theorem stepM_down {c : Tb} {g k m : Int} : Down c (stepM T H g k c m) := fun g' k' => by
  unfold stepM
  generalize c g k + (if H.getD k.toNat 0 = T.getD m.toNat 0 then (0 : Int) else 1) = v
  split
  · split
    · rename_i q
      unfold updT
      split
      · rename_i e
        rw [e.1, e.2]
        omega
      · exact Int.le_refl _
    · exact Int.le_refl _
  · exact Int.le_refl _
theorem down_trans {a b c : Tb} (x : Down a b) (y : Down b c) : Down a c := fun g k => Int.le_trans (y g k) (x g k)
theorem down_refl {a : Tb} : Down a a := fun _ _ => Int.le_refl _
theorem stepK_down {c : Tb} {g k : Int} : Down c (stepK T H g c k) := by
  unfold stepK
  split
  · exact fold_inv (I := fun b => Down c b) _ c (fun b m _ hb => down_trans hb stepM_down) down_refl
  · exact down_refl
theorem stepG_down {c : Tb} {g : Int} : Down c (stepG T H c g) := fold_inv (I := fun b => Down c b) _ c (fun b m _ hb => down_trans hb stepK_down) down_refl
theorem pow_pos' (m : Nat) : (0 : Int) < 1 * 2 ^ m := by
  have : (0 : Int) < 2 ^ m := Int.pow_pos (by decide)
  omega
theorem stepM_same {c : Tb} {g k m k' : Int} : stepM T H g k c m g k' = c g k' := by
  unfold stepM
  generalize c g k + (if H.getD k.toNat 0 = T.getD m.toNat 0 then (0 : Int) else 1) = v
  split
  · split
    · unfold updT
      have := pow_pos' m.toNat
      rw [if_neg (by omega)]
    · rfl
  · rfl
theorem stepK_same {c : Tb} {g k k' : Int} : stepK T H g c k g k' = c g k' := by
  unfold stepK
  split
  · exact fold_inv (I := fun b : Tb => b g k' = c g k') _ c (fun b m _ hb => stepM_same.trans hb) rfl
  · rfl
theorem stepM_sound (S : Says T H t h) {c : Tb} {g : Int} {k m : Nat} (hk : k < 5) (hm : m < 5) (hc : Sound t h c) : Sound t h (stepM T H g k c m) := by
  unfold stepM
  rw [S.dl hk hm]
  simp only [Int.toNat_natCast]
  split
  · rename_i hb
    split
    · intro g' k' hk' hlt
      unfold updT at hlt ⊢
      split at hlt
      · rename_i e
        obtain ⟨rfl, e2⟩ := e
        obtain rfl : k' = m := by omega
        have hd : 0 ≤ dl t h k k' := by unfold dl; split <;> omega
        obtain ⟨l, r, q⟩ := hc g k hk (by omega)
        refine ⟨k :: l, r.cons hm hb, ?_⟩
        rw [if_pos ⟨rfl, rfl⟩, ← q]
        rfl
      · rename_i e
        rw [if_neg e]
        exact hc g' k' hk' hlt
    · exact hc
  · exact hc
theorem stepG_sound (S : Says T H t h) {c : Tb} {g : Int} (hc : Sound t h c) : Sound t h (stepG T H c g) := by
  unfold stepG
  refine fold_inv (I := Sound t h) _ c (fun b k hk hb => ?_) hc
  obtain ⟨k, rfl, hk5⟩ := of_rangeKs hk
  unfold stepK
  split
  · refine fold_inv (I := Sound t h) _ b (fun b m hm hb => ?_) hb
    obtain ⟨m, rfl, hm5⟩ := of_rangeKs hm
    exact stepM_sound S hk5 hm5 hb
  · exact hb
theorem stepM_hit (S : Says T H t h) {c : Tb} {g : Int} {k m : Nat} (hk : k < 5) (hm : m < 5) (hb : bt g m = 0) : stepM T H g k c m (g + 1 * 2 ^ m) m ≤ c g k + dl t h k m := by
  unfold stepM
  rw [S.dl hk hm]
  simp only [Int.toNat_natCast]
  rw [if_pos hb]
  split
  · unfold updT
    rw [if_pos ⟨rfl, rfl⟩]
    exact Int.le_refl _
  · omega
theorem stepG_hit (S : Says T H t h) {c : Tb} {g : Int} {k m : Nat} (hk : k < 5) (hm : m < 5) (hb : bt g m = 0) (h9 : c g k < 9) : stepG T H c g (g + 1 * 2 ^ m) m ≤ c g k + dl t h k m := by
  unfold stepG
  refine fold_each (I := fun b : Tb => ∀ k', b g k' = c g k') (P := fun (x : Int) (b : Tb) => x = (k : Int) → b (g + 1 * 2 ^ m) m ≤ c g k + dl t h k m) _ c (fun b x hx hI k' => stepK_same.trans (hI k')) (fun b x hx hI e => ?_) (fun b a x ha hI hP e => Int.le_trans (stepK_down _ _) (hP e)) (fun _ => rfl) (k : Int) (in_rangeKs hk) rfl
  subst e
  unfold stepK
  rw [if_pos (by rw [hI]; exact h9)]
  refine fold_each (I := fun b : Tb => ∀ k', b g k' = c g k') (P := fun (y : Int) (b : Tb) => y = (m : Int) → b (g + 1 * 2 ^ m) m ≤ c g k + dl t h k m) _ b (fun b x hx hI k' => stepM_same.trans (hI k')) (fun b x hx hI e => ?_) (fun b a x ha hI hP e => Int.le_trans (stepM_down _ _) (hP e)) hI (m : Int) (in_rangeKs hm) rfl
  subst e
  have := stepM_hit S (c := b) hk hm hb
  rw [hI] at this
  exact this
def Done (t h : Nat → Nat) (i : Int) (c : Tb) : Prop := ∀ (m : Nat) (l : List Nat) (g : Int), Rep l g → m < 5 → bt g m = 0 → (l = [] ∨ g < i) → c (g + 1 * 2 ^ m) m ≤ jc t h (m :: l)
def c0 : Tb := (rangeKs 0 5).foldl stepI (fun _ _ => 9)
theorem c0_hit : ∀ m : Nat, m < 5 → c0 (0 + 1 * 2 ^ m) m = 1 := by decide +kernel
theorem c0_done : Done t h 0 c0 := fun m l g r hm hb hor => by
  rcases hor with rfl | hg
  · rw [r.nil, c0_hit m hm]
    exact Int.le_refl _
  · exact absurd r.lo (by omega)
theorem c0_sound : Sound t h c0 := by
  unfold c0
  refine fold_inv (I := Sound t h) _ _ (fun b k hk hb => ?_) (fun g k _ h9 => absurd h9 (by omega))
  obtain ⟨k, rfl, hk5⟩ := of_rangeKs hk
  intro g' k' hk' hlt
  unfold stepI updT at hlt ⊢
  simp only [Int.toNat_natCast] at hlt ⊢
  split at hlt
  · rename_i e
    obtain ⟨rfl, e2⟩ := e
    obtain rfl : k' = k := by omega
    refine ⟨[], ?_, ?_⟩
    · have := Rep.zero.cons hk' (bit_zero k' hk')
      rwa [Int.zero_add] at this
    · rw [if_pos ⟨rfl, rfl⟩]
      rfl
  · rename_i e
    rw [if_neg e]
    exact hb g' k' hk' hlt
theorem step_done (S : Says T H t h) {i : Int} {c : Tb} (hc : Done t h i c) : Done t h (i + 1) (stepG T H c i) := fun m l g r hm hb hor => by
  by_cases q : l = [] ∨ g < i
  · exact Int.le_trans (stepG_down _ _) (hc m l g r hm hb q)
  have hg : g = i := by
    rcases hor with e | e
    · exact absurd (.inl e) q
    · have : ¬ g < i := fun z => q (.inr z)
      omega
  subst hg
  cases l with
  | nil => exact absurd (.inl rfl) q
  | cons k l =>
    obtain ⟨hk, r', hb'⟩ := r.tail
    have hp := pow_pos' k
    have h1 := hc k l _ r' hk hb' (.inr (by omega))
    rw [show g - 1 * 2 ^ k + 1 * 2 ^ k = g by omega] at h1
    have h2 := jc_len (t := t) (h := h) (k :: l)
    have h3 := r.length
    have h4 := stepG_hit S (c := c) hk hm hb (by omega)
    show _ ≤ jc t h (k :: l) + dl t h k m
    omega
theorem few_done (S : Says T H t h) : Done t h 32 (fewT T H) ∧ Sound t h (fewT T H) := by
  have all : ∀ n : Nat, Done t h (n : Int) ((rangeKs 0 n).foldl (stepG T H) c0) ∧ Sound t h ((rangeKs 0 n).foldl (stepG T H) c0) := by
    intro n
    induction n with
    | zero =>
      rw [show rangeKs 0 0 = [] from rfl, List.foldl_nil]
      exact ⟨c0_done, c0_sound⟩
    | succ n ih =>
      have e : rangeKs 0 (n + 1) = rangeKs 0 n ++ [(n : Int)] := by
        unfold rangeKs
        rw [List.range_succ, List.map_append]
        simp
      rw [e, List.foldl_append, List.foldl_cons, List.foldl_nil]
      have e2 : ((n + 1 : Nat) : Int) = (n : Int) + 1 := by omega
      rw [e2]
      exact ⟨step_done S ih.1, stepG_sound S ih.2⟩
  have z := all 32
  have e : ((32 : Nat) : Int) = 32 := rfl
  rw [e] at z
  have e2 : fewT T H = (rangeKs 0 32).foldl (stepG T H) c0 := by unfold fewT c0; rfl
  rw [e2]
  exact z
theorem min_two (a b : Int) : min a b = a ∨ min a b = b := by
  rcases Int.le_total a b with h | h
  · exact .inl (Int.min_eq_left h)
  · exact .inr (Int.min_eq_right h)
theorem few_min (f : Int → Int) (m : Nat) (hc : m = 0 ∨ m = 1 ∨ m = 2 ∨ m = 3 ∨ m = 4) : min (min (min (min (f 0) (f 1)) (f 2)) (f 3)) (f 4) ≤ f m := by
  rcases hc with rfl | rfl | rfl | rfl | rfl
  · exact Int.le_trans (Int.min_le_left _ _) (Int.le_trans (Int.min_le_left _ _) (Int.le_trans (Int.min_le_left _ _) (Int.min_le_left _ _)))
  · exact Int.le_trans (Int.min_le_left _ _) (Int.le_trans (Int.min_le_left _ _) (Int.le_trans (Int.min_le_left _ _) (Int.min_le_right _ _)))
  · exact Int.le_trans (Int.min_le_left _ _) (Int.le_trans (Int.min_le_left _ _) (Int.min_le_right _ _))
  · exact Int.le_trans (Int.min_le_left _ _) (Int.min_le_right _ _)
  · exact Int.min_le_right _ _
theorem few_at (f : Int → Int) : ∃ k : Nat, k < 5 ∧ f k = min (min (min (min (f 0) (f 1)) (f 2)) (f 3)) (f 4) := by
  rcases min_two (min (min (min (f 0) (f 1)) (f 2)) (f 3)) (f 4) with e | e
  · rcases min_two (min (min (f 0) (f 1)) (f 2)) (f 3) with e1 | e1
    · rcases min_two (min (f 0) (f 1)) (f 2) with e2 | e2
      · rcases min_two (f 0) (f 1) with e3 | e3
        · exact ⟨0, by decide, (e.trans (e1.trans (e2.trans e3))).symm⟩
        · exact ⟨1, by decide, (e.trans (e1.trans (e2.trans e3))).symm⟩
      · exact ⟨2, by decide, (e.trans (e1.trans e2)).symm⟩
    · exact ⟨3, by decide, (e.trans e1).symm⟩
  · exact ⟨4, by decide, e.symm⟩
theorem few_le (S : Says T H t h) {l : List Nat} (p : l.Perm [0, 1, 2, 3, 4]) : fewF T H ≤ jc t h l := by
  have r := rep_all p
  cases l with
  | nil => exact absurd p.length_eq (by decide)
  | cons m l =>
    obtain ⟨hm, r', hb⟩ := r.tail
    have hp := pow_pos' m
    have h1 := (few_done S).1 m l _ r' hm hb (.inr (by omega))
    rw [show (31 : Int) - 1 * 2 ^ m + 1 * 2 ^ m = 31 by omega] at h1
    refine Int.le_trans ?_ h1
    have hc : m = 0 ∨ m = 1 ∨ m = 2 ∨ m = 3 ∨ m = 4 := by omega
    exact few_min (fewT T H 31) m hc
theorem few_is (S : Says T H t h) : ∃ l, l.Perm [0, 1, 2, 3, 4] ∧ jc t h l = fewF T H := by
  have h5 : fewF T H ≤ 5 := Int.le_trans (few_le S (.refl _)) (jc_len _)
  have hs := (few_done S).2
  have hor : ∃ k : Nat, k < 5 ∧ fewT T H 31 k = fewF T H := few_at (fewT T H 31)
  obtain ⟨k, hk, e⟩ := hor
  obtain ⟨l, r, q⟩ := hs 31 k hk (by omega)
  exact ⟨_, rep_perm r, q.trans e⟩
end
end EU
end
section
namespace EU
section
variable {T H G : List Int}
abbrev tF (T : List Int) (e : Nat) : Nat := (T.getD e 0).toNat
noncomputable def LL (T H : List Int) (i z : Nat) : Int := (labF T H i).getD z 0
theorem LL_succ {i z : Nat} (hz : z < 5) : LL T H (i + 1) z = if LL T H i z = LL T H i (tF H i) then LL T H i (tF T i) else LL T H i z := by
  show (relab T H (labF T H i) i).getD z 0 = _
  unfold relab
  have hl := labF_len T H i
  rw [List.getD_eq_getElem?_getD, List.getElem?_map]
  have hz' : z < (labF T H i).length := by omega
  have e : LL T H i z = (labF T H i)[z] := by
    unfold LL
    rw [List.getD_eq_getElem?_getD, List.getElem?_eq_getElem hz']; rfl
  rw [e, List.getElem?_eq_getElem hz']
  simp only [Option.map_some, Option.getD_some, Int.toNat_natCast]
  rfl
theorem LL_zero : ∀ z, z < 5 → LL T H 0 z = z := by
  show ∀ z, z < 5 → ([0, 1, 2, 3, 4] : List Int).getD z 0 = z
  decide
section
variable (bt' : ∀ e, e < 5 → tF T e < 5) (bh : ∀ e, e < 5 → tF H e < 5)
include bt'
theorem LL_bound : ∀ (i : Nat), i ≤ 5 → ∀ z, z < 5 → 0 ≤ LL T H i z ∧ LL T H i z < 5
  | 0, _, z, hz => by rw [LL_zero z hz]; omega
  | i + 1, hi, z, hz => by
    rw [LL_succ hz]
    split
    · exact LL_bound i (by omega) _ (bt' i (by omega))
    · exact LL_bound i (by omega) z hz
omit bt' in
theorem LL_keep {i a b : Nat} (ha : a < 5) (hb : b < 5) (h : LL T H i a = LL T H i b) : LL T H (i + 1) a = LL T H (i + 1) b := by
  rw [LL_succ ha, LL_succ hb, h]
include bh
theorem LL_edge : ∀ (i : Nat), i ≤ 5 → ∀ e, e < i → LL T H i (tF T e) = LL T H i (tF H e)
  | i + 1, hi, e, he => by
    by_cases q : e = i
    · subst q
      rw [LL_succ (bt' e (by omega)), LL_succ (bh e (by omega))]
      rw [if_pos rfl]
      split <;> rfl
    · exact LL_keep (bt' e (by omega)) (bh e (by omega)) (LL_edge i (by omega) e (by omega))
theorem LL_fin (f : Nat → Bool) (hf : ∀ e, e < 5 → f (tF T e) = f (tF H e)) : ∀ (i : Nat), i ≤ 5 → ∀ a b, a < 5 → b < 5 → LL T H i a = LL T H i b → f a = f b
  | 0, _, a, b, ha, hb, h => by
    rw [LL_zero a ha, LL_zero b hb] at h
    obtain rfl : a = b := by omega
    rfl
  | i + 1, hi, a, b, ha, hb, h => by
    have ih := LL_fin f hf i (by omega)
    have ht := bt' i (by omega)
    have hh := bh i (by omega)
    have hfi := hf i (by omega)
    rw [LL_succ ha, LL_succ hb] at h
    split at h
    · rename_i q1
      split at h
      · rename_i q2
        exact ih a b ha hb (q1.trans q2.symm)
      · exact (ih a _ ha hh q1).trans (hfi.symm.trans (ih _ b ht hb h))
    · split at h
      · rename_i q2
        exact (ih a _ ha ht h).trans (hfi.trans (ih _ b hh hb q2.symm))
      · exact ih a b ha hb h
end
/-- the sum of what the group's places have gained -/
theorem pick_sum {lab : List Int} {g k : Int} {l : List Int} : (pickG G lab g l k).sum = l.sum + (if lab.getD k.toNat 0 = g ∧ G.getD k.toNat 0 > 0 then G.getD k.toNat 0 else 0) := by
  unfold pickG
  split
  · rw [List.sum_append]; simp
  · omega
theorem range5 : rangeKs 0 5 = [0, 1, 2, 3, 4] := by decide
theorem picks_sum {lab : List Int} {g : Nat} {gz : Nat → Int} (hG : ∀ z, z < 5 → G.getD z 0 = gz z) (hl : ∀ z, z < 5 → 0 ≤ lab.getD z 0) : ((rangeKs 0 5).foldl (pickG G lab (g : Int)) []).sum = (PF gz (fun z => (lab.getD z 0).toNat) g : Int) := by
  rw [range5]
  simp only [List.foldl_cons, List.foldl_nil, pick_sum, List.sum_nil]
  have key : ∀ z : Nat, z < 5 → (if lab.getD (z : Int).toNat 0 = (g : Int) ∧ G.getD (z : Int).toNat 0 > 0 then G.getD (z : Int).toNat 0 else 0) = (((if (lab.getD z 0).toNat = g ∧ gz z > 0 then (gz z).toNat else 0 : Nat)) : Int) := fun z hz => by
    have h1 := hl z hz
    simp only [Int.toNat_natCast]
    rw [hG z hz]
    by_cases q : (lab.getD z 0).toNat = g ∧ gz z > 0
    · rw [if_pos q, if_pos ⟨by omega, q.2⟩]; omega
    · rw [if_neg q, if_neg fun p => q ⟨by omega, p.2⟩]; rfl
  have k0 := key 0 (by omega); have k1 := key 1 (by omega); have k2 := key 2 (by omega); have k3 := key 3 (by omega); have k4 := key 4 (by omega)
  unfold PF S5
  dsimp only
  simp only [Int.natCast_add]
  rw [← k0, ← k1, ← k2, ← k3, ← k4]
  simp only [Int.zero_add]
  rfl
theorem add_is {lab : List Int} {acc : Int} {g : Nat} {gz : Nat → Int} (hT : T.length = 5) (hG : ∀ z, z < 5 → G.getD z 0 = gz z) (hl : ∀ z, z < 5 → 0 ≤ lab.getD z 0) (bT : ∀ e, e < 5 → tF T e < 5) :
    addG T G lab acc (g : Int) = acc + (need (tF T) [0, 1, 2, 3, 4] gz (fun z => (lab.getD z 0).toNat) g : Int) := by
  unfold addG
  rw [picks_sum hG hl]
  have hany : ((T.map (fun p => lab.getD p.toNat 0)).any fun x => x == (g : Int)) = true ↔ ∃ e ∈ [0, 1, 2, 3, 4], (lab.getD (tF T e) 0).toNat = g := by
    rw [List.any_eq_true]
    constructor
    · rintro ⟨x, hx, hq⟩
      obtain ⟨p, hp, rfl⟩ := List.mem_map.mp hx
      obtain ⟨e, he, rfl⟩ := List.mem_iff_getElem.mp hp
      have hq : lab.getD (T[e]).toNat 0 = (g : Int) := by simpa using hq
      refine ⟨e, by simp; omega, ?_⟩
      have e1 : T.getD e 0 = T[e] := by rw [List.getD_eq_getElem?_getD, List.getElem?_eq_getElem he]; rfl
      show (lab.getD (T.getD e 0).toNat 0).toNat = g
      rw [e1]
      omega
    · rintro ⟨e, he, hq⟩
      have he5 : e < 5 := by simp at he; omega
      have heT : e < T.length := by omega
      have e1 : T.getD e 0 = T[e] := by rw [List.getD_eq_getElem?_getD, List.getElem?_eq_getElem heT]; rfl
      have h1 := hl (tF T e) (bT e he5)
      refine ⟨lab.getD (tF T e) 0, List.mem_map.mpr ⟨T[e], List.getElem_mem _, by show _ = lab.getD (T.getD e 0).toNat 0; rw [e1]⟩, ?_⟩
      have : lab.getD (tF T e) 0 = (g : Int) := by omega
      rw [this]; simp
  unfold need
  by_cases q : ∃ e ∈ [0, 1, 2, 3, 4], (lab.getD (tF T e) 0).toNat = g
  · rw [if_pos (hany.mpr q), if_pos q]
    generalize PF gz (fun z => (lab.getD z 0).toNat) g = x
    split <;> omega
  · rw [if_neg (fun p => q (hany.mp p)), if_neg q]
    omega
theorem nee_is {gz : Nat → Int} (hT : T.length = 5) (hG : ∀ z, z < 5 → G.getD z 0 = gz z) (bT : ∀ e, e < 5 → tF T e < 5) :
    neeAll T H G = (S5 (need (tF T) [0, 1, 2, 3, 4] gz (fun z => ((labF T H 5).getD z 0).toNat)) : Int) := by
  unfold neeAll neeF
  have hl : ∀ z, z < 5 → 0 ≤ (labF T H 5).getD z 0 := fun z hz => (LL_bound bT 5 (Nat.le_refl _) z hz).1
  rw [range5]
  simp only [List.foldl_cons, List.foldl_nil]
  have a := fun (acc : Int) (g : Nat) => add_is (lab := labF T H 5) (acc := acc) (g := g) hT hG hl bT
  have a0 := a 0 0
  have a1 := fun acc => a acc 1
  have a2 := fun acc => a acc 2
  have a3 := fun acc => a acc 3
  have a4 := fun acc => a acc 4
  have c0 : ((0 : Nat) : Int) = 0 := rfl
  have c1 : ((1 : Nat) : Int) = 1 := rfl
  have c2 : ((2 : Nat) : Int) = 2 := rfl
  have c3 : ((3 : Nat) : Int) = 3 := rfl
  have c4 : ((4 : Nat) : Int) = 4 := rfl
  rw [c0] at a0
  simp only [c1] at a1
  simp only [c2] at a2
  simp only [c3] at a3
  simp only [c4] at a4
  rw [a0, a1, a2, a3, a4]
  unfold S5
  omega
theorem says_of (bT : ∀ e, e < 5 → 0 ≤ T.getD e 0) (bH : ∀ e, e < 5 → 0 ≤ H.getD e 0) : Says T H (tF T) (tF H) := ⟨fun k m hk hm => by
  have := bT m hm
  have := bH k hk
  show _ ↔ (H.getD k 0).toNat = (T.getD m 0).toNat
  omega⟩
/-- what is needed is the fewest -/
theorem needed_fewest (hT : T.length = 5) (bT : ∀ e, e < 5 → 0 ≤ T.getD e 0 ∧ T.getD e 0 < 5) (bH : ∀ e, e < 5 → 0 ≤ H.getD e 0 ∧ H.getD e 0 < 5)
    (hG : ∀ z, z < 5 → G.getD z 0 = gr (tF T) (tF H) [0, 1, 2, 3, 4] z) : neeAll T H G = fewF T H := by
  have S := says_of (fun e he => (bT e he).1) (fun e he => (bH e he).1)
  have bt5 : ∀ e, e < 5 → tF T e < 5 := fun e he => by have := bT e he; show (T.getD e 0).toNat < 5; omega
  have bh5 : ∀ e, e < 5 → tF H e < 5 := fun e he => by have := bH e he; show (H.getD e 0).toNat < 5; omega
  have m5 : ∀ e ∈ [0, 1, 2, 3, 4], e < 5 := by decide
  obtain ⟨l, hl, hj⟩ := few_is S
  obtain ⟨D, h1, h2, h3, _⟩ := to_dec (t := tF T) (h := tF H) l
  have hD : Dec (tF T) (tF H) [0, 1, 2, 3, 4] D := ⟨h1, h2.trans hl⟩
  have hmin : ∀ D', Dec (tF T) (tF H) [0, 1, 2, 3, 4] D' → D.length ≤ D'.length := fun D' hD' => by
    obtain ⟨l', hl', hj'⟩ := of_dec D' hD'.all
    have := few_le S (hl'.trans hD'.perm)
    omega
  have lb := fun z hz => LL_bound (H := H) bt5 5 (Nat.le_refl _) z hz
  have eu := euler (lab := fun z => ((labF T H 5).getD z 0).toNat) hD hmin
    (fun e he => by have := LL_edge bt5 bh5 5 (Nat.le_refl _) e (m5 e he); exact congrArg Int.toNat this)
    (fun e he => bt5 e (m5 e he)) (fun e he => bh5 e (m5 e he)) (fun z hz => by have := lb z hz; show (LL T H 5 z).toNat < 5; omega)
    (fun f hf z w hz hw he => LL_fin bt5 bh5 f (fun e he => hf e (by simp; omega)) 5 (Nat.le_refl _) z w hz hw (by
      have := lb z hz
      have := lb w hw
      have he : (LL T H 5 z).toNat = (LL T H 5 w).toNat := he
      omega))
  rw [nee_is (gz := gr (tF T) (tF H) [0, 1, 2, 3, 4]) hT hG bt5, ← eu, h3, hj]
end
end EU
end
section
def hourF (c : Int) : Int := (c.fdiv 64).fmod 100
def placeF (k : Int) : Int := [(0 : Int), 0, 1, 1, 2, 2, 3, 4].getD k.toNat 0
def tailF (c : Int) : Int := placeF (c.fmod 8)
def headF (c : Int) : Int := placeF ((c.fdiv 8).fmod 8)
/-- the systems' names as the first aliasing gives them -/
def al1S (i : Nat) : Str := [Str.ofString "Solaris", Str.ofString "Solaris", Str.ofString "Solaris", Str.ofString "Solaris", Str.ofString "Windows", Str.ofString "Windows", Str.ofString "Solaris", Str.ofString "SunOS"].getD i Str.empty
def al1R (n : Int) (b e : Str) (i : Nat) : Str := [lessS n b, lessS n b, sameS n b, sameS n b, sameS n b, sameS n b, Str.ofString "x" ++ b, e ++ b].getD i Str.empty
/-- the names of the moves' systems, left and reached -/
def tnF (n : Int) (b e : Str) (C : List Int) : List Str := C.map fun c => nmF al1S (al1R n b e) (c % 8).toNat
def hnF (n : Int) (b e : Str) (C : List Int) : List Str := C.map fun c => nmF al1S (al1R n b e) (c / 8 % 8).toNat
/-- a book's entries -/
def entF (Ks : List Str) (O : List Int) : List Ent := (sizF Ks O 5).map fun p => (p.1, p.2, kdpLook (cntF Ks O 5) p.1 0)
/-- what the rows tell that a name has gained -/
def grF (rows : List Row5) (nm : Str) : Int := ((rows.filter fun r => r.nm == nm).map (·.d)).sum
def tlF (C : List Int) : List Int := C.map tailF
def hlF (C : List Int) : List Int := C.map headF
theorem place_bd (k : Int) : 0 ≤ placeF k ∧ placeF k < 5 := by
  unfold placeF
  generalize k.toNat = j
  by_cases h : j < 8
  · have : ∀ j < 8, 0 ≤ [(0 : Int), 0, 1, 1, 2, 2, 3, 4].getD j 0 ∧ [(0 : Int), 0, 1, 1, 2, 2, 3, 4].getD j 0 < 5 := by decide
    exact this j h
  · rw [List.getD_eq_getElem?_getD, List.getElem?_eq_none (by simpa using Nat.le_of_not_lt h)]; decide
theorem tail_bd {C : List Int} : ∀ x ∈ C.map tailF, 0 ≤ x ∧ x < 5 := fun x hx => by obtain ⟨c, _, rfl⟩ := List.mem_map.mp hx; exact place_bd _
theorem head_bd {C : List Int} : ∀ x ∈ C.map headF, 0 ≤ x ∧ x < 5 := fun x hx => by obtain ⟨c, _, rfl⟩ := List.mem_map.mp hx; exact place_bd _
end
section

theorem sun_a {w : World} : ∀ n ∈ [(5 : Int), 6, 53, 700, 8, 9, 56, 703], ∀ t1 t2 t3, SpecC w 28 [.str (Str.ofString "SunOS") t1, .str (sameS n (Str.ofString "")) t2, .str (Str.ofString "v") t3] (fun v tl => IsTri tl (Str.ofString "Solaris") (lessS n (Str.ofString "")) (Str.ofString "v") v) := by
  intro n hn t1 t2 t3
  have e1 : ∀ n ∈ [(5 : Int), 6, 53, 700, 8, 9, 56, 703], lessS n (Str.ofString "") = Txt.join (Str.ofString ".") [Str.ofString (toString (n - 3))] := by decide +kernel
  have e2 : ∀ n ∈ [(5 : Int), 6, 53, 700, 8, 9, 56, 703], decide ((sameS n (Str.ofString "")).cps.toList < (Str.ofString "5").cps.toList) = false := by decide +kernel
  have e3 : ∀ n ∈ [(5 : Int), 6, 53, 700, 8, 9, 56, 703], (sameS n (Str.ofString "")).length + 2 ≤ sizeLine := by decide +kernel
  have e4 : ∀ n ∈ [(5 : Int), 6, 53, 700, 8, 9, 56, 703], PySem.Txt.split (sameS n (Str.ofString "")) (Str.ofString ".") = [Str.ofString (toString n)] := by decide +kernel
  have e5 : ∀ n ∈ [(5 : Int), 6, 53, 700, 8, 9, 56, 703], PySem.intText? (Str.ofString (toString n)) = some n := by decide +kernel
  have e6 : ∀ n ∈ [(5 : Int), 6, 53, 700, 8, 9, 56, 703], (Str.ofString (toString n)).length ≤ 640 ∧ 0 ≤ n ∧ n < 1000 := by decide +kernel
  have e7 : ∀ n ∈ [(5 : Int), 6, 53, 700, 8, 9, 56, 703], (([Str.ofString (toString (n - 3))] : List Str).map (·.length)).sum + ([Str.ofString (toString (n - 3))] : List Str).length ≤ 1048576 := by decide +kernel
  rw [e1 n hn]
  exact (sysal_num_a w t1 t2 t3 _ _ _ n (e2 n hn) (e3 n hn) (e4 n hn) (e5 n hn) (e6 n hn).1 (e6 n hn).2.1 (e6 n hn).2.2 (e7 n hn)).toC
theorem sun_b {w : World} : ∀ n ∈ [(5 : Int), 6, 53, 700, 8, 9, 56, 703], ∀ t1 t2 t3, SpecC w 28 [.str (Str.ofString "SunOS") t1, .str (sameS n (Str.ofString ".5")) t2, .str (Str.ofString "v") t3] (fun v tl => IsTri tl (Str.ofString "Solaris") (lessS n (Str.ofString ".5")) (Str.ofString "v") v) := by
  intro n hn t1 t2 t3
  have e1 : ∀ n ∈ [(5 : Int), 6, 53, 700, 8, 9, 56, 703], lessS n (Str.ofString ".5") = Txt.join (Str.ofString ".") [Str.ofString (toString (n - 3)), { cps := #[53] }] := by decide +kernel
  have e2 : ∀ n ∈ [(5 : Int), 6, 53, 700, 8, 9, 56, 703], decide ((sameS n (Str.ofString ".5")).cps.toList < (Str.ofString "5").cps.toList) = false := by decide +kernel
  have e3 : ∀ n ∈ [(5 : Int), 6, 53, 700, 8, 9, 56, 703], (sameS n (Str.ofString ".5")).length + 2 ≤ sizeLine := by decide +kernel
  have e4 : ∀ n ∈ [(5 : Int), 6, 53, 700, 8, 9, 56, 703], PySem.Txt.split (sameS n (Str.ofString ".5")) (Str.ofString ".") = [Str.ofString (toString n), { cps := #[53] }] := by decide +kernel
  have e5 : ∀ n ∈ [(5 : Int), 6, 53, 700, 8, 9, 56, 703], PySem.intText? (Str.ofString (toString n)) = some n := by decide +kernel
  have e6 : ∀ n ∈ [(5 : Int), 6, 53, 700, 8, 9, 56, 703], (Str.ofString (toString n)).length ≤ 640 ∧ 0 ≤ n ∧ n < 1000 := by decide +kernel
  have e7 : ∀ n ∈ [(5 : Int), 6, 53, 700, 8, 9, 56, 703], (([Str.ofString (toString (n - 3)), { cps := #[53] }] : List Str).map (·.length)).sum + ([Str.ofString (toString (n - 3)), { cps := #[53] }] : List Str).length ≤ 1048576 := by decide +kernel
  rw [e1 n hn]
  exact (sysal_num_b w t1 t2 t3 _ _ _ n (e2 n hn) (e3 n hn) (e4 n hn) (e5 n hn) (e6 n hn).1 (e6 n hn).2.1 (e6 n hn).2.2 (e7 n hn)).toC
theorem sun_c {w : World} : ∀ n ∈ [(5 : Int), 6, 53, 700, 8, 9, 56, 703], ∀ t1 t2 t3, SpecC w 28 [.str (Str.ofString "SunOS") t1, .str (sameS n (Str.ofString ".8.x")) t2, .str (Str.ofString "v") t3] (fun v tl => IsTri tl (Str.ofString "Solaris") (lessS n (Str.ofString ".8.x")) (Str.ofString "v") v) := by
  intro n hn t1 t2 t3
  have e1 : ∀ n ∈ [(5 : Int), 6, 53, 700, 8, 9, 56, 703], lessS n (Str.ofString ".8.x") = Txt.join (Str.ofString ".") [Str.ofString (toString (n - 3)), { cps := #[56] }, { cps := #[120] }] := by decide +kernel
  have e2 : ∀ n ∈ [(5 : Int), 6, 53, 700, 8, 9, 56, 703], decide ((sameS n (Str.ofString ".8.x")).cps.toList < (Str.ofString "5").cps.toList) = false := by decide +kernel
  have e3 : ∀ n ∈ [(5 : Int), 6, 53, 700, 8, 9, 56, 703], (sameS n (Str.ofString ".8.x")).length + 2 ≤ sizeLine := by decide +kernel
  have e4 : ∀ n ∈ [(5 : Int), 6, 53, 700, 8, 9, 56, 703], PySem.Txt.split (sameS n (Str.ofString ".8.x")) (Str.ofString ".") = [Str.ofString (toString n), { cps := #[56] }, { cps := #[120] }] := by decide +kernel
  have e5 : ∀ n ∈ [(5 : Int), 6, 53, 700, 8, 9, 56, 703], PySem.intText? (Str.ofString (toString n)) = some n := by decide +kernel
  have e6 : ∀ n ∈ [(5 : Int), 6, 53, 700, 8, 9, 56, 703], (Str.ofString (toString n)).length ≤ 640 ∧ 0 ≤ n ∧ n < 1000 := by decide +kernel
  have e7 : ∀ n ∈ [(5 : Int), 6, 53, 700, 8, 9, 56, 703], (([Str.ofString (toString (n - 3)), { cps := #[56] }, { cps := #[120] }] : List Str).map (·.length)).sum + ([Str.ofString (toString (n - 3)), { cps := #[56] }, { cps := #[120] }] : List Str).length ≤ 1048576 := by decide +kernel
  rw [e1 n hn]
  exact (sysal_num_c w t1 t2 t3 _ _ _ n (e2 n hn) (e3 n hn) (e4 n hn) (e5 n hn) (e6 n hn).1 (e6 n hn).2.1 (e6 n hn).2.2 (e7 n hn)).toC
theorem x_a {w : World} (t1 t2 t3 : Tok) : SpecC w 28 [.str (Str.ofString "SunOS") t1, .str (Str.ofString "x" ++ Str.ofString "") t2, .str (Str.ofString "v") t3] (fun v tl => IsTri tl (Str.ofString "Solaris") (Str.ofString "x" ++ Str.ofString "") (Str.ofString "v") v) :=
  sysal_x_a w t1 t2 t3 _ _ (by decide +kernel) (by decide +kernel) (by decide +kernel)
theorem x_b {w : World} (t1 t2 t3 : Tok) : SpecC w 28 [.str (Str.ofString "SunOS") t1, .str (Str.ofString "x" ++ Str.ofString ".5") t2, .str (Str.ofString "v") t3] (fun v tl => IsTri tl (Str.ofString "Solaris") (Str.ofString "x" ++ Str.ofString ".5") (Str.ofString "v") v) :=
  sysal_x_b w t1 t2 t3 _ _ (by decide +kernel) (by decide +kernel) (by decide +kernel)
theorem x_c {w : World} (t1 t2 t3 : Tok) : SpecC w 28 [.str (Str.ofString "SunOS") t1, .str (Str.ofString "x" ++ Str.ofString ".8.x") t2, .str (Str.ofString "v") t3] (fun v tl => IsTri tl (Str.ofString "Solaris") (Str.ofString "x" ++ Str.ofString ".8.x") (Str.ofString "v") v) :=
  sysal_x_c w t1 t2 t3 _ _ (by decide +kernel) (by decide +kernel) (by decide +kernel)
theorem hb_len : ∀ n ∈ [(5 : Int), 6, 53, 700], ∀ b ∈ [Str.ofString "", Str.ofString ".5", Str.ofString ".8.x"], ∀ e ∈ [Str.ofString "4", Str.ofString "10", Str.ofString "49", Str.ofString "400"], ∀ i < 8, (al1S i).length + (al1R n b e i).length ≤ 100 := by decide +kernel
theorem hb_old : ∀ b ∈ [Str.ofString "", Str.ofString ".5", Str.ofString ".8.x"], ∀ e ∈ [Str.ofString "4", Str.ofString "10", Str.ofString "49", Str.ofString "400"], decide ((e ++ b).cps.toList < (Str.ofString "5").cps.toList) = true := by decide +kernel
theorem hb_more : ∀ n ∈ [(5 : Int), 6, 53, 700], ∀ b ∈ [Str.ofString "", Str.ofString ".5", Str.ofString ".8.x"], moreS n b = sameS (n + 3) b ∧ sameS n b = lessS (n + 3) b ∧ n ∈ [(5 : Int), 6, 53, 700, 8, 9, 56, 703] ∧ (n + 3) ∈ [(5 : Int), 6, 53, 700, 8, 9, 56, 703] := by decide +kernel
theorem sun_any {w : World} {n : Int} {b : Str} (hn : n ∈ [(5 : Int), 6, 53, 700, 8, 9, 56, 703]) (hb : b ∈ [Str.ofString "", Str.ofString ".5", Str.ofString ".8.x"]) (t1 t2 t3 : Tok) : SpecC w 28 [.str (Str.ofString "SunOS") t1, .str (sameS n b) t2, .str (Str.ofString "v") t3] (fun v tl => IsTri tl (Str.ofString "Solaris") (lessS n b) (Str.ofString "v") v) := by
  simp only [List.mem_cons, List.not_mem_nil, or_false] at hb
  rcases hb with rfl | rfl | rfl
  · exact sun_a n hn t1 t2 t3
  · exact sun_b n hn t1 t2 t3
  · exact sun_c n hn t1 t2 t3
theorem x_any {w : World} {b : Str} (hb : b ∈ [Str.ofString "", Str.ofString ".5", Str.ofString ".8.x"]) (t1 t2 t3 : Tok) : SpecC w 28 [.str (Str.ofString "SunOS") t1, .str (Str.ofString "x" ++ b) t2, .str (Str.ofString "v") t3] (fun v tl => IsTri tl (Str.ofString "Solaris") (Str.ofString "x" ++ b) (Str.ofString "v") v) := by
  simp only [List.mem_cons, List.not_mem_nil, or_false] at hb
  rcases hb with rfl | rfl | rfl
  · exact x_a t1 t2 t3
  · exact x_b t1 t2 t3
  · exact x_c t1 t2 t3
theorem sh_any {w : World} {R sh : Str} (hs : sh ∈ [Str.ofString "win32", Str.ofString "win16"]) (t1 t2 t3 : Tok) : SpecC w 28 [.str sh t1, .str R t2, .str (Str.ofString "v") t3] (fun v tl => IsTri tl (Str.ofString "Windows") R (Str.ofString "v") v) := by
  simp only [List.mem_cons, List.not_mem_nil, or_false] at hs
  rcases hs with rfl | rfl
  · exact (sysal_w32 w t1 t2 t3 _ _).toC
  · exact (sysal_w16 w t1 t2 t3 _ _).toC
theorem hb_pick {w : World} {n : Int} {b sh e : Str} (P : Pick n b sh e) : HB w (rawS sh) (rawR n b e) al1S (al1R n b e) := by
  obtain ⟨hm1, hm2, hn1, hn2⟩ := hb_more n P.n b P.b
  intro i hi
  refine ⟨?_, ?_, hb_len n P.n b P.b e P.e i hi⟩
  · rcases i with _ | _ | _ | _ | _ | _ | _ | _ | i
    · exact sun_any hn1 P.b
    · exact fun t1 t2 t3 => (sysal_sol w t1 t2 t3 (lessS n b) _).toC
    · intro t1 t2 t3
      have := sun_any (w := w) hn2 P.b t1 t2 t3
      rw [← hm1, ← hm2] at this
      exact this
    · exact fun t1 t2 t3 => (sysal_sol w t1 t2 t3 (sameS n b) _).toC
    · exact sh_any (R := sameS n b) P.sh
    · exact fun t1 t2 t3 => (sysal_win w t1 t2 t3 (sameS n b) _).toC
    · exact x_any P.b
    · exact fun t1 t2 t3 => (sysal_old w t1 t2 t3 (e ++ b) _ (hb_old b P.b e P.e)).toC
    · omega
  · rcases i with _ | _ | _ | _ | _ | _ | _ | _ | i
    · exact fun t1 t2 t3 => (sysal_sol w t1 t2 t3 (lessS n b) _).toC
    · exact fun t1 t2 t3 => (sysal_sol w t1 t2 t3 (lessS n b) _).toC
    · exact fun t1 t2 t3 => (sysal_sol w t1 t2 t3 (sameS n b) _).toC
    · exact fun t1 t2 t3 => (sysal_sol w t1 t2 t3 (sameS n b) _).toC
    · exact fun t1 t2 t3 => (sysal_win w t1 t2 t3 (sameS n b) _).toC
    · exact fun t1 t2 t3 => (sysal_win w t1 t2 t3 (sameS n b) _).toC
    · exact fun t1 t2 t3 => (sysal_sol w t1 t2 t3 (Str.ofString "x" ++ b) _).toC
    · exact fun t1 t2 t3 => (sysal_old w t1 t2 t3 (e ++ b) _ (hb_old b P.b e P.e)).toC
    · omega
end
section
/-- what a place is given, in order -/
def atW (v : Int × Int → Int) (Z : List (Int × Int)) (p : Int) : List Int := (Z.filter fun z => z.1 == p).map v
def uniqF (T : List Int) : List Int := T.foldl addO []
theorem addO_mem {u : List Int} {p q : Int} : q ∈ addO u p ↔ q ∈ u ∨ q = p := by
  unfold addO
  split
  · rename_i h
    obtain ⟨x, hx, e⟩ := List.any_eq_true.mp h
    have : x = p := by simpa using e
    subst this
    exact ⟨.inl, fun h => h.elim id fun e => e ▸ hx⟩
  · simp
theorem fold_mem (T : List Int) : ∀ (u : List Int) (q : Int), q ∈ T.foldl addO u ↔ q ∈ u ∨ q ∈ T := by
  induction T with
  | nil => intro u q; simp
  | cons p T ih =>
    intro u q
    rw [List.foldl_cons, ih, addO_mem, List.mem_cons, or_assoc]
theorem uniq_mem {T : List Int} {q : Int} : q ∈ uniqF T ↔ q ∈ T := by unfold uniqF; rw [fold_mem]; simp
theorem addO_nodup {u : List Int} {p : Int} (h : u.Nodup) : (addO u p).Nodup := by
  unfold addO
  split
  · exact h
  · rename_i hn
    refine List.nodup_append.mpr ⟨h, by simp, fun x hx y hy e => hn ?_⟩
    rw [List.mem_singleton] at hy
    exact List.any_eq_true.mpr ⟨x, hx, by simp [e, hy]⟩
theorem fold_nodup (T : List Int) : ∀ {u : List Int}, u.Nodup → (T.foldl addO u).Nodup := by
  induction T with
  | nil => intro u h; exact h
  | cons p T ih => intro u h; exact ih (addO_nodup h)
theorem addO_in {u : List Int} {p : Int} (h : p ∈ u) : addO u p = u := if_pos (List.any_eq_true.mpr ⟨p, h, by simp⟩)
theorem addO_out {u : List Int} {p : Int} (h : p ∉ u) : addO u p = u ++ [p] := if_neg fun q => by
  obtain ⟨x, hx, e⟩ := List.any_eq_true.mp q
  exact h ((by simpa using e : x = p) ▸ hx)
theorem fold_off (T : List Int) : ∀ (u w : List Int), T.foldl addO (u ++ w.filter fun q => decide (q ∉ u)) = u ++ (T.foldl addO w).filter fun q => decide (q ∉ u) := by
  induction T with
  | nil => intro u w; rfl
  | cons p T ih =>
    intro u w
    rw [List.foldl_cons, List.foldl_cons, ← ih u (addO w p)]
    congr 1
    by_cases hu : p ∈ u
    · rw [addO_in (List.mem_append_left _ hu)]
      by_cases hw : p ∈ w
      · rw [addO_in hw]
      · rw [addO_out hw, List.filter_append]; simp [hu]
    · by_cases hw : p ∈ w
      · rw [addO_in hw, addO_in (List.mem_append_right _ (List.mem_filter.mpr ⟨hw, by simp [hu]⟩))]
      · rw [addO_out hw, addO_out (fun q => (List.mem_append.mp q).elim hu fun q => hw (List.mem_filter.mp q).1), List.filter_append, List.append_assoc]
        congr 1
        simp [hu]
theorem ord_eq {T H : List Int} (hT : T.length = 5) (hH : H.length = 5) : ordF T H 10 = uniqF H ++ (uniqF T).filter fun q => decide (q ∉ uniqF H) := by
  unfold ordF
  rw [List.take_of_length_le (by rw [List.length_append]; omega), List.foldl_append]
  have := fold_off T (uniqF H) []
  simpa [uniqF] using this
theorem atW_snoc {v : Int × Int → Int} {Z : List (Int × Int)} {z : Int × Int} {q : Int} : atW v (Z ++ [z]) q = atW v Z q ++ if z.1 = q then [v z] else [] := by
  unfold atW
  rw [List.filter_append, List.map_append]
  congr 1
  by_cases h : z.1 = q <;> simp [h]
theorem atW_none {v : Int × Int → Int} {Z : List (Int × Int)} {q : Int} (h : q ∉ Z.map (·.1)) : atW v Z q = [] := by
  unfold atW
  rw [List.filter_eq_nil_iff.mpr, List.map_nil]
  intro z hz e
  exact h (List.mem_map.mpr ⟨z, hz, by simpa using e⟩)
def Bd (x : Int) : Prop := 0 ≤ x ∧ x < 5
section
variable {f : Int → Str} (hf : ∀ x y, Bd x → Bd y → f x = f y → x = y)
include hf
theorem find_rep {u : List Int} {g : Int → Int} {p : Int} (hu : ∀ q ∈ u, Bd q) (hp : Bd p) : kdpLook (u.map fun q => (f q, g q)) (f p) 0 = if p ∈ u then g p else 0 := by
  induction u with
  | nil => rfl
  | cons a u ih =>
    have ih := ih fun q hq => hu q (.tail _ hq)
    unfold kdpLook at ih ⊢
    rw [List.map_cons, List.find?_cons]
    by_cases h : a = p
    · subst h
      simp
    · have : f a ≠ f p := fun e => h (hf _ _ (hu _ (.head _)) hp e)
      simp only [this, decide_false]
      rw [ih]
      have : p ≠ a := fun e => h e.symm
      simp [this]
theorem any_rep {u : List Int} {g : Int → Int} {p : Int} (hu : ∀ q ∈ u, Bd q) (hp : Bd p) : ((u.map fun q => (f q, g q)).any fun x => decide (x.1 = f p)) = decide (p ∈ u) := by
  rw [Bool.eq_iff_iff, List.any_eq_true]
  simp only [List.mem_map, decide_eq_true_eq]
  constructor
  · rintro ⟨_, ⟨q, hq, rfl⟩, e⟩
    exact hf _ _ (hu _ hq) hp e ▸ hq
  · intro h
    exact ⟨_, ⟨p, h, rfl⟩, rfl⟩
theorem put_rep {v : Int × Int → Int} {Z : List (Int × Int)} {z : Int × Int} (hZ : ∀ y ∈ Z, Bd y.1) (hz : Bd z.1) :
    kdpPut ((uniqF (Z.map (·.1))).map fun q => (f q, (atW v Z q).sum)) (f z.1) (kdpLook ((uniqF (Z.map (·.1))).map fun q => (f q, (atW v Z q).sum)) (f z.1) 0 + v z) = (uniqF ((Z ++ [z]).map (·.1))).map fun q => (f q, (atW v (Z ++ [z]) q).sum) := by
  have hu : ∀ q ∈ uniqF (Z.map (·.1)), Bd q := fun q hq => by
    obtain ⟨y, hy, rfl⟩ := List.mem_map.mp (uniq_mem.mp hq)
    exact hZ y hy
  have hU : uniqF ((Z ++ [z]).map (·.1)) = addO (uniqF (Z.map (·.1))) z.1 := by unfold uniqF; rw [List.map_append, List.foldl_append]; rfl
  unfold kdpPut
  rw [any_rep hf hu hz, find_rep hf hu hz, hU]
  by_cases h : z.1 ∈ uniqF (Z.map (·.1))
  · simp only [h, decide_true, if_true]
    rw [addO_in h, List.map_map]
    refine List.map_congr_left fun q hq => ?_
    simp only [Function.comp]
    rw [atW_snoc]
    by_cases e : z.1 = q
    · subst e
      simp
    · have : f q ≠ f z.1 := fun e' => e (hf _ _ (hu _ hq) hz e').symm
      simp [e, this]
  · simp only [h, decide_false, if_false, Bool.false_eq_true]
    rw [addO_out h, List.map_append]
    have hn : z.1 ∉ Z.map (·.1) := fun q => h (uniq_mem.mpr q)
    congr 1
    · refine List.map_congr_left fun q hq => ?_
      have e : z.1 ≠ q := fun e => h (e ▸ hq)
      rw [atW_snoc]
      simp [e]
    · rw [List.map_singleton, atW_snoc, atW_none hn]
      simp
theorem fold_rep {v : Int × Int → Int} (Z : List (Int × Int)) : ∀ (Z0 : List (Int × Int)), (∀ y ∈ Z0 ++ Z, Bd y.1) →
    (Z.foldl (fun c z => kdpPut c (f z.1) (kdpLook c (f z.1) 0 + v z)) ((uniqF (Z0.map (·.1))).map fun q => (f q, (atW v Z0 q).sum))) = (uniqF ((Z0 ++ Z).map (·.1))).map fun q => (f q, (atW v (Z0 ++ Z) q).sum) := by
  induction Z with
  | nil => intro Z0 _; simp
  | cons z Z ih =>
    intro Z0 h
    rw [List.foldl_cons, put_rep hf (fun y hy => h y (List.mem_append_left _ hy)) (h z (by simp)), ih (Z0 ++ [z]) (by simpa using h)]
    simp
theorem fold_rep0 {v : Int × Int → Int} (Z : List (Int × Int)) (hZ : ∀ y ∈ Z, Bd y.1) : Z.foldl (fun c z => kdpPut c (f z.1) (kdpLook c (f z.1) 0 + v z)) [] = (uniqF (Z.map (·.1))).map fun q => (f q, (atW v Z q).sum) := by
  have := fold_rep hf (v := v) Z [] (by simpa using hZ)
  simpa [uniqF] using this
end
theorem went_eq {O T : List Int} (hT : T.length = 5) (hO : O.length = 5) (p : Int) : wentF O T p = atW (·.2) (T.zip O) p := by
  match T, hT, O, hO with
  | [a, b, c, d, e], _, [o0, o1, o2, o3, o4], _ =>
    show pickW [o0, o1, o2, o3, o4] [a, b, c, d, e] p (pickW [o0, o1, o2, o3, o4] [a, b, c, d, e] p (pickW [o0, o1, o2, o3, o4] [a, b, c, d, e] p (pickW [o0, o1, o2, o3, o4] [a, b, c, d, e] p (pickW [o0, o1, o2, o3, o4] [a, b, c, d, e] p [] 0) 1) 2) 3) 4 = _
    have k0 : ∀ l, pickW [o0, o1, o2, o3, o4] [a, b, c, d, e] p l 0 = if a = p then l ++ [o0] else l := fun l => rfl
    have k1 : ∀ l, pickW [o0, o1, o2, o3, o4] [a, b, c, d, e] p l 1 = if b = p then l ++ [o1] else l := fun l => rfl
    have k2 : ∀ l, pickW [o0, o1, o2, o3, o4] [a, b, c, d, e] p l 2 = if c = p then l ++ [o2] else l := fun l => rfl
    have k3 : ∀ l, pickW [o0, o1, o2, o3, o4] [a, b, c, d, e] p l 3 = if d = p then l ++ [o3] else l := fun l => rfl
    have k4 : ∀ l, pickW [o0, o1, o2, o3, o4] [a, b, c, d, e] p l 4 = if e = p then l ++ [o4] else l := fun l => rfl
    rw [k0, k1, k2, k3, k4]
    have s0 : ∀ (q : Int × Int) (Z : List (Int × Int)), atW (·.2) (q :: Z) p = (if q.1 = p then [q.2] else []) ++ atW (·.2) Z p := fun q Z => by
      unfold atW
      by_cases h : q.1 = p <;> simp [h]
    have s1 : atW (·.2) [] p = [] := rfl
    simp only [List.zip_cons_cons, List.zip_nil_right, s0, s1]
    have j : ∀ (l : List Int) (P : Prop) [Decidable P] (x : Int), (if P then l ++ [x] else l) = l ++ if P then [x] else [] := fun l P _ x => by split <;> simp
    simp only [j]
    simp
theorem sum_one (Z : List (Int × Int)) (p : Int) : (atW (fun _ => 1) Z p).sum = ((atW (·.2) Z p).length : Int) := by
  unfold atW
  rw [List.length_map]
  generalize Z.filter _ = l
  induction l with
  | nil => rfl
  | cons a l ih => rw [List.map_cons, List.sum_cons, ih, List.length_cons]; omega
section
variable {f : Int → Str} (hf : ∀ x y, Bd x → Bd y → f x = f y → x = y) {T O : List Int} (hT : T.length = 5) (hO : O.length = 5) (bT : ∀ x ∈ T, Bd x)
include hf hT hO bT
theorem zip_bd : ∀ y ∈ T.zip O, Bd y.1 := fun y hy => bT _ (List.of_mem_zip (a := y.1) (b := y.2) hy).1
theorem zip_fst : (T.zip O).map (·.1) = T := by rw [List.map_fst_zip]; omega
theorem siz_rep : sizF (T.map f) O 5 = (uniqF T).map fun q => (f q, (wentF O T q).sum) := by
  unfold sizF
  rw [List.take_of_length_le (by rw [List.length_zip, List.length_map]; omega), List.zip_map_left, List.foldl_map]
  have := fold_rep0 hf (v := (·.2)) (T.zip O) (zip_bd hf hT hO bT)
  rw [zip_fst hf hT hO bT] at this
  simp only [went_eq hT hO]
  exact this
theorem cnt_rep : cntF (T.map f) O 5 = (uniqF T).map fun q => (f q, ((wentF O T q).length : Int)) := by
  unfold cntF
  rw [List.take_of_length_le (by rw [List.length_zip, List.length_map]; omega), List.zip_map_left, List.foldl_map]
  have := fold_rep0 hf (v := fun _ => 1) (T.zip O) (zip_bd hf hT hO bT)
  rw [zip_fst hf hT hO bT] at this
  simp only [went_eq hT hO, ← sum_one]
  exact this
theorem uniq_bd : ∀ x ∈ uniqF T, Bd x := fun x hx => bT x (uniq_mem.mp hx)
theorem ent_rep : entF (T.map f) O = (uniqF T).map fun q => (f q, (wentF O T q).sum, ((wentF O T q).length : Int)) := by
  unfold entF
  rw [siz_rep hf hT hO bT, cnt_rep hf hT hO bT, List.map_map]
  refine List.map_congr_left fun q hq => ?_
  simp only [Function.comp]
  rw [find_rep hf (uniq_bd hf hT hO bT) (uniq_bd hf hT hO bT q hq), if_pos hq]
theorem went_none {q : Int} (h : q ∉ T) : wentF O T q = [] := by
  rw [went_eq hT hO, atW_none]
  rw [zip_fst hf hT hO bT]
  exact h
end
theorem find_ent {f : Int → Str} (hf : ∀ x y, Bd x → Bd y → f x = f y → x = y) {u : List Int} {g : Int → Int × Int} {p : Int} (hu : ∀ q ∈ u, Bd q) (hp : Bd p) : findE (u.map fun q => ((f q, g q) : Ent)) (f p) = if p ∈ u then some (g p) else none := by
  induction u with
  | nil => rfl
  | cons a u ih =>
    have ih := ih fun q hq => hu q (.tail _ hq)
    unfold findE at ih ⊢
    rw [List.map_cons, List.find?_cons]
    by_cases h : a = p
    · subst h
      simp
    · have : f a ≠ f p := fun e => h (hf _ _ (hu _ (.head _)) hp e)
      simp only [this, decide_false]
      rw [ih]
      have : p ≠ a := fun e => h e.symm
      simp [this]
/-- the rows that the two books tell are those due -/
theorem cmp_due {NM : List Str} (hf : ∀ x y, Bd x → Bd y → NM.getD x.toNat Str.empty = NM.getD y.toNat Str.empty → x = y) {T H O : List Int} (hT : T.length = 5) (hH : H.length = 5) (hO : O.length = 5) (bT : ∀ x ∈ T, Bd x) (bH : ∀ x ∈ H, Bd x) :
    cmpF (entF (T.map fun p => NM.getD p.toNat Str.empty) O) (entF (H.map fun p => NM.getD p.toNat Str.empty) O) = (ordF T H 10).map (dueRow NM T H O) := by
  have eT := ent_rep hf hT hO bT
  have eH := ent_rep hf hH hO bH
  have uT := uniq_bd hf hT hO bT
  have uH := uniq_bd hf hH hO bH
  rw [eT, eH, ord_eq hT hH, List.map_append]
  unfold cmpF
  rw [List.map_map, List.map_map]
  congr 1
  · refine List.map_congr_left fun q hq => ?_
    simp only [Function.comp, cmpRow]
    rw [find_ent (f := fun p => NM.getD p.toNat Str.empty) hf uT (uH q hq)]
    by_cases h : q ∈ uniqF T
    · simp only [h, if_true, dueRow]
    · have := went_none hf hT hO bT fun x => h (uniq_mem.mpr x)
      simp [h, dueRow, this]
  · unfold remL
    rw [List.filter_map, List.map_map]
    have hk : ∀ q ∈ uniqF T, (((fun e : Ent => decide (e.1 ∉ (uniqF H).map ((fun x : Ent => x.1) ∘ fun q => (NM.getD q.toNat Str.empty, (wentF O H q).sum, ((wentF O H q).length : Int))))) ∘ fun q => (NM.getD q.toNat Str.empty, (wentF O T q).sum, ((wentF O T q).length : Int))) q) = decide (q ∉ uniqF H) := fun q hq => by
      simp only [Function.comp]
      refine decide_eq_decide.mpr (not_congr ⟨fun h => ?_, fun h => List.mem_map.mpr ⟨q, h, rfl⟩⟩)
      obtain ⟨y, hy, e⟩ := List.mem_map.mp h
      exact hf y q (uH y hy) (uT q hq) e ▸ hy
    rw [List.filter_congr hk]
    refine List.map_congr_left fun q hq => ?_
    have hq' := List.mem_filter.mp hq
    have := went_none hf hH hO bH fun x => (by simpa using hq'.2 : q ∉ uniqF H) (uniq_mem.mpr x)
    simp [goneRow, dueRow, this]
end
section
theorem put_some (c : List (Str × Int)) (k : Str) (v : Int) : kdpPut c k v ≠ [] := by
  unfold kdpPut
  split
  · rename_i h
    intro e
    rw [List.map_eq_nil_iff] at e
    subst e
    simp at h
  · simp
theorem sizF_some {Ks : List Str} {O : List Int} (hk : Ks.length = 5) (ho : O.length = 5) : sizF Ks O 5 ≠ [] ∧ (sizF Ks O 5).length ≤ 5 := by
  refine ⟨?_, sizF_len Ks O 5⟩
  rw [sizF_succ (i := 4) (List.getElem?_eq_getElem (by omega)) (List.getElem?_eq_getElem (by omega))]
  exact put_some _ _ _
theorem nm_three (a r : Str) : Txt.join (Str.ofString " ") [a, r, Str.ofString "v"] = a ++ Str.ofString " " ++ r ++ Str.ofString " v" := by
  refine (StrLaws.glued_eq_join _ _).trans ?_
  show a ++ Str.ofString " " ++ (r ++ Str.ofString " " ++ Str.ofString "v") = _
  rw [Str.append_assoc r, ← Str.append_assoc (a ++ Str.ofString " ")]
  rfl
theorem nm_at (n : Int) (b e : Str) : ∀ i, i < 8 → nmF al1S (al1R n b e) i = (namesF n b e).getD ([(0 : Int), 0, 1, 1, 2, 2, 3, 4].getD i 0).toNat Str.empty
  | 0, _ => (nm_three _ _).trans rfl
  | 1, _ => (nm_three _ _).trans rfl
  | 2, _ => (nm_three _ _).trans rfl
  | 3, _ => (nm_three _ _).trans rfl
  | 4, _ => (nm_three _ _).trans rfl
  | 5, _ => (nm_three _ _).trans rfl
  | 6, _ => (nm_three _ _).trans (by
      show Str.ofString "Solaris" ++ Str.ofString " " ++ (Str.ofString "x" ++ b) ++ Str.ofString " v" = Str.ofString "Solaris x" ++ b ++ Str.ofString " v"
      rw [← Str.append_assoc (Str.ofString "Solaris" ++ Str.ofString " ")]
      rfl)
  | 7, _ => (nm_three _ _).trans rfl
  | i + 8, h => absurd h (Nat.not_lt.mpr (Nat.le_add_left 8 i))
theorem names_inj : ∀ n ∈ [(5 : Int), 6, 53, 700], ∀ b ∈ [Str.ofString "", Str.ofString ".5", Str.ofString ".8.x"], ∀ e ∈ [Str.ofString "4", Str.ofString "10", Str.ofString "49", Str.ofString "400"], ∀ i < 5, ∀ j < 5, (namesF n b e).getD i Str.empty = (namesF n b e).getD j Str.empty → i = j := by decide +kernel
section
variable {n : Int} {b sh e : Str} {C : List Int}
theorem tn_eq (P : Pick n b sh e) : tnF n b e C = (C.map tailF).map fun p => (namesF n b e).getD p.toNat Str.empty := by
  unfold tnF
  rw [List.map_map]
  refine List.map_congr_left fun c _ => ?_
  have h0 : 0 ≤ c % 8 := Int.emod_nonneg _ (by decide)
  have h1 : c % 8 < 8 := Int.emod_lt_of_pos _ (by decide)
  rw [nm_at n b e _ (by omega)]
  simp only [Function.comp, tailF, placeF]
  rw [Int.fmod_eq_emod_of_nonneg _ (by decide)]
theorem hn_eq (P : Pick n b sh e) : hnF n b e C = (C.map headF).map fun p => (namesF n b e).getD p.toNat Str.empty := by
  unfold hnF
  rw [List.map_map]
  refine List.map_congr_left fun c _ => ?_
  have h0 : 0 ≤ c / 8 % 8 := Int.emod_nonneg _ (by decide)
  have h1 : c / 8 % 8 < 8 := Int.emod_lt_of_pos _ (by decide)
  rw [nm_at n b e _ (by omega)]
  simp only [Function.comp, headF, placeF]
  rw [Int.fmod_eq_emod_of_nonneg _ (by decide), Int.fdiv_eq_ediv_of_nonneg _ (by decide)]
theorem nm_inj (P : Pick n b sh e) : ∀ x y, Bd x → Bd y → (namesF n b e).getD x.toNat Str.empty = (namesF n b e).getD y.toNat Str.empty → x = y := fun x y hx hy h => by
  have := names_inj n P.n b P.b e P.e x.toNat (by have := hx.1; have := hx.2; omega) y.toNat (by have := hy.1; have := hy.2; omega) h
  have := hx.1
  have := hy.1
  omega
theorem rows_due (P : Pick n b sh e) (hC : C.length = 5) : cmpF (entF (tnF n b e C) (C.map hourF)) (entF (hnF n b e C) (C.map hourF)) = (ordF (C.map tailF) (C.map headF) 10).map (dueRow (namesF n b e) (C.map tailF) (C.map headF) (C.map hourF)) := by
  rw [tn_eq P, hn_eq P]
  exact cmp_due (nm_inj P) (by rw [List.length_map]; exact hC) (by rw [List.length_map]; exact hC) (by rw [List.length_map]; exact hC) tail_bd head_bd
end
theorem gr_sum {NM : List Str} (hf : ∀ x y, Bd x → Bd y → NM.getD x.toNat Str.empty = NM.getD y.toNat Str.empty → x = y) {T H O : List Int} {p : Int} (hp : Bd p) : ∀ (u : List Int), (∀ q ∈ u, Bd q) → u.Nodup →
    grF (u.map (dueRow NM T H O)) (NM.getD p.toNat Str.empty) = if p ∈ u then ((wentF O H p).length : Int) - (wentF O T p).length else 0
  | [], _, _ => rfl
  | a :: u, hu, hn => by
    have ih := gr_sum hf (T := T) (H := H) (O := O) hp u (fun q hq => hu q (.tail _ hq)) (List.nodup_cons.mp hn).2
    have hna := (List.nodup_cons.mp hn).1
    unfold grF at ih ⊢
    rw [List.map_cons]
    by_cases h : a = p
    · subst h
      rw [if_neg hna] at ih
      rw [List.filter_cons_of_pos (by simp [dueRow]), List.map_cons, List.sum_cons, ih]
      simp [dueRow]
    · have h1 : NM.getD a.toNat Str.empty ≠ NM.getD p.toNat Str.empty := fun q => h (hf _ _ (hu _ (.head _)) hp q)
      have h2 : p ≠ a := fun q => h q.symm
      rw [List.filter_cons_of_neg (by simpa [dueRow] using h1), ih]
      simp [h2]
theorem went_len {O T : List Int} (hT : T.length = 5) (hO : O.length = 5) (bT : ∀ x ∈ T, Bd x) (z : Nat) : ((wentF O T (z : Int)).length : Int) = (([0, 1, 2, 3, 4] : List Nat).countP fun e => EU.tF T e == z : Nat) := by
  rw [went_eq hT hO]
  match T, hT, O, hO, bT with
  | [a, b, c, d, e], _, [o0, o1, o2, o3, o4], _, bT =>
    have s0 : ∀ (q : Int × Int) (Z : List (Int × Int)), (atW (·.2) (q :: Z) (z : Int)).length = (if q.1.toNat == z && decide (0 ≤ q.1) then 1 else 0) + (atW (·.2) Z (z : Int)).length := fun q Z => by
      unfold atW
      by_cases h : q.1 = (z : Int)
      · have : q.1.toNat = z := by omega
        have : 0 ≤ q.1 := by omega
        simp [*]; omega
      · have : ¬ (q.1.toNat = z ∧ 0 ≤ q.1) := by omega
        simp [h, this]
    have s1 : atW (·.2) [] (z : Int) = [] := rfl
    have ha := (bT a (by simp)).1
    have hb := (bT b (by simp)).1
    have hc := (bT c (by simp)).1
    have hd := (bT d (by simp)).1
    have he := (bT e (by simp)).1
    have t0 : EU.tF [a, b, c, d, e] 0 = a.toNat := rfl
    have t1 : EU.tF [a, b, c, d, e] 1 = b.toNat := rfl
    have t2 : EU.tF [a, b, c, d, e] 2 = c.toNat := rfl
    have t3 : EU.tF [a, b, c, d, e] 3 = d.toNat := rfl
    have t4 : EU.tF [a, b, c, d, e] 4 = e.toNat := rfl
    simp only [List.zip_cons_cons, List.zip_nil_right, s0, s1, List.countP_cons, List.countP_nil, t0, t1, t2, t3, t4, ha, hb, hc, hd, he, decide_true, Bool.and_true, List.length_nil]
    omega
section
variable {n : Int} {b sh e : Str} {C : List Int}
theorem grown_at (P : Pick n b sh e) (hC : C.length = 5) (z : Nat) (hz : z < 5) : grF (cmpF (entF (tnF n b e C) (C.map hourF)) (entF (hnF n b e C) (C.map hourF))) ((namesF n b e).getD z Str.empty) =
    EU.gr (EU.tF (C.map tailF)) (EU.tF (C.map headF)) [0, 1, 2, 3, 4] z := by
  have hT : (C.map tailF).length = 5 := by rw [List.length_map]; exact hC
  have hH : (C.map headF).length = 5 := by rw [List.length_map]; exact hC
  have hO : (C.map hourF).length = 5 := by rw [List.length_map]; exact hC
  have hb : Bd (z : Int) := ⟨by omega, by omega⟩
  rw [rows_due P hC]
  have := gr_sum (nm_inj P) (T := C.map tailF) (H := C.map headF) (O := C.map hourF) hb (ordF (C.map tailF) (C.map headF) 10) (fun q hq => ordF_in tail_bd head_bd 10 q hq) (fold_nodup _ .nil)
  rw [Int.toNat_natCast] at this
  rw [this]
  unfold EU.gr
  rw [← went_len hH hO head_bd, ← went_len hT hO tail_bd]
  split
  · rfl
  · rename_i h
    have hq : (z : Int) ∉ C.map headF ∧ (z : Int) ∉ C.map tailF := by
      unfold ordF at h
      rw [List.take_of_length_le (by rw [List.length_append]; omega), fold_mem] at h
      simpa [not_or] using h
    rw [went_none (nm_inj P) hH hO head_bd hq.1, went_none (nm_inj P) hT hO tail_bd hq.2]
    rfl
theorem gr_bd (t h : Nat → Nat) (z : Nat) : -5 ≤ EU.gr t h [0, 1, 2, 3, 4] z ∧ EU.gr t h [0, 1, 2, 3, 4] z ≤ 5 := by
  unfold EU.gr
  have h1 := List.countP_le_length (p := fun e => h e == z) (l := [0, 1, 2, 3, 4])
  have h2 := List.countP_le_length (p := fun e => t e == z) (l := [0, 1, 2, 3, 4])
  simp only [List.length_cons, List.length_nil] at h1 h2
  omega
theorem grown_bd (P : Pick n b sh e) (hC : C.length = 5) : ∀ x ∈ (namesF n b e).map (grF (cmpF (entF (tnF n b e C) (C.map hourF)) (entF (hnF n b e C) (C.map hourF)))), -5 ≤ x ∧ x ≤ 5 := fun x hx => by
  obtain ⟨nm, hm, rfl⟩ := List.mem_map.mp hx
  obtain ⟨z, hz, e1⟩ := List.getElem_of_mem hm
  have := grown_at (C := C) P hC z hz
  rw [List.getD_eq_getElem?_getD, List.getElem?_eq_getElem hz, Option.getD_some, e1] at this
  rw [this]
  exact gr_bd _ _ _
theorem nee_few (P : Pick n b sh e) (hC : C.length = 5) : neeAll (C.map tailF) (C.map headF) ((namesF n b e).map (grF (cmpF (entF (tnF n b e C) (C.map hourF)) (entF (hnF n b e C) (C.map hourF))))) = fewF (C.map tailF) (C.map headF) := by
  have hT : (C.map tailF).length = 5 := by rw [List.length_map]; exact hC
  have hH : (C.map headF).length = 5 := by rw [List.length_map]; exact hC
  have at' : ∀ {l : List Int}, l.length = 5 → (∀ x ∈ l, 0 ≤ x ∧ x < 5) → ∀ e, e < 5 → 0 ≤ l.getD e 0 ∧ l.getD e 0 < 5 := fun {l} hl hb e he => by
    rw [List.getD_eq_getElem?_getD, List.getElem?_eq_getElem (by omega)]
    exact hb _ (List.getElem_mem _)
  refine EU.needed_fewest hT (at' hT tail_bd) (at' hH head_bd) fun z hz => ?_
  rw [← grown_at P hC z hz, List.getD_eq_getElem?_getD, List.getElem?_map, List.getD_eq_getElem?_getD, List.getElem?_eq_getElem (show z < (namesF n b e).length from hz)]
  rfl
end
end
section
section
variable {w : World} {f : Addr} {vs : List Value} {Pre : Heap → Prop} {Post : Value → List (Addr × Obj) → Prop} {dp un : Nat} {gd : Option (List Code)} {cn : Str} {cs : Scope} {a : Addr} {ccd : Value} {cl : List (Str × Addr)} {outer : List Env} {A₀ : Around} {base h₀ : Heap} {L : Addr} {m mg mb : Str → Option Value} {mean : ExcName → Option Value} {s : Shared} {Q E : Value → Shared → Prop}
theorem Spec.use (h : Spec w f vs Pre Post) (B : Below A₀ base outer h₀) (F : Fr h₀ L s.heap m) (X : (K2 w.params).In h₀) (T : Top hd.view_39 LSE mean mg mb h₀) (hk : cs.kind = .function) (hd : dp + 4 < recursionLimit) (hu : un + 64 < cLine) (hpre : Pre s.heap)
    (hret : ∀ v tl h' tk', s.heap.StaysIn h' → (∀ p ∈ tl, h'.get? p.1 = some p.2 ∧ s.heap.get? p.1 = none) → Post v tl → Q v { s with heap := h', toks := tk' }) :
    wpAny (model PRG w) (ktrTop dp un gd cn cs L a ccd cl outer) (call (.ref f) vs) Q E s := h dp un gd cn cs a ccd cl outer A₀ base h₀ L m mg mb mean s Q E B F X T hk hd hu hpre hret
theorem SpecCP.use (h : SpecCP w f vs Pre Post) (B : Below A₀ base outer h₀) (F : Fr h₀ L s.heap m) (X : (K2 w.params).In h₀) (T : Top hd.view_39 LSE mean mg mb h₀) (XB : (K2 w.params).In base) (TB : Top hd.view_39 LSE mean mg mb base) (D : KtsDicts (outer.filterMap (·.frame)) h₀) (hk : cs.kind = .function) (hdp : dp + 8 < recursionLimit) (hu : un + 128 < cLine) (hpre : Pre s.heap)
    (hret : ∀ v tl h' h₀' tk', KtsTurn (outer.filterMap (·.frame)) h₀ h₀' → Fr h₀' L h' m → (∀ b o, s.heap.get? b = some o → b ∉ (envX cn cs L a ccd cl :: outer).filterMap (·.frame) → h'.get? b = some o) → (∀ p ∈ tl, h'.get? p.1 = some p.2 ∧ s.heap.get? p.1 = none) →
      Below A₀ base outer h₀' → (K2 w.params).In h₀' → Top hd.view_39 LSE mean mg mb h₀' → KtsDicts (outer.filterMap (·.frame)) h₀' → Post v tl → Q v { s with heap := h', toks := tk' }) :
    wpC (model PRG w) (ktrTop dp un gd cn cs L a ccd cl outer) (call (.ref f) vs) Q E s := h dp un gd cn cs a ccd cl outer A₀ base h₀ L m mg mb mean s Q E B F X T XB TB D hk hdp hu hpre hret
theorem SpecM.use {hid : List Addr} {news : List (Addr × Obj)} (h : SpecM w f vs hid Pre Post) (B : Below A₀ base outer h₀) (F : Fr h₀ L s.heap m) (N : News h₀ L s.heap news) (hn : news.map (·.1) = hid) (X : (K2 w.params).In h₀) (T : Top hd.view_39 LSE mean mg mb h₀) (hk : cs.kind = .function) (hd : dp + 4 < recursionLimit) (hu : un + 64 < cLine) (hpre : Pre s.heap)
    (hret : ∀ v tl h' tk', (∀ b o, b ∉ hid → s.heap.get? b = some o → h'.get? b = some o) → (∀ p ∈ tl, h'.get? p.1 = some p.2 ∧ s.heap.get? p.1 = none) → Post v tl → Q v { s with heap := h', toks := tk' }) :
    wpAny (model PRG w) (ktrTop dp un gd cn cs L a ccd cl outer) (call (.ref f) vs) Q E s := h dp un gd cn cs a ccd cl outer A₀ base h₀ L m mg mb mean s Q E news B F N hn X T hk hd hu hpre hret
end
def LS1 (g : Heap) (L : Addr) (o1 : Obj) (s : Shared) (f : Flow) (s' : Shared) : Prop := f = .next ∧ ∃ (h' : Heap) (tk : Nat) (m' : Str → Option Value) (ac : Addr) (cv : List Value) (C : List Int) (n : Nat), s' = { s with heap := h', toks := tk } ∧ Fr g L h' m' ∧
  News g L h' [(ac, listOf cv.toArray n), (L + 1, o1)] ∧ m' (Str.ofString "cells") = some (.ref ac) ∧ IntsAre cv C ∧ C.length = 5 ∧ (@Ne Nat ac (L + 1))
section
variable {prog : Program} {w : World} {A₀ A : Around} {s : Shared} {K : Frag} {L : Addr} {h₀ base : Heap} {m mg mb : Str → Option Value} {p : Program} {loose : List Str} {mean : ExcName → Option Value}
  {R : Result → Shared → Prop} {name qual : Str} {params : Arguments} {body : List Stmt} {scope : Scope} {dV kV doc pm cdv ct oc : Value} {an od : Option Addr} {osl : Array (Option Value)} {f : Addr} {args : Args} {binds : List (Str × Value)}
theorem cells_one {cm : Str → Option Value} {n₁ : Str} {c₁ : Addr} {cells : List (Addr × Obj)} (x : CellsAre cm [(n₁, c₁)] cells) : ∃ o₁, cells = [(c₁, o₁)] ∧ o₁.data = .cell (cm n₁) := by
  cases x with | cons h r => cases r; exact ⟨_, rfl, h⟩
def Sys (n : Int) (b sh e : Str) (ar : Addr) (tl : List (Addr × Obj)) : Prop := ∃ (rv : List Value) (k2 : Nat), (ar, listOf rv.toArray k2) ∈ tl ∧ rv.length = 8 ∧ ∀ i, i < 8 → ∃ ai t t' k, rv[i]? = some (.ref ai) ∧ (ai, listOf #[.str (rawS sh i) t, .str (rawR n b e i) t'] k) ∈ tl
def LS2 (g : Heap) (L : Addr) (o1 : Obj) (s : Shared) (ac : Addr) (cv : List Value) (C : List Int) (n1 : Nat) (f : Flow) (s' : Shared) : Prop := f = .next ∧ ∃ (h' : Heap) (tk : Nat) (m' : Str → Option Value) (an : Addr) (nv : List Value) (k3 : Nat) (ar : Addr) (n : Int) (b sh e : Str) (tl : List (Addr × Obj)),
  s' = { s with heap := h', toks := tk } ∧ Fr g L h' m' ∧ News g L h' ((an, listOf nv.toArray k3) :: (ac, listOf cv.toArray n1) :: (L + 1, o1) :: tl) ∧ (∀ p ∈ [(Str.ofString "cells", Value.ref ac), (Str.ofString "raws", .ref ar), (Str.ofString "names", .ref an)], m' p.1 = some p.2) ∧
  Pick n b sh e ∧ StrsAre nv (namesF n b e) ∧ Sys n b sh e ar tl ∧ (@Ne Nat an (L + 1)) ∧ (@Ne Nat an ac) ∧ ∀ p ∈ tl, (@Ne Nat p.1 (L + 1)) ∧ (@Ne Nat p.1 ac)
def LSc (g : Heap) (L : Addr) (s : Shared) (y : Str) (known : List (Str × Value)) (nx : List (Addr × Obj)) (X : List Int) (f : Flow) (s' : Shared) : Prop := f = .next ∧ ∃ (h' : Heap) (tk : Nat) (m' : Str → Option Value) (D : Addr) (ys : List Value) (n : Nat),
  s' = { s with heap := h', toks := tk } ∧ Fr g L h' m' ∧ News g L h' ((D, listOf ys.toArray n) :: nx) ∧ (∀ p ∈ (y, Value.ref D) :: known, m' p.1 = some p.2) ∧ IntsAre ys X ∧ ∀ p ∈ nx, (@Ne Nat p.1 D)
/-- the two books -/
structure Books (PW : World) (tl : List (Addr × Obj)) (T H : List Str) (O : List Int) (D1 D2 : Addr) (o1 o2 : Obj) (es1 es2 : List (Str × Value)) : Prop where
  d1 : o1.IsDictOf (strKind PRG PW) es1
  d2 : o2.IsDictOf (strKind PRG PW) es2
  s1 : (D1 == sysModules) = false
  s2 : (D2 == sysModules) = false
  ne : @Ne Nat D1 D2
  p1 : Paired (StatE tl (cntF T O 5)) (sizF T O 5) es1
  p2 : Paired (StatE tl (cntF H O 5)) (sizF H O 5) es2
def LS6 (PW : World) (g : Heap) (L : Addr) (o1 : Obj) (s : Shared) (C : List Int) (n : Int) (b e : Str) (ad : Addr) (dv : List Value) (n5 : Nat) (at' : Addr) (tv : List Value) (n4 : Nat) (ah : Addr) (hv : List Value) (n3 : Nat) (an : Addr) (nv : List Value) (k3 : Nat) (f : Flow) (s' : Shared) : Prop := f = .next ∧
  ∃ (h' : Heap) (tk : Nat) (m' : Str → Option Value) (D1 D2 : Addr) (od1 od2 : Obj) (es1 es2 : List (Str × Value)) (tl : List (Addr × Obj)), s' = { s with heap := h', toks := tk } ∧ Fr g L h' m' ∧
    News g L h' ((D1, od1) :: (D2, od2) :: (ad, listOf dv.toArray n5) :: (at', listOf tv.toArray n4) :: (ah, listOf hv.toArray n3) :: (an, listOf nv.toArray k3) :: (L + 1, o1) :: tl) ∧
    (∀ p ∈ [(Str.ofString "ahead", Value.ref D1), (Str.ofString "behind", .ref D2), (Str.ofString "heads", .ref ad), (Str.ofString "tails", .ref at'), (Str.ofString "hours", .ref ah), (Str.ofString "names", .ref an)], m' p.1 = some p.2) ∧
    Books PW tl (tnF n b e C) (hnF n b e C) (C.map hourF) D1 D2 od1 od2 es1 es2 ∧ (∀ p ∈ tl, @Ne Nat p.1 (L + 1)) ∧ (∀ p ∈ [(ad, listOf dv.toArray n5), (at', listOf tv.toArray n4), (ah, listOf hv.toArray n3), (an, listOf nv.toArray k3), (L + 1, o1)], (@Ne Nat p.1 D1) ∧ (@Ne Nat p.1 D2))
theorem fr_back {g g' h : Heap} {L : Addr} {m : Str → Option Value} (T : KtsTurn [] g g') (F : Fr g' L h m) : Fr g L h m := ⟨F.ns, fun b o e => F.keep b o (T.other b o e (fun q => nomatch q)), by rw [← T.size]; exact F.above⟩
def LS7 (g : Heap) (L : Addr) (o1 : Obj) (s : Shared) (rows : List Row5) (ad : Addr) (dv : List Value) (n5 : Nat) (at' : Addr) (tv : List Value) (n4 : Nat) (ah : Addr) (hv : List Value) (n3 : Nat) (an : Addr) (nv : List Value) (k3 : Nat) (f : Flow) (s' : Shared) : Prop := f = .next ∧
  ∃ (h' : Heap) (tk : Nat) (m' : Str → Option Value) (S : Addr) (sv : List Value) (n7 : Nat) (tl : List (Addr × Obj)), s' = { s with heap := h', toks := tk } ∧ Fr g L h' m' ∧
    News g L h' ((S, listOf sv.toArray n7) :: (ad, listOf dv.toArray n5) :: (at', listOf tv.toArray n4) :: (ah, listOf hv.toArray n3) :: (an, listOf nv.toArray k3) :: (L + 1, o1) :: tl) ∧
    (∀ p ∈ [(Str.ofString "told", Value.ref S), (Str.ofString "heads", Value.ref ad), (Str.ofString "tails", .ref at'), (Str.ofString "hours", .ref ah), (Str.ofString "names", .ref an)], m' p.1 = some p.2) ∧
    Paired (IsDiff tl) rows sv ∧ (∀ p ∈ tl, @Ne Nat p.1 (L + 1)) ∧ (@Ne Nat S (L + 1))
theorem paired_in {α β : Type} {R : α → β → Prop} : ∀ {l : List α} {l' : List β}, Paired R l l' → l'.length = l.length
  | _, _, .nil => rfl
  | _, _, .cons _ r => by rw [List.length_cons, List.length_cons, paired_in r]
theorem ste_of {hid : List Addr} {h : Heap} {tl : List (Addr × Obj)} {cnt : List (Str × Int)} (hp : ∀ p ∈ tl, h.get? p.1 = some p.2) (hn : ∀ p ∈ tl, (∃ nm sz ct dx t1 t2 t3, p.2 = statObj dx nm sz ct t1 t2 t3) ∨ p.2 = dictOf [] 0 → p.1 ∉ hid) :
    ∀ {l : List (Str × Int)} {es : List (Str × Value)}, Paired (StatE tl cnt) l es → Paired (StE hid h) (l.map fun p => (p.1, p.2, kdpLook cnt p.1 0)) es
  | _, _, .nil => .nil
  | _, _, .cons a r => by
    refine .cons ?_ (ste_of hp hn r)
    obtain ⟨e1, x, dx, t1, t2, t3, e2, m1, m2⟩ := a
    exact ⟨e1, x, dx, t1, t2, t3, e2, hp _ m1, hp _ m2, hn _ m1 (.inl ⟨_, _, _, _, _, _, _, rfl⟩), hn _ m2 (.inr rfl)⟩
theorem book_not {PW : World} {o : Obj} {es : List (Str × Value)} (hd : o.IsDictOf (strKind PRG PW) es) (hne : es ≠ []) : ¬ ((∃ nm sz ct dx t1 t2 t3, o = statObj dx nm sz ct t1 t2 t3) ∨ o = dictOf [] 0) := by
  obtain ⟨ds, ep, hx, hdt, hk, hp, hn⟩ := hd
  rintro (⟨nm, sz, ct, dx, t1, t2, t3, rfl⟩ | rfl)
  · cases hdt
  · have e : ds = #[] := by cases hdt; rfl
    subst e
    cases hp
    exact hne rfl
def LS8 (g : Heap) (L : Addr) (s : Shared) (rows : List Row5) (ad : Addr) (dv : List Value) (n5 : Nat) (at' : Addr) (tv : List Value) (n4 : Nat) (ah : Addr) (hv : List Value) (n3 : Nat) (an : Addr) (nv : List Value) (k3 : Nat) (f : Flow) (s' : Shared) : Prop := f = .next ∧
  ∃ (h' : Heap) (tk : Nat) (m' : Str → Option Value) (R : Addr) (ys : List Value) (o2 : Obj) (tups : List (Addr × Obj)), s' = { s with heap := h', toks := tk } ∧ Fr g L h' m' ∧
    News g L h' ((R, LCg.lst ys) :: (L + 1, o2) :: (ad, listOf dv.toArray n5) :: (at', listOf tv.toArray n4) :: (ah, listOf hv.toArray n3) :: (an, listOf nv.toArray k3) :: tups) ∧
    (∀ p ∈ [(Str.ofString "heads", Value.ref ad), (Str.ofString "tails", .ref at'), (Str.ofString "hours", .ref ah), (Str.ofString "names", .ref an)], m' p.1 = some p.2) ∧
    o2.data = .cell (some (.ref R)) ∧ Paired (IsRow tups) rows ys ∧ (@Ne Nat R (L + 1))
def JR (L S : Addr) (rows : List Row5) (nx0 : List (Addr × Obj)) (i : Nat) (ys : List Value) (nx : List (Addr × Obj)) : Prop := ∃ tups, nx = tups ++ nx0 ∧ (∀ p ∈ tups, @Ne Nat p.1 (L + 1)) ∧ Paired (IsRow tups) (rows.take i) ys
theorem paired_snoc {α β : Type} {R : α → β → Prop} {a : α} {b : β} (h : R a b) : ∀ {l : List α} {l' : List β}, Paired R l l' → Paired R (l ++ [a]) (l' ++ [b])
  | _, _, .nil => .cons h .nil
  | _, _, .cons x r => .cons x (paired_snoc h r)
theorem jr_step {h₀ h2 : Heap} {L D2 S I C D : Addr} {o1 oI oC : Obj} {m : Str → Option Value} {s₁ : Shared} {ys sv : List Value} {tups nx0 : List (Addr × Obj)} {rows : List Row5} {r : Row5} {i tk n7 k : Nat} {t1 t2 t3 t4 t5 : Tok}
    (F : Fr h₀ L h2 m) (N : News h₀ L h2 ((D2, ({ cls := .type "tuple", data := .seq #[.str r.nm t5, .int r.a t3, .int r.b t4, .int r.c t1, .int r.d t2] k } : Obj)) :: (I, oI) :: (C, oC) :: (D, LCg.lst ys) :: (tups ++ nx0)))
    (hl : @LT.lt Nat _ I D2 ∧ @LT.lt Nat _ C D2 ∧ @LT.lt Nat _ D D2 ∧ AllLt D2 (tups ++ nx0)) (off : LCg.Off3 I C D (tups ++ nx0)) (hc : (L + 1, o1) ∈ nx0) (hto : ∀ p ∈ tups, @Ne Nat p.1 (L + 1)) (hpr : Paired (IsRow tups) (rows.take i) ys) (hr : rows[i]? = some r) (hS : (S, listOf sv.toArray n7) ∈ tups ++ nx0) :
    LCg.CompEnd h₀ L m s₁ I oI C oC D (LCg.lst ys) (LCg.SrcAt h₀ S sv.toArray) (fun y nx' => JR L S rows nx0 (i + 1) (ys ++ [y]) nx') (.ref D2) { s₁ with heap := h2, toks := tk } := by
  have hlt := kst_ltOf hl.2.2.2
  obtain ⟨h1, h2', h3, _⟩ := hl
  refine LCg.CompEnd.intro F N ((D2, ({ cls := .type "tuple", data := .seq #[.str r.nm t5, .int r.a t3, .int r.b t4, .int r.c t1, .int r.d t2] k } : Obj)) :: (tups ++ nx0)) ?sub ⟨⟨Nat.ne_of_gt h1, Nat.ne_of_gt h2', Nat.ne_of_gt h3⟩, off⟩ (.inr ⟨_, .tail _ hS, rfl, _, rfl⟩) ?_
  case sub =>
    intro p hp
    simp only [List.mem_cons] at hp ⊢
    rcases hp with h | h | h | h | h
    · exact .inr (.inl h)
    · exact .inr (.inr (.inl h))
    · exact .inr (.inr (.inr (.inl h)))
    · exact .inl h
    · exact .inr (.inr (.inr (.inr h)))
  refine ⟨(D2, _) :: tups, rfl, fun p hp => ?_, ?_⟩
  · rcases List.mem_cons.mp hp with rfl | hp
    · exact Nat.ne_of_gt (hlt _ (List.mem_append_right _ hc))
    · exact hto p hp
  · rw [List.take_add_one, hr]
    exact paired_snoc ⟨D2, t5, t3, t4, t1, t2, k, rfl, .head _⟩ (paired_mono (fun _ _ x => x.mono fun _ q => .tail _ q) hpr)
theorem cmpF_len (O N : List Ent) : (cmpF O N).length ≤ N.length + O.length := by
  unfold cmpF
  rw [List.length_append, List.length_map, List.length_map]
  have := rem_len O (N.map (·.1))
  omega
theorem rows_len {n : Int} {b e : Str} {C : List Int} (hC : C.length = 5) : (cmpF (entF (tnF n b e C) (C.map hourF)) (entF (hnF n b e C) (C.map hourF))).length ≤ 10 := by
  have h1 := (sizF_some (Ks := tnF n b e C) (O := C.map hourF) (by unfold tnF; rw [List.length_map]; exact hC) (by rw [List.length_map]; exact hC)).2
  have h2 := (sizF_some (Ks := hnF n b e C) (O := C.map hourF) (by unfold hnF; rw [List.length_map]; exact hC) (by rw [List.length_map]; exact hC)).2
  refine Nat.le_trans (cmpF_len _ _) ?_
  unfold entF
  rw [List.length_map, List.length_map]
  omega
def LS9 (g : Heap) (L : Addr) (s : Shared) (X : List Int) (nx : List (Addr × Obj)) (known : List (Str × Value)) (f : Flow) (s' : Shared) : Prop := f = .next ∧
  ∃ (h' : Heap) (tk : Nat) (m' : Str → Option Value) (D : Addr) (gv : List Value), s' = { s with heap := h', toks := tk } ∧ Fr g L h' m' ∧ News g L h' ((D, LCg.lst gv) :: nx) ∧ (∀ p ∈ (Str.ofString "grown", Value.ref D) :: known, m' p.1 = some p.2) ∧ IntsAre gv X
def J9 (rows : List Row5) (nm : Str) (nx0 : List (Addr × Obj)) (i : Nat) (ys : List Value) (nx : List (Addr × Obj)) : Prop := nx = nx0 ∧ IntsAre ys (((rows.take i).filter fun r => r.nm == nm).map (·.d))
section
variable {prog : Program} {w : World} {A : Around} {E : Value → Shared → Prop} {s : Shared} {value slice : PySem.Expr} {l : Addr} {items : Array Value} {k : Int} {u : Tok} {Q : Value → Shared → Prop}
theorem sub_place (hl : s.heap.IsList l items) (hi : IntsAre items.toList [0, 0, 1, 1, 2, 2, 3, 4]) (h0 : 0 ≤ k) (h1 : k < 8) (h : ∀ t, Q (.int (placeF k) t) s)
    (hs : subscripted slice false (.ref l) (.int k u) = operate [.ref l, .int k u] (getItem (.ref l) (.int k u)) := by with_unfolding_all rfl) :
    wpAny (model prog w) A (subscriptTail value slice (.ref l) (.int k u)) Q E s := by
  have hlen : k.toNat < ([0, 0, 1, 1, 2, 2, 3, 4] : List Int).length := by simp; omega
  obtain ⟨t, ht⟩ := hi.get k.toNat (([0, 0, 1, 1, 2, 2, 3, 4] : List Int)[k.toNat]'hlen) (List.getElem?_eq_getElem _)
  have e : placeF k = ([0, 0, 1, 1, 2, 2, 3, 4] : List Int)[k.toNat]'hlen := by unfold placeF; rw [List.getD_eq_getElem?_getD, List.getElem?_eq_getElem hlen]; rfl
  exact sub_at (vs := items.toList) hl h0 (by omega) ht (e ▸ h t) hs
end
theorem ints_of : ∀ {vs : List Value} {ns : List Int}, vs.length = ns.length → (∀ j y, vs[j]? = some y → ∃ t, y = Value.int (ns.getD j 0) t) → IntsAre vs ns
  | [], [], _, _ => .nil
  | [], _ :: _, h, _ => nomatch h
  | _ :: _, [], h, _ => nomatch h
  | v :: vs, n :: ns, h, hp => by
    obtain ⟨t, e⟩ := hp 0 v rfl
    rw [e]
    exact .cons _ t (ints_of (by simpa using h) fun j y hj => hp (j + 1) y (by simpa using hj))
theorem off1_all {D : Addr} : ∀ {l : List (Addr × Obj)}, LCg.Off1 D l → ∀ p ∈ l, (@Ne Nat p.1 D)
  | [], _, _, h => nomatch h
  | _ :: _, x, p, h => by
    rcases List.mem_cons.mp h with rfl | h
    · exact x.1
    · exact off1_all x.2 p h
section
variable {M : Model} {A : Around} {E : Value → Shared → Prop} {s : Shared} {env : Env}
theorem wpC_then {st : Stmt} {rest : List Stmt} {Q Q' : Flow → Shared → Prop} (hn : ∀ f s', Q' f s' → f = .next) (h : wpAny M A (exec st env) Q' E s) (k : ∀ s', Q' .next s' → wpC M A (execs rest env) Q E s') : wpC M A (execs (st :: rest) env) Q E s :=
  wpC_execs_cons (wpC_any (wpAny_mono h (fun f s' q => by
    obtain rfl := hn f s' q
    exact k s' q) fun _ _ x => x))
end
/-- the law entered at the claim's caller, all that stands being its ground -/
theorem code_defL (X₀ : K.In s.heap) (T : Top p loose mean mg mb s.heap)
    (ho : K.lookup f = some ⟨oc, od, .func (fnOf name qual params body scope dV kV doc pm an cdv ct), osl⟩) (hcd : codeIn K cdv qual = true)
    (hbind : BindsTo s (fnOf name qual params body scope dV kV doc pm an cdv ct) args binds) (hkind : (binds.all fun y => scope.names.lookup y.1 == some .local || scope.names.lookup y.1 == some .cell) = true)
    (hnd : ((cellsFrom 0 scope.names []).map (·.1)).Nodup)
    (h : ∀ L' h₁ tk cells, Fr s.heap L' h₁ (bindL (envOfC qual scope L' f cdv).kindOf binds fun _ => none) → News s.heap L' h₁ cells →
      CellsAre (bindC (envOfC qual scope L' f cdv).kindOf binds fun _ => none) (cellsFrom (L' + 1) scope.names []) cells → Below callerA s.heap [] s.heap →
      wpC (model prog w) (callerA.deeper (envOfC qual scope L' f cdv)) (execs body (envOfC qual scope L' f cdv))
        (fun fl s' => EndL s.heap R s' ∧ fl = .ret (.bool true))
        (fun e s' => wpAny (model prog w) (callerA.deeper (envOfC qual scope L' f cdv)) (leaving (envOfC qual scope L' f cdv) e) (fun _ s'' => R (.error e) s'') (fun e' s'' => R (.error e') s'') s')
        { s with heap := h₁, toks := tk })
    (hco : scope.isCoroutine = false) (hgen : scope.isGenerator = false) (hk : scope.kind = .function) : codeC (model prog w) callerA (.call (.ref f) args) R s := by
  refine codeC_call_function (fd := fnOf name qual params body scope dV kV doc pm an cdv ct) (body := body) (by decide) (X₀ _ _ ho) rfl hco hgen rfl (codeRec_of X₀ hcd) (hbind _ _ _ _ ?_)
  refine wpAny_newFunctionEnv_cells hk (kindsX hkind _) fun env' he s' x => ?_
  subst he
  refine ⟨T.nolimit.keeps x.toInCall.keep, codeC_func ?_⟩
  obtain ⟨h₁, tk, rfl, _⟩ := x.done
  have hk₁ := x.toInCall.keep
  obtain ⟨cells, NC, Y⟩ := Cl.news (h₀ := s.heap) (Nat.le_refl _) fun n c hm => ⟨x.cell n c (lookup_of_mem_nodup (cellsFrom_names scope.names 0 (s.heap.objs.size + 1) [] [] rfl ▸ hnd) hm), x.above n c hm⟩
  refine wpC_mono (h s.heap.objs.size h₁ tk cells ⟨x.toInCall.ns, fun b o e => hk₁ b o e, Nat.le_refl _⟩ (fun p hp => ⟨(NC p hp).1, (NC p hp).2.1, (NC p hp).2.2⟩) Y (below_caller s.heap)) (fun fl s' hl => ?_) fun _ _ y => y
  obtain ⟨⟨v, L', m', F', rfl, k⟩, rfl⟩ := hl
  exact k F'.keep
end

local macro_rules | `(tactic| walk_at "getAttr ref") => `(tactic| (k_dflt (refine' get_slot ?k1 ?k2 ?k3 ?k4 ?k5 ?k6 ?k7 ?k8 ?k9 ?k10 ?k11 ?_; (case k3 => assumption); (case k1 => k_asm); (case k2 => k_asm); (case k4 => k_is); (case k5 => k_is); (case k6 => k_is); (case k7 => k_is); (case k8 => k_is); (case k9 => k_is); (case k10 => k_slotget); (case k11 => k_handed); k_whole)))
local macro_rules | `(tactic| walk_at "stop") => `(tactic| (with_reducible show wpAny _ _ (call (Value.ref _) _) _ _ _))
set_option maxHeartbeats 4000000 in
theorem law_spec : ∀ (w : World) (sc : Addr) (vs : List Value) (ns : List Int) (s : Shared) (mg mb : Str → Option Value) (mean : ExcName → Option Value) (Q E : Value → Shared → Prop),
    (K2 w.params).In s.heap → Top hd.view_39 LSE mean mg mb s.heap → s.heap.IsList sc vs.toArray → IntsAre vs ns → ns.length ≤ 63 → (∀ h' tk, s.heap.StaysIn h' → Q (.bool true) { s with heap := h', toks := tk }) →
    wpC (model PRG w) callerA (call (.ref 201) [.ref sc]) Q E s := by
  refine epz10 (by (repeat' (refine neP ?_ ?_)) <;> (first | exact neW | exact neS | exact neA | exact inferInstance)) ?_
  generalize eps _ _ = zz
  generalize Prod.fst zz = w
  generalize Prod.fst (Prod.snd zz) = sc
  generalize Prod.fst (Prod.snd (Prod.snd zz)) = vs
  generalize Prod.fst (Prod.snd (Prod.snd (Prod.snd zz))) = ns
  generalize Prod.fst (Prod.snd (Prod.snd (Prod.snd (Prod.snd zz)))) = s
  generalize Prod.fst (Prod.snd (Prod.snd (Prod.snd (Prod.snd (Prod.snd zz))))) = mg
  generalize Prod.fst (Prod.snd (Prod.snd (Prod.snd (Prod.snd (Prod.snd (Prod.snd zz)))))) = mb
  generalize Prod.fst (Prod.snd (Prod.snd (Prod.snd (Prod.snd (Prod.snd (Prod.snd (Prod.snd zz))))))) = mean
  generalize Prod.fst (Prod.snd (Prod.snd (Prod.snd (Prod.snd (Prod.snd (Prod.snd (Prod.snd (Prod.snd zz)))))))) = Q
  generalize Prod.snd (Prod.snd (Prod.snd (Prod.snd (Prod.snd (Prod.snd (Prod.snd (Prod.snd (Prod.snd zz)))))))) = E
  clear zz
  intro X T hl hi hlen hret
  revert X T
  unfold PRG LSE
  k_fill
  intro X T
  refine wpC_call ?_
  k_dflt (refine' code_defL (K := K2 w.params) (binds := [(Str.ofString "script", .ref sc)]) ?k3 ?k5 ?k6 ?k7 ?k9 ?kB ?kD ?_ ?c2 ?c3 ?c4; (case k3 => exact X); (case k5 => exact T); (case k6 => k_is); (case k7 => k_is); (case k9 => exact BindsTo.of_eq rfl); (case kB => rfl); (case kD => decide); (case c2 => exact rfl); (case c3 => exact rfl); (case c4 => exact rfl); k_whole; intro L' h' tk' cells F' N' Y' B')
  obtain ⟨o1, rfl, d1⟩ := cells_one Y'
  clear Y'
  revert d1
  revert B'
  revert N'
  revert F'
  revert o1
  revert tk'
  revert h'
  revert L'
  refine epz4 (by (repeat' (refine neP ?_ ?_)) <;> (first | exact neW | exact neS | exact neA | exact inferInstance)) ?_
  generalize eps _ _ = zz
  generalize Prod.fst zz = L'
  generalize Prod.fst (Prod.snd zz) = h'
  generalize Prod.fst (Prod.snd (Prod.snd zz)) = tk'
  generalize Prod.snd (Prod.snd (Prod.snd zz)) = o1
  clear zz
  intro F' N' B' d1
  replace d1 : o1.data = .cell none := d1
  have F0 : Fr s.heap L' h' (fun y => if y = Str.ofString "script" then some (.ref sc) else none) := F'
  clear F'
  refine wpC_then (Q' := LS1 s.heap L' o1 s) (fun _ _ h => h.1) ?st1 ?_
  case st1 => 
    (try k_fold)
    walk_at "ms"
    rename Fr _ _ _ _ => Fe
    rename News _ _ _ _ => Ne
    rename IntsAre _ (List.take 5 ns ++ _) => hIe
    show LS1 _ _ _ _ _ _
    refine ⟨rfl, _, _, _, _, _, _, 0, rfl, Fe, ?n1, by rfl, hIe, ?_, by omega⟩
    case n1 =>
      intro p hp
      refine Ne p ?_
      simp only [List.mem_cons, List.not_mem_nil, or_false] at hp
      rcases hp with rfl | rfl
      · exact .head _
      · simp
    · simp only [List.length_append, List.length_take, List.length_drop, List.length_cons, List.length_nil, Int.toNat_natCast]
      omega
  rintro s1 ⟨_, h1, k1, m1, ac, cv, C, n1, rfl, F1, N1, hm1, hC, hC5, hac⟩
  revert h1 k1 m1 ac cv C n1
  refine epz7 (by (repeat' (refine neP ?_ ?_)) <;> (first | exact neW | exact neS | exact neA | exact inferInstance)) ?_
  generalize eps _ _ = zz
  generalize Prod.fst zz = h1
  generalize Prod.fst (Prod.snd zz) = k1
  generalize Prod.fst (Prod.snd (Prod.snd zz)) = m1
  generalize Prod.fst (Prod.snd (Prod.snd (Prod.snd zz))) = ac
  generalize Prod.fst (Prod.snd (Prod.snd (Prod.snd (Prod.snd zz)))) = cv
  generalize Prod.fst (Prod.snd (Prod.snd (Prod.snd (Prod.snd (Prod.snd zz))))) = C
  generalize Prod.snd (Prod.snd (Prod.snd (Prod.snd (Prod.snd (Prod.snd zz))))) = n1
  clear zz
  intro F1 N1 hm1 hC hC5 hac
  clear F0 N' hl hi hlen
  have F2 : Fr s.heap L' h1 (fun z => if z = Str.ofString "cells" then some (.ref ac) else m1 z) := fr_known [(Str.ofString "cells", _)] F1 (by intro p hp; rw [List.mem_singleton.mp hp]; exact hm1)
  clear F1
  refine wpC_then (Q' := LS2 s.heap L' o1 s ac cv C n1) (fun _ _ h => h.1) ?st2 ?_
  case st2 => 
    (try dsimp only)
    (try k_fold)
    walk_at "ms"
    rename Fr _ _ _ _ => Fc
    rename News _ _ _ _ => Nc
    with_unfolding_all refine Spec.use (systems_spec w _ _) B' Fc X T (by rfl) (by decide) (by decide) trivial ?_
    intro v5 tl5 h5 tk5 hst5 hnew5 hp5
    obtain ⟨n, b, sh, e, d5, ar, an, rv, nv, q1, q2, q3, hP, rfl, hd5, har, han, hnv, hrl, hrows⟩ := hp5
    have F5 := Fr.keeps Fc hst5
    have N5' := news_join (news_new (outer := []) (tl := tl5) Fc .refl hnew5) (Nc.grown hst5)
    have N5 : News s.heap L' h5 ((d5, _) :: (an, _) :: (ac, listOf cv.toArray n1) :: (L' + 1, o1) :: tl5) := fun p hp => by
      rcases List.mem_cons.mp hp with rfl | hp
      · exact N5' _ (List.mem_append_left _ hd5)
      rcases List.mem_cons.mp hp with rfl | hp
      · exact N5' _ (List.mem_append_left _ han)
      rcases List.mem_cons.mp hp with rfl | hp
      · exact N5' _ (List.mem_append_right _ (.head _))
      rcases List.mem_cons.mp hp with rfl | hp
      · exact N5' _ (List.mem_append_right _ (.tail _ (.head _)))
      · exact N5' _ (List.mem_append_left _ hp)
    have offs : ∀ p ∈ tl5, (@Ne Nat p.1 (L' + 1)) ∧ (@Ne Nat p.1 ac) := fun p hp => ⟨new_ne (hnew5 p hp).2 Nc (.tail _ (.head _)), new_ne (hnew5 p hp).2 Nc (.head _)⟩
    clear hst5 hnew5 Fc Nc
    (try dsimp only)
    walk_at "ms"
    rename Fr _ _ _ _ => Fe
    rename News _ _ _ _ => Ne
    show LS2 _ _ _ _ _ _ _ _ _ _
    exact ⟨rfl, _, _, _, an, nv, q3, ar, n, b, sh, e, tl5, rfl, Fe, news_tail Ne, by walk_at "known", hP, hnv, ⟨rv, q2, har, hrl, hrows⟩, (offs _ han).1, (offs _ han).2, offs⟩
  rintro s2 ⟨_, h2, k2, m2, an, nv, k3, ar, n, b, sh, e, tl, rfl, F3, N3, hm2, hP, hnv, hsys, hoff⟩
  revert h2 k2 m2 an nv k3 ar n b sh e tl
  refine epz12 (by (repeat' (refine neP ?_ ?_)) <;> (first | exact neW | exact neS | exact neA | exact inferInstance)) ?_
  generalize eps _ _ = zz
  generalize Prod.fst zz = h2
  generalize Prod.fst (Prod.snd zz) = k2
  generalize Prod.fst (Prod.snd (Prod.snd zz)) = m2
  generalize Prod.fst (Prod.snd (Prod.snd (Prod.snd zz))) = an
  generalize Prod.fst (Prod.snd (Prod.snd (Prod.snd (Prod.snd zz)))) = nv
  generalize Prod.fst (Prod.snd (Prod.snd (Prod.snd (Prod.snd (Prod.snd zz))))) = k3
  generalize Prod.fst (Prod.snd (Prod.snd (Prod.snd (Prod.snd (Prod.snd (Prod.snd zz)))))) = ar
  generalize Prod.fst (Prod.snd (Prod.snd (Prod.snd (Prod.snd (Prod.snd (Prod.snd (Prod.snd zz))))))) = n
  generalize Prod.fst (Prod.snd (Prod.snd (Prod.snd (Prod.snd (Prod.snd (Prod.snd (Prod.snd (Prod.snd zz)))))))) = b
  generalize Prod.fst (Prod.snd (Prod.snd (Prod.snd (Prod.snd (Prod.snd (Prod.snd (Prod.snd (Prod.snd (Prod.snd zz))))))))) = sh
  generalize Prod.fst (Prod.snd (Prod.snd (Prod.snd (Prod.snd (Prod.snd (Prod.snd (Prod.snd (Prod.snd (Prod.snd (Prod.snd zz)))))))))) = e
  generalize Prod.snd (Prod.snd (Prod.snd (Prod.snd (Prod.snd (Prod.snd (Prod.snd (Prod.snd (Prod.snd (Prod.snd (Prod.snd zz)))))))))) = tl
  clear zz
  intro F3 N3 hm2 hP hnv hsys hoff
  have F4 : Fr s.heap L' h2 (fun z => if z = Str.ofString "cells" then some (.ref ac) else if z = Str.ofString "raws" then some (.ref ar) else if z = Str.ofString "names" then some (.ref an) else m2 z) := fr_known _ F3 hm2
  have hcs : cv.toArray.size ≤ sizeLine := by rw [List.size_toArray, hC.length, hC5]; exact Nat.le_of_ble_eq_true rfl
  clear N1 hm1 F2 F3 hm2
  refine wpC_then (Q' := LSc s.heap L' s (Str.ofString "hours") [(Str.ofString "cells", Value.ref ac), (Str.ofString "raws", .ref ar), (Str.ofString "names", .ref an)] ((an, listOf nv.toArray k3) :: (ac, listOf cv.toArray n1) :: (L' + 1, o1) :: tl) (C.map hourF)) (fun _ _ h => h.1) ?st3 ?_
  case st3 => 
    (try k_fold)
    k_dflt (refine LCg.Assign_ListComp_U (F₀ := F4) (by rfl) (by with_unfolding_all rfl) (by with_unfolding_all rfl) (by decide) (by rfl) (by decide) (by rfl) (by rfl) (by rfl) ?_)
    walk_at "ms"
    refine LCg.CompSrc.ledger (by rfl) F4 N3 (.tail _ (.head _)) hcs ?_
    intro g'
    refine kcf_list hourF hC ?turnCho ?finCho
    case turnCho =>
      intro k t9 I9 oI9 C9 oC9 D9 m9 ys h9 tk9 E9 hk9 hC9 hx9 F9 N9 off9 ne9 mk9
      clear F4 N3
      (try k_fold)
      walk_at "ms"
      exact cf_end F9 N9 (fun _ h => h) off9 (.inr ⟨_, .tail _ (.head _), rfl, _, rfl⟩) rfl
    intro ys hys D9 h9 tk9 F9 N9 off9
    show LSc _ _ _ _ _ _ _ _ _
    exact ⟨rfl, _, _, _, D9, ys, _, rfl, F9, N9, by walk_at "known", hys, off1_all off9⟩
  rintro s3 ⟨_, h3, k4, m3, ah, hv, n3, rfl, F5, N5, hm3, hh, hahn⟩
  revert h3 k4 m3 ah hv n3
  refine epz6 (by (repeat' (refine neP ?_ ?_)) <;> (first | exact neW | exact neS | exact neA | exact inferInstance)) ?_
  generalize eps _ _ = zz
  generalize Prod.fst zz = h3
  generalize Prod.fst (Prod.snd zz) = k4
  generalize Prod.fst (Prod.snd (Prod.snd zz)) = m3
  generalize Prod.fst (Prod.snd (Prod.snd (Prod.snd zz))) = ah
  generalize Prod.fst (Prod.snd (Prod.snd (Prod.snd (Prod.snd zz)))) = hv
  generalize Prod.snd (Prod.snd (Prod.snd (Prod.snd (Prod.snd zz)))) = n3
  clear zz
  intro F5 N5 hm3 hh hahn
  have F6 : Fr s.heap L' h3 (fun z => if z = Str.ofString "hours" then some (.ref ah) else if z = Str.ofString "cells" then some (.ref ac) else if z = Str.ofString "raws" then some (.ref ar) else if z = Str.ofString "names" then some (.ref an) else m3 z) := fr_known _ F5 hm3
  clear N3 F4 F5 hm3
  refine wpC_then (Q' := LSc s.heap L' s (Str.ofString "tails") [(Str.ofString "hours", Value.ref ah), (Str.ofString "cells", Value.ref ac), (Str.ofString "raws", .ref ar), (Str.ofString "names", .ref an)] ((ah, listOf hv.toArray n3) :: (an, listOf nv.toArray k3) :: (ac, listOf cv.toArray n1) :: (L' + 1, o1) :: tl) (C.map tailF)) (fun _ _ h => h.1) ?st4 ?_
  case st4 => 
    (try k_fold)
    k_dflt (refine LCg.Assign_ListComp_U (F₀ := F6) (by rfl) (by with_unfolding_all rfl) (by with_unfolding_all rfl) (by decide) (by rfl) (by decide) (by rfl) (by rfl) (by rfl) ?_)
    walk_at "ms"
    refine LCg.CompSrc.ledger (by rfl) F6 N5 (.tail _ (.tail _ (.head _))) hcs ?_
    intro g'
    refine kcf_list tailF hC ?turnCta ?finCta
    case turnCta =>
      intro k t9 I9 oI9 C9 oC9 D9 m9 ys h9 tk9 E9 hk9 hC9 hx9 F9 N9 off9 ne9 mk9
      clear F6 N5
      (try k_fold)
      walk_at "ms"
      rename Fr _ _ _ _ => F10
      rename News _ _ _ _ => N10
      k_dflt (refine' sub_place ?q1 ?q2 ?q3 ?q4 ?_ ?q5; (case q1 => is_list); (case q2 => exact .cons _ _ (.cons _ _ (.cons _ _ (.cons _ _ (.cons _ _ (.cons _ _ (.cons _ _ (.cons _ _ .nil)))))))); (case q3 => exact Int.fmod_nonneg_of_pos _ (by decide)); (case q4 => exact Int.fmod_lt_of_pos _ (by decide)); (case q5 => with_unfolding_all rfl); k_whole)
      intro t10
      exact cf_end F10 N10 (fun _ h => .tail _ h) off9 (.inr ⟨_, .tail _ (.tail _ (.head _)), rfl, _, rfl⟩) rfl
    intro ys hys D9 h9 tk9 F9 N9 off9
    show LSc _ _ _ _ _ _ _ _ _
    exact ⟨rfl, _, _, _, D9, ys, _, rfl, F9, N9, by walk_at "known", hys, off1_all off9⟩
  rintro s4 ⟨_, h4, k5, m4, at', tv, n4, rfl, F7, N7, hm4, ht, hatn⟩
  revert h4 k5 m4 at' tv n4
  refine epz6 (by (repeat' (refine neP ?_ ?_)) <;> (first | exact neW | exact neS | exact neA | exact inferInstance)) ?_
  generalize eps _ _ = zz
  generalize Prod.fst zz = h4
  generalize Prod.fst (Prod.snd zz) = k5
  generalize Prod.fst (Prod.snd (Prod.snd zz)) = m4
  generalize Prod.fst (Prod.snd (Prod.snd (Prod.snd zz))) = at'
  generalize Prod.fst (Prod.snd (Prod.snd (Prod.snd (Prod.snd zz)))) = tv
  generalize Prod.snd (Prod.snd (Prod.snd (Prod.snd (Prod.snd zz)))) = n4
  clear zz
  intro F7 N7 hm4 ht hatn
  have F8 : Fr s.heap L' h4 (fun z => if z = Str.ofString "tails" then some (.ref at') else if z = Str.ofString "hours" then some (.ref ah) else if z = Str.ofString "cells" then some (.ref ac) else if z = Str.ofString "raws" then some (.ref ar) else if z = Str.ofString "names" then some (.ref an) else m4 z) := fr_known _ F7 hm4
  clear N5 F6 F7 hm4
  refine wpC_then (Q' := LSc s.heap L' s (Str.ofString "heads") [(Str.ofString "tails", Value.ref at'), (Str.ofString "hours", Value.ref ah), (Str.ofString "cells", Value.ref ac), (Str.ofString "raws", .ref ar), (Str.ofString "names", .ref an)] ((at', listOf tv.toArray n4) :: (ah, listOf hv.toArray n3) :: (an, listOf nv.toArray k3) :: (ac, listOf cv.toArray n1) :: (L' + 1, o1) :: tl) (C.map headF)) (fun _ _ h => h.1) ?st5 ?_
  case st5 => 
    (try k_fold)
    k_dflt (refine LCg.Assign_ListComp_U (F₀ := F8) (by rfl) (by with_unfolding_all rfl) (by with_unfolding_all rfl) (by decide) (by rfl) (by decide) (by rfl) (by rfl) (by rfl) ?_)
    walk_at "ms"
    refine LCg.CompSrc.ledger (by rfl) F8 N7 (.tail _ (.tail _ (.tail _ (.head _)))) hcs ?_
    intro g'
    refine kcf_list headF hC ?turnChe ?finChe
    case turnChe =>
      intro k t9 I9 oI9 C9 oC9 D9 m9 ys h9 tk9 E9 hk9 hC9 hx9 F9 N9 off9 ne9 mk9
      clear F8 N7
      (try k_fold)
      walk_at "ms"
      rename Fr _ _ _ _ => F10
      rename News _ _ _ _ => N10
      k_dflt (refine' sub_place ?q1 ?q2 ?q3 ?q4 ?_ ?q5; (case q1 => is_list); (case q2 => exact .cons _ _ (.cons _ _ (.cons _ _ (.cons _ _ (.cons _ _ (.cons _ _ (.cons _ _ (.cons _ _ .nil)))))))); (case q3 => exact Int.fmod_nonneg_of_pos _ (by decide)); (case q4 => exact Int.fmod_lt_of_pos _ (by decide)); (case q5 => with_unfolding_all rfl); k_whole)
      intro t10
      exact cf_end F10 N10 (fun _ h => .tail _ h) off9 (.inr ⟨_, .tail _ (.tail _ (.tail _ (.head _))), rfl, _, rfl⟩) rfl
    intro ys hys D9 h9 tk9 F9 N9 off9
    show LSc _ _ _ _ _ _ _ _ _
    exact ⟨rfl, _, _, _, D9, ys, _, rfl, F9, N9, by walk_at "known", hys, off1_all off9⟩
  rintro s5 ⟨_, h5, k6, m5, ad, dv, n5, rfl, F9, N9, hm5, hd', hadn⟩
  revert h5 k6 m5 ad dv n5
  refine epz6 (by (repeat' (refine neP ?_ ?_)) <;> (first | exact neW | exact neS | exact neA | exact inferInstance)) ?_
  generalize eps _ _ = zz
  generalize Prod.fst zz = h5
  generalize Prod.fst (Prod.snd zz) = k6
  generalize Prod.fst (Prod.snd (Prod.snd zz)) = m5
  generalize Prod.fst (Prod.snd (Prod.snd (Prod.snd zz))) = ad
  generalize Prod.fst (Prod.snd (Prod.snd (Prod.snd (Prod.snd zz)))) = dv
  generalize Prod.snd (Prod.snd (Prod.snd (Prod.snd (Prod.snd zz)))) = n5
  clear zz
  intro F9 N9 hm5 hd' hadn
  have F10 : Fr s.heap L' h5 (fun z => if z = Str.ofString "heads" then some (.ref ad) else if z = Str.ofString "tails" then some (.ref at') else if z = Str.ofString "hours" then some (.ref ah) else if z = Str.ofString "cells" then some (.ref ac) else if z = Str.ofString "raws" then some (.ref ar) else if z = Str.ofString "names" then some (.ref an) else m5 z) := fr_known _ F9 hm5
  clear N7 F8 F9 hm5
  refine wpC_execs_cons ?_
  refine wpC_mono (Q := LS6 w s.heap L' o1 s C n b e ad dv n5 at' tv n4 ah hv n3 an nv k3) (E := fun _ _ => False) ?st6 ?_ (fun _ _ h => h.elim)
  case st6 => 
    refine wpC_Assign_Tuple (wpC_Call (wpC_any ?_))
    (try k_fold)
    walk_at "ms"
    refine wpC_callWith (K := K2 w.params) (by k_is) (wpC_any ?_)
    walk_at "ms"
    rename Fr _ _ _ _ => Fc
    rename News _ _ _ _ => Nc
    obtain ⟨rv, q2, har, hrl, hrows⟩ := hsys
    have Nt : ∀ p ∈ tl, p ∈ (ad, listOf dv.toArray n5) :: (at', listOf tv.toArray n4) :: (ah, listOf hv.toArray n3) :: (an, listOf nv.toArray k3) :: (ac, listOf cv.toArray n1) :: (L' + 1, o1) :: tl := fun p hp => .tail _ (.tail _ (.tail _ (.tail _ (.tail _ (.tail _ hp)))))
    with_unfolding_all refine SpecCP.use (books_spec w ar ac ah rv cv hv (rawS sh) (rawR n b e) al1S (al1R n b e) C (C.map hourF) (hb_pick hP)) B' Fc X T X T ktsDicts_nil (by rfl) (by decide) (by decide) ⟨News.isList Nc (Nt _ har), hrl, fun i hi => ?_, News.isList Nc (.tail _ (.tail _ (.tail _ (.tail _ (.head _))))), hC, hC5, News.isList Nc (.tail _ (.tail _ (.head _))), hh, by rw [List.length_map]; exact hC5⟩ ?_
    · obtain ⟨ai, t, t', k, q1, q2⟩ := hrows i hi
      exact ⟨ai, t, t', q1, News.isList Nc (Nt _ q2)⟩
    intro v7 tl7 h7 g7 tk7 TT7 F7 hst7 hnew7 B7 X7 T7 D7 hp7
    obtain ⟨d7, D1, D2, od1, od2, es1, es2, q7, rfl, hd7, hD1, hD2, hi1, hi2, hs1, hs2, hne, hp1, hp2⟩ := hp7
    replace F7 := fr_back TT7 F7
    have Nold : News s.heap L' h7 _ := fun p hp => ⟨hst7 _ _ (Nc p hp).1 (fun hm => by
      rcases (mem_frames rfl).mp hm with z | z
      · exact (Nc p hp).2.1 z
      · simp at z), (Nc p hp).2⟩
    have Nnew := news_new (outer := []) (tl := tl7) Fc .refl hnew7
    have N7 : News s.heap L' h7 ((d7, _) :: (D1, od1) :: (D2, od2) :: (ad, listOf dv.toArray n5) :: (at', listOf tv.toArray n4) :: (ah, listOf hv.toArray n3) :: (an, listOf nv.toArray k3) :: (L' + 1, o1) :: tl7) := fun p hp => by
      rcases List.mem_cons.mp hp with rfl | hp
      · exact Nnew _ hd7
      rcases List.mem_cons.mp hp with rfl | hp
      · exact Nnew _ hD1
      rcases List.mem_cons.mp hp with rfl | hp
      · exact Nnew _ hD2
      rcases List.mem_cons.mp hp with rfl | hp
      · exact Nold _ (.head _)
      rcases List.mem_cons.mp hp with rfl | hp
      · exact Nold _ (.tail _ (.head _))
      rcases List.mem_cons.mp hp with rfl | hp
      · exact Nold _ (.tail _ (.tail _ (.head _)))
      rcases List.mem_cons.mp hp with rfl | hp
      · exact Nold _ (.tail _ (.tail _ (.tail _ (.head _))))
      rcases List.mem_cons.mp hp with rfl | hp
      · exact Nold _ (.tail _ (.tail _ (.tail _ (.tail _ (.tail _ (.head _))))))
      · exact Nnew _ hp
    have offc : ∀ p ∈ tl7, @Ne Nat p.1 (L' + 1) := fun p hp => new_ne (hnew7 p hp).2 Nc (.tail _ (.tail _ (.tail _ (.tail _ (.tail _ (.head _))))))
    have offD : ∀ p ∈ [(ad, listOf dv.toArray n5), (at', listOf tv.toArray n4), (ah, listOf hv.toArray n3), (an, listOf nv.toArray k3), (L' + 1, o1)], (@Ne Nat p.1 D1) ∧ (@Ne Nat p.1 D2) := fun p hp => by
      have hpc : p ∈ (ad, listOf dv.toArray n5) :: (at', listOf tv.toArray n4) :: (ah, listOf hv.toArray n3) :: (an, listOf nv.toArray k3) :: (ac, listOf cv.toArray n1) :: (L' + 1, o1) :: tl := by
        simp only [List.mem_cons, List.not_mem_nil, or_false] at hp ⊢
        rcases hp with h | h | h | h | h <;> simp [h]
      exact ⟨(new_ne (hnew7 _ hD1).2 Nc hpc).symm, (new_ne (hnew7 _ hD2).2 Nc hpc).symm⟩
    clear Fc Nc Nold Nnew hst7 hnew7 hrows
    (try dsimp only)
    walk_at "ms"
    rename Fr _ _ _ _ => Fe
    rename News _ _ _ _ => Ne
    show LS6 _ _ _ _ _ _ _ _ _ _ _ _ _ _ _ _ _ _ _ _ _ _ _
    exact ⟨rfl, _, _, _, D1, D2, od1, od2, es1, es2, tl7, rfl, Fe, news_tail Ne, by walk_at "known", ⟨hi1, hi2, hs1, hs2, hne, hp1, hp2⟩, offc, offD⟩
  rintro f s6 ⟨rfl, h6, k7, m6, D1, D2, od1, od2, es1, es2, tl6, rfl, F11, N11, hm6, hB6⟩
  revert h6 k7 m6 D1 D2 od1 od2 es1 es2 tl6
  refine epz10 (by (repeat' (refine neP ?_ ?_)) <;> (first | exact neW | exact neS | exact neA | exact inferInstance)) ?_
  generalize eps _ _ = zz
  generalize Prod.fst zz = h6
  generalize Prod.fst (Prod.snd zz) = k7
  generalize Prod.fst (Prod.snd (Prod.snd zz)) = m6
  generalize Prod.fst (Prod.snd (Prod.snd (Prod.snd zz))) = D1
  generalize Prod.fst (Prod.snd (Prod.snd (Prod.snd (Prod.snd zz)))) = D2
  generalize Prod.fst (Prod.snd (Prod.snd (Prod.snd (Prod.snd (Prod.snd zz))))) = od1
  generalize Prod.fst (Prod.snd (Prod.snd (Prod.snd (Prod.snd (Prod.snd (Prod.snd zz)))))) = od2
  generalize Prod.fst (Prod.snd (Prod.snd (Prod.snd (Prod.snd (Prod.snd (Prod.snd (Prod.snd zz))))))) = es1
  generalize Prod.fst (Prod.snd (Prod.snd (Prod.snd (Prod.snd (Prod.snd (Prod.snd (Prod.snd (Prod.snd zz)))))))) = es2
  generalize Prod.snd (Prod.snd (Prod.snd (Prod.snd (Prod.snd (Prod.snd (Prod.snd (Prod.snd (Prod.snd zz)))))))) = tl6
  clear zz
  intro F11 N11 hm6 hB6
  have F12 : Fr s.heap L' h6 (fun z => if z = Str.ofString "ahead" then some (.ref D1) else if z = Str.ofString "behind" then some (.ref D2) else if z = Str.ofString "heads" then some (.ref ad) else if z = Str.ofString "tails" then some (.ref at') else if z = Str.ofString "hours" then some (.ref ah) else if z = Str.ofString "names" then some (.ref an) else m6 z) := fr_known _ F11 hm6
  clear N9 F10 F11 hm6
  dsimp only
  obtain ⟨hB6, hoc6, hoD6⟩ := hB6
  refine wpC_then (Q' := LS7 s.heap L' o1 s (cmpF (entF (tnF n b e C) (C.map hourF)) (entF (hnF n b e C) (C.map hourF))) ad dv n5 at' tv n4 ah hv n3 an nv k3) (fun _ _ h => h.1) ?st7 ?_
  case st7 => 
    (try k_fold)
    walk_at "ms"
    rename Fr _ _ _ _ => Fc
    rename News _ _ _ _ => Nc
    have hT5 : (tnF n b e C).length = 5 := by unfold tnF; rw [List.length_map]; exact hC5
    have hH5 : (hnF n b e C).length = 5 := by unfold hnF; rw [List.length_map]; exact hC5
    have hO5 : (C.map hourF).length = 5 := by rw [List.length_map]; exact hC5
    have hz1 := sizF_some hT5 hO5
    have hz2 := sizF_some hH5 hO5
    have he1 : es1 ≠ [] := fun q => hz1.1 (by have := paired_in hB6.p1; rw [q] at this; exact List.length_eq_zero_iff.mp this.symm)
    have he2 : es2 ≠ [] := fun q => hz2.1 (by have := paired_in hB6.p2; rw [q] at this; exact List.length_eq_zero_iff.mp this.symm)
    have hheap : ∀ p ∈ tl6, _ := fun p hp => (Nc p (.tail _ (.tail _ (.tail _ (.tail _ (.tail _ (.tail _ (.tail _ hp)))))))).1
    have hnot : ∀ p ∈ tl6, (∃ nm sz ct dx t1 t2 t3, p.2 = statObj dx nm sz ct t1 t2 t3) ∨ p.2 = dictOf [] 0 → p.1 ∉ [D1, D2] := fun p hp hor hm => by
      have q := hheap p hp
      simp only [List.mem_cons, List.not_mem_nil, or_false] at hm
      rcases hm with z | z
      · rw [z, (Nc _ (.head _)).1] at q
        cases q
        exact book_not hB6.d1 he1 hor
      · rw [z, (Nc _ (.tail _ (.head _))).1] at q
        cases q
        exact book_not hB6.d2 he2 hor
    have hnd : ((entF (hnF n b e C) (C.map hourF)).map (·.1)).Nodup := by
      have e1 : (entF (hnF n b e C) (C.map hourF)).map (·.1) = es2.map (·.1) := (keys_g (paired_mono (fun _ _ x => StE.g (hid := [D1, D2]) (fun _ _ e _ => e) x) (ste_of hheap hnot hB6.p2))).symm
      rw [e1]
      obtain ⟨_, _, _, _, _, _, hnn⟩ := hB6.d2
      exact hnn
    have hDold : ∀ b9 o9, b9 ∈ [D1, D2] → s.heap.get? b9 = some o9 → False := fun b9 o9 hb e9 => by
      simp only [List.mem_cons, List.not_mem_nil, or_false] at hb
      rcases hb with rfl | rfl
      · rw [(Nc _ (.head _)).2.2] at e9; cases e9
      · rw [(Nc _ (.tail _ (.head _))).2.2] at e9; cases e9
    have hDL : L' ∉ [D1, D2] := fun hb => by
      simp only [List.mem_cons, List.not_mem_nil, or_false] at hb
      rcases hb with z | z
      · exact (Nc _ (.head _)).2.1 z.symm
      · exact (Nc _ (.tail _ (.head _))).2.1 z.symm
    have N2 : News s.heap L' _ [(D1, od1), (D2, od2)] := fun p hp => Nc p (by simp only [List.mem_cons, List.not_mem_nil, or_false] at hp; rcases hp with rfl | rfl <;> simp)
    with_unfolding_all refine SpecM.use (cmp_spec w D1 D2 (entF (tnF n b e C) (C.map hourF)) (entF (hnF n b e C) (C.map hourF))) B' Fc N2 rfl X T (by rfl) (by decide) (by decide) ⟨od1, od2, es1, es2, (Nc _ (.head _)).1, hB6.d1, (Nc _ (.tail _ (.head _))).1, hB6.d2, hB6.s1, hB6.s2, hB6.ne, ste_of hheap hnot hB6.p1, ste_of hheap hnot hB6.p2, hnd, by unfold entF; rw [List.length_map]; exact hz1.2, by unfold entF; rw [List.length_map]; exact hz2.2⟩ ?_
    intro v7 tl7 h7 tk7 hst7 hnew7 hp7
    obtain ⟨S, sv, n7, rfl, hmS, hpS⟩ := hp7
    have F7 : Fr s.heap L' h7 _ := ⟨Fc.ns.at' fun o e9 => hst7 _ _ hDL e9, fun b9 o9 e9 => hst7 _ _ (fun q => hDold _ _ q e9) (Fc.keep _ _ e9), Fc.above⟩
    have Nnew := news_new (outer := []) (tl := tl7) Fc .refl hnew7
    have Nkeep : ∀ p ∈ [(ad, listOf dv.toArray n5), (at', listOf tv.toArray n4), (ah, listOf hv.toArray n3), (an, listOf nv.toArray k3), (L' + 1, o1)], h7.get? p.1 = some p.2 ∧ p.1 ≠ L' ∧ s.heap.get? p.1 = none := fun p hp => by
      have hpc : p ∈ (D1, od1) :: (D2, od2) :: (ad, listOf dv.toArray n5) :: (at', listOf tv.toArray n4) :: (ah, listOf hv.toArray n3) :: (an, listOf nv.toArray k3) :: (L' + 1, o1) :: tl6 := by
        simp only [List.mem_cons, List.not_mem_nil, or_false] at hp ⊢
        rcases hp with h | h | h | h | h <;> simp [h]
      refine ⟨hst7 _ _ (fun q => ?_) (Nc p hpc).1, (Nc p hpc).2⟩
      simp only [List.mem_cons, List.not_mem_nil, or_false] at q
      rcases q with z | z
      · exact (hoD6 p hp).1 z
      · exact (hoD6 p hp).2 z
    have N7 : News s.heap L' h7 ((S, listOf sv.toArray n7) :: (ad, listOf dv.toArray n5) :: (at', listOf tv.toArray n4) :: (ah, listOf hv.toArray n3) :: (an, listOf nv.toArray k3) :: (L' + 1, o1) :: tl7) := fun p hp => by
      rcases List.mem_cons.mp hp with rfl | hp
      · exact Nnew _ hmS
      rcases List.mem_cons.mp hp with rfl | hp
      · exact Nkeep _ (.head _)
      rcases List.mem_cons.mp hp with rfl | hp
      · exact Nkeep _ (.tail _ (.head _))
      rcases List.mem_cons.mp hp with rfl | hp
      · exact Nkeep _ (.tail _ (.tail _ (.head _)))
      rcases List.mem_cons.mp hp with rfl | hp
      · exact Nkeep _ (.tail _ (.tail _ (.tail _ (.head _))))
      rcases List.mem_cons.mp hp with rfl | hp
      · exact Nkeep _ (.tail _ (.tail _ (.tail _ (.tail _ (.head _)))))
      · exact Nnew _ hp
    have hoc7 : ∀ p ∈ tl7, @Ne Nat p.1 (L' + 1) := fun p hp => new_ne (hnew7 p hp).2 Nc (.tail _ (.tail _ (.tail _ (.tail _ (.tail _ (.tail _ (.head _)))))))
    have hS1 := hoc7 _ hmS
    clear Fc Nc Nnew Nkeep N2 hst7 hnew7 hheap hnot hDold hDL hnd hz1 hz2
    (try dsimp only)
    walk_at "ms"
    rename Fr _ _ _ _ => Fe
    rename News _ _ _ _ => Ne
    show LS7 _ _ _ _ _ _ _ _ _ _ _ _ _ _ _ _ _ _ _
    exact ⟨rfl, _, _, _, S, sv, n7, tl7, rfl, Fe, Ne, by walk_at "known", hpS, hoc7, hS1⟩
  rintro s7 ⟨_, h7, k8, m7, S, sv, n7, tl7, rfl, F13, N13, hm7, hS7, hoc7, hoS7⟩
  revert h7 k8 m7 S sv n7 tl7
  refine epz7 (by (repeat' (refine neP ?_ ?_)) <;> (first | exact neW | exact neS | exact neA | exact inferInstance)) ?_
  generalize eps _ _ = zz
  generalize Prod.fst zz = h7
  generalize Prod.fst (Prod.snd zz) = k8
  generalize Prod.fst (Prod.snd (Prod.snd zz)) = m7
  generalize Prod.fst (Prod.snd (Prod.snd (Prod.snd zz))) = S
  generalize Prod.fst (Prod.snd (Prod.snd (Prod.snd (Prod.snd zz)))) = sv
  generalize Prod.fst (Prod.snd (Prod.snd (Prod.snd (Prod.snd (Prod.snd zz))))) = n7
  generalize Prod.snd (Prod.snd (Prod.snd (Prod.snd (Prod.snd (Prod.snd zz))))) = tl7
  clear zz
  intro F13 N13 hm7 hS7 hoc7 hoS7
  have F14 : Fr s.heap L' h7 (fun z => if z = Str.ofString "told" then some (.ref S) else if z = Str.ofString "heads" then some (.ref ad) else if z = Str.ofString "tails" then some (.ref at') else if z = Str.ofString "hours" then some (.ref ah) else if z = Str.ofString "names" then some (.ref an) else m7 z) := fr_known _ F13 hm7
  clear N11 F12 F13 hm7 hB6 hoD6
  have hrl10 : (cmpF (entF (tnF n b e C) (C.map hourF)) (entF (hnF n b e C) (C.map hourF))).length ≤ 10 := rows_len hC5
  generalize hrows : cmpF (entF (tnF n b e C) (C.map hourF)) (entF (hnF n b e C) (C.map hourF)) = rows at hS7 hrl10
  refine wpC_then (Q' := LS8 s.heap L' s rows ad dv n5 at' tv n4 ah hv n3 an nv k3) (fun _ _ h => h.1) ?st8 ?_
  case st8 => 
    (try k_fold)
    refine wpAny_Assign_Name ?_ (by with_unfolding_all rfl)
    k_dflt (refine LCg.ListComp_U (F₀ := F14) (by with_unfolding_all rfl) (by decide) (by rfl) (by decide) (by rfl) ?_)
    walk_at "ms"
    have hrl : sv.length = rows.length := paired_in hS7
    refine LCg.CompSrc.ledger (by rfl) F14 N13 (.head _) (by rw [List.size_toArray, hrl]; exact Nat.le_trans hrl10 (Nat.le_of_ble_eq_true rfl)) ?_
    intro g'
    refine compRest_inv (JR L' S rows _) ⟨[], rfl, (fun _ h => nomatch h), .nil⟩ ?fin8 ?step8
    case step8 =>
      intro i ys nx v I oI C9 oC D m₂ h1 tk1 E1 hi hJ hP hC9 hx F1 N1 off1 ne1
      obtain ⟨tups, rfl, hto, hpr⟩ := hJ
      obtain ⟨r, hr1, hr2⟩ := paired_get hS7 (by simpa using hP : sv[i]? = some v)
      obtain ⟨a, dx, t1, t2, t3, t4, t5, rfl, ma, md⟩ := hr2
      have hi1 : InstAt h1 a (diffObj dx r t1 t2 t3 t4 t5) 148 (some (dictOf [] 0)) := by
        have mm : ∀ p ∈ tl7, p ∈ (I, oI) :: (C9, oC) :: (D, LCg.lst ys) :: (tups ++ (S, listOf sv.toArray n7) :: (ad, listOf dv.toArray n5) :: (at', listOf tv.toArray n4) :: (ah, listOf hv.toArray n3) :: (an, listOf nv.toArray k3) :: (L' + 1, o1) :: tl7) := fun p hp => (by repeat (first | exact List.Mem.head _ | exact hp | exact List.mem_append_left _ hp | refine List.Mem.tail _ ?_ | refine List.mem_append_right _ ?_))
        exact ⟨(N1 _ (mm _ ma)).1, rfl, rfl, (N1 _ (mm _ md)).1⟩
      clear N13 F14
      (try k_fold)
      walk_at "ms"
      rename Fr _ _ _ _ => Fe
      rename News _ _ _ _ => Ne
      rename _ ∧ _ ∧ _ ∧ AllLt _ _ => hlt
      exact jr_step (o1 := o1) Fe Ne hlt off1 (.tail _ (.tail _ (.tail _ (.tail _ (.tail _ (.head _)))))) hto hpr hr1 (List.mem_append_right _ (.head _))
    intro ys nx hJ D9 h9 tk9 F9 N9 off9
    obtain ⟨tups, rfl, hto, hpr⟩ := hJ
    have hsz : sv.toArray.size = rows.length := by rw [List.size_toArray, hrl]
    rw [hsz, List.take_length] at hpr
    have mc : (L' + 1, o1) ∈ (D9, LCg.lst ys) :: (tups ++ (S, listOf sv.toArray n7) :: (ad, listOf dv.toArray n5) :: (at', listOf tv.toArray n4) :: (ah, listOf hv.toArray n3) :: (an, listOf nv.toArray k3) :: (L' + 1, o1) :: tl7) := (by repeat (first | exact List.Mem.head _ | exact hp | exact List.mem_append_left _ hp | refine List.Mem.tail _ ?_ | refine List.mem_append_right _ ?_))
    refine wpAny_storeName_cell (by rfl) (by rfl) (by rfl) ⟨o1, (N9 _ mc).1, d1⟩ fun h10 hcell hsame => ?_
    obtain ⟨o2, e2, d2⟩ := hcell
    have cD : @Ne Nat D9 (L' + 1) := (off1_all off9 (L' + 1, o1) (by repeat (first | exact List.Mem.head _ | exact hp | exact List.mem_append_left _ hp | refine List.Mem.tail _ ?_ | refine List.mem_append_right _ ?_))).symm
    have F10 := F9.change hsame (N9 _ mc).2.1 (N9 _ mc).2.2
    have Nk : ∀ p, p ∈ (D9, LCg.lst ys) :: (tups ++ (S, listOf sv.toArray n7) :: (ad, listOf dv.toArray n5) :: (at', listOf tv.toArray n4) :: (ah, listOf hv.toArray n3) :: (an, listOf nv.toArray k3) :: (L' + 1, o1) :: tl7) → (@Ne Nat p.1 (L' + 1)) → h10.get? p.1 = some p.2 ∧ p.1 ≠ L' ∧ s.heap.get? p.1 = none := fun p hp hne => ⟨hsame.extBut _ _ hne (N9 p hp).1, (N9 p hp).2⟩
    have nad : @Ne Nat ad (L' + 1) := (hadn (L' + 1, o1) (by repeat (first | exact List.Mem.head _ | exact hp | exact List.mem_append_left _ hp | refine List.Mem.tail _ ?_ | refine List.mem_append_right _ ?_))).symm
    have nat' : @Ne Nat at' (L' + 1) := (hatn (L' + 1, o1) (by repeat (first | exact List.Mem.head _ | exact hp | exact List.mem_append_left _ hp | refine List.Mem.tail _ ?_ | refine List.mem_append_right _ ?_))).symm
    have nah : @Ne Nat ah (L' + 1) := (hahn (L' + 1, o1) (by repeat (first | exact List.Mem.head _ | exact hp | exact List.mem_append_left _ hp | refine List.Mem.tail _ ?_ | refine List.mem_append_right _ ?_))).symm
    have nan : @Ne Nat an (L' + 1) := hoff.1
    show LS8 _ _ _ _ _ _ _ _ _ _ _ _ _ _ _ _ _ _
    refine ⟨rfl, _, _, _, D9, ys, o2, tups, rfl, F10, fun p hp => ?_, by walk_at "known", d2, hpr, cD⟩
    rcases List.mem_cons.mp hp with rfl | hp
    · exact Nk _ (.head _) cD
    rcases List.mem_cons.mp hp with rfl | hp
    · exact ⟨e2, (N9 _ mc).2⟩
    rcases List.mem_cons.mp hp with rfl | hp
    · exact Nk _ (by repeat (first | exact List.Mem.head _ | exact hp | exact List.mem_append_left _ hp | refine List.Mem.tail _ ?_ | refine List.mem_append_right _ ?_)) nad
    rcases List.mem_cons.mp hp with rfl | hp
    · exact Nk _ (by repeat (first | exact List.Mem.head _ | exact hp | exact List.mem_append_left _ hp | refine List.Mem.tail _ ?_ | refine List.mem_append_right _ ?_)) nat'
    rcases List.mem_cons.mp hp with rfl | hp
    · exact Nk _ (by repeat (first | exact List.Mem.head _ | exact hp | exact List.mem_append_left _ hp | refine List.Mem.tail _ ?_ | refine List.mem_append_right _ ?_)) nah
    rcases List.mem_cons.mp hp with rfl | hp
    · exact Nk _ (by repeat (first | exact List.Mem.head _ | exact hp | exact List.mem_append_left _ hp | refine List.Mem.tail _ ?_ | refine List.mem_append_right _ ?_)) nan
    · exact Nk _ (by repeat (first | exact List.Mem.head _ | exact hp | exact List.mem_append_left _ hp | refine List.Mem.tail _ ?_ | refine List.mem_append_right _ ?_)) (hto p hp)
  rintro s8 ⟨_, h8, k9, m8, R, ys, o2, tups, rfl, F15, N15, hm8, d2, hR, hRc⟩
  revert h8 k9 m8 R ys o2 tups
  refine epz7 (by (repeat' (refine neP ?_ ?_)) <;> (first | exact neW | exact neS | exact neA | exact inferInstance)) ?_
  generalize eps _ _ = zz
  generalize Prod.fst zz = h8
  generalize Prod.fst (Prod.snd zz) = k9
  generalize Prod.fst (Prod.snd (Prod.snd zz)) = m8
  generalize Prod.fst (Prod.snd (Prod.snd (Prod.snd zz))) = R
  generalize Prod.fst (Prod.snd (Prod.snd (Prod.snd (Prod.snd zz)))) = ys
  generalize Prod.fst (Prod.snd (Prod.snd (Prod.snd (Prod.snd (Prod.snd zz))))) = o2
  generalize Prod.snd (Prod.snd (Prod.snd (Prod.snd (Prod.snd (Prod.snd zz))))) = tups
  clear zz
  intro F15 N15 hm8 d2 hR hRc
  have F16 : Fr s.heap L' h8 (fun z => if z = Str.ofString "heads" then some (.ref ad) else if z = Str.ofString "tails" then some (.ref at') else if z = Str.ofString "hours" then some (.ref ah) else if z = Str.ofString "names" then some (.ref an) else m8 z) := fr_known _ F15 hm8
  clear N13 F14 F15 hm8 hS7
  refine wpC_then (Q' := LS9 s.heap L' s ((namesF n b e).map (grF rows)) ((R, LCg.lst ys) :: (L' + 1, o2) :: (ad, listOf dv.toArray n5) :: (at', listOf tv.toArray n4) :: (ah, listOf hv.toArray n3) :: (an, listOf nv.toArray k3) :: tups) [(Str.ofString "heads", Value.ref ad), (Str.ofString "tails", .ref at'), (Str.ofString "hours", .ref ah), (Str.ofString "names", .ref an)]) (fun _ _ h => h.1) ?st9 ?_
  case st9 => 
    have hnl : nv.toArray.size ≤ sizeLine := by rw [List.size_toArray, hnv.len_eq]; exact Nat.le_of_ble_eq_true rfl
    (try k_fold)
    k_dflt (refine Assign_ListComp_X (ax := an) (its := nv.toArray) (k0 := k3) (fun i y => ∃ t, y = .int (grF rows ((namesF n b e).getD i Str.empty)) t) F16 N15 (by repeat (first | exact List.Mem.head _ | exact hp | exact List.mem_append_left _ hp | refine List.Mem.tail _ ?_ | refine List.mem_append_right _ ?_)) hnl (by rfl) (by rfl) (by with_unfolding_all rfl) (by with_unfolding_all rfl) (by rfl) (by intro h; rfl) (by intro n; rfl) (by decide) (by intro C cl; rfl) (by rfl) (by rfl) ?ev9 ?turn9 ?fin9)
    case ev9 =>
      walk_at "ms"
    case turn9 =>
      intro i v I oI C9 oC c9 oc D9 ys9 h1 tk1 E1 hv hoc F1 N1 off1 ne1
      obtain ⟨nm, t0, rfl, hnm⟩ := StrsAre.item hnv i v (by simpa using hv)
      clear N15 F16
      (try k_fold)
      walk_at "ms"
      k_dflt (refine LCt.ListComp_T (F₀ := F1) (by with_unfolding_all rfl) (by decide) (by rfl) (by decide) (by rfl) ?_)
      walk_at "ms"
      have hyl : ys.length = rows.length := paired_in hR
      refine LCt.CompSrcT.ledger (by rfl) F1 N1 (.tail _ (.tail _ (.tail _ (.tail _ (.head _))))) (by rw [List.size_toArray, hyl]; exact Nat.le_trans hrl10 (Nat.le_of_ble_eq_true rfl)) ?_
      intro g'
      refine compRestT_inv (J9 rows nm _) ⟨rfl, .nil⟩ ?finI ?stepI
      case stepI =>
        intro i2 ys2 nx2 v2 I2 oI2 C2 oC2 D2 mm2 hh2 tk2 E2 hi2 hJ2 hP2 hC2 hx2 FF2 NN2 off2 ne2
        obtain ⟨rfl, hys2⟩ := hJ2
        obtain ⟨r, hr1, hr2⟩ := paired_get hR (by simpa using hP2 : ys[i2]? = some v2)
        obtain ⟨a, u1, u2, u3, u4, u5, q5, rfl, ma⟩ := hr2
        have zt := NN2 _ (List.mem_cons_of_mem _ (List.mem_cons_of_mem _ (List.mem_cons_of_mem _ (List.mem_cons_of_mem _ (List.mem_cons_of_mem _ (List.mem_cons_of_mem _ (List.mem_cons_of_mem _ (List.mem_cons_of_mem _ (List.mem_cons_of_mem _ (List.mem_cons_of_mem _ (List.mem_cons_of_mem _ (List.mem_cons_of_mem _ (List.mem_cons_of_mem _ ma)))))))))))))
        have hit : IsTup hh2 a [Value.str r.nm u1, .int r.a u2, .int r.b u3, .int r.c u4, .int r.d u5].toArray := ⟨_, zt.1, rfl, _, rfl⟩
        clear F1 N1
        (try k_fold)
        walk_at "ms"
        k_dflt (refine item_tupleT hit (by decide) (by decide) (by rfl) (by rfl) ?_ (by with_unfolding_all rfl))
        walk_at "ms"
        · rename (r.nm == nm) = true => hnm9
          k_dflt (refine item_tupleT hit (by decide) (by decide) (by rfl) (by rfl) ?_ (by with_unfolding_all rfl))
          refine LCg.CompEnd.intro FF2 NN2 _ (fun _ h => h) off2 (.inr ⟨LCg.lst ys, (by repeat (first | exact List.Mem.head _ | exact hp | exact List.mem_append_left _ hp | refine List.Mem.tail _ ?_ | refine List.mem_append_right _ ?_)), rfl, _, rfl⟩) ⟨rfl, ?_⟩
          rw [List.take_add_one, hr1]
          simp only [Option.toList, List.filter_append, List.map_append]
          rw [show [r].filter (fun r => r.nm == nm) = [r] from by simp [List.filter, hnm9]]
          exact hys2.append (.cons _ _ .nil)
        · rename (r.nm == nm) = false => hnm9
          refine LCg.CompEnd.intro FF2 NN2 _ (fun _ h => h) off2 (.inr ⟨LCg.lst ys, (by repeat (first | exact List.Mem.head _ | exact hp | exact List.mem_append_left _ hp | refine List.Mem.tail _ ?_ | refine List.mem_append_right _ ?_)), rfl, _, rfl⟩) ⟨rfl, ?_⟩
          rw [List.take_add_one, hr1]
          simp only [Option.toList, List.filter_append, List.map_append]
          rw [show [r].filter (fun r => r.nm == nm) = [] from by simp [List.filter, hnm9], List.map_nil, List.append_nil]
          exact hys2
      case finI =>
        rintro gs nx9 ⟨rfl, hgs⟩ D4 h4 tk4 F4 N4 off4
        have hsz : ys.toArray.size = rows.length := by rw [List.size_toArray, hyl]
        rw [hsz, List.take_length] at hgs
        have hl4 : h4.IsList D4 gs.toArray := N4.isList (.head _)
        clear F1 N1
        (try k_fold)
        walk_at "ms"
        rename Fr _ _ _ _ => Fe
        rename News _ _ _ _ => Ne
        exact ⟨⟨_, by rw [List.getD_eq_getElem?_getD, hnm]; rfl⟩, _, _, rfl, Fe, fun p hp => Ne p (.tail _ hp)⟩
    case fin9 =>
      intro gs D9 h9 tk9 hgl hgp F9 N9 off9
      show LS9 _ _ _ _ _ _ _ _
      refine ⟨rfl, _, _, _, D9, gs, rfl, F9, N9, by walk_at "known", ints_of (by rw [List.length_map, hgl, List.size_toArray, hnv.len_eq]) fun j y' hj => ?_⟩
      obtain ⟨t, rfl⟩ := hgp j y' hj
      refine ⟨t, ?_⟩
      have hj2 : j < (namesF n b e).length := by
        have := (List.getElem?_eq_some_iff.mp hj).1
        rw [hgl, List.size_toArray, hnv.len_eq] at this
        exact this
      rw [List.getD_eq_getElem?_getD, List.getD_eq_getElem?_getD, List.getElem?_map, List.getElem?_eq_getElem hj2]
      rfl
  rintro s9 ⟨_, h9, k10, m9, Gd, gv, rfl, F17, N17, hm9, hG⟩
  revert h9 k10 m9 Gd gv
  refine epz5 (by (repeat' (refine neP ?_ ?_)) <;> (first | exact neW | exact neS | exact neA | exact inferInstance)) ?_
  generalize eps _ _ = zz
  generalize Prod.fst zz = h9
  generalize Prod.fst (Prod.snd zz) = k10
  generalize Prod.fst (Prod.snd (Prod.snd zz)) = m9
  generalize Prod.fst (Prod.snd (Prod.snd (Prod.snd zz))) = Gd
  generalize Prod.snd (Prod.snd (Prod.snd (Prod.snd zz))) = gv
  clear zz
  intro F17 N17 hm9 hG
  have F18 : Fr s.heap L' h9 (fun z => if z = Str.ofString "grown" then some (.ref Gd) else if z = Str.ofString "heads" then some (.ref ad) else if z = Str.ofString "tails" then some (.ref at') else if z = Str.ofString "hours" then some (.ref ah) else if z = Str.ofString "names" then some (.ref an) else m9 z) := fr_known _ F17 hm9
  clear N15 F16 F17 hm9
  refine wpC_then (Q' := LS9 s.heap L' s ((namesF n b e).map (grF rows)) ((R, LCg.lst ys) :: (L' + 1, o2) :: (ad, listOf dv.toArray n5) :: (at', listOf tv.toArray n4) :: (ah, listOf hv.toArray n3) :: (an, listOf nv.toArray k3) :: tups) [(Str.ofString "heads", Value.ref ad), (Str.ofString "tails", .ref at'), (Str.ofString "hours", .ref ah), (Str.ofString "names", .ref an)]) (fun _ _ h => h.1) ?st10 ?_
  case st10 => 
    (try k_fold)
    walk_at "ms"
    have hTl : (C.map tailF).length = 5 := by rw [List.length_map]; exact hC5
    have hHl : (C.map headF).length = 5 := by rw [List.length_map]; exact hC5
    have hGl : ((namesF n b e).map (grF rows)).length = 5 := by rw [List.length_map]; rfl
    rename Fr _ _ _ _ => Fc
    rename News _ _ _ _ => Nc
    with_unfolding_all refine Spec.use (needed_spec w at' ad Gd tv dv gv _ _ _) B' Fc X T (by rfl) (by decide) (by decide) ⟨Nc.isList (.tail _ (.tail _ (.tail _ (.tail _ (.head _))))), Nc.isList (.tail _ (.tail _ (.tail _ (.head _)))), Nc.isList (.head _), ht, hd', hG, hTl, hHl, hGl, tail_bd, head_bd, hrows ▸ grown_bd hP hC5⟩ ?_
    intro v5 tl5 h5' tk5 hst5 hnew5 hp5
    obtain ⟨tk, rfl⟩ := hp5
    have hnf := nee_few hP hC5
    rw [hrows] at hnf
    rw [hnf]
    clear hnf
    have F5 := Fc.keeps hst5
    have N5 : News s.heap L' h5' _ := fun p hp => ⟨hst5 _ _ (Nc p hp).1, (Nc p hp).2⟩
    clear Fc Nc hst5 hnew5
    (try dsimp only)
    walk_at "ms"
    with_unfolding_all refine Spec.use (fewest_spec w at' ad tv dv _ _) B' F5 X T (by rfl) (by decide) (by decide) ⟨N5.isList (.tail _ (.tail _ (.tail _ (.tail _ (.head _))))), N5.isList (.tail _ (.tail _ (.tail _ (.head _)))), ht, hd', hTl, hHl⟩ ?_
    intro v5 tl5 h6' tk6 hst5 hnew5 hp5
    obtain ⟨tk, rfl⟩ := hp5
    have F6 := F5.keeps hst5
    have N6 : News s.heap L' h6' _ := fun p hp => ⟨hst5 _ _ (N5 p hp).1, (N5 p hp).2⟩
    clear F5 N5 hst5 hnew5
    (try dsimp only)
    walk_at "ms"
    · first
        | exact absurd (rfl : fewF (C.map tailF) (C.map headF) = fewF (C.map tailF) (C.map headF)) (by assumption)
        | (have q : (fewF (C.map tailF) (C.map headF) != fewF (C.map tailF) (C.map headF)) = true := by assumption
           rw [bne_self_eq_false] at q; cases q)
        | (have q : (fewF (C.map tailF) (C.map headF) == fewF (C.map tailF) (C.map headF)) = false := by assumption
           rw [beq_self_eq_true] at q; cases q)
        | (fail)
    · rename Fr _ _ _ _ => Fe
      rename News _ _ _ _ => Ne
      exact ⟨rfl, _, _, _, Gd, gv, rfl, Fe, Ne, by walk_at "known", hG⟩
  clear F18 N17 hG
  rintro s10 ⟨_, h10, k11, m10, Gd2, gv2, rfl, F19, N19, hm10, hG⟩
  revert h10 k11 m10 Gd2 gv2
  refine epz5 (by (repeat' (refine neP ?_ ?_)) <;> (first | exact neW | exact neS | exact neA | exact inferInstance)) ?_
  generalize eps _ _ = zz
  generalize Prod.fst zz = h10
  generalize Prod.fst (Prod.snd zz) = k11
  generalize Prod.fst (Prod.snd (Prod.snd zz)) = m10
  generalize Prod.fst (Prod.snd (Prod.snd (Prod.snd zz))) = Gd2
  generalize Prod.snd (Prod.snd (Prod.snd (Prod.snd zz))) = gv2
  clear zz
  intro F19 N19 hm10 hG
  have F20 : Fr s.heap L' h10 (fun z => if z = Str.ofString "grown" then some (.ref Gd2) else if z = Str.ofString "heads" then some (.ref ad) else if z = Str.ofString "tails" then some (.ref at') else if z = Str.ofString "hours" then some (.ref ah) else if z = Str.ofString "names" then some (.ref an) else m10 z) := fr_known _ F19 hm10
  clear F19 hm10
  
  refine wpC_any ?_
  (try k_fold)
  walk_at "ms"
  have hTl : (C.map tailF).length = 5 := by rw [List.length_map]; exact hC5
  have hHl : (C.map headF).length = 5 := by rw [List.length_map]; exact hC5
  have hOl : (C.map hourF).length = 5 := by rw [List.length_map]; exact hC5
  rename Fr _ _ _ _ => Fc
  rename News _ _ _ _ => Nc
  with_unfolding_all refine Spec.use (due_spec w an at' ad ah nv tv dv hv _ _ _ _) B' Fc X T (by rfl) (by decide) (by decide) ⟨Nc.isList (.tail _ (.tail _ (.tail _ (.tail _ (.tail _ (.tail _ (.head _))))))), Nc.isList (.tail _ (.tail _ (.tail _ (.tail _ (.head _))))), Nc.isList (.tail _ (.tail _ (.tail _ (.head _)))), Nc.isList (.tail _ (.tail _ (.tail _ (.tail _ (.tail _ (.head _)))))), hnv, ht, hd', hh, rfl, hTl, hHl, hOl, tail_bd, head_bd⟩ ?_
  intro v5 tl5 h5' tk5 hst5 hnew5 hp5
  obtain ⟨ad2, dv2, nd2, rfl, hmd, hdu⟩ := hp5
  have F5 := Fc.keeps hst5
  have N5 : News s.heap L' h5' _ := fun p hp => ⟨hst5 _ _ (Nc p hp).1, (Nc p hp).2⟩
  have Nn := news_new (outer := []) (tl := tl5) Fc .refl hnew5
  clear Fc Nc hst5 hnew5
  (try dsimp only)
  walk_at "ms"
  have hdu' := hdu
  rw [← rows_due hP hC5, hrows] at hdu'
  refine rows_eq (N5.isList (.tail _ (.head _))) ((Nn _ hmd).1 |> fun q => ⟨_, q, rfl, _, rfl⟩) hR hdu' (fun p hp => (N5 p (by repeat (first | exact List.Mem.head _ | exact hp | exact List.mem_append_left _ hp | refine List.Mem.tail _ ?_ | refine List.mem_append_right _ ?_))).1) (fun p hp => (Nn p hp).1) (show _ < _ from Nat.le_of_ble_eq_true rfl) ?_
  exact ⟨⟨_, _, _, F5, rfl, fun hk => hret _ _ hk⟩, rfl⟩
end
end Mine
set_option maxHeartbeats 8000000 in
theorem PySem.Challenge.cw_wf0043_01_holds : PySem.Challenge.rw_wf0043_01.Holds := by
  refine Mine.hd ?_
  k_fill
  intro w s₀ s₁ mg mb G Y fa o pm cd doc dV kV ho hd' hcd hD hmg hg args vals as hpre hlay hrd hwl hlo
  replace hmg : mg (Str.ofString "law") = some (.ref fa) := hmg
  have KX := kIn_of Y
  have X := (Ground.X G).1
  have V := (Ground.X G).2
  refine Ground.open G ?_
  intro T B D TE TW
  try (refine guard_noD D (by decide +kernel) ?_; clear D)
  obtain ⟨_, _, M⟩ := bmod_of_top T
  have TA := at_of_top T
  wrow_args hpre hlay hrd hwl hlo
  rename IntsAre _ _ => hi
  rename Heap.IsList _ _ _ => hl
  rename ¬ _ < _ => hlt
  have hfa : fa = 201 := by
    have := mg_of (n := Str.ofString "law") (v := .ref 201) KX T.g (by first | k_is | (with_unfolding_all rfl) | decide +kernel)
    rw [hmg] at this
    cases this
    rfl
  subst hfa
  refine ⟨Mine.law_spec w _ _ _ s₁ mg mb _ _ _ (Mine.K2_in KX) T hl hi (by omega) fun h' tk hk => ?_, ?_⟩
  · exact GoodW.toG ⟨.inl ⟨_, .bool true, [], rfl, fun _ => rfl, .bool true, (by with_unfolding_all rfl), unshared_nil⟩, hk, rfl, hg⟩
  · exact GoodW.toG ⟨.inl ⟨_, .bool true, [], rfl, fun _ => rfl, .bool true, (by with_unfolding_all rfl), unshared_nil⟩, fun _ _ e => e, rfl, hg⟩
