import PyProof.Rows.All
import Wide.All
import OpenK.AllK
import Wide.FinOn
import KE.IntText
import KE.IntTextLaws
import PySem.Challenge.RW_te0066_01
set_option Elab.async false

section
/-! part Head -/
open PySem PySem.W PyProof.Rows
set_option Elab.async false
namespace Mine
set_option maxRecDepth 100000 in
set_option maxHeartbeats 8000000 in
open_top hd for PySem.Challenge.rw_te0066_01
end Mine
end

section
/-! part CBase -/
open PySem PySem.W PyProof.Rows PySem.Calls
set_option Elab.async false
set_option maxRecDepth 100000
namespace Mine
/-- a context under the claim's caller -/
def HC (Γ : Ctx) : Prop := (Γ.below.any fun x => x.1.isCaller) = true
theorem HC.enter {Γ : Ctx} (h : HC Γ) (c : Code) (m : Option Value) (p : Pos) : HC (Γ.enter c m p) := by
  show (((Γ.code, p) :: Γ.below).any fun x => x.1.isCaller) = true
  rw [List.any_cons]; rw [show (Γ.below.any fun x => x.1.isCaller) = true from h]; exact Bool.or_true _
theorem HC.goto {Γ : Ctx} (h : HC Γ) (c : Code) : HC (Γ.goto c) := h

def wpC {α : Type} (M : Model) (A : Around) (t : Sem α) (Q : α → Shared → Prop) (E : Value → Shared → Prop) (s : Shared) : Prop :=
  ∀ Γ p, Γ.In A → HC Γ → Sem.wp M Γ t (fun a _ s' => Q a s') (fun e _ s' => E e s') p s
def codeC (M : Model) (A : Around) (c : Code) (R : Result → Shared → Prop) (s : Shared) : Prop :=
  ∀ Γ p, Γ.code = c → Γ.Below A → HC Γ → wpCode M Γ R p s

section
variable {α β : Type} {M : Model} {A : Around} {E : Value → Shared → Prop} {s : Shared}
theorem wpC_of_any {t : Sem α} {Q : α → Shared → Prop} (h : wpAny M A t Q E s) : wpC M A t Q E s := fun Γ p hΓ _ => h Γ p hΓ
theorem codeC_of_any {c : Code} {R : Result → Shared → Prop} (h : codeAny M A c R s) : codeC M A c R s := fun Γ p hc hΓ _ => h Γ p hc hΓ
theorem wpC_pure {a : α} {Q : α → Shared → Prop} (h : Q a s) : wpC M A (pure a) Q E s := fun _ _ _ _ => h
theorem wpC_throw {e : Value} {Q : α → Shared → Prop} (h : E e s) : wpC M A (throw e : Sem α) Q E s := fun _ _ _ _ => h
theorem wpC_mono {t : Sem α} {Q Q' : α → Shared → Prop} {E' : Value → Shared → Prop} (h : wpC M A t Q E s)
    (hQ : ∀ a s, Q a s → Q' a s) (hE : ∀ e s, E e s → E' e s) : wpC M A t Q' E' s :=
  fun Γ p hΓ hc => Sem.wp_mono M Γ t (fun a _ s => hQ a s) (fun e _ s => hE e s) p s (h Γ p hΓ hc)
theorem wpC_bind {m : Sem α} {f : α → Sem β} {Q : β → Shared → Prop} (h : wpC M A m (fun a s' => wpC M A (f a) Q E s') E s) :
    wpC M A (m >>= f) Q E s := fun Γ p hΓ hc => by
  rw [Sem.wp_bind']
  exact Sem.wp_mono M Γ m (fun a p' s' h' => h' Γ p' hΓ hc) (fun _ _ _ h' => h') p s (h Γ p hΓ hc)
theorem wpC_onRaise {m : Sem α} {k : Value → Sem Unit} {Q : α → Shared → Prop}
    (h : wpC M A m Q (fun e s' => wpC M A (k e) (fun _ s'' => E e s'') E s') s) : wpC M A (m.onRaise k) Q E s := fun Γ p hΓ hc => by
  rw [Sem.wp_onRaise]
  exact Sem.wp_mono M Γ m (fun _ _ _ h' => h') (fun e p' s' h' => h' Γ p' hΓ hc) p s (h Γ p hΓ hc)
theorem wpC_attempt {m : Sem α} {Q : Except Value α → Shared → Prop} (h : wpC M A m (fun a => Q (.ok a)) (fun e => Q (.error e)) s) :
    wpC M A m.attempt Q E s := fun Γ p hΓ hc => by rw [Sem.wp_attempt]; exact h Γ p hΓ hc
theorem wpC_holding {vs : List Value} {m : Sem α} {Q : α → Shared → Prop} (h : wpC M A m Q E s) : wpC M A (holding vs m) Q E s :=
  fun Γ p hΓ hc => by rw [Sem.wp_holding]; exact h Γ p hΓ hc
theorem wpC_keep {vs : List Value} {m : Sem α} {Q : α → Shared → Prop} (h : wpC M A m Q E s) : wpC M A (m.keep vs) Q E s :=
  fun Γ p hΓ hc => by rw [Sem.wp_keep]; exact h Γ p hΓ hc
theorem wpC_standAt {pos : Pos} {Q : Unit → Shared → Prop} (h : Q () s) : wpC M A (standAt pos) Q E s := fun _ _ _ _ => h
theorem wpC_point {Q : Unit → Shared → Prop} (h : Q () s) : wpC M A point Q E s := fun _ _ _ _ => h
theorem wpC_of_eq {t t' : Sem α} {Q : α → Shared → Prop} (e : t = t') (h : wpC M A t' Q E s) : wpC M A t Q E s := e ▸ h
theorem codeC_mono {c : Code} {R R' : Result → Shared → Prop} (h : codeC M A c R s) (hR : ∀ r s, R r s → R' r s) : codeC M A c R' s :=
  fun Γ p hc hΓ hh => wpCode_mono hR (h Γ p hc hΓ hh)
theorem wpC_run {c : Code} {h : Option Value} {Q : Flow → Shared → Prop}
    (hc : codeC M (A.mark h) c (fun r s' => match r with | .ok f => Q f s' | .error e => E e s') s) (hnb : h ≠ some byPass := by intro x; cases x) :
    wpC M A (run c h) Q E s :=
  fun Γ p hΓ hh => by rw [Sem.wp_run]; exact hc _ p rfl (hΓ.enter c h p hnb) (hh.enter c h p)
theorem wpC_runValue {c : Code} {Q : Value → Shared → Prop}
    (hc : codeC M A c (fun r s' => match r with | .ok (.ret v) => Q v s' | .ok _ => False | .error e => E e s') s) :
    wpC M A (runValue c) Q E s := fun Γ p hΓ hh => by
  rw [Sem.wp_runValue]; exact hc _ p rfl (hΓ.enter c none p (by intro x; cases x)) (hh.enter c none p)
theorem wpC_call {f : Value} {pos : List Value} {kw : List (Str × Value)} {Q : Value → Shared → Prop}
    (hc : codeC M A (.call f ⟨pos, kw⟩) (fun r s' => match r with | .ok (.ret v) => Q v s' | .ok _ => False | .error e => E e s') s) :
    wpC M A (call f pos kw) Q E s := wpC_runValue hc
theorem codeC_of_tree {c : Code} {R : Result → Shared → Prop}
    (h : wpC M (A.under c) (M.den c) (fun fin s' => match fin with | .done f => R (.ok f) s' | .again c' => c'.quiet = true ∧ codeC M A c' R s')
      (fun e s' => R (.error e) s') s) : codeC M A c R s := fun Γ p hc hΓ hh => by
  rw [wpCode_iff_wp, hc]
  refine Sem.wp_mono M Γ _ (fun fin p' s' h' => ?_) (fun _ _ _ h' => h') p s (h Γ p (hc ▸ hΓ.in) hh)
  cases fin with
  | done f => exact h'
  | again c' => exact ⟨h'.1, h'.2 (Γ.goto c') p' rfl (hΓ.goto c') (hh.goto c')⟩
theorem codeC_loop {c : Code} {R : Result → Shared → Prop} (hq : c.quiet = true) (I : Nat → Shared → Prop)
    (turn : ∀ n s, I n s → wpC M (A.under c) (M.den c)
      (fun fin s' => match fin with
        | .done f => R (.ok f) s'
        | .again c' => (c' = c ∧ ∃ m, m < n ∧ I m s') ∨ (c'.quiet = true ∧ codeC M A c' R s')) (fun e s' => R (.error e) s') s)
    (n : Nat) (h : I n s) : codeC M A c R s := by
  induction n using Nat.strongRecOn generalizing s with
  | ind n ih =>
    refine codeC_of_tree (wpC_mono (turn n s h) (fun fin s' hf => ?_) fun _ _ h' => h')
    cases fin with
    | done f => exact hf
    | again c' =>
      rcases hf with ⟨rfl, m, hm, hI⟩ | hf
      · exact ⟨hq, ih m hm hI⟩
      · exact hf
theorem wpC_noted {env : Env} {m : Sem α} {Q : α → Shared → Prop} (h : wpC M A m Q (notedBy M A env E) s) : wpC M A (m.onRaise fun x => do noteFrame x env; theTreesLotGoes x) Q E s :=
  wpC_onRaise (wpC_mono h (fun _ _ q => q) fun _ _ hx => wpC_of_any (wpAny_bind (wpAny_mono hx (fun _ _ e => wpAny_theTreesLotGoes e) fun _ _ e => e)))
theorem wpC_runOwn {c : Code} {env : Env} {h : Option Value} {Q : Flow → Shared → Prop}
    (hc : codeC M (A.mark h) c (fun r s' => match r with | .ok f => Q f s' | .error e => cameBackBy M A env E e s') s) (hnb : h ≠ some byPass := by intro x; cases x) :
    wpC M A (runOwn c env h) Q E s := by
  unfold runOwn
  exact wpC_onRaise (wpC_mono (wpC_run hc hnb) (fun _ _ q => q) fun _ _ x => wpC_of_any x)

section
variable {env : Env}
theorem wpC_execs_nil {Q : Flow → Shared → Prop} (h : Q .next s) : wpC M A (execs [] env) Q E s := fun _ _ _ _ => h
theorem wpC_execs_cons {st : Stmt} {rest : List Stmt} {Q : Flow → Shared → Prop}
    (h : wpC M A (exec st env) (fun f s' => match f with | .next => wpC M A (execs rest env) Q E s' | f => Q f s') E s) :
    wpC M A (execs (st :: rest) env) Q E s := fun Γ p hΓ hc => by
  rw [execs_cons, Sem.wp_bind']
  refine Sem.wp_mono M Γ _ (fun f p' s' h' => ?_) (fun _ _ _ h' => h') _ _ (h Γ p hΓ hc)
  cases f <;> first | exact h' Γ p' hΓ hc | exact h'
theorem wpC_If {test : PySem.Expr} {body orelse : List Stmt} {pos : Pos} {Q : Flow → Shared → Prop}
    (h : wpAny M A (isTrue test env (eval test env))
      (fun b s₂ => if b then wpC M A (execs body env) Q E s₂ else wpC M A (execs orelse env) Q E s₂) E s) :
    wpC M A (exec (.If test body orelse pos) env) Q E s := fun Γ p hΓ hc => by
  simp only [exec_If, Sem.wp_bind', Sem.wp_cmd_standAt]
  refine Sem.wp_mono M Γ _ (fun b p₂ s₂ h₂ => ?_) (fun _ _ _ h' => h') _ _ (h Γ _ hΓ)
  cases b <;> exact h₂ Γ p₂ hΓ hc
theorem wpC_Return_some {e : PySem.Expr} {pos : Pos} {Q : Flow → Shared → Prop} (h : wpC M A (eval e env) (fun v => Q (.ret v)) E s) :
    wpC M A (exec (.Return (some e) pos) env) Q E s := fun Γ p hΓ hc => by
  simp only [exec_Return_some, Sem.wp_bind', Sem.wp_cmd_standAt, Sem.wp_pure']; exact h Γ _ hΓ hc
theorem wpC_Tuple {elts : List PySem.Expr} {k : Nat} {pos : Pos} {Q : Value → Shared → Prop}
    (h : wpC M A (spliced (backTo pos (starEach elts env))) (fun vs s₁ => wpAny M A (newTuple vs) Q E s₁) E s) :
    wpC M A (eval (.Tuple elts k pos) env) Q E s := by
  rw [arm_eval_Tuple]
  exact wpC_bind (wpC_standAt (wpC_bind (wpC_mono h (fun vs s₁ h₁ => wpC_of_any h₁) fun _ _ x => x)))
theorem wpC_spliced_cons {x : Sem Value} {rest : List (Bool × Sem Value)} {Q : List Value → Shared → Prop}
    (h : wpC M A x (fun v s₁ => wpAny M A (spliced rest) (fun vs s₂ => Q (v :: vs) s₂) E s₁) E s) : wpC M A (spliced ((false, x) :: rest)) Q E s := by
  rw [spliced]
  refine wpC_bind (wpC_mono h (fun v s₁ h₁ => ?_) fun _ _ x => x)
  simp only [Bool.false_eq_true, if_false]
  exact wpC_of_any (wpAny_bind (wpAny_pure (wpAny_bind (wpAny_holding (wpAny_mono h₁ (fun vs s₂ h₂ => wpAny_pure h₂) fun _ _ x => x)))))
end
end
end Mine
end

section
/-! part CBase2 -/
open PySem PySem.W PyProof.Rows PySem.Calls
set_option Elab.async false
set_option maxRecDepth 100000
namespace Mine
section
variable {M : Model} {A : Around} {E : Value → Shared → Prop} {s : Shared} {env : Env}
theorem wpC_MethodCall {o : PySem.Expr} {name : Str} {apos pos : Pos} {args : List PySem.Expr} {pl : Sem Bool} {Q : Value → Shared → Prop}
    (h : wpAny M A (eval o env) (fun ov s₁ => wpAny M A (getMethod ov name pl) (fun fx s₂ => wpC M A (callWith pos fx.1 fx.2 (backTo pos (starEach args env)) []) Q E s₂) E s₁) E s)
    (he : eval (.Call (.Attribute o name apos) args [] pos) env = (do
      let ov ← eval o env
      standAt apos.atName
      let (f, first) ← holding [ov] (getMethod ov name pl)
      callWith pos f first (backTo pos (starEach args env)) []) := by rfl) :
    wpC M A (eval (.Call (.Attribute o name apos) args [] pos) env) Q E s := by
  rw [he]
  refine wpC_bind (wpC_mono (wpC_of_any h) (fun ov s₁ h₁ => wpC_bind (wpC_standAt (wpC_bind (wpC_holding (wpC_mono (wpC_of_any h₁) (fun fx s₂ h₂ => ?_) fun _ _ x => x))))) fun _ _ x => x)
  exact h₂
theorem wpC_Call_Name {id : Str} {p pos : Pos} {args : List PySem.Expr} {Q : Value → Shared → Prop}
    (h : wpAny M A (eval (.Name id p) env) (fun f s₁ => wpC M A (callWith pos f [] (backTo pos (starEach args env)) []) Q E s₁) E s) :
    wpC M A (eval (.Call (.Name id p) args [] pos) env) Q E s := by
  rw [arm_eval_Call_Name']
  exact wpC_bind (wpC_of_any h)
theorem wpC_evalArgs {f : Value} {x : Sem Value} {rest : List (Bool × Sem Value)} {Q : Args → Shared → Prop}
    (h : wpC M A (spliced ((false, x) :: rest)) (fun vs s' => Q ⟨vs, []⟩ s') E s) : wpC M A (evalArgs f true ((false, x) :: rest) []) Q E s := by
  unfold evalArgs
  show wpC M A (spliced ((false, x) :: rest) >>= _) Q E s
  refine wpC_bind (wpC_mono h (fun vs s' h' => ?_) fun _ _ x => x)
  refine wpC_holding ?_
  exact wpC_bind (wpC_pure (wpC_bind (wpC_pure (wpC_pure h'))))
theorem wpC_callTail {pos : Pos} {t : Sem Value} {Q : Value → Shared → Prop} (ht : wpC M A t Q E s) : wpC M A (t >>= fun r => holding [r] point >>= fun _ => pure r) Q E s :=
  wpC_bind (wpC_mono ht (fun r s₂ hr => wpC_bind (wpC_holding (wpC_point (wpC_pure hr)))) fun _ _ x => x)
theorem wpC_callWith_builtin {pos : Pos} {id : String} {first : List Value} {args : List (Bool × Sem Value)} {Q : Value → Shared → Prop} (hplain : args.any (·.1) = false)
    (h : wpC M A (evalArgs (.builtin id) true args []) (fun a s₁ => wpC M A (call (.builtin id) (first ++ a.pos) a.kw) Q E s₁) E s) :
    wpC M A (callWith pos (.builtin id) first args []) Q E s := by
  unfold callWith
  refine wpC_bind (wpC_holding (wpC_mono h (fun a s₁ h₁ => wpC_bind (wpC_standAt ?_)) fun _ _ x => x))
  simp only [hplain, List.any_nil, Bool.or_false]
  refine wpC_bind (wpC_pure ?_)
  exact wpC_bind (wpC_mono h₁ (fun r s₂ hr => wpC_bind (wpC_holding (wpC_point (wpC_pure hr)))) fun _ _ x => x)
theorem wpC_callWith_type {pos : Pos} {T : String} {first : List Value} {args : List (Bool × Sem Value)} {Q : Value → Shared → Prop} (hplain : args.any (·.1) = false)
    (h : wpC M A (evalArgs (.type T) true args []) (fun a s₁ => wpC M A (call (.type T) (first ++ a.pos) a.kw) Q E s₁) E s) :
    wpC M A (callWith pos (.type T) first args []) Q E s := by
  unfold callWith
  refine wpC_bind (wpC_holding (wpC_mono h (fun a s₁ h₁ => wpC_bind (wpC_standAt ?_)) fun _ _ x => x))
  simp only [hplain, List.any_nil, Bool.or_false]
  refine wpC_bind (wpC_pure ?_)
  exact wpC_bind (wpC_mono h₁ (fun r s₂ hr => wpC_bind (wpC_holding (wpC_point (wpC_pure hr)))) fun _ _ x => x)
theorem wpC_callWith_of {P : Heap → Prop} {pos : Pos} {f : Value} {first : List Value} {args : List (Bool × Sem Value)} {Q : Value → Shared → Prop} (hplain : args.any (·.1) = false)
    (hk : ∀ h, P h → ∃ k, (k = Keeper.frame ∨ k = Keeper.machine ∨ k = Keeper.boundFrame) ∧ Looks M h (keeperOf f) k)
    (h : wpC M A (evalArgs f true args []) (fun a s₁ => P s₁.heap ∧ wpC M A (call f (first ++ a.pos) a.kw) Q E s₁) E s) : wpC M A (callWith pos f first args []) Q E s := by
  unfold callWith
  refine wpC_bind (wpC_holding (wpC_mono h (fun a s₁ h₁ => wpC_bind (wpC_standAt ?_)) fun _ _ x => x))
  obtain ⟨k, hk', L⟩ := hk _ h₁.1
  simp only [hplain, List.any_nil, Bool.or_false]
  refine wpC_bind ?_
  have marked (mk : Value) : wpC M A (callMarked mk f (first ++ a.pos) a.kw) Q E s₁ := by unfold callMarked; exact wpC_keep h₁.2
  have go : ∀ (K : Keeper → Sem Value), wpC M A (K k) Q E s₁ → wpC M A (keeperOf f) (fun k' s' => wpC M A (K k') Q E s') E s₁ := fun K hK =>
    wpC_of_any (L.here hK)
  refine go (fun k => _) ?_
  rcases hk' with rfl | rfl | rfl <;> dsimp only <;> first | exact wpC_callTail (pos := pos) h₁.2 | (split <;> first | exact wpC_callTail (pos := pos) h₁.2 | exact wpC_callTail (pos := pos) (marked _))
theorem wpC_callWith_K {K : Frag} {pos : Pos} {f : Value} {first : List Value} {e : PySem.Expr} {rest : List PySem.Expr} {Q : Value → Shared → Prop} (hk : keepIn K f = true)
    (h : wpC M A (spliced (backTo pos (starEach (e :: rest) env))) (fun vs s₁ => K.In s₁.heap ∧ wpC M A (call f (first ++ vs)) Q E s₁) E s)
    (he : starEach (e :: rest) env = (false, eval e env) :: starEach rest env := by rfl) (hplain : (backTo pos (starEach rest env)).any (·.1) = false := by rfl) :
    wpC M A (callWith pos f first (backTo pos (starEach (e :: rest) env)) []) Q E s := by
  rw [he] at h ⊢
  exact wpC_callWith_of (by show (false || (backTo pos (starEach rest env)).any (·.1)) = false; rw [hplain]; rfl) (keeps_K hk) (wpC_evalArgs h)
end
section
variable {prog : Program} {w : World} {A : Around} {E : Value → Shared → Prop} {s : Shared} {env : Env}
theorem wpC_Expr {e : PySem.Expr} {pos : Pos} {Q : Flow → Shared → Prop} (h : wpC (model prog w) A (eval e env) (fun _ => Q .next) E s)
    (hi : interactive env = false := by rfl) (hs : swapsWith e none pos.line env = pure false := by rfl) :
    wpC (model prog w) A (exec (.Expr e pos) env) Q E s := by
  rw [exec_Expr env e pos hi hs]
  exact wpC_bind (wpC_standAt (wpC_bind (wpC_mono h (fun v s' h' => wpC_of_any (wpAny_dropValue h')) fun _ _ x => x)))
theorem wpC_Try {body orelse : List Stmt} {h₀ : ExceptHandler} {hs : List ExceptHandler} {pos : Pos} {Q : Flow → Shared → Prop}
    (h : wpC (model prog w) A (execs body env) (fun f s₁ => match f with | .next => wpC (model prog w) A (execs orelse env) Q E s₁ | f => Q f s₁)
      (fun e s₁ => wpAny (model prog w) A (noteFrame e env) (fun _ s₂ => wpAny (model prog w) A (setFlight e none) (fun _ s₃ => wpAny (model prog w) A (handleBy e env (h₀ :: hs)) Q E s₃) E s₂) E s₁) s) :
    wpC (model prog w) A (exec (.Try body (h₀ :: hs) orelse [] pos) env) Q E s := by
  rw [arm_exec_Try]
  refine wpC_bind (wpC_standAt ?_)
  unfold tryStmt
  simp only [List.isEmpty_nil, if_true, List.isEmpty_cons, Bool.false_and, Bool.false_eq_true, if_false]
  refine wpC_bind (wpC_attempt (wpC_mono h (fun f s₁ h₁ => ?_) fun e s₁ h₁ => ?_))
  · cases f <;> first | exact h₁ | exact wpC_pure h₁
  · exact wpC_of_any (wpAny_bind (wpAny_mono h₁ (fun _ _ h₂ => wpAny_bind h₂) fun _ _ x => x))
theorem codeC_func {body : List Stmt} {R : Result → Shared → Prop}
    (h : wpC (model prog w) (A.deeper env) (execs body env) (fun f s' => R (.ok (.ret (match f with | .ret v => v | _ => .none))) s')
      (fun e s' => wpAny (model prog w) (A.deeper env) (leaving env e) (fun _ s'' => R (.error e) s'') (fun e' s'' => R (.error e') s'') s') s) :
    codeC (model prog w) A (.func body env) R s := by
  refine codeC_of_tree ?_
  show wpC _ (A.deeper env) (do point; match ← (execs body env).onRaise (leaving env) with | .ret v => ret v | _ => ret .none) _ _ s
  refine wpC_bind (wpC_point (wpC_bind (wpC_onRaise (wpC_mono h (fun f s' h' => ?_) fun _ _ h' => wpC_of_any h'))))
  cases f <;> exact wpC_pure h'
theorem codeC_call_function {R : Result → Shared → Prop} {a : Addr} {args : Args} {o : Obj} {fd : FuncData} {body : List Stmt} (hroom : A.depth < recursionLimit)
    (ho : s.heap.get? a = some o)
    (hd' : o.data = .func fd) (hco : fd.scope.isCoroutine = false) (hgen : fd.scope.isGenerator = false) (hbody : fd.body = .stmts body) (hcd : s.heap.CodeRec fd.code fd.qualname)
    (h : wpAny (model prog w) A.in1 (bindArgs fd args) (fun binds s₁ =>
      wpAny (model prog w) A.in1 (newFunctionEnv fd.scope fd.globals fd.closure binds (fd.qualname ++ ".<locals>.") (some a) fd.code none fd.builtins)
        (fun env s₂ => s₂.heap.NoLimit ∧ codeC (model prog w) A (.func body env) R s₂) (fun e s' => R (.error e) s') s₁) (fun e s' => R (.error e) s') s) :
    codeC (model prog w) A (.call (.ref a) args) R s := by
  refine codeC_of_tree (wpC_of_any ?_)
  show wpAny _ A.in1 (callAny (.ref a) args) _ _ s
  simp only [callAny]
  refine wpAny_bind (wpAny_load ho ?_)
  obtain ⟨c, oc, vs, tq, hc, hoc, hdc, hq⟩ := hcd
  simp only [hd', callFunction, hco, hgen, hbody, hc]
  rw [hc] at h
  refine wpAny_bind (m := field (.ref c) 1) (wpAny_field hoc hdc hq (wpAny_bind (wpAny_pure ?_)))
  exact wpAny_bind (wpAny_mono h (fun binds s₁ h₁ => wpAny_bind (wpAny_mono h₁ (fun env s₂ h₂ => wpAny_bind (wpAny_enterFrame h₂.1 hroom
    (wpAny_pure (And.intro rfl h₂.2)))) fun _ _ h' => h')) fun _ _ h' => h')
theorem codeC_call_def {R : Result → Shared → Prop} {a : Addr} {o : Obj} {fd : FuncData} {body : List Stmt} {args : Args} {binds : List (Str × Value)}
    (hroom : A.depth < recursionLimit) (ho : s.heap.get? a = some o) (hdata : o.data = .func fd) (hlim : s.heap.NoLimit) (hcd : s.heap.CodeRec fd.code fd.qualname)
    (hbody : fd.body = .stmts body) (hbind : BindsTo s fd args binds)
    (hcell : ∀ x ∈ fd.scope.names, x.2 ≠ .cell) (hloc : ∀ x ∈ binds, fd.scope.names.lookup x.1 = some .local)
    (h : ∀ h₀, h₀.Ns s.heap.objs.size (fun x => binds.reverse.lookup x) → (∀ b o, s.heap.get? b = some o → h₀.get? b = some o) →
      wpC (model prog w) (A.deeper (callEnv fd s.heap.objs.size a)) (execs body (callEnv fd s.heap.objs.size a)) (fun f s' => R (.ok (.ret (match f with | .ret v => v | _ => .none))) s')
        (fun e s' => wpAny (model prog w) (A.deeper (callEnv fd s.heap.objs.size a)) (leaving (callEnv fd s.heap.objs.size a) e) (fun _ s'' => R (.error e) s'') (fun e' s'' => R (.error e') s'') s')
        { s with heap := h₀, toks := s.toks + binds.length })
    (hco : fd.scope.isCoroutine = false := by rfl) (hgen : fd.scope.isGenerator = false := by rfl) (hk : fd.scope.kind = .function := by rfl) :
    codeC (model prog w) A (.call (.ref a) args) R s := by
  refine codeC_call_function hroom ho hdata hco hgen hbody hcd (hbind _ _ _ _ ?_)
  refine wpAny_newFunctionEnv hcell hloc (fun h₀ hns₀ hsb₀ => ⟨hlim.fresh _ hsb₀, codeC_func (h h₀ hns₀ fun b o e => ?_)⟩) hk
  exact hsb₀.extBut b o (Nat.ne_of_lt (Heap.lt_size e)) (Heap.get?_push_of_some _ e)
end
section
variable {prog : Program} {w : World} {A A₀ : Around} {E : Value → Shared → Prop} {s : Shared} {K : Frag} {C L : Addr} {h₀ base : Heap} {m mg mb : Str → Option Value} {news : List (Addr × Obj)} {p : Program} {loose : List Str} {mean : ExcName → Option Value} {Q : Value → Shared → Prop}
theorem codeC_def {env : Env} {outer : List Env} {R : Result → Shared → Prop} {name qual : Str} {params : Arguments} {body : List Stmt} {scope : Scope} {dV kV doc pm cdv ct oc : Value} {an od : Option Addr} {osl : Array (Option Value)} {f : Addr} {args : Args} {binds : List (Str × Value)}
    (B : Below A₀ base outer h₀) (F : Fr h₀ L s.heap m) (X₀ : K.In h₀) (N : News h₀ L s.heap news) (T : Top p loose mean mg mb h₀) (hA : A.frames = some (env :: outer)) (hf : env.frame = some L) (hke : env.scope.kind = .function)
    (ho : K.lookup f = some ⟨oc, od, .func (fnOf name qual params body scope dV kV doc pm an cdv ct), osl⟩) (hcd : codeIn K cdv qual = true) (hroom : A.depth < recursionLimit)
    (hbind : BindsTo s (fnOf name qual params body scope dV kV doc pm an cdv ct) args binds) (hloc : ∀ y ∈ binds, scope.names.lookup y.1 = some .local)
    (h : ∀ g L' h₁, Fr h₀ L g m → Fr g L' h₁ (fun y => binds.reverse.lookup y) → News g L' h₁ news → Below A base (env :: outer) g → K.In g → Top p loose mean mg mb g → (∀ p ∈ news, p.1 < L') →
      wpC (model prog w) (A.deeper (envOf qual scope L' f cdv)) (execs body (envOf qual scope L' f cdv))
        (fun fl s' => LeaveK h₀ L m g R (match fl with | .ret v => v | _ => .none) s')
        (fun e s' => wpAny (model prog w) (A.deeper (envOf qual scope L' f cdv)) (leaving (envOf qual scope L' f cdv) e) (fun _ s'' => R (.error e) s'') (fun e' s'' => R (.error e') s'') s')
        { s with heap := h₁, toks := s.toks + binds.length })
    (hco : scope.isCoroutine = false) (hgen : scope.isGenerator = false) (hk : scope.kind = .function)
    (hcell : ∀ x ∈ scope.names, x.2 ≠ .cell) : codeC (model prog w) A (.call (.ref f) args) R s := by
  obtain ⟨FG, BG, st, lv⟩ := groundX (R := R) B F N hA hf hke
  refine codeC_call_def (fd := fnX name qual params body scope [] dV kV doc pm an cdv ct) (body := body) (binds := binds) hroom ((X₀.keeps F.keep) _ _ ho) rfl (T.nolimit.keeps F.keep) (codeRec_of (X₀.keeps F.keep) hcd) rfl hbind hcell hloc (fun h₁ hns hk₁ => ?_) hco hgen hk
  exact wpC_mono (h _ s.heap.objs.size h₁ FG ⟨hns, fun b o e => hk₁ b o (of_hideAll _ e), Nat.le_of_eq (hideAll_size _ _)⟩
    (fun p hp => ⟨hk₁ _ _ (N p hp).1, Nat.ne_of_lt (Heap.lt_size (N p hp).1), hideAll_none _ (List.mem_map_of_mem hp)⟩) BG (X₀.keeps st) (T.keeps st) (fun p hp => Heap.lt_size (N p hp).1)) (fun fl s' hl => lv _ _ hl) fun _ _ y => y
end
end Mine
end

section
/-! part CFor -/
open PySem PySem.W PyProof.Rows PySem.Calls
set_option Elab.async false
set_option maxRecDepth 100000
namespace Mine
section
variable {prog : Program} {w : World} {A : Around} {E : Value → Shared → Prop} {s : Shared}
theorem codeC_block {stmts : List Stmt} {env : Env} {R : Result → Shared → Prop}
    (h : wpC (model prog w) A (execs stmts env) (fun f s' => R (.ok f) s') (notedBy (model prog w) A env fun e s' => R (.error e) s') s) : codeC (model prog w) A (.block stmts env) R s := by
  refine codeC_of_tree ?_
  show wpC _ _ (do return Fin.done (← (execs stmts env).onRaise (fun x => do noteFrame x env; theTreesLotGoes x))) _ _ s
  exact wpC_bind (wpC_noted (wpC_mono h (fun f s' h' => wpC_pure h') fun _ _ h' => h'))

theorem codeC_forLoop {R : Result → Shared → Prop} {target : PySem.Expr} {it : Value} {body orelse : List Stmt} {env : Env} (I : Nat → Shared → Prop)
    (turn : ∀ n s, I n s → wpAny (model prog w) A (pyNext it) (fun r s₁ => match r with
      | none => wpC (model prog w) A (execs orelse env) (fun f s₃ => R (.ok f) s₃) (notedBy (model prog w) A env fun e s' => R (.error e) s') s₁
      | some v => wpAny (model prog w) A (assign target env v) (fun _ s₂ => wpC (model prog w) A (execs body env) (fun f s₃ => match f with
          | .next | .cont => ∃ m, m < n ∧ I m s₃
          | .brk => R (.ok .next) s₃
          | .ret v => R (.ok (.ret v)) s₃) (notedBy (model prog w) A env fun e s' => R (.error e) s') s₂) (notedBy (model prog w) A env fun e s' => R (.error e) s') s₁) (notedBy (model prog w) A env fun e s' => R (.error e) s') s)
    (n : Nat) (h : I n s) (ht : ∀ v, letOwnedTupleGo target it v = pure () := by intro _; rfl) : codeC (model prog w) A (.forLoop target it body orelse env) R s := by
  refine codeC_loop rfl I (fun n s hI => ?_) n h
  show wpC _ _ ((forTurn target it body orelse env).onRaise (fun x => do noteFrame x env; theTreesLotGoes x)) _ _ s
  refine wpC_noted ?_
  simp only [forTurn]
  refine wpC_bind (wpC_standAt (wpC_bind (wpC_onRaise (wpC_mono (wpC_of_any (turn n s hI)) (fun r s₁ h₁ => ?_) fun _ _ h' => wpC_standAt h'))))
  cases r with
  | none => exact wpC_pure (.inr ⟨rfl, codeC_block h₁⟩)
  | some v =>
    refine wpC_bind (wpC_of_eq (ht v) (wpC_pure ?_))
    refine wpC_bind (wpC_mono (wpC_of_any h₁) (fun _ s₂ h₂ => wpC_bind (wpC_mono h₂ (fun f s₃ h₃ => ?_) fun _ _ h' => h')) fun _ _ h' => h')
    cases f with
    | next => exact wpC_pure (.inl ⟨rfl, h₃⟩)
    | cont => exact wpC_pure (.inl ⟨rfl, h₃⟩)
    | brk => exact wpC_pure h₃
    | ret v => exact wpC_pure h₃

theorem wpC_For {target iter : PySem.Expr} {body orelse : List Stmt} {pos : Pos} {env : Env} {Q : Flow → Shared → Prop}
    (h : wpAny (model prog w) A (eval iter env) (fun x s₁ => wpAny (model prog w) A (pyIter x) (fun it s₂ =>
      codeC (model prog w) A (.forLoop target it body orelse env) (fun r s' => match r with | .ok f => Q f s' | .error e => cameBackBy (model prog w) A env E e s') s₂) E s₁) E s)
    (hs : ∀ x, foldedSetIterable iter env x = pure x := by intro _; rfl) :
    wpC (model prog w) A (exec (.For target iter body orelse pos) env) Q E s := by
  rw [exec_For]
  exact wpC_bind (wpC_standAt (wpC_bind (wpC_mono (wpC_of_any h) (fun x s₁ h₁ => wpC_bind (wpC_of_eq (hs x) (wpC_pure (wpC_bind (wpC_standAt (wpC_bind (wpC_holding
    (wpC_mono (wpC_of_any h₁) (fun it s₂ h₂ => wpC_runOwn h₂) fun _ _ h' => h')))))))) fun _ _ h' => h')))

/-- the end of a turn of a loop over a range, at the frame's map and a ledger that stays -/
def RngEnd (h₀ : Heap) (L : Addr) (J : (Str → Option Value) → Prop) (news : List (Addr × Obj)) (s s₂ : Shared) : Prop :=
  ∃ h' tk m', s₂ = { s with heap := h', toks := tk } ∧ Fr h₀ L h' m' ∧ News h₀ L h' news ∧ J m'
def RngPost (h₀ : Heap) (L : Addr) (J : (Str → Option Value) → Prop) (news : List (Addr × Obj)) (s : Shared) (Q : Flow → Shared → Prop) (f : Flow) (s₂ : Shared) : Prop :=
  match f with
  | .ret v => Q (.ret v) s₂
  | .brk => Q .next s₂
  | _ => RngEnd h₀ L J news s s₂

theorem codeC_forRange {Q : Flow → Shared → Prop} {x : Str} {px : Pos} {body : List Stmt} {env : Env} {h₀ : Heap} {I : Addr} {a c : Int} {n : Nat} {m : Str → Option Value}
    {news : List (Addr × Obj)} (hh : A.handled = none) (hx : env.kindOf x = some .local)
    (hp : (env.scope.kind == .class || (env.scope.kind == .module && env.locals != env.globals)) = false)
    (hit : IsRangeIter s.heap I (a + ((0 : Nat) : Int) * c) ((n : Int) - ((0 : Nat) : Int)) c) (hIL : I ≠ env.locals) (hI0 : h₀.get? I = none)
    (F : Fr h₀ env.locals s.heap m) (N : News h₀ env.locals s.heap news) (hnI : ∀ p ∈ news, p.1 ≠ I)
    (J : Nat → (Str → Option Value) → Prop) (h0 : J 0 m)
    (turn : ∀ i m₁ h t tk, i < n → J i m₁ → Fr h₀ env.locals h (fun y => if y = x then some (.int (a + (i : Int) * c) t) else m₁ y) →
      News h₀ env.locals h ((I, krsIt (a + ((i + 1 : Nat) : Int) * c) ((n : Int) - ((i + 1 : Nat) : Int)) c) :: news) →
      wpC (model prog w) A (execs body env) (RngPost h₀ env.locals (J (i + 1)) ((I, krsIt (a + ((i + 1 : Nat) : Int) * c) ((n : Int) - ((i + 1 : Nat) : Int)) c) :: news) s Q) E { s with heap := h, toks := tk })
    (done : ∀ m₁ h tk, J n m₁ → Fr h₀ env.locals h m₁ → News h₀ env.locals h news → Q .next { s with heap := h, toks := tk })
    (hE : PassesOwn (model prog w) A env E) :
    codeC (model prog w) A (.forLoop (.Name x px) (.ref I) body [] env) (fun r s' => match r with | .ok f => Q f s' | .error e => cameBackBy (model prog w) A env E e s') s := by
  have W := Walks.range (prog := prog) (w := w) hh I a c n
  refine codeC_forLoop (fun k s' => ∃ h' tk m', ∃ i : Nat, s' = { s with heap := h', toks := tk } ∧ IsRangeIter h' I (a + (i : Int) * c) ((n : Int) - (i : Int)) c ∧ Fr h₀ env.locals h' m' ∧ News h₀ env.locals h' news ∧ J i m' ∧ i ≤ n ∧ k = n + 1 - i) ?_ (n + 1)
    ⟨s.heap, s.toks, m, 0, rfl, hit, F, N, h0, Nat.zero_le _, rfl⟩
  rintro k s' ⟨h', tk, m', i, rfl, hst', F', N', hJ, hi, rfl⟩
  have next : ∀ h₁ : Heap, (∀ b o, b ∉ [I] → h'.get? b = some o → h₁.get? b = some o) → Fr h₀ env.locals h₁ m' ∧ News h₀ env.locals h₁ news := fun h₁ hk₁ =>
    ⟨⟨F'.ns.at' fun o e => hk₁ _ o (by simpa using Ne.symm hIL) e, fun b o e => hk₁ b o (by
      intro hb
      rw [List.mem_singleton.mp hb, hI0] at e; cases e) (F'.keep b o e), F'.above⟩, fun p hp => ⟨hk₁ _ _ (by simpa using hnI p hp) (N' p hp).1, (N' p hp).2⟩⟩
  by_cases hlt : i < n
  · refine W.item i _ _ _ hlt hst' fun v h₁ tk₁ hP hst₁ hk₁ => ?_
    obtain ⟨t, rfl⟩ := hP
    obtain ⟨F₁, N₁⟩ := next h₁ hk₁
    refine wpAny_assign_Name (wpAny_storeName_local hx F₁.ns (fun h₂ hn₂ hs₂ => ?_) hp)
    have F₂ := F₁.set hn₂ hs₂
    have hst₂ : IsRangeIter h₂ I (a + ((i + 1 : Nat) : Int) * c) ((n : Int) - ((i + 1 : Nat) : Int)) c := W.frame _ _ _ hst₁ fun b hb o e => (hs₂.2 b fun q => hIL ((List.mem_singleton.mp hb) ▸ q)).trans e
    have N₂ : News h₀ env.locals h₂ ((I, krsIt (a + ((i + 1 : Nat) : Int) * c) ((n : Int) - ((i + 1 : Nat) : Int)) c) :: news) := fun p hp => by
      rcases List.mem_cons.mp hp with rfl | hp
      · exact ⟨hst₂, hIL, hI0⟩
      · exact (N₁.set hs₂) p hp
    refine wpC_mono (turn i m' h₂ t _ hlt hJ F₂ N₂) (fun f s₃ h₃ => ?_) hE
    have back : RngEnd h₀ env.locals (J (i + 1)) ((I, krsIt (a + ((i + 1 : Nat) : Int) * c) ((n : Int) - ((i + 1 : Nat) : Int)) c) :: news) s s₃ →
        ∃ m, m < n + 1 - i ∧ ∃ h' tk m', ∃ i : Nat, s₃ = { s with heap := h', toks := tk } ∧ IsRangeIter h' I (a + (i : Int) * c) ((n : Int) - (i : Int)) c ∧ Fr h₀ env.locals h' m' ∧ News h₀ env.locals h' news ∧ J i m' ∧ i ≤ n ∧ m = n + 1 - i := by
      rintro ⟨h₃', tk₃, m₃, rfl, F₃, N₃, hJ₃⟩
      exact ⟨n + 1 - (i + 1), by omega, h₃', tk₃, m₃, i + 1, rfl, (N₃ _ (.head _)).1, F₃, fun p hp => N₃ p (.tail _ hp), hJ₃, hlt, rfl⟩
    cases f with
    | ret v => exact h₃
    | brk => exact h₃
    | next => exact back h₃
    | cont => exact back h₃
  · have hin : i = n := by omega
    subst hin
    refine W.done _ _ _ hst' fun h₁ tk₁ hk₁ => wpC_execs_nil ?_
    obtain ⟨F₁, N₁⟩ := next h₁ hk₁
    exact done m' h₁ tk₁ hJ F₁ N₁

/-- a loop over a range, from its iterable made anew -/
theorem wpC_iterRange {Q : Flow → Shared → Prop} {x : Str} {px : Pos} {body : List Stmt} {env : Env} {h₀ : Heap} {r : Addr} {a b c : Int} {t₀ u₀ v₀ : Tok} {n : Nat} {m : Str → Option Value}
    {news : List (Addr × Obj)} (hh : A.handled = none) (hr : IsRange s.heap r a b c t₀ u₀ v₀) (hsmall : Builtin.Range.small a b c = true) (hn : Builtin.Range.rangeSize a b c = (n : Int))
    (F : Fr h₀ env.locals s.heap m) (N : News h₀ env.locals s.heap news)
    (J : Nat → (Str → Option Value) → Prop) (h0 : J 0 m)
    (turn : ∀ I i m₁ h t tk, (∀ p ∈ news, p.1 < I) → i < n → J i m₁ → Fr h₀ env.locals h (fun y => if y = x then some (.int (a + (i : Int) * c) t) else m₁ y) →
      News h₀ env.locals h ((I, krsIt (a + ((i + 1 : Nat) : Int) * c) ((n : Int) - ((i + 1 : Nat) : Int)) c) :: news) →
      wpC (model prog w) A (execs body env) (RngPost h₀ env.locals (J (i + 1)) ((I, krsIt (a + ((i + 1 : Nat) : Int) * c) ((n : Int) - ((i + 1 : Nat) : Int)) c) :: news) s Q) E { s with heap := h, toks := tk })
    (done : ∀ m₁ h tk, J n m₁ → Fr h₀ env.locals h m₁ → News h₀ env.locals h news → Q .next { s with heap := h, toks := tk })
    (hE : PassesOwn (model prog w) A env E)
    (hx : env.kindOf x = some .local)
    (hp : (env.scope.kind == .class || (env.scope.kind == .module && env.locals != env.globals)) = false) :
    wpAny (model prog w) A (pyIter (.ref r)) (fun it s₂ =>
      codeC (model prog w) A (.forLoop (.Name x px) it body [] env) (fun r s' => match r with | .ok f => Q f s' | .error e => cameBackBy (model prog w) A env E e s') s₂) E s := by
  refine wpAny_pyIter_range hr hsmall ?_
  have hnew := next_is_new F
  have hlt := fun p (hp : p ∈ news) => Heap.lt_size (N p hp).1
  refine codeC_forRange (s := { s with heap := _ }) hh hx hp (by rw [hn]; simpa using Heap.get?_push_size _ rfl) (fun e => absurd F.ns.lt (e ▸ Nat.lt_irrefl _)) hnew (F.push _)
    (fun p hp => ⟨Heap.get?_push_of_some _ (N p hp).1, (N p hp).2⟩) (fun p hp => Nat.ne_of_lt (hlt p hp)) J h0 (fun i m₁ h t tk hi hJ F₁ N₁ => ?_) (fun m₁ h tk hJ F₁ N₁ => done m₁ h tk hJ F₁ N₁) hE
  exact turn _ i m₁ h t tk hlt hi hJ F₁ N₁
end
end Mine
end

section
/-! part P2 -/
open PySem PySem.W PySem.Builtin
set_option maxRecDepth 100000
namespace Mine
theorem int_new_eq (x : Str) (t : Tok) (b : Int) (u : Tok) (hb : ((b != 0 && decide (b < 2)) || decide (b > 36)) = false) :
    Builtin.«int.__new__» ⟨[.type "int", .str x t, .int b u], []⟩ = ((int_private% "intFromText") (.str x t) (numTextOf x) b.toNat >>= fun v => ret v) := by
  have f1 := F.conv_sub_int
  have f2 := F.madeHere_int
  unfold Builtin.«int.__new__»
  have f3 : isType (.type "int") = pure true := by rfl
  simp only [f1, f2, f3, pure_bind, Bool.not_true, Bool.false_eq_true, if_false]
  rw [if_neg (show ¬ ((Value.type "int" == Value.type "int" && ([] : List (Str × Value)).isEmpty && decide ([Value.str x t, Value.int b u].length > 2)) = true) from Bool.false_ne_true)]
  rw [if_neg (show ¬ ([Value.str x t, Value.int b u].length + ([] : List (Str × Value)).length > 2) from by show ¬ (2 + 0 > 2); decide)]
  rw [List.forIn_nil, pure_bind]
  show (Int.intIndex "int.__new__" (Value.int b u) >>= _) = _
  have f4 : Int.intIndex "int.__new__" (Value.int b u) = pure b := by rfl
  rw [f4, pure_bind]
  show (if ((b != 0 && decide (b < 2)) || decide (b > 36)) = true then _ else _) = _
  rw [if_neg (by rw [hb]; exact Bool.false_ne_true)]
  have f5 : (int_private% "numeralText?") (Value.str x t) = pure (some (numTextOf x)) := by rfl
  rw [f5, pure_bind]
  rfl
end Mine
end

section
/-! part P4 -/
open PySem PySem.W PyProof.Rows PySem.Calls
set_option maxRecDepth 100000
set_option linter.unusedVariables false
namespace Mine
theorem wpC_mark {M : Model} {A : Around} {E : Value → Shared → Prop} {s : Shared} {own : List String} {e : Value} {Q : Unit → Shared → Prop} (h : Q () s) :
    wpC M A (markTheRefusal own e) Q E s := fun Γ p hΓ hc => by
  have hany : pythonCodeMadeTheCall own (((Γ.code, p) :: Γ.below).map (·.1)) = false := by
    have h1 : ((((Γ.code, p) :: Γ.below).map (·.1)).any Code.isCaller) = true := by
      rw [List.map_cons, List.any_cons, List.any_map]
      have h2 : (Γ.below.any (Code.isCaller ∘ fun x => x.1)) = true := hc
      rw [h2]; exact Bool.or_true _
    show ((!((((Γ.code, p) :: Γ.below).map (·.1)).any Code.isCaller) && _) && _) = false
    rw [h1]; rfl
  unfold markTheRefusal
  rw [Sem.wp_bind']
  show Sem.wp M Γ stack _ _ p s
  show Sem.wp M Γ (if pythonCodeMadeTheCall own (((Γ.code, p) :: Γ.below).map (·.1)) = true then _ else _) _ _ p s
  rw [if_neg (by rw [hany]; exact Bool.false_ne_true)]
  exact h

section
variable {prog : Program} {w : World} {A : Around} {E : Value → Shared → Prop} {s : Shared} {x : Str} {t u : Tok} {b : Nat}
theorem fromText_bad {Q : Value → Shared → Prop} (hh : A.handled = none) (hb' : b ≤ 36)
    (hs : ((numTextOf x).takeWhile (· != 0)).length ≤ 640) (hr : (int_private% "readNumeral") 0 b ((numTextOf x).takeWhile (· != 0)) = int_private% "Numeral.invalid") (hx : (reprText x).length ≤ sizeLine)
    (h : ∀ h' tk e, Heap.NewExc s.heap h' e "ValueError" → E (.ref e) { s with heap := h', toks := tk }) :
    wpC (model prog w) A ((int_private% "intFromText") (.str x u) (numTextOf x) b) Q E s := by
  show wpC (model prog w) A (ite (((numTextOf x).takeWhile (· != 0)).length ≤ 640) _ _) Q E s
  rw [if_pos hs, pure_bind]
  dsimp only
  rw [hr]
  have fb : (int_private% "bytesOf?") (Value.str x u) = pure none := rfl
  dsimp only
  simp only [fb, pure_bind, Option.isSome_none, Bool.false_and, Bool.false_eq_true, if_false]
  refine wpC_bind (wpC_of_any (wpAny_rule ?_))
  refine wpC_bind (wpC_of_any (wpAny_pyRepr_str ?_ hx))
  refine wpC_bind (wpC_of_any (wpAny_mkStr ?_ ?_))
  · refine wpC_bind (wpC_of_any (wpAny_newExc_plain plainExc_ValueError (fun h' e hm => ?_) (by rw [sizeLine_eq]; show 1 ≤ 16777216; decide)))
    refine wpC_bind (wpC_mark ?_)
    exact wpC_of_any (wpAny_raiseNew_none hh (h h' _ e hm.newExc))
  · have e1 : ∀ n, n ≤ 36 → (Str.ofString (toString "invalid literal for int() with base " ++ toString n ++ toString ": ")).length ≤ 1000 := by decide +kernel
    have e2 := e1 b hb'
    rw [Str.length_append]
    have e3 : (⟨(reprText x).cps.extract 0 200⟩ : Str).length ≤ 200 := by
      show ((reprText x).cps.extract 0 200).size ≤ 200
      rw [Array.size_extract]; omega
    rw [sizeLine_eq]; omega
theorem fromText_good {M : Model} {n : Int} {Q : Value → Shared → Prop}
    (hs : ((numTextOf x).takeWhile (· != 0)).length ≤ 640) (hr : (int_private% "readNumeral") 0 b ((numTextOf x).takeWhile (· != 0)) = (int_private% "Numeral.value") n)
    (ha : (((numTextOf x).takeWhile (· != 0)).length == (numTextOf x).length) = true)
    (h : Q (.int n s.toks) { s with toks := s.toks + 1 }) :
    wpAny M A ((int_private% "intFromText") (.str x u) (numTextOf x) b) Q E s := by
  show wpAny M A (ite (((numTextOf x).takeWhile (· != 0)).length ≤ 640) _ _) Q E s
  rw [if_pos hs, pure_bind]
  dsimp only
  rw [hr]
  dsimp only
  rw [if_pos ha]
  exact wpAny_mkInt h
end
end Mine
end

section
/-! part CInt -/
open PySem PySem.W PyProof.Rows PySem.Calls
set_option maxRecDepth 100000
set_option linter.unusedVariables false
namespace Mine
section
variable {prog : Program} {w : World} {A : Around} {E : Value → Shared → Prop} {s : Shared} {x : Str} {t u : Tok} {b : Int}
theorem typeCall_int_2 (a c : Value) : checkTypeCall "int" ⟨[a, c], []⟩ = pure () := by kernel_rfl
theorem newCall_int_2 (a c : Value) : checkBuiltinCall "int.__new__" ⟨[.type "int", a, c], []⟩ = pure () := by kernel_rfl

theorem type_call_eq (X Y : Value) : ∃ K : Value → Sem Fin, Builtin.«type.__call__» ⟨[.type "int", X, Y], []⟩ =
    (holding [.builtin "int.__new__"] (call (.builtin "int.__new__") [.type "int", X, Y] []) >>= K) := by
  have fm : Bind.madeBy (.type "int") = pure (some "int.__new__") := F.called_int.made
  have fr : mroOf (.type "int") = pure [.type "int", .type "object"] := F.mro_int
  have fc := F.called_int.canCreate
  have fn := F.called_int.notType
  unfold Builtin.«type.__call__»
  dsimp only
  rw [if_neg (show ¬ ((Value.type "int" == Value.type "type") = true) by rw [fn]; exact Bool.false_ne_true)]
  rw [if_neg (by rw [fc]; exact Bool.false_ne_true)]
  rw [typeCall_int_2, pure_bind, fr, pure_bind]
  rw [if_neg (show ¬ (([Value.type "int", Value.type "object"] : List Value).isEmpty = true) from Bool.false_ne_true)]
  rw [fm, pure_bind]
  exact ⟨_, rfl⟩
theorem codeC_builtin {R : Result → Shared → Prop} {id : String} {args : Args} {b : Builtin} (hb : entryFor table id = some b)
    (h : wpC (model prog w) (A.under (.builtin id args)) (b args)
      (fun fin s' => match fin with | .done f => R (.ok f) s' | .again c' => c'.quiet = true ∧ codeC (model prog w) A c' R s') (fun e s' => R (.error e) s') s) :
    codeC (model prog w) A (.builtin id args) R s := by
  refine codeC_of_tree ?_
  show wpC _ _ (match entryFor table id with | some b => b args | none => unsupported ((withoutEnding? id "#data").getD id)) _ _ s
  rw [hb]; exact h
theorem codeC_call_builtin {R : Result → Shared → Prop} {id : String} {args : Args} {b : Builtin} (hq : (Code.builtin id args).quiet = true) (hb : entryFor table id = some b)
    (hc : checkBuiltinCall id args = pure ())
    (h : wpC (model prog w) (A.under (.builtin id args)) (b args)
      (fun fin s' => match fin with | .done f => R (.ok f) s' | .again c' => c'.quiet = true ∧ codeC (model prog w) A c' R s') (fun e s' => R (.error e) s') s) :
    codeC (model prog w) A (.call (.builtin id) args) R s := by
  refine codeC_of_tree (wpC_of_any ?_)
  show wpAny _ A.in1 (do checkBuiltinCall id args; again (.builtin id args)) _ _ s
  rw [hc, pure_bind]
  exact wpAny_pure (And.intro hq (codeC_builtin hb h))
/-- int(text, base), refused -/
theorem wpC_int_bad {Q : Value → Shared → Prop} (hh : A.handled = none) (hb : ((b != 0 && decide (b < 2)) || decide (b > 36)) = false) (hb' : b.toNat ≤ 36)
    (hs : (numSeenOf x).length ≤ 640) (hr : (int_private% "readNumeral") 0 b.toNat (numSeenOf x) = int_private% "Numeral.invalid") (hx : (reprText x).length ≤ sizeLine)
    (h : ∀ h' tk e, Heap.NewExc s.heap h' e "ValueError" → E (.ref e) { s with heap := h', toks := tk }) :
    wpC (model prog w) A (call (.type "int") [.str x t, .int b u]) Q E s := by
  refine wpC_call (codeC_of_tree (wpC_of_any ?_))
  show wpAny _ _ (callAny (.type "int") _) _ _ _
  refine wpAny_pure ⟨Code.quiet_builtin _ (by decide +kernel), ?_⟩
  refine codeC_builtin F.entry_type_call ?_
  rw [Around.under_plain (weight_type_call_type "int" _ []) (units_type_call_type "int" _ [])]
  obtain ⟨K, hK⟩ := type_call_eq (.str x t) (.int b u)
  refine wpC_of_eq hK ?_
  refine wpC_bind (wpC_holding (wpC_call ?_))
  refine codeC_call_builtin (plainId_quiet (by decide +kernel) _) F.entry_int_new (newCall_int_2 _ _) ?_
  rw [int_new_eq x t b u hb]
  exact wpC_bind (fromText_bad hh hb' hs hr hx fun h' tk e hn => h h' tk e hn)

/-- int(text, base), read -/
theorem gives_int_base {n : Int} (hb : ((b != 0 && decide (b < 2)) || decide (b > 36)) = false)
    (hs : (numSeenOf x).length ≤ 640) (hr : (int_private% "readNumeral") 0 b.toNat (numSeenOf x) = (int_private% "Numeral.value") n)
    (ha : ((numSeenOf x).length == (numTextOf x).length) = true) :
    Gives (Builtin.«int.__new__» ⟨[.type "int", .str x t, .int b u], []⟩) (.int n) :=
  .of_wp fun M A E s Q h => by
    rw [int_new_eq x t b u hb]
    exact wpAny_bind (fromText_good hs hr ha (wpAny_pure ⟨_, rfl, h⟩))
theorem wpAny_int_base {n : Int} {Q : Value → Shared → Prop} (hb : ((b != 0 && decide (b < 2)) || decide (b > 36)) = false)
    (hs : (numSeenOf x).length ≤ 640) (hr : (int_private% "readNumeral") 0 b.toNat (numSeenOf x) = (int_private% "Numeral.value") n)
    (ha : ((numSeenOf x).length == (numTextOf x).length) = true)
    (h : Q (.int n s.toks) { s with toks := s.toks + 1 }) : wpAny (model prog w) A (call (.type "int") [.str x t, .int b u]) Q E s :=
  callType_new F.called_int F.newNe_int (typeCall_int_2 _ _) (newCall_int_2 _ _) (fun obj => F.args_object_init_3 obj _ _) F.entry_int_new (gives_int_base hb hs hr ha).meets (show (Made.int n).post _ s from ⟨rfl, h⟩)
end
end Mine
end

section
/-! part CHead -/
open PySem PySem.W PyProof.Rows PySem.Calls
set_option maxRecDepth 100000
set_option linter.unusedVariables false
namespace Mine
/-- the claim's caller itself -/
def Γ₀ : Ctx := ⟨.builtin "claim.caller" {}, none, none, [], none⟩
def wpT {α : Type} (M : Model) (t : Sem α) (Q : α → Shared → Prop) (E : Value → Shared → Prop) (s : Shared) : Prop :=
  ∀ p, Sem.wp M Γ₀ t (fun a _ s' => Q a s') (fun e _ s' => E e s') p s
section
variable {α β : Type} {M : Model} {E : Value → Shared → Prop} {s : Shared}
theorem wpT_of_any {t : Sem α} {Q : α → Shared → Prop} (h : wpAny M callerA t Q E s) : wpT M t Q E s := fun p => h Γ₀ p caller_in
theorem wpT_pure {a : α} {Q : α → Shared → Prop} (h : Q a s) : wpT M (pure a) Q E s := fun _ => h
theorem wpT_mono {t : Sem α} {Q Q' : α → Shared → Prop} {E' : Value → Shared → Prop} (h : wpT M t Q E s)
    (hQ : ∀ a s, Q a s → Q' a s) (hE : ∀ e s, E e s → E' e s) : wpT M t Q' E' s :=
  fun p => Sem.wp_mono M Γ₀ t (fun a _ s => hQ a s) (fun e _ s => hE e s) p s (h p)
theorem wpT_bind {m : Sem α} {f : α → Sem β} {Q : β → Shared → Prop} (h : wpT M m (fun a s' => wpT M (f a) Q E s') E s) :
    wpT M (m >>= f) Q E s := fun p => by
  rw [Sem.wp_bind']
  exact Sem.wp_mono M Γ₀ m (fun a p' s' h' => h' p') (fun _ _ _ h' => h') p s (h p)
theorem wpT_call {f : Value} {pos : List Value} {kw : List (Str × Value)} {Q : Value → Shared → Prop}
    (hc : codeC M callerA (.call f ⟨pos, kw⟩) (fun r s' => match r with | .ok (.ret v) => Q v s' | .ok _ => False | .error e => E e s') s) :
    wpT M (call f pos kw) Q E s := fun p => by
  show Sem.wp M Γ₀ (runValue (.call f ⟨pos, kw⟩)) _ _ p s
  rw [Sem.wp_runValue]
  exact hc _ p rfl (caller_in.enter _ none p (by intro x; cases x)) rfl
end
theorem thread_ends_T {prog : Program} {w : World} {t : Sem Fin} {s : Shared} {R : Result → Shared → Prop} (hreg : s.asleep)
    (h : wpT (model prog w) t (fun fin s' => ∃ f, fin = .done f ∧ (R (.ok f) s' ∧ leftWithCleanup s'.gens = false)) (fun e s' => R (.error e) s' ∧ leftWithCleanup s'.gens = false) s) :
    ∃ n r s' s'', runN (denote table) prog w n s ⟨t, .builtin "claim.caller" {}, default, []⟩ = .halted (outcomeOf r) s' ∧
      schedN (denote table) prog w n (.single s ⟨t, .builtin "claim.caller" {}, default, []⟩) = .halted (outcomeOf r) s' ∧ s'.forget = s''.forget ∧ R r s'' := by
  have h' : Sem.wp (model prog w) Γ₀ t (Sem.finPost (model prog w) Γ₀ (fun r s' => R r s' ∧ leftWithCleanup s'.gens = false)) (fun e _ s' => R (.error e) s' ∧ leftWithCleanup s'.gens = false) default s := by
    refine Sem.wp_mono (model prog w) Γ₀ t (fun fin p' s' h' => ?_) (fun _ _ _ h' => h') default s (h default)
    obtain ⟨f, rfl, hf⟩ := h'
    exact hf
  obtain ⟨n, r, s₁, s₂, hs, hn, hfo, hR⟩ := wp_halts_full (M := model prog w) (R := R) hreg h'
  exact ⟨n, r, s₂, s₁, hn, hs, hfo, hR⟩

theorem callFrom_T {c : ClaimW} {tree : List Value → Sem Fin} {w : World} {s : Shared} {free : Addr → Prop} {gens : Prop} {kept : Heap → Prop} (hz : s.asleep) (hgens : s.gens = #[])
    (hspec : ∀ args, c.pre args = true → WData.layableAll args = true →
      ∀ ord : List DictEntry → List DictEntry, (∀ l, (ord l).Perm l) →
      ∃ vs s₁, layAllW c.records (classAt s.heap) w.params ord args s = some (vs, s₁) ∧
        wpT (model c.prog w) (tree vs) (fun fin s' => ∃ f, fin = .done f ∧ (c.Ends s args vs s₁ (.ok f) s' ∧ s'.os = s.os ∧ AllBare s'.gens ∧ kept s'.heap))
          (fun e s' => c.Ends s args vs s₁ (.error e) s' ∧ s'.os = s.os ∧ AllBare s'.gens ∧ kept s'.heap) s₁) :
    c.CallFrom (fun vs => ⟨tree vs, .builtin "claim.caller" {}, default, []⟩) w free gens kept s := by
  intro args hpre hlay ord hord
  obtain ⟨vs, s₁, hlaid, hcode⟩ := hspec args hpre hlay ord hord
  have hal := layAllW_rest _ _ _ hlaid
  obtain ⟨k, r, s', s'', hrun, hsched, hfo, hcase, hos, hkp⟩ := thread_ends_T (prog := c.prog) (w := w) (t := tree vs) (s := s₁)
    (R := fun r s' => c.Ends s args vs s₁ r s' ∧ s'.os = s.os ∧ kept s'.heap)
    (Shared.asleep_of_life hal.2.2.2 hz)
    (wpT_mono hcode (by
      rintro fin s' ⟨f, e, h1, h2, h3, h4⟩
      exact ⟨f, e, ⟨h1, h2, h4⟩, leftWithCleanup_false_of_bare h3⟩) (by
      rintro e s' ⟨h1, h2, h3, h4⟩
      exact ⟨⟨h1, h2, h4⟩, leftWithCleanup_false_of_bare h3⟩))
  obtain ⟨eh, _, _, eo, _⟩ := Shared.forget_eq hfo
  have hcase := hcase.congr eh
  have hkp : kept s'.heap := by first | exact eh ▸ hkp | (rw [eh] at hkp; exact hkp) | (rw [← eh] at hkp; exact hkp)
  rw [← eo] at hos
  have hlife : s'.heap.life = s.heap.life := (runN_life _ _ _ hrun).trans hal.2.2.2
  refine ⟨vs, s₁, hlaid, k, _, s', hsched, ?_, (fun _ i x hx => by rw [hgens] at hx; simp at hx), hkp, by rw [hlife], Shared.rest_eq hos⟩
  rcases hcase with ⟨v, rfl, d1, d2, d3, d4, d5⟩ | ⟨e, ob, cls, rfl, d1, d2, d3, d4, d5⟩
  · exact .inl ⟨v, rfl, d1, d2, d3, fun b o y _ => d4 b o y, d5⟩
  · exact .inr ⟨e, ob, cls, rfl, d1, d2, d3, d4, fun b o y _ => d5 b o y⟩

theorem holds_T {r : OpenRow} {q : Program} {loose : List Str} {Xt : Shared → Bool} {XP : (Str → Option Value) → Heap → Prop} {α : Type} {Yf : Shared → α} {Ya : World → α} {YP : World → Heap → Prop} {d : DefRec} {kwd : List (Str × PySem.Expr)} {N : Nat}
    (left : LeftO r.prog q loose Xt Yf Ya N) (hY : ∀ w s, Yf s = Ya w → YP w s.heap) (hYk : ∀ w h h', YP w h → (∀ b o, h.get? b = some o → h'.get? b = some o) → YP w h')
    (hX : ∀ s, Xt s = true → XP (s.heap.nsMap mainGlobals) s.heap) (hXk : ∀ mg h h', XP mg h → (∀ b o, h.get? b = some o → h'.get? b = some o) → XP mg h')
    (hdef : defOf q r.name = some (d, kwd)) (hp : r.prog.theDef r.name = some (d.params, d.body, d.scope)) (hk : kwWritten? d.params.kwonlyargs d.params.kw_defaults = some kwd) (hRf : ∀ s, Xt s = true → RecFacts r.records s.heap) (hwr : (!r.writes || r.records.isEmpty) = true)
    (k1 : r.wellSaid = true) (ok : (chainsOk q && opensWell r.prog && (frees r.toRowW && r.within.isEmpty)) = true) (hb : r.prog.bare) (hw : r.toRowW.promised)
    (body : ∀ (w : World) (s₀ s₁ : Shared) (mg mb : Str → Option Value), Ground q loose r.records XP w s₀ mg mb s₁.heap → YP w s₁.heap → ∀ (a : Addr) (o : Obj) (pm cd doc dV kV : Value), s₁.heap.get? a = some o →
      o.data = .func { docDef d.name d.params d.body d.scope pm cd doc with defaults := dV, kwdefaults := kV } → s₁.heap.CodeRec cd d.name → Dflts mg s₁.heap d.params kwd dV kV → mg d.name = some (.ref a) → s₁.gens = #[] →
      ∀ (args : List WData) (vals : List Value) (as : List Addr), r.claim.pre args = true → WData.layableAll args = true → ReadsAllW r.records (classAt s₀.heap) s₁.heap vals args as → WellAll w.params s₁.heap vals args → (∀ a ∈ as, (a == sysModules) = false) →
        codeC (model r.prog w) callerA (.call (.ref a) ⟨vals, []⟩) (GoodW r.claim (classAt s₀.heap) (ExcName.means s₀.heap) args s₁) s₁) : r.Holds := by
  refine ⟨k1, hw, ?_⟩
  obtain ⟨ok, k5⟩ := Bool.and_eq_true_iff.mp ok
  obtain ⟨hch, o1⟩ := Bool.and_eq_true_iff.mp ok
  obtain ⟨k5, k6⟩ := Bool.and_eq_true_iff.mp k5
  obtain ⟨hsame, hu, ha, hap, hm⟩ := frees_parts k5
  refine ⟨⟨hb, o1, by show r.makers.map _ = []; rw [hm]; rfl⟩, hw.witness, fun w => ⟨(left.behind hX hch w).1, fun s' hs' => ?_⟩⟩
  obtain ⟨s₀, hf, hg0, s, hT, hz, hgens, hg, G00, y⟩ := (left.behind (XP := fun mg h => XP mg h ∧ RecFacts r.records h) (fun s hs => ⟨hX s hs, hRf s hs⟩) hch w).2 s' hs'
  have G0 : Ground q loose [] XP w s (s.heap.nsMap mainGlobals) (s.heap.nsMap builtinsNs) s.heap := ⟨G00.T, G00.B, G00.D, G00.TE, G00.TD, G00.W, G00.X.1, G00.cls, G00.has, G00.apart, G00.once, G00.K⟩
  have RF := G00.X.2
  have hT' := hT
  have pin : ∀ n ∈ (if r.pinned then [r.name] else []), isTheDefsW r.prog s.heap n := fun n hn => by
    obtain rfl : n = r.name := by split at hn <;> simp_all
    exact pinned_of_view hg G0 hdef hp hk
  refine ⟨s₀, hf, hg0, s, hT, pin, RF.1, RF.2.1, ?_⟩
  have hgens : s.gens = #[] := Array.eq_empty_of_size_eq_zero (beq_iff_eq.mp hgens)
  have G : Ground q loose r.records XP w s _ _ s.heap := RF.ground G0
  refine callFrom_T (c := r.toRowW.claim) hz hgens fun args hpre hlay ord hord => ?_
  obtain ⟨⟨vs, s₁⟩, hlaid⟩ := Option.isSome_iff_exists.mp (layAllW_isSome (P := w.params) (ord := ord) G.has args r.args s (pre_splitW hpre).1)
  have keeps := layAllW_keeps _ _ _ hlaid
  have hal := layAllW_rest _ _ _ hlaid
  obtain ⟨as, hrd, hin, hold⟩ := reads_layAllW hord _ _ _ hlaid hlay s₁.heap (fun _ _ e => e)
  have L : Laid r.records w s s₁ args vs as := ⟨⟨ord, hord, hlaid⟩, hrd, hin, hold, keeps, hal.1.trans hgens, hal.2.2.1⟩
  have G₁ := G.keeps hXk keeps
  obtain ⟨a, o, pm, cd, doc, dV, kV, h1, h2, h3, h4, h5⟩ := G₁.fn hdef
  have hcode := body w s s₁ _ _ G₁ (hYk _ _ _ (hY w s y) keeps) a o pm cd doc dV kV h2 h3 h4 h5 (defOf_name hdef ▸ h1) L.gens args vs as hpre hlay L.reads L.well (L.low G.low)
  have hi := ident_freeW hu ha hap
  have hwi : r.toRowW.claim.within = [] := List.isEmpty_iff.mp k6
  have fin : ∀ (res : Result) (s' : Shared), GoodWG r.toRowW.claim (classAt s.heap) (ExcName.means s.heap) args s₁ res s' →
      r.toRowW.claim.Ends s args vs s₁ res s' ∧ s'.os = s.os ∧ AllBare s'.gens ∧ (r.writes = true → namesKept r.prog r.keeps s.heap s'.heap ∧ ∀ x ∈ r.toRowW.claim.records, ∀ a, classAt s.heap x.1 = some a → recordClass s'.heap a x.1 (x.2.map (·.1)) = true) := fun res s' g =>
    have z := g.laid (c := r.toRowW.claim) hsame hwi hi L
    ⟨z.1, z.2.1, z.2.2, fun q => ⟨namesKept_of hT' hg r.keeps keeps g.2.1.old, noTable hwr q⟩⟩
  refine ⟨vs, s₁, hlaid, ?_⟩
  refine wpT_bind (wpT_mono (Q := fun f s' => f = some (Value.ref a) ∧ s' = s₁) (E := fun _ _ => False) (wpT_of_any (wpAny_nsGet G₁.T.g ⟨(defOf_name hdef ▸ h1 : _), rfl⟩)) (fun f s' hf' => ?_) fun _ _ x => x.elim)
  obtain ⟨hf1, hf2⟩ := hf'
  subst hf1
  subst hf2
  refine wpT_bind (wpT_mono (wpT_call (codeC_mono hcode fun res s₂ g => ?_)) (Q := fun v s₂ => GoodW r.toRowW.claim (classAt s.heap) (ExcName.means s.heap) args s' (.ok (.ret v)) s₂)
    (E := fun e s₂ => GoodW r.toRowW.claim (classAt s.heap) (ExcName.means s.heap) args s' (.error e) s₂) (fun v s₂ g => ?_) fun e s₂ g => ?_)
  · rcases g.1 with ⟨v, _, _, rfl, _⟩ | ⟨e, _, _, rfl, _⟩ <;> exact g
  · exact wpT_pure ⟨_, rfl, fin _ _ (GoodW.toG g)⟩
  · exact fin _ _ (GoodW.toG g)
end Mine
end

section
/-! part L1 -/
open PySem PySem.W PyProof.Rows
set_option Elab.async false
set_option maxRecDepth 100000
namespace Mine
noncomputable def theHook : Hook := kHook hd.heap_39 [2, 3, 6, 15, 17, 18, 20, 21, 22, 24, 25, 27, 28, 29, 31, 32, 34, 35, 36, 38, 39, 41, 42, 43, 46, 47, 48, 51, 52, 53, 56, 57] (fun _ => by kernel_rfl)
set_option maxHeartbeats 0 in
theorem left : LeftO PySem.Challenge.rw_te0066_01.row.prog hd.view_39 [] (fun s => xlAt hd.view_39 [] s && recOk (RowW.records PySem.Challenge.rw_te0066_01.row.toRowW) s) (Hook.obs theHook) (Hook.val theHook) 880 := by
  unfold LeftO
  intro w
  kernel_rfl
end Mine
end

section
/-! part Plain1 -/
open PySem PySem.W PyProof.Rows PySem.Builtin PySem.Builtin.Str
set_option linter.unusedVariables false
namespace Mine
/-- a text's codes -/
def cl (x : Str) : List Nat := x.cps.toList
theorem cl_def (x : Str) : x.cps.toList = cl x := rfl
theorem cl_len (x : Str) : (cl x).length = x.length := Array.length_toList
theorem cl_inj {x y : Str} (h : cl x = cl y) : x = y := by
  cases x; cases y; congr; exact Array.toList_inj.mp h
theorem cl_append (x y : Str) : cl (x ++ y) = cl x ++ cl y := by
  show (x ++ y).cps.toList = _; rw [Str.cps_append, Array.toList_append]; rfl
theorem low_list {x : Str} (hA : ∀ c ∈ cl x, c < 128) : cl (Txt.lower x) = (cl x).map lo1 := by
  rw [lower_ascii hA]; simp [cl]
theorem slice_le_list (x : Str) (l u : Option Int) : Txt.slice x l u = StrLaws.sliceText x l u := rfl
theorem slice_from {x : Str} {i : Nat} (h : i ≤ (cl x).length) : cl (Txt.slice x (some (i : Int)) none) = (cl x).drop i := by
  rw [slice_le_list, StrLaws.sliceText_from (by rw [cl_def]; omega)]
  show (((x.cps.toList.drop _).take _).toArray).toList = _
  rw [List.toList_toArray, cl_def, List.take_of_length_le (by rw [List.length_drop]; omega)]
  congr 1
theorem slice_to {x : Str} {j : Nat} (h : j ≤ (cl x).length) : cl (Txt.slice x none (some (j : Int))) = (cl x).take j := by
  rw [slice_le_list, StrLaws.sliceText_to (by rw [cl_def]; omega)]
  show (((x.cps.toList.drop _).take _).toArray).toList = _
  rw [List.toList_toArray, List.drop_zero]
  congr 1
theorem slice_mid {x : Str} {i j : Nat} (h1 : i ≤ j) (h2 : j ≤ (cl x).length) : cl (Txt.slice x (some (i : Int)) (some (j : Int))) = ((cl x).take j).drop i := by
  rw [slice_le_list, StrLaws.sliceText_plain (by rw [cl_def]; omega)]
  show (((x.cps.toList.drop _).take _).toArray).toList = _
  rw [List.toList_toArray, List.drop_take]
  congr 1; omega
theorem slice_init {x : Str} (h : cl x ≠ []) : cl (Txt.slice x none (some (-1))) = (cl x).dropLast := by
  have hl : 0 < (cl x).length := List.length_pos_iff.mpr h
  have hl' := cl_len x
  have e : Txt.slice x none (some (-1)) = Txt.slice x none (some (((cl x).length - 1 : Nat) : Int)) := by
    unfold Txt.slice
    rw [StrLaws.sliceIdx_neg_hi none x.length (by omega) (by omega)]
    have : (-1 : Int) + (x.length : Int) = (((cl x).length - 1 : Nat) : Int) := by omega
    rw [this]
  rw [e, slice_to (by omega), List.dropLast_eq_take]
/-- a short slice's end may lie beyond the text -/
theorem slice_head (x : Str) (j : Nat) : cl (Txt.slice x none (some (j : Int))) = (cl x).take j := by
  by_cases h : j ≤ (cl x).length
  · exact slice_to h
  · have hl := cl_len x
    have e : Txt.slice x none (some (j : Int)) = Txt.slice x none (some (((cl x).length : Nat) : Int)) := by
      unfold Txt.slice
      rw [sliceIdx_hi_beyond x.length (by omega), hl]
    rw [e, slice_to (Nat.le_refl _), List.take_length, List.take_of_length_le (by omega)]
theorem starts_list (x y : Str) : Txt.startswith x y = ((cl x).take (cl y).length == cl y) := by
  unfold Txt.startswith
  rw [StrLaws.subAt_eq, List.drop_zero, cl_def, cl_def, ← cl_len x, ← cl_len y]
  by_cases h : (cl y).length ≤ (cl x).length
  · rw [decide_eq_true (by omega : 0 + (cl y).length ≤ (cl x).length), Bool.true_and]
  · rw [decide_eq_false (by omega : ¬ 0 + (cl y).length ≤ (cl x).length), Bool.false_and]
    refine (beq_eq_false_iff_ne.mpr fun e => ?_).symm
    have := congrArg List.length e
    rw [List.length_take] at this; omega
theorem ends_one (x : Str) (y : Str) (c : Nat) (hy : cl y = [c]) : Txt.endswith x y = ((cl x).getLast? == some c) := by
  unfold Txt.endswith
  have h1 : y.length = 1 := by rw [← cl_len y, hy]; rfl
  rw [StrLaws.subAt_eq, h1, cl_def, cl_def, hy, ← cl_len x]
  rcases List.eq_nil_or_concat (cl x) with e | ⟨l, a, e⟩
  · rw [e]; rfl
  · rw [e]
    simp
theorem occ_none (x : Str) (y : Str) (c : Nat) (hy : cl y = [c]) : (occurrences x y 0 x.length 1).isEmpty = !(cl x).contains c := by
  have h1 : y.length = 1 := by rw [← cl_len y, hy]; rfl
  have hat : ∀ i, StrLaws.At x y x.length i ↔ (cl x)[i]? = some c := fun i => by
    unfold StrLaws.At
    rw [StrLaws.subAt_eq, h1, cl_def, cl_def, hy, ← cl_len x]
    constructor
    · rintro ⟨h, e⟩
      have e' := beq_iff_eq.mp e
      have : ((cl x).drop i)[0]? = some c := by
        have e2 : ((cl x).drop i).take 1 = [c] := e'
        cases hd : (cl x).drop i with
        | nil => rw [hd] at e2; cases e2
        | cons a r => rw [hd] at e2; simp at e2; simp [e2]
      simpa using this
    · intro e
      obtain ⟨hlt, hv⟩ := List.getElem?_eq_some_iff.mp e
      refine ⟨by omega, beq_iff_eq.mpr ?_⟩
      show ((cl x).drop i).take 1 = [c]
      rw [List.drop_eq_getElem_cons hlt, hv]
      rfl
  rcases StrLaws.occ_head x y 1 (Nat.le_refl _) with ⟨h, hn⟩ | ⟨i, r, h, ha, _⟩
  · rw [h]
    have : c ∉ cl x := fun hm => by
      obtain ⟨i, hi⟩ := List.getElem?_of_mem hm
      exact hn i ((hat i).mpr hi)
    simp [this]
  · rw [h]
    have : c ∈ cl x := List.mem_of_getElem? ((hat i).mp ha)
    simp [this]
end Mine
end

section
/-! part Plain2 -/
open PySem PySem.W PyProof.Rows
set_option linter.unusedVariables false
namespace Mine
def isUL (c : Nat) : Bool := c == 117 || c == 108
def wordOf (c : Nat) : Str := if c = 117 then Str.ofString "unsigned" else Str.ofString "long"
def stem (L : List Nat) : List Nat := (L.reverse.dropWhile isUL).reverse
def sufs (L : List Nat) : List Nat := L.reverse.takeWhile isUL
def orInt (ws : List Str) : List Str := if ws = [] then [Str.ofString "int"] else ws
theorem stem_of {L A B : List Nat} (e : L = A ++ B) (hB : ∀ c ∈ B, isUL c = true) (hA : ∀ c, A.getLast? = some c → isUL c = false) : stem L = A ∧ sufs L = B.reverse := by
  subst e
  have h1 : ∀ (R : List Nat), (∀ c ∈ R, isUL c = true) → ∀ S : List Nat, (∀ c, S.head? = some c → isUL c = false) → (R ++ S).dropWhile isUL = S ∧ (R ++ S).takeWhile isUL = R := by
    intro R
    induction R with
    | nil =>
      intro _ S hS
      cases S with
      | nil => exact ⟨rfl, rfl⟩
      | cons a S =>
        have := hS a rfl
        simp [this]
    | cons a R ih =>
      intro hR S hS
      have ha := hR a (List.mem_cons_self ..)
      have := ih (fun c hc => hR c (List.mem_cons_of_mem _ hc)) S hS
      simp [ha, this]
  have h2 := h1 B.reverse (fun c hc => hB c (List.mem_reverse.mp hc)) A.reverse (fun c hc => hA c (by rw [List.head?_reverse] at hc; exact hc))
  unfold stem sufs
  rw [List.reverse_append]
  refine ⟨?_, h2.2⟩
  rw [h2.1, List.reverse_reverse]
/-- the marks that cnum strikes: what is left, and the base -/
def cnBase (L : List Nat) : List Nat × Nat :=
  if L.take 2 = [48, 120] then (L.drop 2, 16) else if L.take 2 = [48, 98] then (L.drop 2, 2) else if L.take 1 = [48] then (L, 8) else (L, 10)
/-- what cnum gives, none where it refuses -/
def cnumF (t : List Nat) : Option (Nat × List Str) :=
  if 46 ∈ t then none else
    match NumText.digits? (cnBase (t.map lo1)).2 (stem (cnBase (t.map lo1)).1) with
    | none => none
    | some ds => some (ds.foldl (fun acc d => acc * (cnBase (t.map lo1)).2 + d) 0, orInt ((sufs (cnBase (t.map lo1)).1).map wordOf))

theorem drop_plain {cs : List Nat} (hc : ∀ c ∈ cs, 48 ≤ c) : cs.dropWhile NumText.blank = cs := by
  cases cs with
  | nil => rfl
  | cons c cs => exact NumText.dropWhile_of (by have := hc c (List.mem_cons_self ..); omega)
theorem sign_plain {cs : List Nat} (hc : ∀ c ∈ cs, 48 ≤ c) : NumText.sign cs = (false, cs) := by
  cases cs with
  | nil => rfl
  | cons c cs =>
    have := hc c (List.mem_cons_self ..)
    exact NumText.sign_of (by omega) (by omega)
theorem based_plain {b : Nat} {cs : List Nat} (hp : NumText.prefix? cs ≠ some b) (hb0 : b ≠ 0) : NumText.based b cs = (b, false, cs) := by
  unfold NumText.based
  have h0 : (b == 0) = false := beq_eq_false_iff_ne.mpr hb0
  cases hq : NumText.prefix? cs with
  | none => simp only [h0]; rfl
  | some p =>
    have h1 : (b == p) = false := beq_eq_false_iff_ne.mpr fun e => hp (by rw [hq, e])
    simp only [h0, h1]; rfl
theorem read_plain {b : Nat} {cs : List Nat} (hc : ∀ c ∈ cs, 48 ≤ c) (hp : NumText.prefix? cs ≠ some b) (hb0 : b ≠ 0) :
    (int_private% "readNumeral") 0 b cs = NumText.judge 0 false b false (NumText.digits? b cs) := by
  refine (NumText.readNumeral_eq 0 b cs).trans ?_
  rw [drop_plain hc, sign_plain hc, based_plain hp hb0]
  show NumText.judge 0 false b false (NumText.digits? b (cs.reverse.dropWhile NumText.blank).reverse) = _
  rw [drop_plain (fun c h => hc c (List.mem_reverse.mp h)), List.reverse_reverse]
theorem numeral_ok {b : Nat} {cs : List Nat} {ds : Array Nat} (hc : ∀ c ∈ cs, 48 ≤ c) (hp : NumText.prefix? cs ≠ some b) (hb0 : b ≠ 0) (hl : cs.length ≤ 640) (hd : NumText.digits? b cs = some ds) :
    (int_private% "readNumeral") 0 b cs = (int_private% "Numeral.value") ((ds.foldl (fun acc d => acc * b + d) 0 : Nat) : Int) := by
  rw [read_plain hc hp hb0, hd]
  have hs := NumText.digits_size hd
  unfold NumText.judge
  have e1 : (![2, 4, 8, 16, 32].contains b && ((0 : Nat) != 0) && decide (ds.size > 0)) = false := by simp
  have e2 : (b == 10 && decide (ds.size > 6000)) = false := by
    rw [decide_eq_false (by omega), Bool.and_false]
  exact (if_neg (by rw [e1]; exact Bool.false_ne_true)).trans ((if_neg (by rw [e2]; exact Bool.false_ne_true)).trans rfl)
theorem numeral_bad {b : Nat} {cs : List Nat} (hc : ∀ c ∈ cs, 48 ≤ c) (hp : NumText.prefix? cs ≠ some b) (hb0 : b ≠ 0) (hd : NumText.digits? b cs = none) :
    (int_private% "readNumeral") 0 b cs = int_private% "Numeral.invalid" := by
  rw [read_plain hc hp hb0, hd]
  rfl
/-- of a plain text of ASCII signs the number's text is the text -/
theorem numText_plain {x : Str} (hc : ∀ c ∈ cl x, 48 ≤ c ∧ c < 128) : numTextOf x = cl x ∧ numSeenOf x = cl x := by
  have e1 : numTextOf x = cl x := by
    refine if_pos ?_
    rw [← Array.all_toList, List.all_eq_true]
    intro c h
    exact decide_eq_true (hc c h).2
  refine ⟨e1, ?_⟩
  show (numTextOf x).takeWhile _ = _
  rw [e1]
  refine NumText.takeWhile_all fun c h => ?_
  have := (hc c h).1
  exact bne_iff_ne.mpr (by omega)
end Mine
end

section
/-! part Plain3 -/
open PySem PySem.W PyProof.Rows
set_option linter.unusedVariables false
namespace Mine
theorem cl_0x : cl (Str.ofString "0x") = [48, 120] := by decide +kernel
theorem cl_0b : cl (Str.ofString "0b") = [48, 98] := by decide +kernel
theorem cl_0 : cl (Str.ofString "0") = [48] := by decide +kernel
theorem cl_u : cl (Str.ofString "u") = [117] := by decide +kernel
theorem cl_l : cl (Str.ofString "l") = [108] := by decide +kernel
theorem cl_dot : cl (Str.ofString ".") = [46] := by decide +kernel
theorem st_x (x : Str) {b : Bool} (h : Txt.startswith x (Str.ofString "0x") = b) : ((cl x).take 2 = [48, 120]) = (b = true) := by
  rw [starts_list, cl_0x] at h
  rw [← h, beq_iff_eq]; rfl
theorem st_b (x : Str) {b : Bool} (h : Txt.startswith x (Str.ofString "0b") = b) : ((cl x).take 2 = [48, 98]) = (b = true) := by
  rw [starts_list, cl_0b] at h
  rw [← h, beq_iff_eq]; rfl
theorem st_0 (x : Str) {b : Bool} (h : Txt.startswith x (Str.ofString "0") = b) : ((cl x).take 1 = [48]) = (b = true) := by
  rw [starts_list, cl_0] at h
  rw [← h, beq_iff_eq]; rfl
theorem two_le {L : List Nat} {a b : Nat} (h : L.take 2 = [a, b]) : 2 ≤ L.length := by
  have := congrArg List.length h
  rw [List.length_take] at this
  simp at this; omega
theorem cb_x {x : Str} (h : Txt.startswith x (Str.ofString "0x") = true) : (cl (Txt.slice x (some 2) none), (16 : Int)) = ((cnBase (cl x)).1, ((cnBase (cl x)).2 : Int)) := by
  have h1 : (cl x).take 2 = [48, 120] := by rw [st_x x h]
  have e : cl (Txt.slice x (some ((2 : Nat) : Int)) none) = (cl x).drop 2 := slice_from (two_le h1)
  unfold cnBase
  rw [if_pos h1]
  exact Prod.ext e rfl
theorem cb_b {x : Str} (h0 : Txt.startswith x (Str.ofString "0x") = false) (h : Txt.startswith x (Str.ofString "0b") = true) : (cl (Txt.slice x (some 2) none), (2 : Int)) = ((cnBase (cl x)).1, ((cnBase (cl x)).2 : Int)) := by
  have h1 : (cl x).take 2 = [48, 98] := by rw [st_b x h]
  have h2 : ¬ (cl x).take 2 = [48, 120] := by rw [st_x x h0]; exact Bool.false_ne_true
  have e : cl (Txt.slice x (some ((2 : Nat) : Int)) none) = (cl x).drop 2 := slice_from (two_le h1)
  unfold cnBase
  rw [if_neg h2, if_pos h1]
  exact Prod.ext e rfl
theorem cb_0 {x : Str} (h0 : Txt.startswith x (Str.ofString "0x") = false) (h1 : Txt.startswith x (Str.ofString "0b") = false) (h : Txt.startswith x (Str.ofString "0") = true) : (cl x, (8 : Int)) = ((cnBase (cl x)).1, ((cnBase (cl x)).2 : Int)) := by
  have h2 : ¬ (cl x).take 2 = [48, 120] := by rw [st_x x h0]; exact Bool.false_ne_true
  have h3 : ¬ (cl x).take 2 = [48, 98] := by rw [st_b x h1]; exact Bool.false_ne_true
  have h4 : (cl x).take 1 = [48] := by rw [st_0 x h]
  unfold cnBase
  rw [if_neg h2, if_neg h3, if_pos h4]
  rfl
theorem cb_n {x : Str} (h0 : Txt.startswith x (Str.ofString "0x") = false) (h1 : Txt.startswith x (Str.ofString "0b") = false) (h : Txt.startswith x (Str.ofString "0") = false) : (cl x, (10 : Int)) = ((cnBase (cl x)).1, ((cnBase (cl x)).2 : Int)) := by
  have h2 : ¬ (cl x).take 2 = [48, 120] := by rw [st_x x h0]; exact Bool.false_ne_true
  have h3 : ¬ (cl x).take 2 = [48, 98] := by rw [st_b x h1]; exact Bool.false_ne_true
  have h4 : ¬ (cl x).take 1 = [48] := by rw [st_0 x h]; exact Bool.false_ne_true
  unfold cnBase
  rw [if_neg h2, if_neg h3, if_neg h4]
  rfl
theorem dot_in {t : Str} (h : (Builtin.Str.occurrences t (Str.ofString ".") 0 t.length 1).isEmpty = false) : 46 ∈ cl t := by
  rw [occ_none _ _ 46 cl_dot] at h
  simpa using h
theorem dot_out {t : Str} (h : (Builtin.Str.occurrences t (Str.ofString ".") 0 t.length 1).isEmpty = true) : 46 ∉ cl t := by
  rw [occ_none _ _ 46 cl_dot] at h
  simpa using h
theorem cnBase_len (L : List Nat) : (cnBase L).1.length ≤ L.length := by
  unfold cnBase
  split
  · rw [List.length_drop]; omega
  · split
    · rw [List.length_drop]; omega
    · split <;> exact Nat.le_refl _
theorem num_len {x num : Str} {b : Int} (h : (cl num, b) = ((cnBase (cl x)).1, ((cnBase (cl x)).2 : Int))) : num.length ≤ x.length := by
  rw [← cl_len, ← cl_len, show cl num = (cnBase (cl x)).1 from congrArg Prod.fst h]
  exact cnBase_len _
/-- the invariant of cnum's strip -/
def SufInv (L : List Nat) (num : Str) (ws : List Str) : Prop := ∃ suf, L = cl num ++ suf ∧ (∀ c ∈ suf, isUL c = true) ∧ ws = suf.reverse.map wordOf
theorem sufInv_init (x : Str) : SufInv (cl x) x [] := ⟨[], (List.append_nil _).symm, fun c h => (nomatch h), rfl⟩
theorem sufInv_len {L : List Nat} {num : Str} {ws : List Str} (h : SufInv L num ws) : num.length ≤ L.length := by
  obtain ⟨suf, e, _⟩ := h
  rw [e, List.length_append, cl_len]; omega
theorem sufInv_ws {L : List Nat} {num : Str} {ws : List Str} (h : SufInv L num ws) : ws.length ≤ L.length := by
  obtain ⟨suf, e, _, e2⟩ := h
  rw [e, e2, List.length_append, List.length_map, List.length_reverse]; omega
theorem last_ne {x : Str} {c : Nat} (h : (cl x).getLast? = some c) : cl x ≠ [] := fun e => by rw [e] at h; cases h
theorem sufInv_step {L : List Nat} {num : Str} {ws : List Str} {c : Nat} (h : SufInv L num ws) (hl : (cl num).getLast? = some c) (hc : isUL c = true) :
    SufInv L (Txt.slice num none (some (-1))) (ws ++ [wordOf c]) ∧ (Txt.slice num none (some (-1))).length < num.length := by
  have hne := last_ne hl
  have hi := slice_init hne
  obtain ⟨suf, e, hs, hw⟩ := h
  have hl' : (cl num).getLast hne = c := by
    rw [List.getLast?_eq_some_getLast hne] at hl; exact Option.some.inj hl
  refine ⟨⟨c :: suf, ?_, ?_, ?_⟩, ?_⟩
  · rw [hi, e]
    conv => lhs; rw [← List.dropLast_concat_getLast hne, hl']
    rw [List.append_assoc]; rfl
  · intro d hd
    rcases List.mem_cons.mp hd with rfl | hd
    · exact hc
    · exact hs d hd
  · rw [hw, List.reverse_cons, List.map_append]; rfl
  · rw [← cl_len, hi, List.length_dropLast, ← cl_len num]
    have := List.length_pos_iff.mpr hne
    omega
theorem sufInv_u {L : List Nat} {num : Str} {ws : List Str} (h : SufInv L num ws) (hl : Txt.endswith num (Str.ofString "u") = true) :
    SufInv L (Txt.slice num none (some (-1))) (ws ++ [Str.ofString "unsigned"]) ∧ (Txt.slice num none (some (-1))).length < num.length := by
  rw [ends_one _ _ 117 cl_u, beq_iff_eq] at hl
  exact sufInv_step h hl rfl
theorem sufInv_l {L : List Nat} {num : Str} {ws : List Str} (h : SufInv L num ws) (hl : Txt.endswith num (Str.ofString "l") = true) :
    SufInv L (Txt.slice num none (some (-1))) (ws ++ [Str.ofString "long"]) ∧ (Txt.slice num none (some (-1))).length < num.length := by
  rw [ends_one _ _ 108 cl_l, beq_iff_eq] at hl
  exact sufInv_step h hl rfl
theorem sufInv_end {L : List Nat} {num : Str} {ws : List Str} (h : SufInv L num ws) (hl : (Txt.endswith num (Str.ofString "l") || Txt.endswith num (Str.ofString "u")) = false) :
    stem L = cl num ∧ ws = (sufs L).map wordOf := by
  obtain ⟨suf, e, hs, hw⟩ := h
  rw [Bool.or_eq_false_iff, ends_one _ _ 108 cl_l, ends_one _ _ 117 cl_u] at hl
  have := stem_of e hs fun c hc => by
    have h1 : c ≠ 108 := fun e' => by rw [hc, e'] at hl; exact absurd hl.1 (by decide)
    have h2 : c ≠ 117 := fun e' => by rw [hc, e'] at hl; exact absurd hl.2 (by decide)
    unfold isUL
    rw [beq_eq_false_iff_ne.mpr h1, beq_eq_false_iff_ne.mpr h2]; rfl
  exact ⟨this.1, by rw [hw, this.2]⟩
theorem orInt_nil {ws : List Str} (h : ws = []) : ws ++ [Str.ofString "int"] = orInt ws := by rw [h]; rfl
theorem orInt_cons {ws : List Str} (h : ws ≠ []) : ws = orInt ws := (if_neg h).symm
theorem strs_nil {vs : List Value} {ws : List Str} (h : StrsAre vs ws) (e : vs.isEmpty = true) : ws = [] := by
  cases h with
  | nil => rfl
  | cons => cases e
theorem strs_ne {vs : List Value} {ws : List Str} (h : StrsAre vs ws) (e : vs.isEmpty = false) : ws ≠ [] := by
  cases h with
  | nil => cases e
  | cons => intro h; cases h
theorem stem_sub {L : List Nat} {c : Nat} (h : c ∈ stem L) : c ∈ L := by
  unfold stem at h
  exact List.mem_reverse.mp ((List.dropWhile_sublist _).mem (List.mem_reverse.mp h))
theorem cnBase_sub {L : List Nat} {c : Nat} (h : c ∈ (cnBase L).1) : c ∈ L := by
  unfold cnBase at h
  split at h
  · exact List.mem_of_mem_drop h
  · split at h
    · exact List.mem_of_mem_drop h
    · split at h <;> exact h
theorem stem_len (L : List Nat) : (stem L).length ≤ L.length := by
  have := (List.dropWhile_sublist isUL (l := L.reverse)).length_le
  unfold stem
  rw [List.length_reverse] at *
  exact this
theorem stem_ok {L : List Nat} (hA : ∀ c ∈ L, 46 ≤ c ∧ c < 128 ∧ c ≠ 47) (hd : 46 ∉ L) : ∀ c ∈ stem (cnBase (L.map lo1)).1, 48 ≤ c ∧ c < 128 := by
  intro c hc
  obtain ⟨d, hd', rfl⟩ := List.mem_map.mp (cnBase_sub (stem_sub hc))
  have h1 := hA d hd'
  have h2 : d ≠ 46 := fun e => hd (e ▸ hd')
  unfold lo1
  split <;> omega
theorem cnBase_cases (L : List Nat) : (cnBase L).2 = 16 ∨ (cnBase L).2 = 2 ∨ (cnBase L).2 = 8 ∨ (cnBase L).2 = 10 := by
  unfold cnBase
  split
  · exact .inl rfl
  · split
    · exact .inr (.inl rfl)
    · split
      · exact .inr (.inr (.inl rfl))
      · exact .inr (.inr (.inr rfl))
end Mine
end

section
/-! part Plain4 -/
open PySem PySem.W PyProof.Rows
set_option linter.unusedVariables false
namespace Mine
def isSuf (c : Nat) : Bool := c == 117 || c == 85 || (c == 108 || c == 76)
def readWord (c : Nat) : Str := if c == 117 || c == 85 then Str.ofString "unsigned" else Str.ofString "long"
def stemR (L : List Nat) : List Nat := (L.reverse.dropWhile isSuf).reverse
def sufsR (L : List Nat) : List Nat := L.reverse.takeWhile isSuf
theorem split_of (p : Nat → Bool) {A B : List Nat} (hB : ∀ c ∈ B, p c = true) (hA : ∀ c, A.getLast? = some c → p c = false) : ((A ++ B).reverse.dropWhile p).reverse = A ∧ (A ++ B).reverse.takeWhile p = B.reverse := by
  have h1 : ∀ (R : List Nat), (∀ c ∈ R, p c = true) → ∀ S : List Nat, (∀ c, S.head? = some c → p c = false) → (R ++ S).dropWhile p = S ∧ (R ++ S).takeWhile p = R := by
    intro R
    induction R with
    | nil =>
      intro _ S hS
      cases S with
      | nil => exact ⟨rfl, rfl⟩
      | cons a S =>
        have := hS a rfl
        simp [this]
    | cons a R ih =>
      intro hR S hS
      have ha := hR a (List.mem_cons_self ..)
      have := ih (fun c hc => hR c (List.mem_cons_of_mem _ hc)) S hS
      simp [ha, this]
  have h2 := h1 B.reverse (fun c hc => hB c (List.mem_reverse.mp hc)) A.reverse (fun c hc => hA c (by rw [List.head?_reverse] at hc; exact hc))
  rw [List.reverse_append]
  refine ⟨?_, h2.2⟩
  rw [h2.1, List.reverse_reverse]
def RInv (L : List Nat) (n : Nat) (ws : List Str) : Prop := n ≤ L.length ∧ (∀ c ∈ L.drop n, isSuf c = true) ∧ ws = (L.drop n).reverse.map readWord
theorem rInv_init (L : List Nat) : RInv L L.length [] := ⟨Nat.le_refl _, (by rw [List.drop_length]; intro c h; cases h), by rw [List.drop_length]; rfl⟩
theorem rInv_ws {L : List Nat} {n : Nat} {ws : List Str} (h : RInv L n ws) : ws.length ≤ L.length := by
  rw [h.2.2, List.length_map, List.length_reverse, List.length_drop]; omega
theorem rInv_step {L : List Nat} {n : Nat} {ws : List Str} {c : Nat} (h : RInv L n ws) (h0 : 0 < n) (hc : L[n-1]? = some c) (hs : isSuf c = true) : RInv L (n - 1) (ws ++ [readWord c]) := by
  obtain ⟨h1, h2, h3⟩ := h
  have e : L.drop (n - 1) = c :: L.drop n := by
    rw [List.getElem?_eq_some_iff] at hc
    obtain ⟨hl, e⟩ := hc
    rw [List.drop_eq_getElem_cons hl, e]
    congr 2; omega
  refine ⟨by omega, ?_, ?_⟩
  · intro d hd
    rw [e] at hd
    rcases List.mem_cons.mp hd with rfl | hd
    · exact hs
    · exact h2 d hd
  · rw [h3, e, List.reverse_cons, List.map_append]; rfl
theorem rInv_end {L : List Nat} {n : Nat} {ws : List Str} (h : RInv L n ws) (he : ∀ c, 0 < n → L[n-1]? = some c → isSuf c = false) : L.take n = stemR L ∧ ws = (sufsR L).map readWord := by
  obtain ⟨h1, h2, h3⟩ := h
  have := split_of isSuf (A := L.take n) h2 (fun c hc => by
    have h0 : 0 < n := by
      cases n with
      | zero => rw [List.take_zero] at hc; cases hc
      | succ n => exact Nat.succ_pos _
    refine he c h0 ?_
    rw [List.getLast?_eq_getElem?, List.length_take, Nat.min_eq_left h1, List.getElem?_take_of_lt (by omega)] at hc
    exact hc)
  rw [List.take_append_drop] at this
  exact ⟨this.1.symm, by rw [h3, ← this.2]; rfl⟩
theorem cl_uUlL : cl (Str.ofString "uUlL") = [117, 85, 108, 76] := by decide +kernel
theorem cl_uU : cl (Str.ofString "uU") = [117, 85] := by decide +kernel
theorem item_cl {x : Str} {n : Nat} (h0 : 0 < n) (h : n ≤ x.length) : ∃ c, (cl x)[n-1]? = some c ∧ cl (Txt.item x ((n : Int) - 1)) = [c] := by
  have hl : n - 1 < (cl x).length := by rw [cl_len]; omega
  refine ⟨(cl x)[n-1], List.getElem?_eq_getElem hl, ?_⟩
  have e : ((n : Int) - 1).toNat = n - 1 := by omega
  rw [item_meets (n := (cl x)[n-1]) (by omega) (by rw [e, ← Array.getElem?_toList]; exact List.getElem?_eq_getElem hl)]
  rfl
theorem suf_yes {x : Str} {c : Nat} (e : cl x = [c]) {b : Bool} (h : (Builtin.Str.occurrences (Str.ofString "uUlL") x 0 (Str.ofString "uUlL").length 1).isEmpty = b) : isSuf c = !b := by
  rw [occ_none _ _ c e, cl_uUlL] at h
  rw [← h, Bool.not_not]
  simp only [isSuf, List.contains_cons, List.contains_nil, Bool.or_false, Bool.or_assoc]
theorem u_yes {x : Str} {c : Nat} (e : cl x = [c]) (h : (Builtin.Str.occurrences (Str.ofString "uU") x 0 (Str.ofString "uU").length 1).isEmpty = false) : readWord c = Str.ofString "unsigned" := by
  rw [occ_none _ _ c e, cl_uU] at h
  simp only [List.contains_cons, List.contains_nil, Bool.or_false, Bool.not_eq_false'] at h
  unfold readWord
  rw [if_pos h]
theorem u_no {x : Str} {c : Nat} (e : cl x = [c]) (h : (Builtin.Str.occurrences (Str.ofString "uU") x 0 (Str.ofString "uU").length 1).isEmpty = true) : readWord c = Str.ofString "long" := by
  rw [occ_none _ _ c e, cl_uU] at h
  simp only [List.contains_cons, List.contains_nil, Bool.or_false, Bool.not_eq_true'] at h
  unfold readWord
  rw [if_neg (by rw [h]; exact Bool.false_ne_true)]
theorem cl_0X : cl (Str.ofString "0X") = [48, 88] := by decide +kernel
theorem cl_0B : cl (Str.ofString "0B") = [48, 66] := by decide +kernel
theorem sl_eq (x y : Str) (j : Nat) {b : Bool} (h : (Txt.slice x none (some (j : Int)) == y) = b) : ((cl x).take j = cl y) = (b = true) := by
  rw [← h, beq_iff_eq, ← slice_head]
  exact propext ⟨fun e => cl_inj e, fun e => by rw [e]⟩
def rdBase (L : List Nat) : Nat × Nat :=
  if L.take 2 = [48, 120] ∨ L.take 2 = [48, 88] then (16, 2) else if L.take 2 = [48, 98] ∨ L.take 2 = [48, 66] then (2, 2) else if L.take 1 = [48] then (8, 0) else (10, 0)
section
variable {t : Str}
theorem s0x {b : Bool} (h : (Txt.slice t none (some 2) == Str.ofString "0x") = b) : ((cl t).take 2 = [48, 120]) = (b = true) := by rw [← cl_0x]; exact sl_eq t _ 2 h
theorem s0X {b : Bool} (h : (Txt.slice t none (some 2) == Str.ofString "0X") = b) : ((cl t).take 2 = [48, 88]) = (b = true) := by rw [← cl_0X]; exact sl_eq t _ 2 h
theorem s0b {b : Bool} (h : (Txt.slice t none (some 2) == Str.ofString "0b") = b) : ((cl t).take 2 = [48, 98]) = (b = true) := by rw [← cl_0b]; exact sl_eq t _ 2 h
theorem s0B {b : Bool} (h : (Txt.slice t none (some 2) == Str.ofString "0B") = b) : ((cl t).take 2 = [48, 66]) = (b = true) := by rw [← cl_0B]; exact sl_eq t _ 2 h
theorem s0 {b : Bool} (h : (Txt.slice t none (some 1) == Str.ofString "0") = b) : ((cl t).take 1 = [48]) = (b = true) := by rw [← cl_0]; exact sl_eq t _ 1 h
theorem rd_x (h : (Txt.slice t none (some 2) == Str.ofString "0x") = true) : rdBase (cl t) = (16, 2) := by exact if_pos (.inl (by rw [s0x h]))
theorem rd_X (h : (Txt.slice t none (some 2) == Str.ofString "0X") = true) : rdBase (cl t) = (16, 2) := by exact if_pos (.inr (by rw [s0X h]))
theorem rd_nx (h1 : (Txt.slice t none (some 2) == Str.ofString "0x") = false) (h2 : (Txt.slice t none (some 2) == Str.ofString "0X") = false) :
    rdBase (cl t) = if (cl t).take 2 = [48, 98] ∨ (cl t).take 2 = [48, 66] then (2, 2) else if (cl t).take 1 = [48] then (8, 0) else (10, 0) := by
  unfold rdBase
  rw [if_neg (by rw [s0x h1, s0X h2]; decide)]
theorem rd_b (h1 : (Txt.slice t none (some 2) == Str.ofString "0x") = false) (h2 : (Txt.slice t none (some 2) == Str.ofString "0X") = false) (h : (Txt.slice t none (some 2) == Str.ofString "0b") = true) : rdBase (cl t) = (2, 2) := by
  rw [rd_nx h1 h2, if_pos (.inl (by rw [s0b h]))]
theorem rd_B (h1 : (Txt.slice t none (some 2) == Str.ofString "0x") = false) (h2 : (Txt.slice t none (some 2) == Str.ofString "0X") = false) (h : (Txt.slice t none (some 2) == Str.ofString "0B") = true) : rdBase (cl t) = (2, 2) := by
  rw [rd_nx h1 h2, if_pos (.inr (by rw [s0B h]))]
theorem rd_nb (h1 : (Txt.slice t none (some 2) == Str.ofString "0x") = false) (h2 : (Txt.slice t none (some 2) == Str.ofString "0X") = false) (h3 : (Txt.slice t none (some 2) == Str.ofString "0b") = false) (h4 : (Txt.slice t none (some 2) == Str.ofString "0B") = false) :
    rdBase (cl t) = if (cl t).take 1 = [48] then (8, 0) else (10, 0) := by
  rw [rd_nx h1 h2, if_neg (by rw [s0b h3, s0B h4]; decide)]
theorem rd_0 (h1 : (Txt.slice t none (some 2) == Str.ofString "0x") = false) (h2 : (Txt.slice t none (some 2) == Str.ofString "0X") = false) (h3 : (Txt.slice t none (some 2) == Str.ofString "0b") = false) (h4 : (Txt.slice t none (some 2) == Str.ofString "0B") = false) (h : (Txt.slice t none (some 1) == Str.ofString "0") = true) : rdBase (cl t) = (8, 0) := by
  rw [rd_nb h1 h2 h3 h4, if_pos (by rw [s0 h])]
theorem rd_n (h1 : (Txt.slice t none (some 2) == Str.ofString "0x") = false) (h2 : (Txt.slice t none (some 2) == Str.ofString "0X") = false) (h3 : (Txt.slice t none (some 2) == Str.ofString "0b") = false) (h4 : (Txt.slice t none (some 2) == Str.ofString "0B") = false) (h : (Txt.slice t none (some 1) == Str.ofString "0") = false) : rdBase (cl t) = (10, 0) := by
  rw [rd_nb h1 h2 h3 h4, if_neg (by rw [s0 h]; decide)]
end
end Mine
end

section
/-! part Plain5 -/
open PySem PySem.W PyProof.Rows
set_option linter.unusedVariables false
namespace Mine
theorem dw_len (p : Nat → Bool) (x : Nat) (S : List Nat) (hx : p x = false) : ∀ R : List Nat, (x :: S).length ≤ ((R ++ x :: S).dropWhile p).length
  | [] => by rw [List.nil_append, List.dropWhile_cons_of_neg (by rw [hx]; exact Bool.false_ne_true)]; exact Nat.le_refl _
  | a :: R => by
    have := dw_len p x S hx R
    rw [List.cons_append, List.dropWhile_cons]
    split
    · exact this
    · simp only [List.length_cons, List.length_append]; omega
theorem two_of {L : List Nat} {a b : Nat} (h : L.take 2 = [a, b]) : ∃ r, L = a :: b :: r := by
  match L, h with
  | x :: y :: r, h =>
    simp at h
    exact ⟨r, by rw [h.1, h.2]⟩
theorem stem_ge2 {L : List Nat} {a b : Nat} (h : L.take 2 = [a, b]) (hb : isSuf b = false) : 2 ≤ (stemR L).length := by
  obtain ⟨r, rfl⟩ := two_of h
  have := dw_len isSuf b [a] hb r.reverse
  unfold stemR
  rw [List.length_reverse]
  simpa using this
theorem stem_ge (L : List Nat) : (rdBase L).2 ≤ (stemR L).length := by
  unfold rdBase
  split
  · rename_i h
    rcases h with h | h
    · exact stem_ge2 h rfl
    · exact stem_ge2 h rfl
  · split
    · rename_i h
      rcases h with h | h
      · exact stem_ge2 h rfl
      · exact stem_ge2 h rfl
    · split <;> exact Nat.zero_le _
theorem stemR_len (L : List Nat) : (stemR L).length ≤ L.length := by
  have := (List.dropWhile_sublist isSuf (l := L.reverse)).length_le
  unfold stemR
  rw [List.length_reverse] at *
  exact this
theorem signs_cl (x : Str) : signs x = (cl x).map fun c => (⟨#[c]⟩ : Str) := by
  first | rfl | simp [signs, cl]
theorem rdBase_cases (L : List Nat) : (rdBase L).1 = 16 ∨ (rdBase L).1 = 2 ∨ (rdBase L).1 = 8 ∨ (rdBase L).1 = 10 := by
  unfold rdBase
  split
  · exact .inl rfl
  · split
    · exact .inr (.inl rfl)
    · split
      · exact .inr (.inr (.inl rfl))
      · exact .inr (.inr (.inr rfl))
theorem low_slice {t : Str} (hA : ∀ c ∈ cl t, c < 128) {c st : Nat} (hc : c ≤ t.length) (hct : (cl t).take c = stemR (cl t)) (hst : (rdBase (cl t)).2 = st) :
    cl (Txt.lower (Txt.slice t (some (st : Int)) (some (c : Int)))) = ((stemR (cl t)).drop st).map lo1 := by
  have hcl : c = (stemR (cl t)).length := by
    rw [← hct, List.length_take, cl_len]; omega
  have h1 : st ≤ c := by rw [hcl, ← hst]; exact stem_ge _
  have h2 : cl (Txt.slice t (some (st : Int)) (some (c : Int))) = (stemR (cl t)).drop st := by
    rw [slice_mid h1 (by rw [cl_len]; exact hc), hct]
  rw [low_list (fun d hd => hA d ?_), h2]
  rw [h2, ← hct] at hd
  exact List.mem_of_mem_take (List.mem_of_mem_drop hd)
end Mine
end

section
/-! part Plain6 -/
open PySem PySem.W PyProof.Rows
set_option linter.unusedVariables false
namespace Mine
def okDig (b : Int) (c : Nat) : Prop := (48 ≤ c ∧ c ≤ 57) ∨ (b = 16 ∧ ((97 ≤ c ∧ c ≤ 102) ∨ (65 ≤ c ∧ c ≤ 70)))
theorem cl_LOW : cl (Str.ofString "0123456789abcdef") = [48,49,50,51,52,53,54,55,56,57,97,98,99,100,101,102] := by decide +kernel
theorem cl_HIGH : cl (Str.ofString "0123456789ABCDEF") = [48,49,50,51,52,53,54,55,56,57,65,66,67,68,69,70] := by decide +kernel
theorem item_at {x : Str} {i : Int} (h0 : 0 ≤ i) (h : i.toNat < (cl x).length) : cl (Txt.item x i) = [(cl x)[i.toNat]] := by
  rw [item_meets (n := (cl x)[i.toNat]) h0 (by rw [← Array.getElem?_toList]; exact List.getElem?_eq_getElem h)]
  rfl
def lowL : List Nat := [48,49,50,51,52,53,54,55,56,57,97,98,99,100,101,102]
def highL : List Nat := [48,49,50,51,52,53,54,55,56,57,65,66,67,68,69,70]
theorem low_tab : ∀ n < 16, (48 ≤ lowL.getD n 0 ∧ lowL.getD n 0 ≤ 57) ∨ (10 ≤ n ∧ ((97 ≤ lowL.getD n 0 ∧ lowL.getD n 0 ≤ 102) ∨ (65 ≤ lowL.getD n 0 ∧ lowL.getD n 0 ≤ 70))) := by decide
theorem high_tab : ∀ n < 16, (48 ≤ highL.getD n 0 ∧ highL.getD n 0 ≤ 57) ∨ (10 ≤ n ∧ ((97 ≤ highL.getD n 0 ∧ highL.getD n 0 ≤ 102) ∨ (65 ≤ highL.getD n 0 ∧ highL.getD n 0 ≤ 70))) := by decide
theorem dig_of {L : List Nat} (hL : L = lowL ∨ L = highL) {b : Int} (hb : b = 10 ∨ b = 8 ∨ b = 16 ∨ b = 2) {n : Nat} (hn : (n : Int) < b) : okDig b (L.getD n 0) := by
  have h16 : n < 16 := by omega
  have := hL.elim (fun e => e ▸ low_tab n h16) (fun e => e ▸ high_tab n h16)
  rcases this with h | ⟨h, h'⟩
  · exact .inl h
  · exact .inr ⟨by omega, h'⟩
theorem item_dig {x : Str} (hx : cl x = lowL ∨ cl x = highL) {b r : Int} (hb : b = 10 ∨ b = 8 ∨ b = 16 ∨ b = 2) : ∃ c, cl (Txt.item x (r.fmod b)) = [c] ∧ okDig b c := by
  have h0 := Int.fmod_nonneg_of_pos r (b := b) (by omega)
  have h1 := Int.fmod_lt_of_pos r (b := b) (by omega)
  have hl : (r.fmod b).toNat < (cl x).length := by
    have : (cl x).length = 16 := by rcases hx with e | e <;> rw [e] <;> rfl
    omega
  refine ⟨_, item_at h0 hl, ?_⟩
  have := dig_of hx hb (n := (r.fmod b).toNat) (by omega)
  rw [List.getD_eq_getElem?_getD, List.getElem?_eq_getElem hl, Option.getD_some] at this
  exact this
/-- the while's word: what is left, and the figures written -/
def BodyInv (b : Int) (r : Int) (x : Str) : Prop := 0 ≤ r ∧ (cl x).length ≤ 20 ∧ r < b ^ (20 - (cl x).length) ∧ ∀ c ∈ cl x, okDig b c
theorem bodyInv_init {b r : Int} (h0 : 0 ≤ r) (h : r < b ^ 20) : BodyInv b r (Str.ofString "") := by
  have e : cl (Str.ofString "") = [] := by decide +kernel
  unfold BodyInv
  rw [e]
  exact ⟨h0, by decide, h, fun c hc => nomatch hc⟩
theorem bodyInv_step {b r : Int} {x y : Str} {c : Nat} (hb : b = 10 ∨ b = 8 ∨ b = 16 ∨ b = 2) (h : BodyInv b r x) (hr : 0 < r) (hy : cl y = [c]) (hc : okDig b c) : BodyInv b (r.fdiv b) (y ++ x) ∧ (r.fdiv b).toNat < r.toNat := by
  obtain ⟨h0, h1, h2, h3⟩ := h
  have hb2 : 2 ≤ b := by omega
  have hlt : (cl x).length < 20 := by
    rcases Nat.lt_or_ge (cl x).length 20 with h | h
    · exact h
    · have e : 20 - (cl x).length = 0 := by omega
      rw [e, Int.pow_zero] at h2; omega
  have e1 : r.fdiv b = r / b := by rw [Int.fdiv_eq_ediv_of_nonneg _ (by omega)]
  have hd0 : 0 ≤ r / b := Int.ediv_nonneg h0 (by omega)
  refine ⟨⟨by rw [e1]; exact hd0, ?_, ?_, ?_⟩, ?_⟩
  · rw [cl_append, hy]; simp only [List.length_append, List.length_cons, List.length_nil]; omega
  · rw [cl_append, hy, e1]
    have e2 : 20 - (cl x).length = (20 - ([c] ++ cl x).length) + 1 := by
      simp only [List.length_append, List.length_cons, List.length_nil]; omega
    rw [e2, Int.pow_succ] at h2
    exact Int.ediv_lt_of_lt_mul (by omega) h2
  · intro d hd
    rw [cl_append, hy] at hd
    rcases List.mem_append.mp hd with h | h
    · rw [List.mem_singleton.mp h]; exact hc
    · exact h3 d h
  · rw [e1]
    have := Int.ediv_lt_self_of_pos_of_ne_one hr (by omega : b ≠ 1)
    first | omega | (have := Int.toNat_of_nonneg hd0; omega)
theorem mem_join : ∀ {l : List Str} {c : Nat}, c ∈ cl (Str.join (Str.ofString "") l) → ∃ a ∈ l, c ∈ cl a
  | [], c, h => by
    have e : cl (Str.join (Str.ofString "") []) = [] := by decide +kernel
    rw [e] at h; cases h
  | [x], c, h => ⟨x, List.mem_cons_self .., h⟩
  | x :: y :: r, c, h => by
    have e : Str.join (Str.ofString "") (x :: y :: r) = x ++ Str.ofString "" ++ Str.join (Str.ofString "") (y :: r) := rfl
    have e0 : cl (Str.ofString "") = [] := by decide +kernel
    rw [e, cl_append, cl_append, e0, List.append_nil] at h
    rcases List.mem_append.mp h with h | h
    · exact ⟨x, List.mem_cons_self .., h⟩
    · obtain ⟨a, ha, hc⟩ := mem_join h
      exact ⟨a, List.mem_cons_of_mem _ ha, hc⟩
def tailSign (vc a : Int) : Str := Txt.item (Str.ofString "uUlL") (((vc.fdiv 5).fdiv ((4 : Int) ^ a.toNat)).fmod 4)
theorem tailSign_one (vc a : Int) : ∃ c, cl (tailSign vc a) = [c] ∧ isSuf c = true := by
  have h0 := Int.fmod_nonneg_of_pos ((vc.fdiv 5).fdiv ((4 : Int) ^ a.toNat)) (b := 4) (by decide)
  have h1 := Int.fmod_lt_of_pos ((vc.fdiv 5).fdiv ((4 : Int) ^ a.toNat)) (b := 4) (by decide)
  unfold tailSign
  generalize ((vc.fdiv 5).fdiv ((4 : Int) ^ a.toNat)).fmod 4 = z at h0 h1
  have hl : z.toNat < (cl (Str.ofString "uUlL")).length := by
    rw [cl_uUlL]; show z.toNat < 4; omega
  refine ⟨_, item_at h0 hl, ?_⟩
  have : ∀ n : Nat, ∀ h : n < (cl (Str.ofString "uUlL")).length, isSuf ((cl (Str.ofString "uUlL"))[n]) = true := by
    rw [cl_uUlL]; decide
  exact this _ hl
theorem tailSign_len (vc a : Int) : (tailSign vc a).length = 1 := by
  obtain ⟨c, hc, _⟩ := tailSign_one vc a
  rw [← cl_len, hc]; rfl
theorem tail_ok (vc : Int) {l : List Int} {x : Str} (hx : x = Txt.join (Str.ofString "") (l.map (tailSign vc))) : ∀ c ∈ cl x, isSuf c = true := by
  intro c hc
  have e : x = Str.join (Str.ofString "") (l.map (tailSign vc)) := by
    rw [hx]
    show Builtin.Str.glued (Str.ofString "") _ = _
    exact StrLaws.glued_eq_join _ _
  rw [e] at hc
  obtain ⟨a, ha, hc⟩ := mem_join hc
  obtain ⟨z, _, rfl⟩ := List.mem_map.mp ha
  obtain ⟨d, hd, hs⟩ := tailSign_one vc z
  rw [hd] at hc
  rw [List.mem_singleton.mp hc]; exact hs
end Mine
end

section
/-! part Plain7 -/
open PySem PySem.W PyProof.Rows
set_option linter.unusedVariables false
namespace Mine
def isX (c : Nat) : Bool := c == 120 || c == 88
def isB (c : Nat) : Bool := c == 98 || c == 66
def okc (c : Nat) : Bool := (c == 46 || decide (48 ≤ c)) && decide (c < 128) && !(c == 95) && !(c == 111) && !(c == 79)
def TextOk (x : Str) : Prop := x.length ≤ 200 ∧ (∀ c ∈ cl x, okc c = true) ∧ (cl x).countP isX ≤ 1 ∧ ((cl x).countP isB ≤ 1 ∨ ((cl x).take 2 ≠ [48, 98] ∧ (cl x).take 2 ≠ [48, 66]))
def marks : List Str := [Str.ofString "", Str.ofString "0", Str.ofString "0x", Str.ofString "0X", Str.ofString "0b", Str.ofString "0B"]
def strays : List Str := [Str.ofString "", Str.ofString ".", Str.ofString "", Str.ofString "e", Str.ofString "", Str.ofString "g", Str.ofString "9", Str.ofString "", Str.ofString "u", Str.ofString "L", Str.ofString ".5e"]
def baseOf (i : Nat) : Int := [10, 8, 16, 16, 2, 2].getD i 0
theorem marks_tab : ∀ i < 6, (cl (marks.getD i Str.empty)).length ≤ 2 ∧ (∀ c ∈ cl (marks.getD i Str.empty), okc c = true) ∧ (cl (marks.getD i Str.empty)).countP isX ≤ 1 ∧ (cl (marks.getD i Str.empty)).countP isB ≤ 1 ∧ (baseOf i ≠ 16 ∨ cl (marks.getD i Str.empty) = [48, 120] ∨ cl (marks.getD i Str.empty) = [48, 88]) := by
  decide +kernel
theorem strays_tab : ∀ i < 11, (cl (strays.getD i Str.empty)).length ≤ 3 ∧ (∀ c ∈ cl (strays.getD i Str.empty), okc c = true ∧ isX c = false ∧ isB c = false) ∧ (cl (strays.getD i Str.empty)).head? ≠ some 48 := by
  decide +kernel
theorem zeros_tab : ∀ n < 3, (cl (Txt.mul (Str.ofString "0") (n : Nat))).length ≤ 2 ∧ ∀ c ∈ cl (Txt.mul (Str.ofString "0") (n : Nat)), c = 48 := by
  decide +kernel
theorem okDig_ok {b : Int} {c : Nat} (h : okDig b c) : okc c = true ∧ isX c = false := by
  have : (48 ≤ c ∧ c ≤ 57) ∨ (97 ≤ c ∧ c ≤ 102) ∨ (65 ≤ c ∧ c ≤ 70) := by
    rcases h with h | ⟨_, h⟩
    · exact .inl h
    · exact .inr h
  constructor
  · simp only [okc, Bool.and_eq_true, Bool.or_eq_true, decide_eq_true_eq, Bool.not_eq_true', beq_iff_eq, beq_eq_false_iff_ne]; omega
  · simp only [isX, Bool.or_eq_false_iff, beq_eq_false_iff_ne]; omega
theorem okDig_nb {b : Int} {c : Nat} (h : okDig b c) (hb : b ≠ 16) : isB c = false := by
  rcases h with h | ⟨h, _⟩
  · simp only [isB, Bool.or_eq_false_iff, beq_eq_false_iff_ne]; omega
  · exact absurd h hb
theorem suf_ok {c : Nat} (h : isSuf c = true) : okc c = true ∧ isX c = false ∧ isB c = false := by
  have : c = 117 ∨ c = 85 ∨ c = 108 ∨ c = 76 := by
    simp only [isSuf, Bool.or_eq_true, beq_iff_eq] at h; omega
  rcases this with rfl | rfl | rfl | rfl <;> decide
theorem count0 {p : Nat → Bool} {L : List Nat} (h : ∀ c ∈ L, p c = false) : L.countP p = 0 := by
  rw [List.countP_eq_zero]
  intro c hc
  rw [h c hc]; exact Bool.false_ne_true
theorem text_okL {x : Str} {i : Nat} (hi : i < 6) {M Z B T S : List Nat} {sp : Nat} (hx : cl x = (M ++ Z ++ B ++ T).take sp ++ S ++ (M ++ Z ++ B ++ T).drop sp)
    (hM : M = cl (marks.getD i Str.empty)) (hZ : ∀ c ∈ Z, c = 48) (hZl : Z.length ≤ 2) (hB : ∀ c ∈ B, okDig (baseOf i) c) (hBl : B.length ≤ 20) (hT : ∀ c ∈ T, isSuf c = true) (hTl : T.length ≤ 4)
    {j : Nat} (hj : j < 11) (hS : S = cl (strays.getD j Str.empty)) : TextOk x := by
  obtain ⟨m1, m2, m3, m4, m5⟩ := marks_tab i hi
  obtain ⟨s1, s2, s3⟩ := strays_tab j hj
  rw [← hM] at m1 m2 m3 m4 m5
  rw [← hS] at s1 s2 s3
  have hcnt : ∀ p : Nat → Bool, (cl x).countP p = S.countP p + (M.countP p + Z.countP p + B.countP p + T.countP p) := by
    intro p
    rw [hx, List.countP_append, List.countP_append]
    have : ((M ++ Z ++ B ++ T).take sp).countP p + ((M ++ Z ++ B ++ T).drop sp).countP p = (M ++ Z ++ B ++ T).countP p := by
      rw [← List.countP_append, List.take_append_drop]
    rw [List.countP_append, List.countP_append, List.countP_append] at this
    omega
  have hlen : (cl x).length = S.length + (M.length + Z.length + B.length + T.length) := by
    rw [hx, List.length_append, List.length_append]
    have : ((M ++ Z ++ B ++ T).take sp).length + ((M ++ Z ++ B ++ T).drop sp).length = (M ++ Z ++ B ++ T).length := by
      rw [← List.length_append, List.take_append_drop]
    rw [List.length_append, List.length_append, List.length_append] at this
    omega
  refine ⟨?_, ?_, ?_, ?_⟩
  · rw [← cl_len]; omega
  · intro c hc
    have hall : ∀ c ∈ M ++ Z ++ B ++ T, okc c = true := by
      intro c hc
      simp only [List.mem_append] at hc
      rcases hc with ((hc | hc) | hc) | hc
      · exact m2 c hc
      · rw [hZ c hc]; decide
      · exact (okDig_ok (hB c hc)).1
      · exact (suf_ok (hT c hc)).1
    rw [hx] at hc
    rcases List.mem_append.mp hc with hc | hc
    · rcases List.mem_append.mp hc with hc | hc
      · exact hall c (List.mem_of_mem_take hc)
      · exact (s2 c hc).1
    · exact hall c (List.mem_of_mem_drop hc)
  · rw [hcnt, count0 (fun c hc => (s2 c hc).2.1), count0 (L := Z) (fun c hc => by rw [hZ c hc]; decide), count0 (L := B) (fun c hc => (okDig_ok (hB c hc)).2), count0 (L := T) (fun c hc => (suf_ok (hT c hc)).2.1)]
    omega
  · rcases Classical.em (baseOf i = 16) with hb | hb
    · right
      have hm : ∃ y, M = [48, y] ∧ isX y = true := by
        rcases m5 with h | h | h
        · exact absurd hb h
        · exact ⟨120, h, rfl⟩
        · exact ⟨88, h, rfl⟩
      obtain ⟨y, hm, hy⟩ := hm
      have hyb : y ≠ 98 ∧ y ≠ 66 := by
        simp only [isX, Bool.or_eq_true, beq_iff_eq] at hy; omega
      have key : ∀ a, (isB a = true) → (cl x).take 2 ≠ [48, a] := by
        intro a ha e
        have hay : a ≠ y := by rintro rfl; simp only [isB, isX, Bool.or_eq_true, beq_iff_eq] at ha hy; omega
        obtain ⟨r, hr⟩ := two_of e
        rw [hx, hm] at hr
        match sp, S, s2, s3, hr with
        | 0, [], _, _, hr => simp at hr; exact hay hr.1.symm
        | 0, z :: S, _, s3, hr => simp at hr; exact s3 (by rw [hr.1]; rfl)
        | 1, [], _, _, hr => simp at hr; exact hay hr.1.symm
        | 1, z :: S, s2, _, hr =>
          simp at hr
          have := (s2 z (List.mem_cons_self ..)).2.2
          rw [hr.1, ha] at this; cases this
        | sp + 2, S, _, _, hr => simp at hr; exact hay hr.1.symm
      exact ⟨key 98 rfl, key 66 rfl⟩
    · left
      rw [hcnt, count0 (fun c hc => (s2 c hc).2.2), count0 (L := Z) (fun c hc => by rw [hZ c hc]; decide), count0 (L := B) (fun c hc => okDig_nb (hB c hc) hb), count0 (L := T) (fun c hc => (suf_ok (hT c hc)).2.2)]
      omega
theorem text_ok (va : Int) {bd tl tx : Str} {sp : Nat} (hbd : ∀ c ∈ cl bd, okDig (baseOf (va.fmod 6).toNat) c) (hbl : (cl bd).length ≤ 20) (hts : ∀ c ∈ cl tl, isSuf c = true) (htl : (cl tl).length ≤ 4)
    (htx : tx = marks.getD (va.fmod 6).toNat Str.empty ++ Txt.mul (Str.ofString "0") ((va.fmod 5).fdiv 2) ++ bd ++ tl) (hsp : sp ≤ tx.length) :
    TextOk (Txt.slice tx none (some (sp : Int)) ++ strays.getD (va.fmod 11).toNat Str.empty ++ Txt.slice tx (some (sp : Int)) none) := by
  have h6a := Int.fmod_nonneg_of_pos va (b := 6) (by decide)
  have h6b := Int.fmod_lt_of_pos va (b := 6) (by decide)
  have hba := Int.fmod_nonneg_of_pos va (b := 11) (by decide)
  have hbb := Int.fmod_lt_of_pos va (b := 11) (by decide)
  have h5a := Int.fmod_nonneg_of_pos va (b := 5) (by decide)
  have h5b := Int.fmod_lt_of_pos va (b := 5) (by decide)
  have hz : ∃ n : Nat, (va.fmod 5).fdiv 2 = (n : Nat) ∧ n < 3 := by
    rw [Int.fdiv_eq_ediv_of_nonneg _ (by decide)]
    exact ⟨((va.fmod 5) / 2).toNat, by omega, by omega⟩
  obtain ⟨n, hn, hn3⟩ := hz
  obtain ⟨z1, z2⟩ := zeros_tab n hn3
  rw [hn] at htx
  have hL : cl tx = cl (marks.getD (va.fmod 6).toNat Str.empty) ++ cl (Txt.mul (Str.ofString "0") (n : Nat)) ++ cl bd ++ cl tl := by
    rw [htx, cl_append, cl_append, cl_append]
  have hsp' : sp ≤ (cl tx).length := by rw [cl_len]; exact hsp
  refine text_okL (i := (va.fmod 6).toNat) (by omega) (j := (va.fmod 11).toNat) (sp := sp) ?_ rfl z2 z1 hbd hbl hts htl (by omega) rfl
  rw [cl_append, cl_append, slice_to hsp', slice_from hsp', hL]
end Mine
end

section
/-! part NBase -/
open PySem PySem.W PyProof.Rows
set_option Elab.async false
set_option linter.unusedVariables false
set_option maxRecDepth 100000
namespace Mine
def EndAt (P : Shared → Prop) (f : Flow) (s' : Shared) : Prop := f = .next ∧ P s'
theorem wpC_leaf {M : Model} {A : Around} {env : Env} {st : Stmt} {rest : List Stmt} {Q : Flow → Shared → Prop} {E : Value → Shared → Prop} {s : Shared} (P : Shared → Prop)
    (h : wpAny M A (exec st env) (EndAt P) E s) (k : ∀ s', P s' → wpC M A (execs rest env) Q E s') : wpC M A (execs (st :: rest) env) Q E s :=
  wpC_execs_cons (wpC_mono (wpC_of_any h) (fun f s' ⟨e, p⟩ => by subst e; exact k s' p) fun _ _ x => x)
theorem fr_of {h₀ h : Heap} {L : Addr} {m m' : Str → Option Value} (F : Fr h₀ L h m) (e : ∀ y, m y = m' y) : Fr h₀ L h m' := by
  have : m = m' := funext e
  rw [← this]; exact F
theorem news_drop {h₀ h : Heap} {L : Addr} {news news' : List (Addr × Obj)} (N : News h₀ L h news') (hs : ∀ p ∈ news, p ∈ news') : News h₀ L h news := fun p hp => N p (hs p hp)

/-- a while over one text and one list of texts -/
def TwEnd (h₀ : Heap) (L : Addr) (s : Shared) (x : Str) (l : Addr) (news : List (Addr × Obj)) (m₀ : Str → Option Value) (P : Str → List Str → Prop) (num : Str) (s₂ : Shared) : Prop :=
  ∃ num' tn' vs' ws' k' h' tk', s₂ = { s with heap := h', toks := tk' } ∧ Fr h₀ L h' (fun z => if z = x then some (.str num' tn') else m₀ z) ∧ News h₀ L h' ((l, listOf (List.toArray vs') k') :: news) ∧ StrsAre vs' ws' ∧ P num' ws' ∧ num'.length < num.length
def TwPost (h₀ : Heap) (L : Addr) (s : Shared) (x : Str) (l : Addr) (news : List (Addr × Obj)) (m₀ : Str → Option Value) (P : Str → List Str → Prop) (Q : Flow → Shared → Prop) (num : Str) (f : Flow) (s₂ : Shared) : Prop :=
  match f with
  | .ret v => Q (.ret v) s₂
  | .brk => Q .next s₂
  | _ => TwEnd h₀ L s x l news m₀ P num s₂
theorem tw_fr {h₀ h : Heap} {L : Addr} {x : Str} {v : Value} {u m₀ : Str → Option Value} (F : Fr h₀ L h (kstB (fun z => if ([] : List Str).contains z then u z else m₀ z) [(x, v)])) :
    Fr h₀ L h (fun z => if z = x then some v else m₀ z) := fr_of F fun y => by
  show (if y = x then some v else if ([] : List Str).contains y = true then u y else m₀ y) = _
  simp
theorem tw_while {prog : Program} {w : World} {A : Around} {E : Value → Shared → Prop} {Q : Flow → Shared → Prop} {s : Shared} {env : Env} {h₀ : Heap} {L : Addr} {test : PySem.Expr} {body : List Stmt} {pos : Pos}
    {x : Str} {x₀ : Str} {t₀ : Tok} {l : Addr} {news : List (Addr × Obj)} {m₀ : Str → Option Value} (P : Str → List Str → Prop)
    (F : Fr h₀ L s.heap m₀) (N : News h₀ L s.heap ((l, listOf (List.toArray []) 0) :: news)) (hx : m₀ x = some (.str x₀ t₀)) (hP : P x₀ [])
    (turn : ∀ num tn vs ws k h tk', StrsAre vs ws → P num ws → Fr h₀ L h (fun z => if z = x then some (.str num tn) else m₀ z) → News h₀ L h ((l, listOf (List.toArray vs) k) :: news) →
      wpAny (model prog w) A (isTrue test env (eval test env)) (fun b s₂ =>
        if b = true then wpAny (model prog w) A (execs body env) (TwPost h₀ L s x l news m₀ P Q num) E s₂ else Q .next s₂) E { s with heap := h, toks := tk' })
    (hE : PassesOwn (model prog w) A env E) :
    wpAny (model prog w) A (exec (.While test body [] pos) env) Q E s := by
  refine ksw_while (σ := Str × Tok × List Value × List Str × Nat) (fun c => (l, listOf (List.toArray c.2.2.1) c.2.2.2.2) :: news) (fun c => [(x, .str c.1 c.2.1)]) (fun c => StrsAre c.2.2.1 c.2.2.2.1) [] (fun c => P c.1 c.2.2.2.1) (fun c => c.1.length) (x₀, t₀, [], [], 0)
    F N .nil (by intro p hp; rw [List.mem_singleton.mp hp]; exact hx) hP ?_ hE
  rintro ⟨num, tn, vs, ws, k⟩ u h tk hS hPn F₁ N₁
  refine wpAny_mono (turn num tn vs ws k h tk hS hPn (tw_fr F₁) N₁) (fun b s₂ hb => ?_) fun _ _ y => y
  cases b with
  | false => exact hb
  | true =>
    simp only [if_true] at hb ⊢
    refine wpAny_mono hb (fun f s₃ hf => ?_) fun _ _ y => y
    have back : TwEnd h₀ L s x l news m₀ P num s₃ → KswEnd h₀ L s (fun c : Str × Tok × List Value × List Str × Nat => (l, listOf (List.toArray c.2.2.1) c.2.2.2.2) :: news) (fun c => [(x, .str c.1 c.2.1)]) (fun c => StrsAre c.2.2.1 c.2.2.2.1) [] m₀ (fun c => P c.1 c.2.2.2.1) (fun c => c.1.length) (num, tn, vs, ws, k) s₃ := by
      rintro ⟨num', tn', vs', ws', k', h', tk', rfl, F', N', hS', hP', hm⟩
      refine ⟨(num', tn', vs', ws', k'), h', tk', _, _, rfl, F', N', fun p hp => hp, hS', ?_, ?_, hP', hm⟩
      · intro p hp; rw [List.mem_singleton.mp hp]; exact if_pos rfl
      · intro z hz _
        have : z ≠ x := hz _ (List.mem_singleton.mpr rfl)
        exact if_neg this
    cases f with
    | ret v => exact hf
    | brk => exact hf
    | next => exact back hf
    | cont => exact back hf
end Mine
end

section
/-! part NEnd -/
open PySem PySem.W PyProof.Rows Builtin Builtin.Str
set_option Elab.async false
set_option linter.unusedVariables false
namespace Mine
section
variable {prog : Program} {w : World} {A : Around} {E : Value → Shared → Prop} {s : Shared}
theorem asStr_ref' {M : Model} {a : Addr} {o : Obj} {items : Array Value} {n : Nat} {Q : Option PySem.Str → Shared → Prop} (ho : s.heap.get? a = some o) (hd : o.data = .seq items n) (h : Q none s) : wpAny M A (asStr? (.ref a)) Q E s := by
  simp only [asStr?]
  refine wpAny_bind (wpAny_load ho ?_)
  rw [hd]
  exact wpAny_pure h
theorem sub_tuple : isSubtype (.type "tuple") (.type "tuple") = pure true := by first | rfl | kernel_rfl
theorem ends_pair {x y z : Str} {t u v : Tok} {a : Addr} {Q : Value → Shared → Prop} (ht : IsTup s.heap a #[.str y u, .str z v])
    (h : Q (.bool (Txt.endswith x y || Txt.endswith x z)) s) : wpAny (model prog w) A (call (.builtin "str.endswith") [.str x t, .ref a]) Q E s := by
  obtain ⟨o, ho, hc, n, hd⟩ := ht
  refine wpAny_call (codeAny_call_builtin F.slot_str_endswith.plain F.entry_str_endswith (F.slot_str_endswith.check _ _ _ _ _ _ _ _ (typeIs_str _ _ _) (F.args_str_endswith_2 _ _) ?_))
  show wpAny _ _ (affixEntry "endswith" (fun s lo hi p => lo + p.length ≤ hi && subAt s p (hi - p.length)) ⟨[.str x t, .ref a], []⟩) _ _ _
  unfold affixEntry
  refine wpAny_bind (wpAny_of_eq (a := (.str x t, x, [.ref a])) rfl ?_)
  dsimp only
  refine wpAny_bind (wpAny_of_eq (searchRange_nil x.length) ?_)
  dsimp only
  refine wpAny_bind (asStr_ref' ho hd ?_)
  dsimp only
  refine wpAny_bind (wpAny_isInstance ⟨o, ho, hc⟩ sub_tuple ?_)
  rw [if_pos rfl]
  refine wpAny_bind (wpAny_rule ?_)
  refine wpAny_bind (wpAny_seqItems ho hd ?_)
  dsimp only
  have hy : Txt.endswith x y = (decide (0 + y.length ≤ x.length) && subAt x y (x.length - y.length)) := rfl
  have hz : Txt.endswith x z = (decide (0 + z.length ≤ x.length) && subAt x z (x.length - z.length)) := rfl
  rw [hy, hz] at h
  generalize hb1 : (decide (0 + y.length ≤ x.length) && subAt x y (x.length - y.length)) = b1 at h
  generalize hb2 : (decide (0 + z.length ≤ x.length) && subAt x z (x.length - z.length)) = b2 at h
  have e1 : (asStr? (.str y u) : Sem (Option Str)) = pure (some y) := rfl
  have e2 : (asStr? (.str z v) : Sem (Option Str)) = pure (some z) := rfl
  simp only [List.forIn_toArray, List.forIn_cons, List.forIn_nil, e1, e2, pure_bind, hb1, hb2]
  cases b1 with
  | true => 
    simp only [if_true, bind_assoc, pure_bind]
    exact wpAny_bind (wpAny_pure (wpAny_pure h))
  | false =>
    cases b2 with
    | true =>
      simp only [if_true, bind_assoc, pure_bind, Bool.false_eq_true, if_false]
      exact wpAny_bind (wpAny_pure (wpAny_pure h))
    | false =>
      simp only [bind_assoc, pure_bind, Bool.false_eq_true, if_false]
      exact wpAny_pure h
end
end Mine
end

section
/-! part N1 -/
open PySem PySem.W PyProof.Rows
set_option Elab.async false
set_option linter.unusedVariables false
namespace Mine
theorem tup_news {h₀ h : Heap} {L a : Addr} {news : List (Addr × Obj)} {vs : Array Value} {k : Nat} (N : News h₀ L h ((a, { cls := .type "tuple", data := .seq vs k }) :: news)) : IsTup h a vs := ⟨_, (N _ (List.mem_cons_self ..)).1, rfl, _, rfl⟩
local macro_rules | `(tactic| walk_at "call builtin:str.endswith") => `(tactic| (k_here; (show wpAny _ _ (call (Value.builtin "str.endswith") [Value.str _ _, Value.ref _]) _ _ _); (refine ends_pair (tup_news (by assumption)) ?_)))
section
variable {prog : Program} {w : World} {A : Around} {E : Value → Shared → Prop} {s : Shared} {h₀ : Heap} {L D l : Addr} {o : Obj} {m : Str → Option Value} {news : List (Addr × Obj)} {its : Array Value} {n : Nat} {x : Value} {Q : Value → Shared → Prop}
theorem app2 (F : Fr h₀ L s.heap m) (N : News h₀ L s.heap ((D, o) :: (l, listOf its n) :: news)) (hD : l < D ∧ AllLt D news) (hl : ∀ p ∈ news, p.1 < l) (hsz : its.size ≤ sizeLine)
    (h : ∀ h', Fr h₀ L h' m → News h₀ L h' ((D, o) :: (l, listOf (its.push x) (n + 1)) :: news) → Q .none { s with heap := h' }) : wpAny (model prog w) A (call (.builtin "list.append") [.ref l, x]) Q E s :=
  append_K F N (.tail (Nat.ne_of_gt hD.1) (.head fun p hp => Nat.ne_of_lt (hl p hp))) h hsz
theorem app1 (F : Fr h₀ L s.heap m) (N : News h₀ L s.heap ((l, listOf its n) :: news)) (hl : ∀ p ∈ news, p.1 < l) (hsz : its.size ≤ sizeLine)
    (h : ∀ h', Fr h₀ L h' m → News h₀ L h' ((l, listOf (its.push x) (n + 1)) :: news) → Q .none { s with heap := h' }) : wpAny (model prog w) A (call (.builtin "list.append") [.ref l, x]) Q E s :=
  append_K F N (.head fun p hp => Nat.ne_of_lt (hl p hp)) h hsz
end
local macro_rules | `(tactic| walk_at "call builtin:list.append") => `(tactic| (k_here; (show wpAny _ _ (call (Value.builtin _) [Value.ref _, _]) _ _ _); first
  | (refine app2 (by assumption) (by assumption) (by assumption) (by assumption) (by size_fits) ?_; intro _ F' N')
  | (refine app1 (by assumption) (by assumption) (by assumption) (by size_fits) ?_; intro _ F' N')))
def mNum (t : Str) (tt : Tok) (num : Str) (tn : Tok) : Str → Option Value := fun y => if y = Str.ofString "num" then some (.str num tn) else if y = Str.ofString "txt" then some (.str t tt) else none
def mBase (t : Str) (tt : Tok) (num : Str) (tn : Tok) (b : Int) (tb : Tok) : Str → Option Value := fun y => if y = Str.ofString "base" then some (.int b tb) else mNum t tt num tn y
def mTs (t : Str) (tt : Tok) (num : Str) (tn : Tok) (b : Int) (tb : Tok) (wl : Addr) : Str → Option Value := fun y => if y = Str.ofString "type_specifiers" then some (.ref wl) else mBase t tt num tn b tb y
def StA (g : Heap) (L : Addr) (news : List (Addr × Obj)) (s : Shared) (t : Str) (tt : Tok) (s' : Shared) : Prop :=
  ∃ h tk tn, s' = { s with heap := h, toks := tk } ∧ Fr g L h (mNum t tt (Txt.lower t) tn) ∧ News g L h news
def StB (g : Heap) (L : Addr) (news : List (Addr × Obj)) (s : Shared) (t : Str) (tt : Tok) (s' : Shared) : Prop :=
  ∃ h tk num tn b tb, s' = { s with heap := h, toks := tk } ∧ Fr g L h (mBase t tt num tn b tb) ∧ News g L h news ∧ (cl num, b) = ((cnBase (cl (Txt.lower t))).1, ((cnBase (cl (Txt.lower t))).2 : Int))
def StC (g : Heap) (L : Addr) (news : List (Addr × Obj)) (s : Shared) (t : Str) (tt : Tok) (num : Str) (tn : Tok) (b : Int) (tb : Tok) (s' : Shared) : Prop :=
  ∃ h tk wl, s' = { s with heap := h, toks := tk } ∧ Fr g L h (mTs t tt num tn b tb wl) ∧ News g L h ((wl, listOf (List.toArray []) 0) :: news) ∧ ∀ p ∈ news, p.1 < wl
def StD (g : Heap) (L : Addr) (news : List (Addr × Obj)) (s : Shared) (t : Str) (tt : Tok) (num : Str) (tn : Tok) (b : Int) (tb : Tok) (wl : Addr) (W : Str → List Str → Prop) (s' : Shared) : Prop :=
  ∃ h tk num' tn' vs ws k, s' = { s with heap := h, toks := tk } ∧ Fr g L h (fun z => if z = Str.ofString "num" then some (.str num' tn') else mTs t tt num tn b tb wl z) ∧ News g L h ((wl, listOf (List.toArray vs) k) :: news) ∧ StrsAre vs ws ∧ W num' ws
theorem tw_news {h₀ h : Heap} {L : Addr} {D l : Addr} {o : Obj} {vs : List Value} {x : Value} {n : Nat} {news : List (Addr × Obj)} (N : News h₀ L h ((D, o) :: (l, listOf ((List.toArray vs).push x) n) :: news)) : News h₀ L h ((l, listOf (List.toArray (vs ++ [x])) n) :: news) := by
  have := news_drop N fun p hp => List.mem_cons_of_mem _ hp
  rwa [List.push_toArray] at this
theorem tw_news1 {h₀ h : Heap} {L : Addr} {l : Addr} {vs : List Value} {x : Value} {n : Nat} {news : List (Addr × Obj)} (N : News h₀ L h ((l, listOf ((List.toArray vs).push x) n) :: news)) : News h₀ L h ((l, listOf (List.toArray (vs ++ [x])) n) :: news) := by
  rwa [List.push_toArray] at N
theorem sufs_len (L : List Nat) : (sufs L).length ≤ L.length := by
  have := (List.takeWhile_sublist isUL (l := L.reverse)).length_le
  rwa [List.length_reverse] at this
theorem strs_snoc' {us : List Value} {ws : List Str} {x : Str} {t : Tok} (h : StrsAre us ws) : StrsAre (us ++ [.str x t]) (ws ++ [x]) := h.append' (.cons _ _ .nil)
theorem tw_eq (a b : Str) (ta tb : Tok) (m₀ : Str → Option Value) (y : Str) : (if y = Str.ofString "num" then some (Value.str a ta) else if y = Str.ofString "num" then some (.str b tb) else m₀ y) = (if y = Str.ofString "num" then some (Value.str a ta) else m₀ y) := by
  by_cases h : y = Str.ofString "num" <;> simp [h]
theorem m_base (t : Str) (tt : Tok) (num num' : Str) (tn tn' : Tok) (b : Int) (tb : Tok) (y : Str) :
    (if y = Str.ofString "base" then some (Value.int b tb) else if y = Str.ofString "num" then some (.str num' tn') else mNum t tt num tn y) = mBase t tt num' tn' b tb y := by
  unfold mBase mNum
  by_cases h : y = Str.ofString "num"
  · simp [h]
  · simp [h]
theorem wpC_callWith_typeE {prog : Program} {w : World} {A : Around} {E : Value → Shared → Prop} {s : Shared} {env : Env} {pos : Pos} {T : String} {first : List Value} {e : PySem.Expr} {rest : List PySem.Expr} {Q : Value → Shared → Prop}
    (h : wpC (model prog w) A (spliced (backTo pos (starEach (e :: rest) env))) (fun vs s₁ => wpC (model prog w) A (call (.type T) (first ++ vs)) Q E s₁) E s)
    (he : starEach (e :: rest) env = (false, eval e env) :: starEach rest env := by rfl) (hplain : (backTo pos (starEach rest env)).any (·.1) = false := by rfl) :
    wpC (model prog w) A (callWith pos (.type T) first (backTo pos (starEach (e :: rest) env)) []) Q E s := by
  rw [he] at h ⊢
  exact wpC_callWith_type (by show (false || (backTo pos (starEach rest env)).any (·.1)) = false; rw [hplain]; rfl) (wpC_evalArgs h)
theorem wpC_last {M : Model} {A : Around} {env : Env} {st : Stmt} {Q : Flow → Shared → Prop} {E : Value → Shared → Prop} {s : Shared} (h : wpC M A (exec st env) Q E s) : wpC M A (execs [st] env) Q E s :=
  wpC_execs_cons (wpC_mono h (fun f s' q => by
    cases f with
    | next => exact wpC_execs_nil q
    | _ => exact q) fun _ _ x => x)
set_option maxRecDepth 100000 in
set_option maxHeartbeats 8000000 in
theorem cnum_claim (w : World) (mean : ExcName → Option Value) (mg mb : Str → Option Value) (cn : Str) (cs : Scope) (La : Addr) (fa : Addr) (ccd : Value) (h₀ : Heap) (m : Str → Option Value) (news : List (Addr × Obj)) (s : Shared) (Q E : Value → Shared → Prop)
    (t : Str) (tt : Tok) (hlen : t.length ≤ 200) (hA : ∀ c ∈ cl t, 46 ≤ c ∧ c < 128 ∧ c ≠ 47)
    (B : Below callerA h₀ [] h₀) (F : Fr h₀ La s.heap m) (X : (hd.heap_39 w.params).In h₀) (N : News h₀ La s.heap news) (T : Top hd.view_39 (looseW hd.view_39 []) mean mg mb h₀) (hk : cs.kind = .function)
    (hpre : NumText.prefix? (stem (cnBase ((cl t).map lo1)).1) ≠ some (cnBase ((cl t).map lo1)).2)
    (hOk : ∀ n ws, cnumF (cl t) = some (n, ws) → ∀ h' tk tp wl vs k tn, Fr h₀ La h' m → News h₀ La h' ((tp, { cls := .type "tuple", data := .seq #[.int (n : Int) tn, .ref wl] }) :: (wl, listOf (List.toArray vs) k) :: news) → StrsAre vs ws →
      wl < tp ∧ AllLt tp news → (∀ p ∈ news, p.1 < wl) → Q (.ref tp) { s with heap := h', toks := tk })
    (hEr : cnumF (cl t) = none → ∀ g h' tk e, Fr h₀ La g m → g.UpToSlots h' → RaisedN h₀ [envOf cn cs La fa ccd] e (.type "ValueError") news h' → E (.ref e) { s with heap := h', toks := tk }) :
    wpC (model PySem.Challenge.rw_te0066_01.row.prog w) (callerA.deeper (envOf cn cs La fa ccd)) (call (.ref 21) [.str t tt]) Q E s := by
  w_on
  revert X; k_fill; intro X
  refine wpC_call ?_
  k_dflt (refine' codeC_def ?k1 ?k2 ?k3 ?k4 ?k5 ?kA ?kF ?kK ?k6 ?k7 ?k8 ?k9 ?kB ?_ ?c2 ?c3 ?c4 ?c5; (case kA => exact rfl); (case kF => exact rfl); (case kK => assumption); (case k1 => k_asm); (case k2 => k_asm); (case k3 => k_asm); (case k4 => k_asm); (case k5 => k_asm); (case k6 => k_is); (case k7 => k_is); (case k8 => k_room); (case k9 => exact BindsTo.of_eq rfl); (case c5 => decide); (case kB => exact locs rfl); (case c2 => exact rfl); (case c3 => exact rfl); (case c4 => exact rfl); k_whole; intro g' L' h' FG' F' N' B' X' T' l1; (try dsimp only))
  generalize hQ : (fun (fl : Flow) (s' : Shared) => LeaveK h₀ La m g' _ _ s') = Qn
  generalize hE : (fun (e : Value) (s' : Shared) => wpAny _ _ (leaving _ e) _ _ s') = En
  have F1 : Fr g' L' h' (fun y => if y = Str.ofString "txt" then some (.str t tt) else none) := fr_of F' fun y => by
    show List.lookup y [(Str.ofString "txt", Value.str t tt)] = _
    rw [List.lookup_cons, List.lookup_nil]
    by_cases hy : y = Str.ofString "txt"
    · rw [if_pos hy, hy, beq_self_eq_true]
    · rw [if_neg hy, beq_eq_false_iff_ne.mpr hy]
  clear F'
  refine wpC_leaf (fun s' => ∃ h tk, s' = { s with heap := h, toks := tk } ∧ Fr g' L' h (fun y => if y = Str.ofString "txt" then some (.str t tt) else none) ∧ News g' L' h news) ?_ ?_
  · k_fold
    k_steps
    exact ⟨rfl, _, _, rfl, by assumption, by assumption⟩
  rintro _ ⟨h1, tk1, rfl, F1, N1⟩
  refine wpC_leaf (StA g' L' news s t tt) ?_ ?_
  · k_fold
    k_steps
    refine' ⟨rfl, _, _, _, rfl, fr_of (by assumption) ?_, by assumption⟩
    all_goals (try (intro y; rfl))
  rintro _ ⟨h2, tk2, tn2, rfl, F2, N2⟩
  refine wpC_last (wpC_If ?_)
  k_fold
  k_steps
  · refine wpC_leaf (StB g' L' news s t tt) ?_ ?_
    · k_fold
      k_steps
      · refine' ⟨rfl, _, _, _, _, _, _, rfl, fr_of (by assumption) ?_, by assumption, cb_x (by assumption)⟩
        all_goals (try (intro y; exact m_base ..))
      · refine' ⟨rfl, _, _, _, _, _, _, rfl, fr_of (by assumption) ?_, by assumption, cb_b (by assumption) (by assumption)⟩
        all_goals (try (intro y; exact m_base ..))
      · refine' ⟨rfl, _, _, _, _, _, _, rfl, fr_of (by assumption) ?_, by assumption, cb_0 (by assumption) (by assumption) (by assumption)⟩
        all_goals (try (intro y; rfl))
      · refine' ⟨rfl, _, _, _, _, _, _, rfl, fr_of (by assumption) ?_, by assumption, cb_n (by assumption) (by assumption) (by assumption)⟩
        all_goals (try (intro y; rfl))
    rintro _ ⟨h3, tk3, num, tn, b, tb, rfl, F3, N3, hnb⟩
    refine wpC_leaf (StC g' L' news s t tt num tn b tb) ?_ ?_
    · k_fold
      k_steps
      refine' ⟨rfl, _, _, _, rfl, fr_of (by assumption) ?_, by assumption, by assumption⟩
      all_goals (try (intro y; rfl))
    rintro _ ⟨h4, tk4, wl, rfl, F4, N4, l4⟩
    have hlow : cl (Txt.lower t) = (cl t).map lo1 := low_list fun c hc => (hA c hc).2.1
    have hnl : num.length ≤ 200 := Nat.le_trans (num_len hnb) (by rw [← cl_len, hlow, List.length_map, cl_len]; exact hlen)
    refine wpC_leaf (StD g' L' news s t tt num tn b tb wl (fun num' ws => stem (cl num) = cl num' ∧ ws = (sufs (cl num)).map wordOf)) ?_ ?_
    · refine tw_while (x := Str.ofString "num") (t₀ := tn) (SufInv (cl num)) F4 N4 rfl (sufInv_init num) ?_ (by rw [← hE]; passes_own)
      intro num' tn' vs' ws' k' h tk' hS hP F5 N5
      have hn' : num'.length ≤ 200 := Nat.le_trans (sufInv_len hP) (by rw [cl_len]; exact hnl)
      have hv' : (List.toArray vs').size ≤ 200 := by
        rw [List.size_toArray, StrsAre.length hS]
        exact Nat.le_trans (sufInv_ws hP) (by rw [cl_len]; exact hnl)
      show wpAny _ _ _ _ _ _
      k_fold
      k_steps
      · refine' ⟨_, _, _, _, _, _, _, rfl, fr_of (by assumption) ?_, tw_news (by assumption), strs_snoc' hS, (sufInv_u hP (by assumption)).1, (sufInv_u hP (by assumption)).2⟩
        all_goals (try (intro y; exact tw_eq ..))
      · refine' ⟨_, _, _, _, _, _, _, rfl, fr_of (by assumption) ?_, tw_news (by assumption), strs_snoc' hS, (sufInv_l hP (by assumption)).1, (sufInv_l hP (by assumption)).2⟩
        all_goals (try (intro y; exact tw_eq ..))
      · exact absurd (by assumption : (Txt.endswith num' (Str.ofString "l") || Txt.endswith num' (Str.ofString "u")) = true) (by rw [‹Txt.endswith num' (Str.ofString "l") = false›, ‹Txt.endswith num' (Str.ofString "u") = false›]; decide)
      · exact ⟨rfl, _, _, _, _, _, _, _, rfl, by assumption, news_drop (by assumption) fun p hp => List.mem_cons_of_mem _ hp, hS, sufInv_end hP (by assumption)⟩
    · rintro _ ⟨h5, tk5, num', tn', vs, ws, k5, rfl, F5, N5, hS, hst, hws⟩
      refine wpC_leaf (StD g' L' news s t tt num tn b tb wl (fun num' ws => stem (cl num) = cl num' ∧ ws = orInt ((sufs (cl num)).map wordOf))) ?_ ?_
      · have hv' : (List.toArray vs).size ≤ 200 := by
          rw [List.size_toArray, StrsAre.length hS, hws]
          rw [List.length_map]
          exact Nat.le_trans (sufs_len _) (by rw [cl_len]; exact hnl)
        show wpAny _ _ _ _ _ _
        k_fold
        k_steps
        · exact ⟨rfl, _, _, _, _, _, _, _, rfl, by assumption, tw_news1 (by assumption), strs_snoc' hS, hst, by rw [← hws]; exact orInt_nil (strs_nil hS (by assumption))⟩
        · exact ⟨rfl, _, _, _, _, _, _, _, rfl, by assumption, by assumption, hS, hst, by rw [← hws]; exact orInt_cons (strs_ne hS (by assumption))⟩
      clear hst hws hS N5 F5
      rintro _ ⟨h6, tk6, num', tn', vs, ws, k6, rfl, F6, N6, hS, hst, hws⟩
      refine wpC_last (wpC_Return_some (wpC_Tuple ?_))
      refine wpC_spliced_cons (wpC_Call_Name ?_)
      show wpAny _ _ _ _ _ _
      k_fold
      k_steps
      refine wpC_callWith_typeE (wpC_of_any ?_)
      show wpAny _ _ _ _ _ _
      k_fold
      k_steps
      have hb2 : b = ((cnBase ((cl t).map lo1)).2 : Int) := by rw [← hlow]; exact congrArg Prod.snd hnb
      have hnum : cl num = (cnBase ((cl t).map lo1)).1 := by rw [← hlow]; exact congrArg Prod.fst hnb
      rw [hnum] at hst hws
      have hok := stem_ok hA (dot_out (by assumption))
      rw [hst] at hok
      have hpl := numText_plain hok
      have hl2 : (cl num').length ≤ 200 := by
        rw [← hst, ← hnum]
        exact Nat.le_trans (stem_len _) (by rw [cl_len]; exact hnl)
      have hbn : b.toNat = (cnBase ((cl t).map lo1)).2 := by rw [hb2]; rfl
      have hbc := cnBase_cases ((cl t).map lo1)
      rw [hst] at hpre
      have hb36 : ((b != 0 && decide (b < 2)) || decide (b > 36)) = false := by
        rw [hb2]
        rcases hbc with e | e | e | e <;> rw [e] <;> rfl
      have hc46 : 46 ∉ cl t := dot_out (by assumption)
      cases hdg : NumText.digits? (cnBase ((cl t).map lo1)).2 (cl num') with
      | none =>
        have hnone : cnumF (cl t) = none := by unfold cnumF; rw [if_neg hc46, hst, hdg]
        refine wpC_int_bad rfl hb36 (by rw [hbn]; rcases hbc with e | e | e | e <;> rw [e] <;> decide) (by rw [hpl.2]; omega) (by rw [hpl.2, hbn]; exact numeral_bad (fun c hc => (hok c hc).1) hpre (by rcases hbc with e | e | e | e <;> rw [e] <;> decide) hdg) ?_ ?_
        · have hrl : (reprText num').length ≤ 10 * num'.length + 2 := StrLaws.reprText_len num' fun c hc => Nat.lt_trans (hok c hc).2 (by decide)
          rw [cl_len] at hl2
          rw [sizeLine_eq]
          omega
        · intro h' tk e hn
          rw [← hE]
          show wpAny _ _ (leaving _ (.ref _)) _ _ _
          refine' leave_newK B' ?k0 ?k2 ?k3 ?_
          case k0 => exact hn
          case k2 => exact F6
          case k3 => exact news_drop N6 fun p hp => List.mem_cons_of_mem _ hp
          intro h' R' U'
          exact hEr hnone _ _ _ _ FG' U' R'
      | some ds =>
        have hsome : cnumF (cl t) = some (ds.foldl (fun acc d => acc * (cnBase ((cl t).map lo1)).2 + d) 0, orInt ((sufs (cnBase ((cl t).map lo1)).1).map wordOf)) := by unfold cnumF; rw [if_neg hc46, hst]; rw [hdg]
        refine wpC_of_any (wpAny_int_base hb36 (by rw [hpl.2]; omega) (by rw [hpl.2, hbn]; exact numeral_ok (fun c hc => (hok c hc).1) hpre (by rcases hbc with e | e | e | e <;> rw [e] <;> decide) (by omega) hdg) (by rw [hpl.1, hpl.2]; exact beq_self_eq_true _) ?_)
        show wpAny _ _ _ _ _ _
        k_fold
        k_steps
        rw [← hQ]
        refine ⟨L', _, _, by assumption, by assumption, fun kF kN => ?_⟩
        exact hOk _ _ hsome _ _ _ _ _ _ _ kF kN (by rw [← hws]; exact hS) (by assumption) l4
  · refine wpC_of_any ?_
    (try k_fold)
    k_steps
    rw [← hE]
    show wpAny _ _ (leaving _ (.ref _)) _ _ _
    refine' leave_newK B' ?k0 ?k2 ?k3 ?_
    case k0 => exact Heap.MadeExc.newExc (by assumption)
    case k2 => assumption
    case k3 => exact news_drop (by assumption) fun p hp => List.mem_cons_of_mem _ hp
    intro h' R' U'
    exact hEr (if_pos (dot_in (by assumption))) _ _ _ _ FG' U' R'
end Mine
end

section
/-! part NBase2 -/
open PySem PySem.W PyProof.Rows
set_option Elab.async false
set_option linter.unusedVariables false
set_option maxRecDepth 100000
namespace Mine
theorem wpAny_leaf {M : Model} {A : Around} {env : Env} {st : Stmt} {rest : List Stmt} {Q : Flow → Shared → Prop} {E : Value → Shared → Prop} {s : Shared} (P : Shared → Prop)
    (h : wpAny M A (exec st env) (EndAt P) E s) (k : ∀ s', P s' → wpAny M A (execs rest env) Q E s') : wpAny M A (execs (st :: rest) env) Q E s :=
  wpAny_execs_cons (wpAny_mono h (fun f s' ⟨e, p⟩ => by subst e; exact k s' p) fun _ _ x => x)
/-- a statement that may leave the block: P where it goes on, Q otherwise -/
def EndOr (P : Shared → Prop) (Q : Flow → Shared → Prop) (f : Flow) (s' : Shared) : Prop := match f with | .next => P s' | f => Q f s'
theorem wpAny_leafR {M : Model} {A : Around} {env : Env} {st : Stmt} {rest : List Stmt} {Q : Flow → Shared → Prop} {E : Value → Shared → Prop} {s : Shared} (P : Shared → Prop)
    (h : wpAny M A (exec st env) (EndOr P Q) E s) (k : ∀ s', P s' → wpAny M A (execs rest env) Q E s') : wpAny M A (execs (st :: rest) env) Q E s :=
  wpAny_execs_cons (wpAny_mono h (fun f s' p => by
    cases f with
    | next => exact k s' p
    | _ => exact p) fun _ _ x => x)
/-- a while over one int and one list of texts -/
def IwEnd (h₀ : Heap) (L : Addr) (s : Shared) (x : Str) (l : Addr) (news : List (Addr × Obj)) (m₀ : Str → Option Value) (P : Nat → List Str → Prop) (n : Nat) (s₂ : Shared) : Prop :=
  ∃ (n' : Nat) (tn' : Tok) (vs' : List Value) (ws' : List Str) (k' : Nat) (h' : Heap) (tk' : Nat), s₂ = { s with heap := h', toks := tk' } ∧ Fr h₀ L h' (fun z => if z = x then some (.int (n' : Int) tn') else m₀ z) ∧ News h₀ L h' ((l, listOf (List.toArray vs') k') :: news) ∧ StrsAre vs' ws' ∧ P n' ws' ∧ n' < n
def IwPost (h₀ : Heap) (L : Addr) (s : Shared) (x : Str) (l : Addr) (news : List (Addr × Obj)) (m₀ : Str → Option Value) (P : Nat → List Str → Prop) (Q : Flow → Shared → Prop) (n : Nat) (f : Flow) (s₂ : Shared) : Prop :=
  match f with
  | .ret v => Q (.ret v) s₂
  | .brk => Q .next s₂
  | _ => IwEnd h₀ L s x l news m₀ P n s₂
theorem iw_while {prog : Program} {w : World} {A : Around} {E : Value → Shared → Prop} {Q : Flow → Shared → Prop} {s : Shared} {env : Env} {h₀ : Heap} {L : Addr} {test : PySem.Expr} {body : List Stmt} {pos : Pos}
    {x : Str} {n₀ : Nat} {t₀ : Tok} {l : Addr} {news : List (Addr × Obj)} {m₀ : Str → Option Value} (P : Nat → List Str → Prop)
    (F : Fr h₀ L s.heap m₀) (N : News h₀ L s.heap ((l, listOf (List.toArray []) 0) :: news)) (hx : m₀ x = some (.int (n₀ : Int) t₀)) (hP : P n₀ [])
    (turn : ∀ (n : Nat) (tn : Tok) (vs : List Value) (ws : List Str) (k : Nat) (h : Heap) (tk' : Nat), StrsAre vs ws → P n ws → Fr h₀ L h (fun z => if z = x then some (.int (n : Int) tn) else m₀ z) → News h₀ L h ((l, listOf (List.toArray vs) k) :: news) →
      wpAny (model prog w) A (isTrue test env (eval test env)) (fun b s₂ =>
        if b = true then wpAny (model prog w) A (execs body env) (IwPost h₀ L s x l news m₀ P Q n) E s₂ else Q .next s₂) E { s with heap := h, toks := tk' })
    (hE : PassesOwn (model prog w) A env E) :
    wpAny (model prog w) A (exec (.While test body [] pos) env) Q E s := by
  refine ksw_while (σ := Nat × Tok × List Value × List Str × Nat) (fun c => (l, listOf (List.toArray c.2.2.1) c.2.2.2.2) :: news) (fun c => [(x, .int (c.1 : Int) c.2.1)]) (fun c => StrsAre c.2.2.1 c.2.2.2.1) [] (fun c => P c.1 c.2.2.2.1) (fun c => c.1) (n₀, t₀, [], [], 0)
    F N .nil (by intro p hp; rw [List.mem_singleton.mp hp]; exact hx) hP ?_ hE
  rintro ⟨num, tn, vs, ws, k⟩ u h tk hS hPn F₁ N₁
  refine wpAny_mono (turn num tn vs ws k h tk hS hPn (tw_fr F₁) N₁) (fun b s₂ hb => ?_) fun _ _ y => y
  cases b with
  | false => exact hb
  | true =>
    simp only [if_true] at hb ⊢
    refine wpAny_mono hb (fun f s₃ hf => ?_) fun _ _ y => y
    have back : IwEnd h₀ L s x l news m₀ P num s₃ → KswEnd h₀ L s (fun c : Nat × Tok × List Value × List Str × Nat => (l, listOf (List.toArray c.2.2.1) c.2.2.2.2) :: news) (fun c => [(x, .int (c.1 : Int) c.2.1)]) (fun c => StrsAre c.2.2.1 c.2.2.2.1) [] m₀ (fun c => P c.1 c.2.2.2.1) (fun c => c.1) (num, tn, vs, ws, k) s₃ := by
      rintro ⟨num', tn', vs', ws', k', h', tk', rfl, F', N', hS', hP', hm⟩
      refine ⟨(num', tn', vs', ws', k'), h', tk', _, _, rfl, F', N', fun p hp => hp, hS', ?_, ?_, hP', hm⟩
      · intro p hp; rw [List.mem_singleton.mp hp]; exact if_pos rfl
      · intro z hz _
        have : z ≠ x := hz _ (List.mem_singleton.mpr rfl)
        exact if_neg this
    cases f with
    | ret v => exact hf
    | brk => exact hf
    | next => exact back hf
    | cont => exact back hf
section
variable {prog : Program} {w : World} {A : Around} {E : Value → Shared → Prop} {s : Shared} {h₀ : Heap} {L : Addr} {m : Str → Option Value} {news : List (Addr × Obj)} {env : Env}
def AStr (P : Str → Shared → Prop) (xv : Value) (s₁ : Shared) : Prop := ∃ y t, xv = .str y t ∧ P y s₁
/-- [elt for x in a text], the element reads the heap -/
theorem comp_signs {elt iter : PySem.Expr} {x : Str} {px : Pos} {scope : Scope} {cl : List (Str × Addr)} {pos : Pos} {Q : Value → Shared → Prop} (d : Str → PyData) (hh : A.handled = none)
    (hclos : closureFor scope env = pure cl) (hcell : ∀ y ∈ scope.names, y.2 ≠ .cell) (hkind : scope.kind = .function)
    (hnames : ∀ y ∈ scope.names, y.2 = .local → scope.names.lookup y.1 = some .local) (hx : scope.names.lookup x = some .local)
    (h : wpAny (model prog w) A (eval iter env) (AStr fun y s₁ => y.length ≤ sizeLine ∧ Fr h₀ L s₁.heap m ∧ News h₀ L s₁.heap news ∧
      (∀ C a v s₂ m₂ E', ItemKind.str.is a v → s₂.heap.Ns (compEnvC scope cl C env).locals m₂ → m₂ x = some v → Fr h₀ L s₂.heap m → News h₀ L s₂.heap news →
        wpAny (model prog w) A (eval elt (compEnvC scope cl C env)) (fun r s₃ => Carried r (d a) ∧ Keeps s₂ s₃) E' s₂) ∧
      (∀ D (ys : List Value) n h' tk, Fr h₀ L h' m → News h₀ L h' ((D, listOf ys.toArray n) :: news) → (∀ p ∈ news, p.1 ≠ D) → CarriedAll ys ((signs y).map d) → Q (.ref D) { s₁ with heap := h', toks := tk })) E s)
    (hs : ∀ x, foldedSetIterable iter env x = pure x) :
    wpAny (model prog w) A (eval (.ListComp elt [⟨.Name x px, iter, [], 0⟩] scope pos) env) Q E s := by
  refine wpAny_ListComp_free (ItemKind.str.lift fun _ => true) (fun v r => ∃ a, ItemKind.str.is a v ∧ Carried r (d a)) hclos hcell hkind hnames hx
    (wpAny_mono h (fun xv s₁ h₁ => ?_) fun _ _ e => e) hs
  obtain ⟨y, t, rfl, hsz, F, N, helt, hQ⟩ := h₁
  refine wpAny_pyIter_str fun o St W hst => ?_
  have up : ∀ (h' : Heap), (∀ b o', b ∉ [s₁.heap.objs.size] → (s₁.heap.push o).get? b = some o' → h'.get? b = some o') → ∀ b o', s₁.heap.get? b = some o' → h'.get? b = some o' :=
    fun h' hk b o' e => hk b o' (old_not_new e) (Heap.get?_push_of_some _ e)
  refine ⟨s₁.heap.objs.size, [s₁.heap.objs.size], [s₁.heap.objs.size], y.cps.size, SignAt y, St, rfl, W A hh, hsz, hst, ?_, ⟨?_, ?_⟩, ?_⟩
  · intro b hb
    show b < (s₁.heap.push o).objs.size
    rw [Heap.size_push, List.mem_singleton.mp hb]
    exact Nat.lt_succ_self _
  · intro C i v s₃ m₃ E' hC hP hn hm hk _
    obtain ⟨c, u, _, rfl⟩ := hP
    have ha : ItemKind.str.is ⟨#[c]⟩ (.str ⟨#[c]⟩ u) := ⟨u, rfl⟩
    rw [ItemKind.lift_is ha]
    exact wpAny_pure ⟨rfl, _, _, rfl, fun _ _ e => e⟩
  · intro C i v s₃ m₃ E' hC hP hp hn hm hk _
    obtain ⟨c, u, _, rfl⟩ := hP
    have ha : ItemKind.str.is ⟨#[c]⟩ (.str ⟨#[c]⟩ u) := ⟨u, rfl⟩
    exact wpAny_mono (helt C _ _ s₃ m₃ E' ha hn hm (F.keeps (up _ hk)) (N.grown (up _ hk))) (fun r s₄ h₄ => ⟨⟨_, ha, h₄.1⟩, h₄.2⟩) fun _ _ e => e
  · intro D h' tk ys vs hnew hlD hplD hlen hP hF hk
    have e2 := (areOf_signs hlen hP).paired (fun _ => true) d _ hF
    rw [List.filter_eq_self.mpr fun _ _ => rfl] at e2
    have hDn : h₀.get? D = none := by
      cases e : h₀.get? D with
      | none => rfl
      | some o' => rw [Heap.get?_push_of_some _ (F.keep _ _ e)] at hnew; cases hnew
    have hpl : NewPlain h' news D ys := ⟨hplD, fun p hp e => by rw [← e, Heap.get?_push_of_some _ (N p hp).1] at hnew; cases hnew⟩
    have hDL := hpl.ne_locals (F.keeps (up h' hk))
    obtain ⟨⟨n, e⟩, hne⟩ := hpl
    refine hQ D ys.toList n h' tk (F.keeps (up h' hk)) ?_ hne e2
    intro p hp
    rcases List.mem_cons.mp hp with rfl | hp
    · rw [Array.toArray_toList]; exact ⟨e, hDL, hDn⟩
    · exact N.grown (up h' hk) p hp
end
end Mine
end

section
/-! part CompT -/
open PySem PySem.W PyProof.Rows PyProof.Rows.LCp
set_option Elab.async false
set_option linter.unusedVariables false
set_option maxRecDepth 100000
namespace Mine
section
variable {prog : Program} {w : World} {A : Around} {R : Result → Shared → Prop} {s : Shared}
theorem compLoop_pairT {elt iter : PySem.Expr} {xi xv : Str} {pi pv tp : Pos} {kk : Nat} {scope : Scope} {pos : Pos} {e D : Addr} {fp wr : List Addr} {n : Nat} {Pt : Nat → Array Value → Prop} {St : Nat → Heap → Prop} {Mid : Nat → Addr → Heap → Prop}
    {cenv : Env} {m : Str → Option Value} (W : WalksT prog w A e fp wr n Pt St Mid) (g : Nat → Value → Prop) (hh : A.handled = none) (hne : xi ≠ xv)
    (hxi : cenv.kindOf xi = some .local) (hxv : cenv.kindOf xv = some .local) (hp : (cenv.scope.kind == .class || (cenv.scope.kind == .module && cenv.locals != cenv.globals)) = false)
    (hDC : D ≠ cenv.locals) (hDf : D ∉ fp) (hCf : cenv.locals ∉ fp)
    (hst : St 0 s.heap) (hacc : s.heap.PlainList D #[]) (hn : s.heap.Ns cenv.locals m)
    (hpair : ∀ i vals, Pt i vals → ∃ a b, vals = #[a, b])
    (helt : ∀ i a b s₂ m₂, i < n → Pt i #[a, b] → s₂.heap.Ns cenv.locals m₂ → m₂ xi = some a → m₂ xv = some b → (∀ b o, b ≠ cenv.locals → b ∉ wr → b ≠ D → s.heap.get? b = some o → s₂.heap.get? b = some o) →
      wpAny (model prog w) A (eval elt cenv) (fun y s₃ => g i y ∧ Keeps s₂ s₃) (notedBy (model prog w) A cenv fun e s' => R (.error e) s') s₂)
    (hR : ∀ h' tk m' (ys : Array Value), h'.Ns cenv.locals m' → h'.PlainList D ys → ys.size = n → (∀ j y, ys[j]? = some y → g j y) →
      (∀ b o, b ≠ cenv.locals → b ∉ wr → b ≠ D → s.heap.get? b = some o → h'.get? b = some o) → R (.ok .next) { s with heap := h', toks := tk })
    (hsz : n ≤ sizeLine) :
    codeAny (model prog w) A (.compLoop (.ListComp elt [⟨.Tuple [.Name xi pi, .Name xv pv] kk tp, iter, [], 0⟩] scope pos) 0 (.ref e) (.ref D) cenv) R s := by
  refine codeAny_compLoop_pair
    (fun k s' => ∃ h' tk m', ∃ ys : Array Value, s' = { s with heap := h', toks := tk } ∧ St ys.size h' ∧ h'.PlainList D ys ∧ h'.Ns cenv.locals m' ∧ (∀ j y, ys[j]? = some y → g j y) ∧
      ys.size ≤ n ∧ k = n + 1 - ys.size ∧ (∀ b o, b ≠ cenv.locals → b ∉ wr → b ≠ D → s.heap.get? b = some o → h'.get? b = some o)) ?_ (n + 1)
    ⟨s.heap, s.toks, m, #[], rfl, hst, hacc, hn, by simp, Nat.zero_le _, rfl, fun _ _ _ _ _ e => e⟩
  rintro k s' ⟨H, tk, m', ys, rfl, hst', hacc', hn', hG, hi, rfl, hk⟩
  have hCw : cenv.locals ∉ wr := fun h => hCf (W.sub _ h)
  have hDw : D ∉ wr := fun h => hDf (W.sub _ h)
  by_cases hlt : ys.size < n
  · refine W.item ys.size _ _ _ hlt hst' fun T vals h₁ tk₁ hPv hT hTup hMid hk₁ => ?_
    obtain ⟨a, b, rfl⟩ := hpair _ _ hPv
    refine W.go _ _ _ ys.size T _ _ _ hMid fun h₂ hst₂ hk₂ => ?_
    have hTw : T ∉ wr := W.apart _ _ _ hMid
    have hTup₂ : h₂.IsTuple T #[a, b] := by
      obtain ⟨o, ho, r⟩ := hTup
      exact ⟨o, hk₂ T o hTw ho, r⟩
    have up₂ : ∀ b o, b ∉ wr → H.get? b = some o → h₂.get? b = some o := fun b o hb q => hk₂ b o hb (hk₁ b o hb q)
    have hn₂ : h₂.Ns cenv.locals m' := hn'.at' fun o q => up₂ _ o hCw q
    refine kcp_assign hh hTup₂ hxi hxv hp hn₂ fun h₃ tk₃ hn₃ hk₃ => ?_
    have up₃ : ∀ b o, b ≠ cenv.locals → b ∉ wr → H.get? b = some o → h₃.get? b = some o := fun b o hbC hb q => hk₃ b o hbC (up₂ b o hb q)
    have hst₃ : St (ys.size + 1) h₃ := W.frame _ _ _ hst₂ fun b hb o q => hk₃ b o (fun h => hCf (h ▸ hb)) q
    refine wpAny_mono (helt ys.size a b _ _ hlt hPv hn₃ (by rw [if_neg hne, if_pos rfl]) (by rw [if_pos rfl]) (fun b o hbC hbf hbD q => up₃ b o hbC hbf (hk b o hbC hbf hbD q))) (fun y s₄ h₄ => ?_) fun _ _ e => e
    obtain ⟨hgy, h₄, tk₄, rfl, hk₄⟩ := h₄
    have hys : ys.size ≤ sizeLine := Nat.le_trans hi hsz
    refine wpAny_list_append_plain (hsz := hys) (hacc'.at fun o q => hk₄ _ o (up₃ D o hDC hDw q)) fun h₅ hl₅ hs₅ => ?_
    refine ⟨n + 1 - (ys.size + 1), by omega, h₅, tk₄, _, ys.push y, rfl, ?_, hl₅, (hn₃.keeps hk₄).sameBut hs₅ (Ne.symm hDC), ?_, (by rw [Array.size_push]; exact hlt), (by rw [Array.size_push]),
      fun b o hbC hbf hbD q => hs₅.extBut b o hbD (hk₄ b o (up₃ b o hbC hbf (hk b o hbC hbf hbD q)))⟩
    · have := W.frame _ _ h₅ hst₃ fun b hb o q => hs₅.extBut b o (fun h => hDf (h ▸ hb)) (hk₄ b o q)
      rw [Array.size_push]; exact this
    · intro j u hj
      rw [Array.getElem?_push] at hj
      split at hj
      · rename_i e; rw [e]; cases hj; exact hgy
      · exact hG j u hj
  · have hin : ys.size = n := by omega
    refine W.done _ _ _ (hin ▸ hst') fun h₁ tk₁ hk₁ => ?_
    exact hR h₁ tk₁ m' ys (hn'.at' fun o q => hk₁ _ o hCw q) (hacc'.at fun o q => hk₁ _ o hDw q) hin hG fun b o hbC hbf hbD q => hk₁ b o hbf (hk b o hbC hbf hbD q)
end
theorem fr_off {h₀ h h' : Heap} {L : Addr} {m : Str → Option Value} {wr : List Addr} (F : Fr h₀ L h m) (hL : L ∉ wr) (h0 : ∀ b ∈ wr, h₀.get? b = none) (hk : ∀ b o, b ∉ wr → h.get? b = some o → h'.get? b = some o) : Fr h₀ L h' m :=
  ⟨F.ns.at' fun o q => hk _ o hL q, fun b o q => hk b o (fun hb => by rw [h0 b hb] at q; cases q) (F.keep b o q), F.above⟩
theorem news_off {h₀ h h' : Heap} {L : Addr} {news : List (Addr × Obj)} {wr : List Addr} (N : News h₀ L h news) (off : ∀ p ∈ news, p.1 ∉ wr) (hk : ∀ b o, b ∉ wr → h.get? b = some o → h'.get? b = some o) : News h₀ L h' news :=
  fun p hp => ⟨hk _ _ (off p hp) (N p hp).1, (N p hp).2⟩
section
variable {prog : Program} {w : World} {A : Around} {E : Value → Shared → Prop} {s : Shared} {h₀ : Heap} {L : Addr} {m : Str → Option Value} {news : List (Addr × Obj)} {env : Env}
def EnumSrc (P : Addr → Addr → Addr → Array Value → Shared → Prop) (v : Value) (s₁ : Shared) : Prop := ∃ e it l items, v = .ref e ∧ P e it l items s₁
theorem comp_enum {elt iter : PySem.Expr} {xi xv : Str} {pi pv tp : Pos} {kk : Nat} {scope : Scope} {cl : List (Str × Addr)} {pos : Pos} {Q : Value → Shared → Prop} (g : Nat → Value → Prop) (hh : A.handled = none)
    (hclos : closureFor scope env = pure cl) (hcell : ∀ y ∈ scope.names, y.2 ≠ .cell) (hkind : scope.kind = .function)
    (hnames : ∀ y ∈ scope.names, y.2 = .local → scope.names.lookup y.1 = some .local) (hxi : scope.names.lookup xi = some .local) (hxv : scope.names.lookup xv = some .local) (hne : xi ≠ xv)
    (h : wpAny (model prog w) A (eval iter env) (EnumSrc fun e it l items s₁ => IsEnum s₁.heap e it 0 .none ∧ s₁.heap.IsListIter it l 0 ∧ s₁.heap.IsList l items ∧ e ≠ it ∧ l ≠ e ∧ l ≠ it ∧ items.size ≤ sizeLine ∧
      Fr h₀ L s₁.heap m ∧ News h₀ L s₁.heap news ∧ h₀.get? e = none ∧ h₀.get? it = none ∧ L ≠ e ∧ L ≠ it ∧ (∀ p ∈ news, p.1 ≠ e ∧ p.1 ≠ it) ∧
      (∀ C i a b s₂ m₂ E', items[i]? = some b → (∃ t, a = .int (i : Int) t) → s₂.heap.Ns (compEnvC scope cl C env).locals m₂ → m₂ xi = some a → m₂ xv = some b → Fr h₀ L s₂.heap m → News h₀ L s₂.heap news →
        wpAny (model prog w) A (eval elt (compEnvC scope cl C env)) (fun y s₃ => g i y ∧ Keeps s₂ s₃) E' s₂) ∧
      (∀ D (ys : Array Value) n h' tk, Fr h₀ L h' m → News h₀ L h' ((D, listOf ys n) :: news) → (∀ p ∈ news, p.1 ≠ D) → ys.size = items.size → (∀ j y, ys[j]? = some y → g j y) → Q (.ref D) { s₁ with heap := h', toks := tk })) E s)
    (hs : ∀ x, foldedSetIterable iter env x = pure x) :
    wpAny (model prog w) A (eval (.ListComp elt [⟨.Tuple [.Name xi pi, .Name xv pv] kk tp, iter, [], 0⟩] scope pos) env) Q E s := by
  rw [eval_ListComp]
  refine wpAny_comprehension_free (use := none) rfl hs hclos hkind hnames (wpAny_mono h (fun v s₂ h₁ => ?_) fun _ _ e => e)
  obtain ⟨e, it, l, items, rfl, hEn, hIt, hL, hei, hle, hli, hsz, F, N, h0e, h0i, hLe, hLi, hoff, helt, hQ⟩ := h₁
  have W := WalksT.enumerate (prog := prog) (w := w) (A := A) hh e it l hei hle hli items
  refine wpAny_pyIter_enum hEn ?_
  have hfp : ∀ b ∈ [e, it, l], b < s₂.heap.objs.size := by
    intro b hb
    have he : e < s₂.heap.objs.size := Heap.lt_size hEn
    have hi : it < s₂.heap.objs.size := by obtain ⟨_, q, _⟩ := hIt; exact Heap.lt_size q
    have hl : l < s₂.heap.objs.size := by obtain ⟨_, q, _⟩ := hL; exact Heap.lt_size q
    rcases List.mem_cons.mp hb with rfl | hb
    · exact he
    · rcases List.mem_cons.mp hb with rfl | hb
      · exact hi
      · rw [List.mem_singleton.mp hb]; exact hl
  refine wpAny_newObj_type (wpAny_newFunctionEnv hcell (by intro y hy; simp at hy) (fun h₁ hns₁ hsb₁ => ?_) hkind)
  dsimp only at hns₁ hsb₁ ⊢
  generalize hH2 : s₂.heap.push { cls := .type "list", dict := none, data := .seq ([] : List Value).toArray } = H2 at hns₁ hsb₁ ⊢
  have hC : H2.objs.size = s₂.heap.objs.size + 1 := by rw [← hH2, Heap.size_push]
  have hDC : s₂.heap.objs.size ≠ H2.objs.size := by rw [hC]; exact Nat.ne_of_lt (Nat.lt_succ_self _)
  have below : ∀ b, b < s₂.heap.objs.size → b ≠ H2.objs.size ∧ b ≠ s₂.heap.objs.size := fun b hb => ⟨by rw [hC]; exact Nat.ne_of_lt (Nat.lt_succ_of_lt hb), Nat.ne_of_lt hb⟩
  have hDf : s₂.heap.objs.size ∉ [e, it, l] := fun hm => Nat.lt_irrefl _ (hfp _ hm)
  have hCf : H2.objs.size ∉ [e, it, l] := fun hm => by have := hfp _ hm; rw [hC] at this; exact Nat.lt_irrefl _ (Nat.lt_of_succ_lt this)
  have old : ∀ b o, s₂.heap.get? b = some o → h₁.get? b = some o := fun b o q => hsb₁.extBut b o (below b (Heap.lt_size q)).1 (Heap.get?_push_of_some _ (hH2 ▸ Heap.get?_push_of_some _ q))
  have hacc : h₁.PlainList s₂.heap.objs.size #[] := ⟨_, hsb₁.extBut _ _ hDC (Heap.get?_push_of_some _ (hH2 ▸ Heap.get?_push_size _ rfl))⟩
  have hst₁ := W.frame 0 _ h₁ ⟨⟨_, hEn⟩, hIt, hL⟩ fun b _ o q => old b o q
  have fresh : ∀ a, s₂.heap.objs.size ≤ a → s₂.heap.get? a = none := fun a ha => by
    cases q : s₂.heap.get? a with
    | none => rfl
    | some o' => exact absurd (Heap.lt_size q) (Nat.not_lt.mpr ha)
  have hLw : L ∉ [e, it] := by simp [hLe, hLi]
  have h0w : ∀ b ∈ [e, it], h₀.get? b = none := by
    intro b hb
    rcases List.mem_cons.mp hb with rfl | hb
    · exact h0e
    · rw [List.mem_singleton.mp hb]; exact h0i
  have hNw : ∀ p ∈ news, p.1 ∉ [e, it] := fun p hp => by simp [(hoff p hp).1, (hoff p hp).2]
  have hkeep : ∀ (h' : Heap), (∀ b o, b ≠ H2.objs.size → b ∉ [e, it] → b ≠ s₂.heap.objs.size → h₁.get? b = some o → h'.get? b = some o) → ∀ b o, b ∉ [e, it] → s₂.heap.get? b = some o → h'.get? b = some o :=
    fun h' hk b o hbf q => hk b o (below b (Heap.lt_size q)).1 hbf (below b (Heap.lt_size q)).2 (old b o q)
  have loop : ∀ s₃ : Shared, s₃ = { s₂ with heap := h₁, toks := s₂.toks + ([] : List (Str × Value)).length } →
      codeAny (model prog w) A (.compLoop (.ListComp elt [⟨.Tuple [.Name xi pi, .Name xv pv] kk tp, iter, [], 0⟩] scope pos) 0 (.ref e) (.ref s₂.heap.objs.size) (compEnvC scope cl H2.objs.size env))
        (compPost (model prog w) A E none Q (.ref s₂.heap.objs.size) H2.objs.size) s₃ := by
    rintro s₃ rfl
    refine compLoop_pairT (cenv := compEnvC scope cl H2.objs.size env) W g hh hne (lookup_relabel_local hxi) (lookup_relabel_local hxv) (by simp [compEnvC, relabel, hkind]) hDC hDf hCf hst₁ hacc hns₁ ?_ ?_ ?_ hsz
    · rintro i vals ⟨t, x, _, rfl⟩
      exact ⟨_, _, rfl⟩
    · rintro i a b s₄ m₄ hi ⟨t, x, hx, hab⟩ hn₄ ha hb hk
      have e1 : a = .int i t ∧ b = x := by
        have := congrArg Array.toList hab
        simp at this; exact this
      refine helt _ i a b s₄ m₄ _ (by rw [e1.2]; exact hx) ⟨t, e1.1⟩ hn₄ ha hb (fr_off F hLw h0w (hkeep _ hk)) (news_off N hNw (hkeep _ hk))
    · intro h' tk m' ys hn' hpl hlen hG hk
      refine ⟨m', hn', fun h'' hs'' => ?_⟩
      have hk2 : ∀ b o, b ∉ [e, it] → s₂.heap.get? b = some o → h''.get? b = some o := fun b o hb q => hs''.extBut b o (below b (Heap.lt_size q)).1 (hkeep _ hk b o hb q)
      obtain ⟨n, q⟩ := hpl
      have hD0 : h₀.get? s₂.heap.objs.size = none := by
        cases q : h₀.get? s₂.heap.objs.size with
        | none => rfl
        | some o' => have := fresh _ (Nat.le_refl _); rw [F.keep _ _ q] at this; cases this
      have hDL : s₂.heap.objs.size ≠ L := by
        intro q
        have := F.ns.lt
        rw [← q] at this; exact Nat.lt_irrefl _ this
      refine hQ s₂.heap.objs.size ys n h'' tk (fr_off F hLw h0w hk2) ?_ (fun p hp => ?_) hlen hG
      · intro p hp
        rcases List.mem_cons.mp hp with rfl | hp
        · exact ⟨hs''.extBut _ _ hDC q, hDL, hD0⟩
        · exact news_off N hNw hk2 p hp
      · intro q
        have := Heap.lt_size (N p hp).1
        rw [q] at this; exact Nat.lt_irrefl _ this
  exact codeAny_compStart_list (loop _ rfl) (W.self 0 _ _ _ hst₁ (loop _ rfl))
theorem enum_call {D : Addr} {its : Array Value} {n : Nat} {Q : Value → Shared → Prop} (F : Fr h₀ L s.heap m) (N : News h₀ L s.heap ((D, listOf its n) :: news))
    (h : ∀ h' e it, IsEnum h' e it 0 .none → h'.IsListIter it D 0 → h'.IsList D its → e ≠ it → D ≠ e → D ≠ it → Fr h₀ L h' m → News h₀ L h' ((D, listOf its n) :: news) → h₀.get? e = none → h₀.get? it = none → L ≠ e → L ≠ it →
      (∀ p ∈ ((D, listOf its n) :: news), p.1 ≠ e ∧ p.1 ≠ it) → Q (.ref e) { s with heap := h' }) : wpAny (model prog w) A (call (.type "enumerate") [.ref D]) Q E s := by
  have hD := (N _ (List.mem_cons_self ..)).1
  have hL : s.heap.IsList D its := ⟨_, hD, rfl, n, rfl⟩
  have lt : ∀ b o, s.heap.get? b = some o → b < s.heap.objs.size := fun b o q => Heap.lt_size q
  have none0 : ∀ b, s.heap.objs.size ≤ b → h₀.get? b = none := fun b hb => by
    cases q : h₀.get? b with
    | none => rfl
    | some o => exact absurd (lt _ _ (F.keep _ _ q)) (Nat.not_lt.mpr hb)
  have hLlt : L < s.heap.objs.size := F.ns.lt
  refine call_enumerate_list hL fun h' hE hI hsz hk => ?_
  refine h h' _ _ hE hI ⟨_, hk _ _ hD, rfl, n, rfl⟩ (Nat.succ_ne_self _) (Nat.ne_of_lt (Nat.lt_succ_of_lt (lt _ _ hD))) (Nat.ne_of_lt (lt _ _ hD)) (F.keeps hk) (N.grown hk) (none0 _ (Nat.le_succ _)) (none0 _ (Nat.le_refl _))
    (Nat.ne_of_lt (Nat.lt_succ_of_lt hLlt)) (Nat.ne_of_lt hLlt) fun p hp => ⟨Nat.ne_of_lt (Nat.lt_succ_of_lt (lt _ _ (N p hp).1)), Nat.ne_of_lt (lt _ _ (N p hp).1)⟩
end
end Mine
end

section
/-! part CompR -/
open PySem PySem.W PyProof.Rows
set_option Elab.async false
set_option linter.unusedVariables false
set_option maxRecDepth 100000
namespace Mine
section
variable {prog : Program} {w : World} {A : Around} {E : Value → Shared → Prop} {s : Shared} {h₀ : Heap} {L : Addr} {m : Str → Option Value} {news : List (Addr × Obj)} {env : Env}
def RangeSrc (P : Addr → Int → Int → Int → Tok → Tok → Tok → Shared → Prop) (v : Value) (s₁ : Shared) : Prop := ∃ r a b c t u x, v = .ref r ∧ P r a b c t u x s₁
theorem comp_rangeT {elt iter : PySem.Expr} {x : Str} {px : Pos} {scope : Scope} {cl : List (Str × Addr)} {pos : Pos} {Q : Value → Shared → Prop} (d : Int → PyData)
    (hh : A.handled = none) (hclos : closureFor scope env = pure cl) (hcell : ∀ y ∈ scope.names, y.2 ≠ .cell) (hkind : scope.kind = .function)
    (hnames : ∀ y ∈ scope.names, y.2 = .local → scope.names.lookup y.1 = some .local) (hx : scope.names.lookup x = some .local)
    (h : wpAny (model prog w) A (eval iter env) (RangeSrc fun r a₀ b₀ c₀ t₀ u₀ v₀ s₁ => ∃ n : Nat, IsRange s₁.heap r a₀ b₀ c₀ t₀ u₀ v₀ ∧ Builtin.Range.small a₀ b₀ c₀ = true ∧ Builtin.Range.rangeSize a₀ b₀ c₀ = (n : Int) ∧ n ≤ sizeLine ∧ Fr h₀ L s₁.heap m ∧ News h₀ L s₁.heap news ∧
      (∀ C a v s₂ m₂ E', a ∈ rangeInts a₀ c₀ n → ItemKind.int.is a v → s₂.heap.Ns (compEnvC scope cl C env).locals m₂ → m₂ x = some v → Fr h₀ L s₂.heap m → News h₀ L s₂.heap news →
        wpAny (model prog w) A (eval elt (compEnvC scope cl C env)) (fun y s₃ => Carried y (d a) ∧ Keeps s₂ s₃) E' s₂) ∧
      (∀ D (ys : List Value) h' tk, Fr h₀ L h' m → News h₀ L h' news → h'.IsList D ys.toArray → CarriedAll ys ((rangeInts a₀ c₀ n).map d) → Q (.ref D) { s₁ with heap := h', toks := tk })) E s)
    (hs : ∀ x, foldedSetIterable iter env x = pure x) :
    wpAny (model prog w) A (eval (.ListComp elt [⟨.Name x px, iter, [], 0⟩] scope pos) env) Q E s := by
  refine ListComp_DCr (h₀ := h₀) (L := L) (m := m) (pz := fun _ => true) (d := d) hh hclos hcell hkind hnames hx (wpAny_mono h (fun xv s₁ h₁ => ?_) fun _ _ e => e) hs
  obtain ⟨r, a₀, b₀, c₀, t₀, u₀, v₀, rfl, n, hr, hsm, hn, hsz, F, N, helt, hQ⟩ := h₁
  refine ⟨news, r, a₀, b₀, c₀, t₀, u₀, v₀, n, rfl, hr, hsm, hn, hsz, F, N, ?_, ?_, ?_⟩
  · intro C a v s₂ m₂ E' _ _ _ _ _ _
    exact wpAny_pure ⟨rfl, _, _, rfl, fun _ _ e => e⟩
  · intro C a v s₂ m₂ E' _ ha hv _ hn' hm hk
    exact helt C a v s₂ m₂ E' ha hv hn' hm (F.keeps hk) (N.grown hk)
  · intro D ys h' tk F' N' _ hl _ hc
    rw [List.filter_eq_self.mpr fun _ _ => rfl] at hc
    exact hQ D ys h' tk F' N' hl hc
theorem rangeInts_mem {a c : Int} : ∀ {n : Nat} {z : Int}, z ∈ rangeInts a c n → ∃ i : Nat, i < n ∧ z = a + i * c := by
  intro n z hz
  rw [List.mem_iff_getElem?] at hz
  obtain ⟨i, hi⟩ := hz
  have hl : i < n := by
    have := List.getElem?_eq_some_iff.mp hi
    obtain ⟨h, _⟩ := this
    rw [rangeInts_length] at h; exact h
  rw [rangeInts_get hl] at hi
  exact ⟨i, hl, (Option.some.inj hi).symm⟩
end
end Mine
end

section
/-! part N2 -/
open PySem PySem.W PyProof.Rows
set_option Elab.async false
set_option linter.unusedVariables false
namespace Mine
local macro_rules | `(tactic| walk_at "call builtin:list.append") => `(tactic| (k_here; (show wpAny _ _ (call (Value.builtin _) [Value.ref _, _]) _ _ _); first
  | (refine app2 (by assumption) (by assumption) (by assumption) (by assumption) (by size_fits) ?_; intro _ F' N')
  | (refine app1 (by assumption) (by assumption) (by assumption) (by size_fits) ?_; intro _ F' N')))
def rText (t : Str) (tt : Tok) : Str → Option Value := fun y => if y = Str.ofString "text" then some (.str t tt) else none
def rCut (t : Str) (tt : Tok) (c : Nat) (tc : Tok) : Str → Option Value := fun y => if y = Str.ofString "cut" then some (.int (c : Int) tc) else rText t tt y
def rWords (t : Str) (tt : Tok) (c : Nat) (tc : Tok) (wl : Addr) : Str → Option Value := fun y => if y = Str.ofString "words" then some (.ref wl) else rCut t tt c tc y
def rStart (t : Str) (tt : Tok) (c : Nat) (tc : Tok) (wl : Addr) (st : Nat) (tst : Tok) : Str → Option Value := fun y => if y = Str.ofString "start" then some (.int (st : Int) tst) else rWords t tt c tc wl y
def SrD (g : Heap) (L : Addr) (news : List (Addr × Obj)) (o1 : Obj) (s : Shared) (t : Str) (tt : Tok) (c : Nat) (tc : Tok) (wl : Addr) (vs : List Value) (k : Nat) (W : Nat → Nat → Prop) (s' : Shared) : Prop :=
  ∃ (h : Heap) (tk : Nat) (b : Nat) (tb : Tok) (st : Nat) (tst : Tok) (o2 : Obj), s' = { s with heap := h, toks := tk } ∧ Fr g L h (rStart t tt c tc wl st tst) ∧ News g L h ((wl, listOf (List.toArray vs) k) :: (L + 1 + 1, o1) :: (L + 1, o2) :: news) ∧ o2.data = .cell (some (.int (b : Int) tb)) ∧ W b st
theorem st_eq (t : Str) (tt : Tok) (c : Nat) (tc : Tok) (wl : Addr) (st st0 : Nat) (tst tst0 : Tok) (y : Str) : (if y = Str.ofString "start" then some (Value.int (st : Int) tst) else rStart t tt c tc wl st0 tst0 y) = rStart t tt c tc wl st tst y := by
  unfold rStart
  by_cases h : y = Str.ofString "start" <;> simp [h]
def digC (c : Nat) : Int := Txt.find (Str.ofString "0123456789abcdef") ⟨#[c]⟩
def ReadOk (ds : List Int) (b : Nat) : Prop := ds ≠ [] ∧ ∀ d ∈ ds, 0 ≤ d ∧ d < (b : Int)
def rdDigs (t : Str) : List Int := ((((stemR (cl t)).drop (rdBase (cl t)).2).map lo1).map fun c => digC c)
def digF (a : Str) : Int := Txt.find (Str.ofString "0123456789abcdef") a
def SrE (g : Heap) (L : Addr) (news : List (Addr × Obj)) (s : Shared) (t : Str) (tt : Tok) (c : Nat) (tc : Tok) (wl : Addr) (vs : List Value) (k : Nat) (st : Nat) (tst : Tok) (o2 : Obj) (ds : List Int) (s' : Shared) : Prop :=
  ∃ h tk D ys n o1, s' = { s with heap := h, toks := tk } ∧ Fr g L h (rStart t tt c tc wl st tst) ∧ News g L h ((D, listOf (List.toArray ys) n) :: (wl, listOf (List.toArray vs) k) :: (L + 1 + 1, o1) :: (L + 1, o2) :: news) ∧ o1.data = .cell (some (.ref D)) ∧ IntsAre ys ds
section
variable {prog : Program} {w : World} {A : Around} {E : Value → Shared → Prop} {s : Shared} {h₀ : Heap} {L D l : Addr} {o : Obj} {m : Str → Option Value} {news : List (Addr × Obj)} {ys : List Value} {n : Nat} {ns : List Int} {Q : Value → Shared → Prop}
theorem pos_of_ne (hne : decide (ns = []) = false) : 0 < ns.length := List.length_pos_iff.mpr (of_decide_eq_false hne)
theorem min2 (F : Fr h₀ L s.heap m) (N : News h₀ L s.heap ((l, o) :: (D, listOf (List.toArray ys) n) :: news)) (hi : IntsAre ys ns) (hne : decide (ns = []) = false) (hh : A.handled = none)
    (h : ∀ h' M (t : Tok) tk, Fr h₀ L h' m → News h₀ L h' ((l, o) :: (D, listOf (List.toArray ys) n) :: news) → M ∈ ns → (∀ a, a ∈ ns → M ≤ a) → Q (.int M t) { s with heap := h', toks := tk }) : wpAny (model prog w) A (call (.builtin "min") [.ref D]) Q E s :=
  kso_min F N ⟨_, (N _ (List.mem_cons_of_mem _ (List.mem_cons_self ..))).1, rfl, n, rfl⟩ hi (pos_of_ne hne) hh h
theorem max2 (F : Fr h₀ L s.heap m) (N : News h₀ L s.heap ((l, o) :: (D, listOf (List.toArray ys) n) :: news)) (hi : IntsAre ys ns) (hne : decide (ns = []) = false) (hh : A.handled = none)
    (h : ∀ h' M (t : Tok) tk, Fr h₀ L h' m → News h₀ L h' ((l, o) :: (D, listOf (List.toArray ys) n) :: news) → M ∈ ns → (∀ a, a ∈ ns → a ≤ M) → Q (.int M t) { s with heap := h', toks := tk }) : wpAny (model prog w) A (call (.builtin "max") [.ref D]) Q E s :=
  kso_max F N ⟨_, (N _ (List.mem_cons_of_mem _ (List.mem_cons_self ..))).1, rfl, n, rfl⟩ hi (pos_of_ne hne) hh h
end
local macro_rules | `(tactic| walk_at "call builtin:min") => `(tactic| (k_here; (show wpAny _ _ (call (Value.builtin _) [Value.ref _]) _ _ _); refine min2 (by assumption) (by assumption) (by assumption) (by assumption) rfl ?_; intro h' M' t' k' F' N' a' b'))
local macro_rules | `(tactic| walk_at "call builtin:max") => `(tactic| (k_here; (show wpAny _ _ (call (Value.builtin _) [Value.ref _]) _ _ _); refine max2 (by assumption) (by assumption) (by assumption) (by assumption) rfl ?_; intro h' M' t' k' F' N' a' b'))
local macro_rules | `(tactic| walk_at "newList") => `(tactic| (refine newList_K (by assumption) (by assumption) ?_; intro l' h' F' N' l1; (try k_lt l1); (try k_sweep)))
def elG (ds : List Int) (b : Nat) (i : Nat) (y : Value) : Prop := ∃ t, y = .int (ds.getD i 0 * (b : Int) ^ (ds.length - 1 - i)) t
theorem ints_of (f : Nat → Int) : ∀ (vs : List Value) (o : Nat), (∀ j y, vs[j]? = some y → ∃ t : Tok, y = Value.int (f (o + j)) t) → IntsAre vs ((List.range' o vs.length).map f)
  | [], _, _ => .nil
  | v :: vs, o, h => by
    obtain ⟨t, rfl⟩ := h 0 v rfl
    have := ints_of f vs (o + 1) fun j y hj => by
      obtain ⟨t, e⟩ := h (j + 1) y (by simpa using hj)
      exact ⟨t, by rw [e]; congr 2; omega⟩
    exact .cons _ _ this
def termsR (ds : List Int) (b : Nat) : List Int := (List.range' 0 ds.length).map fun i => ds.getD i 0 * (b : Int) ^ (ds.length - 1 - i)
theorem ints_elG {ds : List Int} {b : Nat} {zs : Array Value} (hsz : zs.size = ds.length) (hG : ∀ j y, zs[j]? = some y → elG ds b j y) : IntsAre zs.toList (termsR ds b) := by
  have := ints_of (fun i => ds.getD i 0 * (b : Int) ^ (ds.length - 1 - i)) zs.toList 0 fun j y hj => by
    obtain ⟨t, e⟩ := hG j y (by simpa using hj)
    exact ⟨t, by rw [e, Nat.zero_add]⟩
  have e : zs.toList.length = ds.length := by rw [Array.length_toList]; exact hsz
  rw [e] at this
  exact this
theorem item_int {ys : List Value} {ds : List Int} (h : IntsAre ys ds) : ∀ {i : Nat} {y : Value}, ys[i]? = some y → (∃ t : Tok, y = Value.int (ds.getD i 0) t) ∧ i < ds.length := by
  induction h with
  | nil => intro i y hy; simp at hy
  | cons n t _ ih =>
    intro i y hy
    cases i with
    | zero => simp at hy; exact ⟨⟨t, by rw [← hy]; rfl⟩, Nat.succ_pos _⟩
    | succ i =>
      obtain ⟨⟨t', e⟩, hl⟩ := ih (i := i) (y := y) (by simpa using hy)
      exact ⟨⟨t', by rw [e]; simp⟩, Nat.succ_lt_succ hl⟩
theorem getD_mem {ds : List Int} {i : Nat} (h : i < ds.length) : ds.getD i 0 ∈ ds := by
  rw [List.getD_eq_getElem?_getD, List.getElem?_eq_getElem h, Option.getD_some]; exact List.getElem_mem h
theorem drop38 {h₀ h : Heap} {L : Addr} {a b c d e f g i : Addr × Obj} {news : List (Addr × Obj)} (N : News h₀ L h (a :: b :: c :: d :: e :: f :: g :: i :: news)) : News h₀ L h (a :: b :: c :: news) :=
  news_drop N fun p hp => by
    simp only [List.mem_cons] at hp ⊢
    rcases hp with h | h | h | h <;> simp [h]
theorem drop37 {h₀ h : Heap} {L : Addr} {a b c d e f g : Addr × Obj} {news : List (Addr × Obj)} (N : News h₀ L h (a :: b :: d :: e :: c :: f :: g :: news)) : News h₀ L h (a :: b :: c :: news) :=
  news_drop N fun p hp => by
    simp only [List.mem_cons] at hp ⊢
    rcases hp with h | h | h | h <;> simp [h]
theorem sub7 {α : Type} {a b c d e f : α} {l : List α} {p : α} (h : p ∈ a :: l) : p ∈ a :: b :: c :: d :: e :: f :: l := by
  rcases List.mem_cons.mp h with rfl | h
  · exact List.mem_cons_self ..
  · simp [h]
theorem all_ne_of {news : List (Addr × Obj)} {L d : Addr} (h : ∀ p ∈ news, p.1 < L) (e : @LE.le Nat _ L d) : ∀ p ∈ news, p.1 ≠ d := fun p hp q => absurd (h p hp) (by rw [q]; exact Nat.not_lt.mpr e)
local macro_rules | `(tactic| k_all) => `(tactic| (refine all_ne_of (by assumption) ?_; first | exact Nat.le_refl _ | exact Nat.le_succ _ | exact Nat.le_add_right _ 2 | omega))
theorem allLt_mem {d : Addr} : ∀ {l : List (Addr × Obj)}, AllLt d l → ∀ p ∈ l, p.1 < d
  | [], _ => fun _ h => (nomatch h)
  | _ :: _, h => fun p hp => by
    rcases List.mem_cons.mp hp with rfl | hp
    · exact h.1
    · exact allLt_mem h.2 p hp
theorem cut_eq (t : Str) (tt : Tok) (c c0 : Nat) (tc tc0 : Tok) (wl : Addr) (y : Str) : (if y = Str.ofString "cut" then some (Value.int (c : Int) tc) else rWords t tt c0 tc0 wl y) = rWords t tt c tc wl y := by
  unfold rWords rCut
  by_cases h : y = Str.ofString "cut"
  · have : ¬ Str.ofString "cut" = Str.ofString "words" := by decide +kernel
    simp [h, this]
  · simp [h]
theorem cut_eq1 (m₀ : Str → Option Value) (c c1 : Nat) (h0 : 0 < c) (tc tc1 : Tok) (y : Str) : (if y = Str.ofString "cut" then some (Value.int ((c : Int) - 1) tc) else if y = Str.ofString "cut" then some (Value.int (c1 : Int) tc1) else m₀ y) = (if y = Str.ofString "cut" then some (Value.int ((c - 1 : Nat) : Int) tc) else m₀ y) := by
  have e : (c : Int) - 1 = ((c - 1 : Nat) : Int) := by omega
  by_cases h : y = Str.ofString "cut"
  · simp [h, e]
  · simp [h]
def SrA (g : Heap) (L : Addr) (news : List (Addr × Obj)) (s : Shared) (t : Str) (tt : Tok) (s' : Shared) : Prop :=
  ∃ h tk tc, s' = { s with heap := h, toks := tk } ∧ Fr g L h (rCut t tt t.length tc) ∧ News g L h news
def SrB (g : Heap) (L : Addr) (news : List (Addr × Obj)) (s : Shared) (t : Str) (tt : Tok) (s' : Shared) : Prop :=
  ∃ h tk tc wl, s' = { s with heap := h, toks := tk } ∧ Fr g L h (rWords t tt t.length tc wl) ∧ News g L h ((wl, listOf (List.toArray []) 0) :: news) ∧ ∀ p ∈ news, p.1 < wl
def SrC (g : Heap) (L : Addr) (news : List (Addr × Obj)) (s : Shared) (t : Str) (tt : Tok) (wl : Addr) (W : Nat → List Str → Prop) (s' : Shared) : Prop :=
  ∃ h tk c tc vs ws k, s' = { s with heap := h, toks := tk } ∧ Fr g L h (rWords t tt c tc wl) ∧ News g L h ((wl, listOf (List.toArray vs) k) :: news) ∧ StrsAre vs ws ∧ W c ws
set_option maxRecDepth 100000 in
set_option maxHeartbeats 8000000 in
theorem read_claim (w : World) (mean : ExcName → Option Value) (mg mb : Str → Option Value) (cn : Str) (cs : Scope) (La : Addr) (fa : Addr) (ccd : Value) (h₀ : Heap) (m : Str → Option Value) (news : List (Addr × Obj)) (s : Shared) (Q E : Value → Shared → Prop)
    (t : Str) (tt : Tok) (hlen : t.length ≤ 200) (hA : ∀ c ∈ cl t, 46 ≤ c ∧ c < 128 ∧ c ≠ 47)
    (B : Below callerA h₀ [] h₀) (F : Fr h₀ La s.heap m) (X : (hd.heap_39 w.params).In h₀) (N : News h₀ La s.heap news) (T : Top hd.view_39 (looseW hd.view_39 []) mean mg mb h₀) (hk : cs.kind = .function)
    (hNone : ¬ ReadOk (rdDigs t) (rdBase (cl t)).1 → ∀ h' tk l, Fr h₀ La h' m → News h₀ La h' ((l, listOf (List.toArray []) 0) :: news) → (∀ p ∈ news, p.1 < l) → Q (.ref l) { s with heap := h', toks := tk })
    (hSome : ReadOk (rdDigs t) (rdBase (cl t)).1 → ∀ h' tk l tp wl2 vs2 k2 tn, Fr h₀ La h' m → News h₀ La h' ((l, listOf #[.ref tp] 0) :: (tp, { cls := .type "tuple", data := .seq #[.int (termsR (rdDigs t) (rdBase (cl t)).1).sum tn, .ref wl2] }) :: (wl2, listOf (List.toArray vs2) k2) :: news) →
      StrsAre vs2 (orInt ((sufsR (cl t)).map readWord)) → (tp < l ∧ wl2 < tp) → (∀ p ∈ news, p.1 < wl2) → Q (.ref l) { s with heap := h', toks := tk }) :
    wpAny (model PySem.Challenge.rw_te0066_01.row.prog w) (callerA.deeper (envOf cn cs La fa ccd)) (call (.ref 52) [.str t tt]) Q E s := by
  w_on
  revert X; k_fill; intro X
  refine wpAny_call ?_
  k_dflt (refine' code_defC ?k1 ?k2 ?k3 ?k4 ?k5 ?kA ?kF ?kK ?k6 ?k7 ?k8 ?k9 ?kB ?kD ?_ ?c2 ?c3 ?c4; (case kA => exact rfl); (case kF => exact rfl); (case kK => assumption); (case k1 => k_asm); (case k2 => k_asm); (case k3 => k_asm); (case k4 => k_asm); (case k5 => k_asm); (case k6 => k_is); (case k7 => k_is); (case k8 => k_room); (case k9 => first | exact BindsTo.of_eq rfl | exact binds_K (by k_in) rfl (by k_is) rfl rfl rfl | fail "k_enter: no rule for these arguments"); (case kB => exact rfl); (case kD => decide +kernel); (case c2 => exact rfl); (case c3 => exact rfl); (case c4 => exact rfl); k_whole; intro g' L' h' tk' cells' FG' F' N' Y' B' X' T' l1; (try k_lt l1); k_cells Y'; (try simp only [List.cons_append, List.nil_append] at N'); (try dsimp only); (try k_lift B'))
  rename_i o1 o2 d1 d2
  generalize hQ : (fun (fl : Flow) (s' : Shared) => LeaveK h₀ La m g' _ _ s') = Qn
  generalize hE : (fun (e : Value) (s' : Shared) => wpAny _ _ (leaving _ e) _ _ s') = En
  replace d1 : o1.data = .cell none := d1
  replace d2 : o2.data = .cell none := d2
  have F1 : Fr g' L' h' (rText t tt) := fr_of F' fun y => by
    have hb : ∀ (kf : Str → Option NameKind) (m₀ : Str → Option Value), kf (Str.ofString "text") = some .local → (∀ y, m₀ y = none) → bindL kf [(Str.ofString "text", Value.str t tt)] m₀ y = rText t tt y := by
      intro kf m₀ hkf hm₀
      unfold bindL rText
      by_cases hy : y = Str.ofString "text"
      · subst hy; simp [hkf, hm₀, bindL]
      · simp [hy, hkf, hm₀, bindL]
    exact hb _ _ rfl (fun _ => rfl)
  clear F'
  refine wpAny_leaf (SrA g' L' ((L' + 1 + 1, o1) :: (L' + 1, o2) :: news) s t tt) ?_ ?_
  · k_fold
    k_steps
    refine' ⟨rfl, _, _, _, rfl, fr_of (by assumption) ?_, by assumption⟩
    all_goals (try (intro y; rfl))
  rintro _ ⟨h1, tk1, tc1, rfl, F1, N1⟩
  refine wpAny_leaf (SrB g' L' ((L' + 1 + 1, o1) :: (L' + 1, o2) :: news) s t tt) ?_ ?_
  · k_fold
    k_steps
    refine' ⟨rfl, _, _, _, _, rfl, fr_of (by assumption) ?_, by assumption, ?_⟩
    all_goals (try (intro y; rfl))
    rename_i hlt _ _ _
    intro p hp
    rcases List.mem_cons.mp hp with rfl | hp
    · exact hlt.1
    · rcases List.mem_cons.mp hp with rfl | hp
      · exact hlt.2.1
      · exact allLt_mem hlt.2.2 p hp
  rintro _ ⟨h2, tk2, tc2, wl, rfl, F2, N2, l2⟩
  refine wpAny_leaf (SrC g' L' ((L' + 1 + 1, o1) :: (L' + 1, o2) :: news) s t tt wl (fun c ws => c ≤ t.length ∧ (cl t).take c = stemR (cl t) ∧ ws = (sufsR (cl t)).map readWord)) ?_ ?_
  · refine iw_while (x := Str.ofString "cut") (t₀ := tc2) (n₀ := t.length) (RInv (cl t)) F2 N2 rfl (by rw [← cl_len]; exact rInv_init _) ?_ (by rw [← hE]; passes_own)
    intro n tn vs' ws' k' h tk' hS hP F5 N5
    have hv' : (List.toArray vs').size ≤ 200 := by
      rw [List.size_toArray, StrsAre.length hS]
      exact Nat.le_trans (rInv_ws hP) (by rw [cl_len]; exact hlen)
    have hnt : n ≤ t.length := by rw [← cl_len]; exact hP.1
    have hn : (n : Int) ≤ (t.length : Int) := by omega
    show wpAny _ _ _ _ _ _
    k_fold
    k_steps
    · have h0 : 0 < n := by omega
      obtain ⟨c, hc, hi⟩ := item_cl h0 hnt
      refine' ⟨rfl, _, _, n, tn, vs', ws', k', rfl, fr_of (by assumption) (fun y => cut_eq ..), by assumption, hS, hnt, rInv_end hP ?_⟩
      intro c' _ hc'
      rw [hc] at hc'
      cases hc'
      exact suf_yes hi (by assumption : _ = true)
    · have h0 : 0 < n := by omega
      obtain ⟨c, hc, hi⟩ := item_cl h0 hnt
      have hs : isSuf c = true := suf_yes hi (by assumption : _ = false)
      have hw := u_no hi (by assumption)
      have hst := rInv_step hP h0 hc hs
      rw [hw] at hst
      refine' ⟨n - 1, _, _, _, _, _, _, rfl, fr_of (by assumption) ?_, tw_news1 (by assumption), strs_snoc' hS, hst, by omega⟩
      all_goals (try (intro y; exact cut_eq1 _ _ _ h0 ..))
    · have h0 : 0 < n := by omega
      obtain ⟨c, hc, hi⟩ := item_cl h0 hnt
      have hs : isSuf c = true := suf_yes hi (by assumption : _ = false)
      have hw := u_yes hi (by assumption)
      have hst := rInv_step hP h0 hc hs
      rw [hw] at hst
      refine' ⟨n - 1, _, _, _, _, _, _, rfl, fr_of (by assumption) ?_, tw_news1 (by assumption), strs_snoc' hS, hst, by omega⟩
      all_goals (try (intro y; exact cut_eq1 _ _ _ h0 ..))
    · exact ⟨rfl, _, _, n, tn, vs', ws', k', rfl, fr_of (by assumption) (fun y => cut_eq ..), by assumption, hS, hnt, rInv_end hP fun c h0 _ => absurd h0 (by omega)⟩
  have hw2 : @LT.lt Nat _ (L' + 1 + 1) wl := l2 _ (List.mem_cons_self ..)
  rintro _ ⟨h3, tk3, c, tc, vs, ws, k, rfl, F3, N3, hS, hct, hstem, hws⟩
  refine wpAny_leaf (SrD g' L' news o1 s t tt c tc wl vs k (fun b st => b = 10 ∧ st = 0)) ?_ ?_
  · k_fold
    k_steps
    refine' ⟨rfl, _, _, 10, _, 0, _, _, rfl, fr_of (by assumption) ?_, news_drop (by assumption) fun p hp => List.mem_cons_of_mem _ hp, by assumption, rfl, rfl⟩
    all_goals (try (intro y; rfl))
  rintro _ ⟨h4, tk4, b, tb, st, tst, o2, rfl, F4, N4, d2, hb, hst⟩
  refine wpAny_leaf (SrD g' L' news o1 s t tt c tc wl vs k (fun b st => rdBase (cl t) = (b, st))) ?_ ?_
  · k_fold
    k_steps
    · refine' ⟨rfl, _, _, 16, _, 2, _, _, rfl, fr_of (by assumption) ?_, news_drop (by assumption) fun p hp => List.mem_cons_of_mem _ hp, by assumption, rd_x (by assumption)⟩
      all_goals (try (intro y; exact st_eq (st := 2) ..))
    · refine' ⟨rfl, _, _, 16, _, 2, _, _, rfl, fr_of (by assumption) ?_, news_drop (by assumption) fun p hp => List.mem_cons_of_mem _ hp, by assumption, rd_X (by assumption)⟩
      all_goals (try (intro y; exact st_eq (st := 2) ..))
    · refine' ⟨rfl, _, _, 2, _, 2, _, _, rfl, fr_of (by assumption) ?_, news_drop (by assumption) fun p hp => List.mem_cons_of_mem _ hp, by assumption, rd_b (by assumption) (by assumption) (by assumption)⟩
      all_goals (try (intro y; exact st_eq (st := 2) ..))
    · refine' ⟨rfl, _, _, 2, _, 2, _, _, rfl, fr_of (by assumption) ?_, news_drop (by assumption) fun p hp => List.mem_cons_of_mem _ hp, by assumption, rd_B (by assumption) (by assumption) (by assumption)⟩
      all_goals (try (intro y; exact st_eq (st := 2) ..))
    · subst hst
      exact ⟨rfl, _, _, 8, _, 0, _, _, rfl, by assumption, by assumption, by assumption, rd_0 (by assumption) (by assumption) (by assumption) (by assumption) (by assumption)⟩
    · subst hst hb
      exact ⟨rfl, _, _, 10, _, 0, _, _, rfl, by assumption, by assumption, d2, rd_n (by assumption) (by assumption) (by assumption) (by assumption) (by assumption)⟩
  clear hst hb d2 N4 F4
  rintro _ ⟨h5, tk5, b, tb, st, tst, o2, rfl, F5, N5, d2, hbs⟩
  refine wpAny_leaf (SrE g' L' news s t tt c tc wl vs k st tst o2 ((signs (Txt.lower (Txt.slice t (some (st : Int)) (some (c : Int))))).map digF)) ?_ ?_
  · k_fold
    walk1
    refine' comp_signs (m := rStart t tt c tc wl st tst) (news := (wl, listOf (List.toArray vs) k) :: (L' + 1 + 1, o1) :: (L' + 1, o2) :: news) (fun a => PyData.int (digF a)) ?hh ?hclos ?hcell ?hkind ?hnames ?hx ?h ?hs
    case hh => rfl
    case hclos => with_unfolding_all rfl
    case hcell => decide
    case hkind => with_unfolding_all rfl
    case hnames => decide
    case hx => with_unfolding_all rfl
    case hs => intro _; with_unfolding_all rfl
    show wpAny _ _ _ _ _ _
    k_fold
    k_steps
    refine ⟨_, _, rfl, by size_fits, by assumption, by assumption, ?_, ?_⟩
    · intro C a v s₂ m₂ E' hv hn hm F9 N9
      obtain ⟨u, rfl⟩ := hv
      k_fold
      k_steps
      · exact .int _ _
      · exact ⟨_, _, rfl, fun _ _ e => e⟩
    · intro D ys n h' tk F9 N9 hne hc
      have e1 : @Ne Nat wl D := hne _ (List.mem_cons_self ..)
      have e2 : @Ne Nat (L' + 1 + 1) D := hne (L' + 1 + 1, o1) (List.mem_cons_of_mem _ (List.mem_cons_self ..))
      have e3 : @Ne Nat (L' + 1) D := hne (L' + 1, o2) (List.mem_cons_of_mem _ (List.mem_cons_of_mem _ (List.mem_cons_self ..)))
      show wpAny _ _ _ _ _ _
      k_fold
      k_steps
      exact ⟨rfl, _, _, D, ys, n, _, rfl, by assumption, by assumption, by assumption, CarriedAll.intsOf hc⟩
  clear d1 N5 F5
  rintro _ ⟨h6, tk6, D, ys, n, o1, rfl, F6, N6, d1, hds⟩
  have hdE : (signs (Txt.lower (Txt.slice t (some (st : Int)) (some (c : Int))))).map digF = rdDigs t := by
    rw [signs_cl, low_slice (fun d hd => (hA d hd).2.1) hct hstem (by rw [hbs]), List.map_map]
    unfold rdDigs
    rw [hbs]
    rfl
  have hdl0 : (rdDigs t).length ≤ 200 := by
    unfold rdDigs
    rw [List.length_map, List.length_map, List.length_drop]
    have h1 := stemR_len (cl t)
    rw [cl_len] at h1
    omega
  rw [hdE] at hds
  have hb1 : (rdBase (cl t)).1 = b := by rw [hbs]
  rw [hb1] at hNone hSome
  generalize rdDigs t = ds at hds hNone hdl0 hSome
  refine wpAny_leafR (fun s' => SrE g' L' news s t tt c tc wl vs k st tst o2 ds s' ∧ ReadOk ds b) ?_ ?_
  · k_fold
    k_steps
    · rename_i hnil _ h9 F9 N9 hl9
      show Qn (.ret _) _
      rw [← hQ]
      refine ⟨L', _, _, F9, news_drop (news := (_, listOf #[] 0) :: news) N9 (fun p hp => ?_), fun kF kN => hNone (fun hr => hr.1 (of_decide_eq_true hnil)) _ _ _ kF kN (allLt_mem hl9.2.2.2.2.2)⟩
      exact sub7 hp
    · rename_i hM _ hlt _ h9 F9 N9 hl9
      show Qn (.ret _) _
      rw [← hQ]
      refine ⟨L', _, _, F9, news_drop (news := (_, listOf #[] 0) :: news) N9 (fun p hp => ?_), fun kF kN => hNone (fun hr => absurd (hr.2 _ hM).1 (by omega)) _ _ _ kF kN (allLt_mem hl9.2.2.2.2.2)⟩
      exact sub7 hp
    · rename_i hM _ hge _ h9 F9 N9 hl9
      show Qn (.ret _) _
      rw [← hQ]
      refine ⟨L', _, _, F9, news_drop (news := (_, listOf #[] 0) :: news) N9 (fun p hp => ?_), fun kF kN => hNone (fun hr => absurd (hr.2 _ hM).2 (by omega)) _ _ _ kF kN (allLt_mem hl9.2.2.2.2.2)⟩
      exact sub7 hp
    · rename_i hnil _ M1 _ _ _ _ hM1 hm1 hlt h9 M2 _ _ F9 N9 hM2 hm2 hge
      refine ⟨⟨_, _, D, ys, n, o1, rfl, F9, news_drop N9 fun p hp => List.mem_cons_of_mem _ hp, d1, hds⟩, fun e => of_decide_eq_false hnil e, fun d hd => ?_⟩
      have h1 := hm1 d hd
      have h2 := hm2 d hd
      omega
  clear d1 N6 F6 hds hNone
  have hwl : ws.length ≤ 200 := by
    rw [hws, List.length_map]
    have := (List.takeWhile_sublist isSuf (l := (cl t).reverse)).length_le
    rw [List.length_reverse, cl_len] at this
    exact Nat.le_trans this hlen
  rintro _ ⟨⟨h7, tk7, D, ys, n, o1, rfl, F7, N7, d1, hds⟩, hok⟩
  refine wpAny_execs_cons ?_
  k_fold
  iterate 9 (first | walk1 | (dsimp only; walk1))
  refine' comp_enum (h₀ := g') (L := L') (m := rStart t tt c tc wl st tst) (news := (D, listOf (List.toArray ys) n) :: (wl, listOf (List.toArray vs) k) :: (L' + 1 + 1, o1) :: (L' + 1, o2) :: news) (elG ds b) ?hh ?hclos ?hcell ?hkind ?hnames ?hxi ?hxv ?hne ?h ?hs
  case hh => rfl
  case hclos => with_unfolding_all rfl
  case hcell => decide
  case hkind => with_unfolding_all rfl
  case hnames => decide
  case hxi => with_unfolding_all rfl
  case hxv => with_unfolding_all rfl
  case hne => decide +kernel
  case hs => intro _; with_unfolding_all rfl
  iterate 6 (first | walk1 | (dsimp only; walk1))
  refine enum_call F7 N7 fun h' e it hE9 hI hL hei hDe hDi F8 N8 h0e h0i hLe hLi hoff => ?_
  have hlen9 : (List.toArray ys).size ≤ sizeLine := by rw [List.size_toArray, IntsAre.length hds, sizeLine_eq]; omega
  refine ⟨e, it, D, List.toArray ys, rfl, hE9, hI, hL, hei, hDe, hDi, hlen9, F8, N8, h0e, h0i, hLe, hLi, hoff, ?_, ?_⟩
  · intro C i a b' s₂ m₂ E' hb ha hn hmi hmv F9 N9
    obtain ⟨ta, rfl⟩ := ha
    obtain ⟨⟨tb', rfl⟩, hids⟩ := item_int hds (by simpa using hb)
    have hdl : ds.length ≤ 200 := hdl0
    have hb16 : b ≤ 16 := by rw [← hb1]; rcases rdBase_cases (cl t) with e | e | e | e <;> rw [e] <;> decide
    have hx1 : (0 : Int) ≤ (ds.length : Int) - 1 - (i : Int) := by omega
    have hx2 : (ds.length : Int) - 1 - (i : Int) ≤ 1000000 := by omega
    have hx3 : (b : Int).natAbs < 2 ^ 64 := by omega
    show wpAny _ _ _ _ _ _
    k_fold
    iterate 18 (first | walk1 | (dsimp only; walk1))
    refine mul_int ?_ ?hm
    case hm =>
      have := hok.2 _ (getD_mem hids)
      exact IntMulOk.of_left (intBits_le_64 (by omega) (by omega))
    k_steps
    · have e9 : ((ds.length : Int) - 1 - (i : Int)).toNat = ds.length - 1 - i := by omega
      rw [e9]
      exact ⟨_, rfl⟩
    · exact ⟨_, _, rfl, fun _ _ e => e⟩
  · intro D2 zs n2 h' tk' F9 N9 hne hsz hG
    have hl9 : h'.IsList D2 zs.toList.toArray := by rw [Array.toArray_toList]; exact ⟨listOf zs n2, (N9 (D2, listOf zs n2) (List.mem_cons_self ..)).1, rfl, n2, rfl⟩
    have hz : IntsAre zs.toList (termsR ds b) := ints_elG (by rw [hsz, List.size_toArray, IntsAre.length hds]) hG
    show wpAny _ _ _ _ _ _
    have hv9 : ((List.toArray vs).size : Int) < 2 ^ 63 := by rw [List.size_toArray, StrsAre.length hS]; omega
    show wpAny _ _ _ _ _ _
    k_fold
    iterate 6 (first | (k_unfold; (try dsimp only)) | walk1 | (dsimp only; walk1))
    rename_i ts F10 N10
    refine' wpAny_truthy_list (l := wl) (items := List.toArray vs) ?t1 ?t2 ?_
    case t1 => exact ⟨listOf (List.toArray vs) k, (N10 (wl, listOf (List.toArray vs) k) (by simp)).1, rfl, k, rfl⟩
    case t2 => exact hv9
    rw [← hws] at hSome
    k_steps
    · rename_i hemp l9 _ hl9 tp9 _ htp9 ll9 h9 F9 N9 hll9
      show Qn (.ret _) _
      rw [← hQ]
      have hnil := strs_nil hS (by simpa using hemp)
      refine ⟨L', _, _, F9, drop38 N9, fun kF kN => hSome hok _ _ ll9 tp9 l9 _ _ _ kF kN (by rw [hnil]; exact StrsAre.cons _ _ StrsAre.nil) ⟨hll9.1, htp9.1⟩ (allLt_mem hl9.2.2.2.2.2)⟩
    · rename_i hemp tp9 _ htp9 ll9 h9 F9 N9 hll9
      show Qn (.ret _) _
      rw [← hQ]
      have hne := strs_ne hS (by simpa using hemp)
      refine ⟨L', _, _, F9, drop37 N9, fun kF kN => hSome hok _ _ ll9 tp9 wl vs k _ kF kN (by rw [← orInt_cons hne]; exact hS) ⟨hll9.1, htp9.2.2.1⟩ (fun p hp => l2 p (List.mem_cons_of_mem _ (List.mem_cons_of_mem _ hp)))⟩
end Mine
end

section
/-! part N3 -/
open PySem PySem.W PyProof.Rows
set_option Elab.async false
set_option linter.unusedVariables false
namespace Mine
def xA (va : Int) (ta : Tok) (vb : Int) (tb : Tok) : Str → Option Value := fun y => if y = Str.ofString "b" then some (.int vb tb) else if y = Str.ofString "a" then some (.int va ta) else none
def idx6 (va : Int) : Nat := (va.fmod 6).toNat
def xBase (va : Int) (ta : Tok) (vb : Int) (tb : Tok) (tbs : Tok) : Str → Option Value := fun y => if y = Str.ofString "base" then some (.int (baseOf (idx6 va)) tbs) else xA va ta vb tb y
def xRest (va : Int) (ta : Tok) (vb : Int) (tb : Tok) (tbs : Tok) (r : Int) (tr : Tok) : Str → Option Value := fun y => if y = Str.ofString "rest" then some (.int r tr) else xBase va ta vb tb tbs y
def xBody (va : Int) (ta : Tok) (vb : Int) (tb : Tok) (tbs : Tok) (r : Int) (tr : Tok) (bd : Str) (tbd : Tok) : Str → Option Value := fun y => if y = Str.ofString "body" then some (.str bd tbd) else xRest va ta vb tb tbs r tr y
def xBits (va : Int) (ta : Tok) (vb : Int) (tb : Tok) (tbs : Tok) (r : Int) (tr : Tok) (bd : Str) (tbd : Tok) (bi : Int) (tbi : Tok) : Str → Option Value := fun y => if y = Str.ofString "bits" then some (.int bi tbi) else xBody va ta vb tb tbs r tr bd tbd y
def xTail (va : Int) (ta : Tok) (vb : Int) (tb : Tok) (tbs : Tok) (r : Int) (tr : Tok) (bd : Str) (tbd : Tok) (bi : Int) (tbi : Tok) (tl : Str) (ttl : Tok) : Str → Option Value := fun y => if y = Str.ofString "tail" then some (.str tl ttl) else xBits va ta vb tb tbs r tr bd tbd bi tbi y
theorem spot_eq (m₀ : Str → Option Value) (t : Tok) {z : Int} {n : Nat} (h : z = (n : Int)) (y : Str) : (if y = Str.ofString "spot" then some (Value.int z t) else m₀ y) = (if y = Str.ofString "spot" then some (Value.int (n : Int) t) else m₀ y) := by rw [h]
theorem strays_len (va : Int) : ([Str.ofString "", Str.ofString ".", Str.ofString "", Str.ofString "e", Str.ofString "", Str.ofString "g", Str.ofString "9", Str.ofString "", Str.ofString "u", Str.ofString "L", Str.ofString ".5e"].getD (va.fmod 11).toNat Str.empty).length ≤ 3 := by
  have hba := Int.fmod_nonneg_of_pos va (b := 11) (by decide)
  have hbb := Int.fmod_lt_of_pos va (b := 11) (by decide)
  rw [← cl_len]
  exact (strays_tab (va.fmod 11).toNat (by omega)).1
theorem marks_len {i : Nat} (h : i < 6) : ([Str.ofString "", Str.ofString "0", Str.ofString "0x", Str.ofString "0X", Str.ofString "0b", Str.ofString "0B"].getD i Str.empty).length ≤ 2 := by
  revert i; decide +kernel
theorem half5_nonneg (a : Int) : 0 ≤ (a.fmod 5).fdiv 2 := by
  have h := Int.fmod_nonneg_of_pos a (b := 5) (by decide)
  rw [Int.fdiv_eq_ediv_of_nonneg _ (by decide)]
  omega
theorem half5_le (a : Int) : (a.fmod 5).fdiv 2 ≤ 2 := by
  have h := Int.fmod_lt_of_pos a (b := 5) (by decide)
  rw [Int.fdiv_eq_ediv_of_nonneg _ (by decide)]
  omega
theorem zeros_len (a : Int) : (Txt.mul (Str.ofString "0") ((a.fmod 5).fdiv 2)).length ≤ 2 := by
  have h0 := half5_nonneg a
  have h1 := half5_le a
  generalize (a.fmod 5).fdiv 2 = z at *
  have : z = 0 ∨ z = 1 ∨ z = 2 := by omega
  rcases this with rfl | rfl | rfl <;> decide +kernel
local macro_rules | `(tactic| walk_at "subscriptTail") => `(tactic| (k_here; (with_reducible show wpAny _ _ (subscriptTail _ _ (Value.ref _) (Value.int _ _)) _ _ _); ktb_letter; k_dflt (refine' KTb.item_list ?ktbl ?ktbw ?ktb0 ?ktb1 ?ktbf ?_; (case ktbl => ktb_isList); (case ktbw => repeat constructor); (case ktb0 => ktb_idx); (case ktb1 => ktb_idx); (case ktbf => ktb_idx)); intro _ ktbLt))
theorem small5 : ∀ q < 5, Builtin.Range.small 0 (q : Nat) 1 = true ∧ Builtin.Range.rangeSize 0 (q : Nat) 1 = (q : Nat) := by decide
def xText (va : Int) (ta : Tok) (vb : Int) (tb : Tok) (tbs : Tok) (r : Int) (tr : Tok) (bd : Str) (tbd : Tok) (bi : Int) (tbi : Tok) (tl : Str) (ttl : Tok) (tx : Str) (ttx : Tok) : Str → Option Value := fun y => if y = Str.ofString "text" then some (.str tx ttx) else xTail va ta vb tb tbs r tr bd tbd bi tbi tl ttl y
def xSpot (va : Int) (ta : Tok) (vb : Int) (tb : Tok) (tbs : Tok) (r : Int) (tr : Tok) (bd : Str) (tbd : Tok) (bi : Int) (tbi : Tok) (tl : Str) (ttl : Tok) (tx : Str) (ttx : Tok) (sp : Nat) (tsp : Tok) : Str → Option Value := fun y => if y = Str.ofString "spot" then some (.int (sp : Int) tsp) else xText va ta vb tb tbs r tr bd tbd bi tbi tl ttl tx ttx y
def AtF (g : Heap) (L : Addr) (s : Shared) (news : List (Addr × Obj)) (M : (Str → Option Value) → Prop) (s' : Shared) : Prop := ∃ h tk m', s' = { s with heap := h, toks := tk } ∧ Fr g L h m' ∧ News g L h news ∧ M m'
theorem idx6_lt (va : Int) : idx6 va < 6 := by
  unfold idx6
  have h1 := Int.fmod_lt_of_pos va (b := 6) (by decide)
  omega
theorem base_cases {i : Nat} (h : i < 6) : baseOf i = 10 ∨ baseOf i = 8 ∨ baseOf i = 16 ∨ baseOf i = 2 := by
  unfold baseOf
  match i, h with
  | 0, _ => exact .inl rfl
  | 1, _ => exact .inr (.inl rfl)
  | 2, _ => exact .inr (.inr (.inl rfl))
  | 3, _ => exact .inr (.inr (.inl rfl))
  | 4, _ => exact .inr (.inr (.inr rfl))
  | 5, _ => exact .inr (.inr (.inr rfl))
/-- a while over an int, a text and an int -/
def bwM (xr xb xi : Str) (r : Int) (tr : Tok) (bd : Str) (tb : Tok) (bi : Int) (ti : Tok) (m₀ : Str → Option Value) : Str → Option Value := fun z => if z = xr then some (.int r tr) else if z = xb then some (.str bd tb) else if z = xi then some (.int bi ti) else m₀ z
def BwEnd (h₀ : Heap) (L : Addr) (s : Shared) (xr xb xi : Str) (news : List (Addr × Obj)) (m₀ : Str → Option Value) (P : Int → Str → Prop) (r : Int) (s₂ : Shared) : Prop :=
  ∃ r' tr' bd' tb' bi' ti' h' tk', s₂ = { s with heap := h', toks := tk' } ∧ Fr h₀ L h' (bwM xr xb xi r' tr' bd' tb' bi' ti' m₀) ∧ News h₀ L h' news ∧ P r' bd' ∧ r'.toNat < r.toNat
def BwPost (h₀ : Heap) (L : Addr) (s : Shared) (xr xb xi : Str) (news : List (Addr × Obj)) (m₀ : Str → Option Value) (P : Int → Str → Prop) (Q : Flow → Shared → Prop) (r : Int) (f : Flow) (s₂ : Shared) : Prop :=
  match f with
  | .ret v => Q (.ret v) s₂
  | .brk => Q .next s₂
  | _ => BwEnd h₀ L s xr xb xi news m₀ P r s₂
theorem bw_while {prog : Program} {w : World} {A : Around} {E : Value → Shared → Prop} {Q : Flow → Shared → Prop} {s : Shared} {env : Env} {h₀ : Heap} {L : Addr} {test : PySem.Expr} {body : List Stmt} {pos : Pos}
    {xr xb xi : Str} {r₀ : Int} {tr₀ : Tok} {b₀ : Str} {tb₀ : Tok} {i₀ : Int} {ti₀ : Tok} {news : List (Addr × Obj)} {m₀ : Str → Option Value} (P : Int → Str → Prop)
    (hne1 : xb ≠ xr) (hne2 : xi ≠ xr) (hne3 : xi ≠ xb)
    (F : Fr h₀ L s.heap m₀) (N : News h₀ L s.heap news) (hr : m₀ xr = some (.int r₀ tr₀)) (hb : m₀ xb = some (.str b₀ tb₀)) (hi : m₀ xi = some (.int i₀ ti₀)) (hP : P r₀ b₀)
    (turn : ∀ r tr bd tb bi ti h tk', P r bd → Fr h₀ L h (bwM xr xb xi r tr bd tb bi ti m₀) → News h₀ L h news →
      wpAny (model prog w) A (isTrue test env (eval test env)) (fun b s₂ =>
        if b = true then wpAny (model prog w) A (execs body env) (BwPost h₀ L s xr xb xi news m₀ P Q r) E s₂ else Q .next s₂) E { s with heap := h, toks := tk' })
    (hE : PassesOwn (model prog w) A env E) :
    wpAny (model prog w) A (exec (.While test body [] pos) env) Q E s := by
  refine ksw_while (σ := Int × Tok × Str × Tok × Int × Tok) (fun _ => news) (fun c => [(xr, .int c.1 c.2.1), (xb, .str c.2.2.1 c.2.2.2.1), (xi, .int c.2.2.2.2.1 c.2.2.2.2.2)]) (fun _ => True) [] (fun c => P c.1 c.2.2.1) (fun c => c.1.toNat) (r₀, tr₀, b₀, tb₀, i₀, ti₀)
    F N trivial (by
      intro p hp
      simp only [List.mem_cons, List.not_mem_nil, or_false] at hp
      rcases hp with rfl | rfl | rfl
      · exact hr
      · exact hb
      · exact hi) hP ?_ hE
  rintro ⟨r, tr, bd, tb, bi, ti⟩ u h tk _ hPn F₁ N₁
  have F₂ : Fr h₀ L h (bwM xr xb xi r tr bd tb bi ti m₀) := fr_of F₁ fun y => by
    show (if y = xr then _ else if y = xb then _ else if y = xi then _ else if ([] : List Str).contains y = true then u y else m₀ y) = _
    unfold bwM
    simp
  refine wpAny_mono (turn r tr bd tb bi ti h tk hPn F₂ N₁) (fun b s₂ hb => ?_) fun _ _ y => y
  cases b with
  | false => exact hb
  | true =>
    simp only [if_true] at hb ⊢
    refine wpAny_mono hb (fun f s₃ hf => ?_) fun _ _ y => y
    have back : BwEnd h₀ L s xr xb xi news m₀ P r s₃ → KswEnd h₀ L s (fun _ : Int × Tok × Str × Tok × Int × Tok => news) (fun c => [(xr, .int c.1 c.2.1), (xb, .str c.2.2.1 c.2.2.2.1), (xi, .int c.2.2.2.2.1 c.2.2.2.2.2)]) (fun _ => True) [] m₀ (fun c => P c.1 c.2.2.1) (fun c => c.1.toNat) (r, tr, bd, tb, bi, ti) s₃ := by
      rintro ⟨r', tr', bd', tb', bi', ti', h', tk', rfl, F', N', hP', hm⟩
      refine ⟨(r', tr', bd', tb', bi', ti'), h', tk', _, _, rfl, F', N', fun p hp => hp, trivial, ?_, ?_, hP', hm⟩
      · intro p hp
        simp only [List.mem_cons, List.not_mem_nil, or_false] at hp
        unfold bwM
        rcases hp with rfl | rfl | rfl
        · simp
        · simp [hne1]
        · simp [hne2, hne3]
      · intro z hz _
        have h1 : z ≠ xr := hz (xr, .int r' tr') (by simp)
        have h2 : z ≠ xb := hz (xb, .str bd' tb') (by simp)
        have h3 : z ≠ xi := hz (xi, .int bi' ti') (by simp)
        unfold bwM
        simp [h1, h2, h3]
    cases f with
    | ret v => exact hf
    | brk => exact hf
    | next => exact back hf
    | cont => exact back hf
theorem bw_x (va : Int) (ta : Tok) (vb : Int) (tb : Tok) (tbs : Tok) (r r' : Int) (tr tr' : Tok) (bd bd' : Str) (tbd tbd' : Tok) (bi bi' : Int) (tbi tbi' : Tok) (y : Str) :
    bwM (Str.ofString "rest") (Str.ofString "body") (Str.ofString "bits") r tr bd tbd bi tbi (xBits va ta vb tb tbs r' tr' bd' tbd' bi' tbi') y = xBits va ta vb tb tbs r tr bd tbd bi tbi y := by
  have h1 : ¬ Str.ofString "rest" = Str.ofString "body" := by decide +kernel
  have h2 : ¬ Str.ofString "rest" = Str.ofString "bits" := by decide +kernel
  have h3 : ¬ Str.ofString "body" = Str.ofString "bits" := by decide +kernel
  unfold bwM xBits xBody xRest
  by_cases e1 : y = Str.ofString "rest"
  · simp [e1, h1, h2]
  · by_cases e2 : y = Str.ofString "body"
    · have : ¬ Str.ofString "body" = Str.ofString "rest" := fun e => h1 e.symm
      simp [e2, this, h3]
    · by_cases e3 : y = Str.ofString "bits"
      · simp [e1, e2, e3]
        intros; simp_all
      · simp [e1, e2, e3]
theorem bw_back (va : Int) (ta : Tok) (vb : Int) (tb : Tok) (tbs : Tok) (r r0 r1 : Int) (tr tr0 tr1 : Tok) (bd bd0 bd1 : Str) (tbd tbd0 tbd1 : Tok) (bi bi0 bi1 : Int) (tbi tbi0 tbi1 : Tok) (y : Str) :
    (if y = Str.ofString "bits" then some (Value.int bi tbi) else if y = Str.ofString "rest" then some (Value.int r tr) else if y = Str.ofString "body" then some (Value.str bd tbd) else xBits va ta vb tb tbs r0 tr0 bd0 tbd0 bi0 tbi0 y)
      = bwM (Str.ofString "rest") (Str.ofString "body") (Str.ofString "bits") r tr bd tbd bi tbi (xBits va ta vb tb tbs r1 tr1 bd1 tbd1 bi1 tbi1) y := by
  have h1 : ¬ Str.ofString "rest" = Str.ofString "body" := by decide +kernel
  have h2 : ¬ Str.ofString "rest" = Str.ofString "bits" := by decide +kernel
  have h3 : ¬ Str.ofString "body" = Str.ofString "bits" := by decide +kernel
  rw [bw_x]
  unfold xBits xBody xRest
  by_cases e3 : y = Str.ofString "bits"
  · simp [e3]
  · by_cases e1 : y = Str.ofString "rest"
    · simp [e1, h1, h2]
    · by_cases e2 : y = Str.ofString "body"
      · have : ¬ Str.ofString "body" = Str.ofString "rest" := fun e => h1 e.symm
        simp [e2, this, h3]
      · simp [e1, e2, e3]
theorem high_dig {b r : Int} {x : Str} (hb : b = 10 ∨ b = 8 ∨ b = 16 ∨ b = 2) (h : BodyInv b r x) (hr : 0 < r) : BodyInv b (r.fdiv b) (Txt.item (Str.ofString "0123456789ABCDEF") (r.fmod b) ++ x) ∧ (r.fdiv b).toNat < r.toNat := by
  obtain ⟨c, hc, ho⟩ := item_dig (x := Str.ofString "0123456789ABCDEF") (.inr cl_HIGH) hb (r := r)
  exact bodyInv_step hb h hr hc ho
theorem low_dig {b r : Int} {x : Str} (hb : b = 10 ∨ b = 8 ∨ b = 16 ∨ b = 2) (h : BodyInv b r x) (hr : 0 < r) : BodyInv b (r.fdiv b) (Txt.item (Str.ofString "0123456789abcdef") (r.fmod b) ++ x) ∧ (r.fdiv b).toNat < r.toNat := by
  obtain ⟨c, hc, ho⟩ := item_dig (x := Str.ofString "0123456789abcdef") (.inl cl_LOW) hb (r := r)
  exact bodyInv_step hb h hr hc ho
set_option maxRecDepth 100000 in
set_option maxHeartbeats 8000000 in
theorem text_claim (w : World) (mean : ExcName → Option Value) (mg mb : Str → Option Value) (cn : Str) (cs : Scope) (La : Addr) (fa : Addr) (ccd : Value) (h₀ : Heap) (m : Str → Option Value) (news : List (Addr × Obj)) (s : Shared) (Q E : Value → Shared → Prop)
    (va vb vc : Int) (ta tb tc : Tok)
    (B : Below callerA h₀ [] h₀) (F : Fr h₀ La s.heap m) (X : (hd.heap_39 w.params).In h₀) (N : News h₀ La s.heap news) (T : Top hd.view_39 (looseW hd.view_39 []) mean mg mb h₀) (hk : cs.kind = .function)
    (hText : ∀ h' tk x tx, Fr h₀ La h' m → News h₀ La h' news → TextOk x → Q (.str x tx) { s with heap := h', toks := tk }) :
    wpAny (model PySem.Challenge.rw_te0066_01.row.prog w) (callerA.deeper (envOf cn cs La fa ccd)) (call (.ref 47) [.int va ta, .int vb tb, .int vc tc]) Q E s := by
  w_on
  revert X; k_fill; intro X
  refine wpAny_call ?_
  k_dflt (refine' code_defC ?k1 ?k2 ?k3 ?k4 ?k5 ?kA ?kF ?kK ?k6 ?k7 ?k8 ?k9 ?kB ?kD ?_ ?c2 ?c3 ?c4; (case kA => exact rfl); (case kF => exact rfl); (case kK => assumption); (case k1 => k_asm); (case k2 => k_asm); (case k3 => k_asm); (case k4 => k_asm); (case k5 => k_asm); (case k6 => k_is); (case k7 => k_is); (case k8 => k_room); (case k9 => first | exact BindsTo.of_eq rfl | exact binds_K (by k_in) rfl (by k_is) rfl rfl rfl | fail "k_enter: no rule for these arguments"); (case kB => exact rfl); (case kD => decide +kernel); (case c2 => exact rfl); (case c3 => exact rfl); (case c4 => exact rfl); k_whole; intro g' L' h' tk' cells' FG' F' N' Y' B' X' T' l1; (try k_lt l1); k_cells Y'; (try simp only [List.cons_append, List.nil_append] at N'); (try dsimp only); (try k_lift B'))
  generalize hQ : (fun (fl : Flow) (s' : Shared) => LeaveK h₀ La m g' _ _ s') = Qn
  generalize hE : (fun (e : Value) (s' : Shared) => wpAny _ _ (leaving _ e) _ _ s') = En
  rename_i o1 d1
  replace d1 : o1.data = .cell (some (.int vc tc)) := d1
  have F1 : Fr g' L' h' (xA va ta vb tb) := fr_of F' fun y => by
    have hb : ∀ (kf : Str → Option NameKind) (m₀ : Str → Option Value), kf (Str.ofString "a") = some .local → kf (Str.ofString "b") = some .local → kf (Str.ofString "c") = some .cell → (∀ y, m₀ y = none) →
        bindL kf [(Str.ofString "a", Value.int va ta), (Str.ofString "b", Value.int vb tb), (Str.ofString "c", Value.int vc tc)] m₀ y = xA va ta vb tb y := by
      intro kf m₀ h1 h2 h3 hm₀
      unfold xA
      simp [h1, h2, h3, hm₀, bindL]
    exact hb _ _ rfl rfl rfl (fun _ => rfl)
  clear F'
  refine wpAny_leaf (AtF g' L' s ((L' + 1, o1) :: news) fun m' => ∃ tbs, m' = xBase va ta vb tb tbs) ?_ ?_
  · k_fold
    k_steps
    refine ⟨rfl, _, _, _, rfl, by assumption, news_drop (by assumption) fun p hp => List.mem_cons_of_mem _ hp, _, rfl⟩
  rintro _ ⟨h1, tk1, _, rfl, F2, N2, tbs, rfl⟩
  refine wpAny_leaf (AtF g' L' s ((L' + 1, o1) :: news) fun m' => ∃ r tr, m' = xRest va ta vb tb tbs r tr ∧ 0 ≤ r ∧ r < baseOf (idx6 va) ^ 20) ?_ ?_
  · have hbc := base_cases (idx6_lt va)
    have hb64 : (baseOf (idx6 va)).natAbs < 2 ^ 64 := by rcases hbc with e | e | e | e <;> rw [e] <;> decide
    have hpos : 0 < baseOf (idx6 va) ^ 20 := by rcases hbc with e | e | e | e <;> rw [e] <;> decide
    clear hbc
    show wpAny _ _ _ _ _ _
    k_fold
    k_steps
    · rename_i h0 _ _ _ _
      have h0' : baseOf (idx6 va) ^ 20 = 0 := h0
      omega
    · exact ⟨rfl, _, _, _, rfl, by assumption, by assumption, _, _, rfl, Int.fmod_nonneg_of_pos _ hpos, Int.fmod_lt_of_pos _ hpos⟩
  rintro _ ⟨h2, tk2, _, rfl, F3, N3, r, tr, rfl, hr0, hr1⟩
  refine wpAny_leaf (AtF g' L' s ((L' + 1, o1) :: news) fun m' => ∃ tbd, m' = xBody va ta vb tb tbs r tr (Str.ofString "") tbd) ?_ ?_
  · k_fold
    k_steps
    exact ⟨rfl, _, _, _, rfl, by assumption, by assumption, _, rfl⟩
  rintro _ ⟨h3, tk3, _, rfl, F4, N4, tbd, rfl⟩
  refine wpAny_leaf (AtF g' L' s ((L' + 1, o1) :: news) fun m' => ∃ bi tbi, m' = xBits va ta vb tb tbs r tr (Str.ofString "") tbd bi tbi) ?_ ?_
  · k_fold
    k_steps
    exact ⟨rfl, _, _, _, rfl, by assumption, by assumption, _, _, rfl⟩
  rintro _ ⟨h4, tk4, _, rfl, F5, N5, bi, tbi, rfl⟩
  refine wpAny_leaf (AtF g' L' s ((L' + 1, o1) :: news) fun m' => ∃ r tr bd tbd bi tbi, m' = xBits va ta vb tb tbs r tr bd tbd bi tbi ∧ (cl bd).length ≤ 20 ∧ ∀ c ∈ cl bd, okDig (baseOf (idx6 va)) c) ?_ ?_
  · have hbc := base_cases (idx6_lt va)
    refine bw_while (xr := Str.ofString "rest") (xb := Str.ofString "body") (xi := Str.ofString "bits") (BodyInv (baseOf (idx6 va))) (by decide +kernel) (by decide +kernel) (by decide +kernel) F5 N5 rfl rfl rfl (bodyInv_init hr0 hr1) ?_ (by rw [← hE]; passes_own)
    intro r tr bd tbd bi tbi h tk' hP F6 N6
    replace F6 := fr_of F6 fun y => bw_x ..
    have hb64 : (baseOf (idx6 va)).natAbs < 2 ^ 64 := by rcases hbc with e | e | e | e <;> rw [e] <;> decide
    have hf0 : 0 ≤ r.fmod (baseOf (idx6 va)) := Int.fmod_nonneg_of_pos r (by omega)
    have hf1 : r.fmod (baseOf (idx6 va)) < 16 := by have := Int.fmod_lt_of_pos r (b := baseOf (idx6 va)) (by omega); omega
    have hbl : bd.length ≤ 20 := by rw [← cl_len]; exact hP.2.1
    have hb2 : 2 ≤ baseOf (idx6 va) := by omega
    clear hbc
    show wpAny _ _ _ _ _ _
    k_fold
    k_steps
    · exfalso; omega
    · have hstep := high_dig (base_cases (idx6_lt va)) hP (by assumption)
      exact ⟨_, _, _, _, _, _, _, _, rfl, fr_of (by assumption) (fun y => bw_back ..), by assumption, hstep.1, hstep.2⟩
    · exfalso; omega
    · have hstep := low_dig (base_cases (idx6_lt va)) hP (by assumption)
      exact ⟨_, _, _, _, _, _, _, _, rfl, fr_of (by assumption) (fun y => bw_back ..), by assumption, hstep.1, hstep.2⟩
    · exact ⟨rfl, _, _, _, rfl, by assumption, by assumption, r, tr, bd, tbd, bi, tbi, rfl, hP.2.1, hP.2.2.2⟩
  clear F5 N5 F4 N4 F3 N3 F2 N2 F1 N'
  rintro _ ⟨h5, tk5, _, rfl, F5, N5, r, tr, bd, tbd, bi, tbi, rfl, hbl, hbd⟩
  refine wpAny_leaf (AtF g' L' s ((L' + 1, o1) :: news) fun m' => ∃ tl ttl, m' = xTail va ta vb tb tbs r tr bd tbd bi tbi tl ttl ∧ (cl tl).length ≤ 4 ∧ ∀ c ∈ cl tl, isSuf c = true) ?_ ?_
  · k_fold
    iterate 6 (first | walk1 | (dsimp only; walk1))
    refine' comp_rangeT (h₀ := g') (L := L') (m := xBits va ta vb tb tbs r tr bd tbd bi tbi) (news := (L' + 1, o1) :: news) (fun a => PyData.str (tailSign vc a)) ?hh ?hclos ?hcell ?hkind ?hnames ?hx ?h ?hs
    case hh => rfl
    case hclos => with_unfolding_all rfl
    case hcell => decide
    case hkind => with_unfolding_all rfl
    case hnames => decide
    case hx => with_unfolding_all rfl
    case hs => intro _; with_unfolding_all rfl
    have hq0 := Int.fmod_nonneg_of_pos vc (b := 5) (by decide)
    have hq1 := Int.fmod_lt_of_pos vc (b := 5) (by decide)
    obtain ⟨q, hq⟩ : ∃ q : Nat, vc.fmod 5 = (q : Int) := ⟨(vc.fmod 5).toNat, by omega⟩
    show wpAny _ _ _ _ _ _
    k_fold
    k_steps
    rename_i hR F9 N9 _
    rw [hq] at hR hq1
    have hsm := small5 q (by omega)
    refine ⟨_, _, _, _, _, _, _, rfl, q, hR, hsm.1, hsm.2, by rw [sizeLine_eq]; omega, F9, N9, ?_, ?_⟩
    · intro C a v s₂ m₂ E' ha hv hn hm F9 N9
      obtain ⟨u, rfl⟩ := hv
      obtain ⟨i, hi, rfl⟩ := rangeInts_mem ha
      have hx1 : (0 : Int) ≤ 0 + (i : Int) * 1 := by omega
      have hx2 : (0 : Int) + (i : Int) * 1 ≤ 1000000 := by omega
      have hx4 : (0 : Int) < 4 ^ ((0 : Int) + (i : Int) * 1).toNat := Int.pow_pos (by decide)
      generalize (0 : Int) + (i : Int) * 1 = a at *
      have hx3 : (4 : Int).natAbs < 2 ^ 64 := by decide
      have hx5 := Int.fmod_nonneg_of_pos ((vc.fdiv 5).fdiv ((4 : Int) ^ a.toNat)) (b := 4) (by decide)
      have hx6 := Int.fmod_lt_of_pos ((vc.fdiv 5).fdiv ((4 : Int) ^ a.toNat)) (b := 4) (by decide)
      clear hR
      show wpAny _ _ _ _ _ _
      k_fold
      k_steps
      · exfalso; omega
      · exact .str _ _
      · exact ⟨_, _, rfl, fun _ _ e => e⟩
    · intro D ys h' tk F9 N9 hl hc
      show wpAny _ _ _ _ _ _
      k_fold
      iterate 6 (try (first | (k_unfold; (try dsimp only)) | walk1 | (dsimp only; walk1)))
      show wpAny _ _ (call (.builtin "str.join") [.str (Str.ofString "") _, .ref D]) _ _ _
      refine KT.join_1 (g := tailSign vc) hl hc (fun a _ => tailSign_len vc a) (by rw [rangeInts_length]; omega) ?_
      intro t' k hlen
      rw [rangeInts_length] at hlen
      have hok := tail_ok vc (l := rangeInts 0 1 q) rfl
      generalize Txt.join (Str.ofString "") ((rangeInts 0 1 q).map (tailSign vc)) = tl at *
      k_steps
      exact ⟨rfl, _, _, _, rfl, by assumption, by assumption, _, _, rfl, by rw [cl_len]; omega, hok⟩
  clear F5 N5
  rintro _ ⟨h6, tk6, _, rfl, F6, N6, tl, ttl, rfl, htl, hts⟩
  have hbl' : bd.length ≤ 20 := by rw [← cl_len]; exact hbl
  have htl' : tl.length ≤ 4 := by rw [← cl_len]; exact htl
  refine wpAny_leaf (AtF g' L' s ((L' + 1, o1) :: news) fun m' => ∃ tx ttx, m' = xText va ta vb tb tbs r tr bd tbd bi tbi tl ttl tx ttx ∧ tx = [Str.ofString "", Str.ofString "0", Str.ofString "0x", Str.ofString "0X", Str.ofString "0b", Str.ofString "0B"].getD (va.fmod 6).toNat Str.empty ++ Txt.mul (Str.ofString "0") ((va.fmod 5).fdiv 2) ++ bd ++ tl) ?_ ?_
  · have hM : ([Str.ofString "", Str.ofString "0", Str.ofString "0x", Str.ofString "0X", Str.ofString "0b", Str.ofString "0B"].getD (va.fmod 6).toNat Str.empty).length ≤ 2 := marks_len (idx6_lt va)
    have hz0 : 0 ≤ (va.fmod 5).fdiv 2 := half5_nonneg va
    have hz1 : (va.fmod 5).fdiv 2 ≤ 2 := half5_le va
    show wpAny _ _ _ _ _ _
    k_fold
    k_steps
    exact ⟨rfl, _, _, _, rfl, by assumption, news_drop (by assumption) fun p hp => List.mem_cons_of_mem _ hp, _, _, rfl, rfl⟩
  clear F6 N6
  rintro _ ⟨h7, tk7, _, rfl, F7, N7, tx, ttx, rfl, htx⟩
  have hM : ([Str.ofString "", Str.ofString "0", Str.ofString "0x", Str.ofString "0X", Str.ofString "0b", Str.ofString "0B"].getD (va.fmod 6).toNat Str.empty).length ≤ 2 := marks_len (idx6_lt va)
  have htxl : tx.length ≤ 30 := by
    rw [htx, ← cl_len, cl_append, cl_append, cl_append, List.length_append, List.length_append, List.length_append, cl_len, cl_len, cl_len, cl_len]
    have := zeros_len va
    omega
  refine wpAny_leaf (AtF g' L' s ((L' + 1, o1) :: news) fun m' => ∃ sp tsp, m' = xSpot va ta vb tb tbs r tr bd tbd bi tbi tl ttl tx ttx (sp : Nat) tsp ∧ sp ≤ tx.length) ?_ ?_
  · obtain ⟨n, hn, hnl⟩ : ∃ n : Nat, vb.fmod ((tx.length : Int) + 1) = (n : Int) ∧ n ≤ tx.length := by
      have h0 := Int.fmod_nonneg_of_pos vb (b := (tx.length : Int) + 1) (by omega)
      have h1 := Int.fmod_lt_of_pos vb (b := (tx.length : Int) + 1) (by omega)
      exact ⟨(vb.fmod ((tx.length : Int) + 1)).toNat, by omega, by omega⟩
    show wpAny _ _ _ _ _ _
    k_fold
    k_steps
    exact ⟨rfl, _, _, _, rfl, fr_of (by assumption) (fun y => spot_eq _ _ hn y), by assumption, n, _, rfl, hnl⟩
  clear F7 N7
  rintro _ ⟨h8, tk8, _, rfl, F8, N8, sp, tsp, rfl, hsp⟩
  have hS : ([Str.ofString "", Str.ofString ".", Str.ofString "", Str.ofString "e", Str.ofString "", Str.ofString "g", Str.ofString "9", Str.ofString "", Str.ofString "u", Str.ofString "L", Str.ofString ".5e"].getD (va.fmod 11).toNat Str.empty).length ≤ 3 := strays_len va
  have hok := text_ok va hbd hbl hts htl htx hsp
  refine wpAny_execs_cons ?_
  k_fold
  k_steps
  show Qn (.ret _) _
  rw [← hQ]
  refine ⟨L', xSpot va ta vb tb tbs r tr bd tbd bi tbi tl ttl tx ttx sp tsp, _, by assumption, news_drop (news := news) (by assumption) (fun p hp => List.mem_cons_of_mem _ (List.mem_cons_of_mem _ hp)), fun kF kN => hText _ _ _ _ kF kN hok⟩
end Mine
end

section
/-! part Plain8 -/
open PySem PySem.W PyProof.Rows
set_option linter.unusedVariables false
namespace Mine
theorem text_hA {x : Str} (h : TextOk x) : ∀ c ∈ cl x, 46 ≤ c ∧ c < 128 ∧ c ≠ 47 := by
  intro c hc
  have := h.2.1 c hc
  simp only [okc, Bool.and_eq_true, Bool.or_eq_true, decide_eq_true_eq, Bool.not_eq_true', beq_iff_eq, beq_eq_false_iff_ne] at this
  omega
/-! the two readings part at the same places -/
theorem lo1_48 (c : Nat) : lo1 c = 48 ↔ c = 48 := by unfold lo1; split <;> omega
theorem lo1_120 (c : Nat) : lo1 c = 120 ↔ c = 120 ∨ c = 88 := by unfold lo1; split <;> omega
theorem lo1_98 (c : Nat) : lo1 c = 98 ↔ c = 98 ∨ c = 66 := by unfold lo1; split <;> omega
theorem lo1_117 (c : Nat) : lo1 c = 117 ↔ c = 117 ∨ c = 85 := by unfold lo1; split <;> omega
theorem lo1_108 (c : Nat) : lo1 c = 108 ↔ c = 108 ∨ c = 76 := by unfold lo1; split <;> omega
theorem lo1_up (c : Nat) : ¬ (65 ≤ lo1 c ∧ lo1 c ≤ 90) := by unfold lo1; split <;> omega
theorem take2_map (L : List Nat) (a b : Nat) : (L.map lo1).take 2 = [a, b] ↔ ∃ c d, L.take 2 = [c, d] ∧ lo1 c = a ∧ lo1 d = b := by
  match L with
  | [] => simp
  | [c] => simp
  | c :: d :: r =>
    constructor
    · intro h
      have h' : lo1 c = a ∧ lo1 d = b := by simpa using h
      exact ⟨c, d, rfl, h'.1, h'.2⟩
    · rintro ⟨c', d', h, h1, h2⟩
      have h' : c = c' ∧ d = d' := by simpa using h
      rw [← h1, ← h2, ← h'.1, ← h'.2]; rfl
theorem take1_map (L : List Nat) (a : Nat) : (L.map lo1).take 1 = [a] ↔ ∃ c, L.take 1 = [c] ∧ lo1 c = a := by
  match L with
  | [] => simp
  | c :: r => simp
theorem base_x (L : List Nat) : (L.map lo1).take 2 = [48, 120] ↔ (L.take 2 = [48, 120] ∨ L.take 2 = [48, 88]) := by
  rw [take2_map]
  constructor
  · rintro ⟨c, d, h, h1, h2⟩
    rw [lo1_48] at h1
    rw [lo1_120] at h2
    subst h1
    rcases h2 with rfl | rfl
    · exact .inl h
    · exact .inr h
  · rintro (h | h)
    · exact ⟨_, _, h, rfl, rfl⟩
    · exact ⟨_, _, h, rfl, rfl⟩
theorem base_b (L : List Nat) : (L.map lo1).take 2 = [48, 98] ↔ (L.take 2 = [48, 98] ∨ L.take 2 = [48, 66]) := by
  rw [take2_map]
  constructor
  · rintro ⟨c, d, h, h1, h2⟩
    rw [lo1_48] at h1
    rw [lo1_98] at h2
    subst h1
    rcases h2 with rfl | rfl
    · exact .inl h
    · exact .inr h
  · rintro (h | h)
    · exact ⟨_, _, h, rfl, rfl⟩
    · exact ⟨_, _, h, rfl, rfl⟩
theorem base_0 (L : List Nat) : (L.map lo1).take 1 = [48] ↔ L.take 1 = [48] := by
  rw [take1_map]
  constructor
  · rintro ⟨c, h, h1⟩
    rw [lo1_48] at h1
    subst h1; exact h
  · exact fun h => ⟨_, h, rfl⟩
theorem cnBase_eq (L : List Nat) : cnBase (L.map lo1) = ((L.map lo1).drop (rdBase L).2, (rdBase L).1) := by
  unfold cnBase rdBase
  by_cases h1 : (L.map lo1).take 2 = [48, 120]
  · rw [if_pos h1, if_pos ((base_x L).mp h1)]
  · rw [if_neg h1, if_neg (fun e => h1 ((base_x L).mpr e))]
    by_cases h2 : (L.map lo1).take 2 = [48, 98]
    · rw [if_pos h2, if_pos ((base_b L).mp h2)]
    · rw [if_neg h2, if_neg (fun e => h2 ((base_b L).mpr e))]
      by_cases h3 : (L.map lo1).take 1 = [48]
      · rw [if_pos h3, if_pos ((base_0 L).mp h3)]; rfl
      · rw [if_neg h3, if_neg (fun e => h3 ((base_0 L).mpr e))]; rfl
theorem isUL_lo1 (c : Nat) : isUL (lo1 c) = isSuf c := by
  have h1 := lo1_117 c
  have h2 := lo1_108 c
  rw [Bool.eq_iff_iff]
  simp only [isUL, isSuf, Bool.or_eq_true, beq_iff_eq, h1, h2]
theorem dropWhile_lo (R : List Nat) : (R.map lo1).dropWhile isUL = (R.dropWhile isSuf).map lo1 := by
  induction R with
  | nil => rfl
  | cons a R ih =>
    rw [List.map_cons, List.dropWhile_cons, List.dropWhile_cons, isUL_lo1]
    split
    · exact ih
    · rfl
theorem takeWhile_lo (R : List Nat) : (R.map lo1).takeWhile isUL = (R.takeWhile isSuf).map lo1 := by
  induction R with
  | nil => rfl
  | cons a R ih =>
    rw [List.map_cons, List.takeWhile_cons, List.takeWhile_cons, isUL_lo1]
    split
    · rw [ih]; rfl
    · rfl
theorem stem_lo (L : List Nat) : stem (L.map lo1) = (stemR L).map lo1 := by
  unfold stem stemR
  rw [← List.map_reverse, dropWhile_lo, ← List.map_reverse]
theorem sufs_lo (L : List Nat) : sufs (L.map lo1) = (sufsR L).map lo1 := by
  unfold sufs sufsR
  rw [← List.map_reverse, takeWhile_lo]
theorem tw_all (p : Nat → Bool) : ∀ (R : List Nat), ∀ c ∈ R.takeWhile p, p c = true
  | [], c, h => nomatch h
  | a :: R, c, h => by
    rw [List.takeWhile_cons] at h
    split at h
    · rcases List.mem_cons.mp h with rfl | h
      · assumption
      · exact tw_all p R c h
    · cases h
theorem dw_head (p : Nat → Bool) : ∀ (R : List Nat) (c : Nat), (R.dropWhile p).head? = some c → p c = false
  | [], c, h => nomatch h
  | a :: R, c, h => by
    rw [List.dropWhile_cons] at h
    split at h
    · exact dw_head p R c h
    · rename_i hn
      cases h
      simpa using hn
theorem split_ul (M : List Nat) : M = stem M ++ (sufs M).reverse := by
  unfold stem sufs
  rw [← List.reverse_append, List.takeWhile_append_dropWhile, List.reverse_reverse]
theorem split_suf (L : List Nat) : L = stemR L ++ (sufsR L).reverse := by
  unfold stemR sufsR
  rw [← List.reverse_append, List.takeWhile_append_dropWhile, List.reverse_reverse]
theorem last_stem (M : List Nat) (c : Nat) (h : (stem M).getLast? = some c) : isUL c = false := by
  unfold stem at h
  rw [List.getLast?_reverse] at h
  exact dw_head _ _ _ h
theorem stem_drop {M : List Nat} {k : Nat} (hk : k ≤ (stem M).length) : stem (M.drop k) = (stem M).drop k ∧ sufs (M.drop k) = sufs M := by
  have h := stem_of (L := M.drop k) (A := (stem M).drop k) (B := (sufs M).reverse) ?_ ?_ ?_
  · rw [List.reverse_reverse] at h; exact h
  · conv => lhs; rw [split_ul M]
    rw [List.drop_append_of_le_length hk]
  · intro c hc
    exact tw_all _ _ c (List.mem_reverse.mp hc)
  · intro c hc
    refine last_stem M c ?_
    rw [List.getLast?_drop] at hc
    split at hc
    · cases hc
    · exact hc
theorem stem_cn (L : List Nat) : stem (cnBase (L.map lo1)).1 = ((stemR L).drop (rdBase L).2).map lo1 ∧ sufs (cnBase (L.map lo1)).1 = (sufsR L).map lo1 := by
  rw [cnBase_eq]
  have hk : (rdBase L).2 ≤ (stem (L.map lo1)).length := by rw [stem_lo, List.length_map]; exact stem_ge L
  have := stem_drop hk
  refine ⟨by rw [this.1, stem_lo, List.map_drop], by rw [this.2, sufs_lo]⟩
theorem words_cn (L : List Nat) : ((sufsR L).map lo1).map wordOf = (sufsR L).map readWord := by
  rw [List.map_map]
  refine List.map_congr_left fun c hc => ?_
  have h1 := lo1_117 c
  show wordOf (lo1 c) = readWord c
  unfold wordOf readWord
  by_cases h : c = 117 ∨ c = 85
  · rw [if_pos (h1.mpr h), if_pos (by simpa using h)]
  · rw [if_neg (fun e => h (h1.mp e)), if_neg (by simpa using h)]
/-! figures -/
theorem digC_tab : ∀ c < 128, digC c = if 48 ≤ c ∧ c ≤ 57 then ((c - 48 : Nat) : Int) else if 97 ≤ c ∧ c ≤ 102 then ((c - 87 : Nat) : Int) else -1 := by decide +kernel
def okd (b : Nat) (c : Nat) : Prop := 0 ≤ digC c ∧ digC c < (b : Int)
theorem step_ok {b c : Nat} {p : Array Nat × Bool} (hc : c < 128) (h95 : c ≠ 95) (hu : ¬ (65 ≤ c ∧ c ≤ 90)) (hb : b ≤ 16) (h : okd b c) : NumText.step b p c = some (p.1.push (digC c).toNat, true) := by
  obtain ⟨h0, h1⟩ := h
  rw [digC_tab c hc] at h0 h1 ⊢
  unfold NumText.step NumText.digit?
  rw [if_neg (by rw [beq_iff_eq]; exact h95)]
  by_cases ha : 48 ≤ c ∧ c ≤ 57
  · rw [if_pos ha] at h0 h1 ⊢
    rw [if_pos (by simpa using ha)]
    have : c - 48 < b := by omega
    simp only [this, if_true, Int.toNat_natCast]
  · rw [if_neg ha] at h0 h1 ⊢
    by_cases hb' : 97 ≤ c ∧ c ≤ 102
    · rw [if_pos hb'] at h0 h1 ⊢
      rw [if_neg (by simpa using ha), if_pos (by simp; omega)]
      have : c - 87 < b := by omega
      simp only [this, if_true, Int.toNat_natCast]
    · rw [if_neg hb'] at h0; omega
theorem step_bad {b c : Nat} {p : Array Nat × Bool} (hc : c < 128) (h95 : c ≠ 95) (hu : ¬ (65 ≤ c ∧ c ≤ 90)) (hb : b ≤ 16) (h : ¬ okd b c) : NumText.step b p c = none := by
  unfold okd at h
  rw [digC_tab c hc] at h
  unfold NumText.step NumText.digit?
  rw [if_neg (by rw [beq_iff_eq]; exact h95)]
  by_cases ha : 48 ≤ c ∧ c ≤ 57
  · rw [if_pos ha] at h
    rw [if_pos (by simpa using ha)]
    have : ¬ c - 48 < b := by omega
    simp only [this, if_false]
  · rw [if_neg ha] at h
    rw [if_neg (by simpa using ha)]
    by_cases hb' : 97 ≤ c ∧ c ≤ 122
    · rw [if_pos (by simpa using hb')]
      have : ¬ c - 87 < b := by
        by_cases h3 : 97 ≤ c ∧ c ≤ 102
        · rw [if_pos h3] at h; omega
        · omega
      simp only [this, if_false]
    · rw [if_neg (by simpa using hb'), if_neg (by simpa using hu)]
def plainC (c : Nat) : Prop := c < 128 ∧ c ≠ 95 ∧ ¬ (65 ≤ c ∧ c ≤ 90)
theorem fold_ok {b : Nat} (hb : b ≤ 16) : ∀ (cs : List Nat) (p : Array Nat × Bool), (∀ c ∈ cs, plainC c) → (∀ c ∈ cs, okd b c) → ∃ ds, cs.foldlM (NumText.step b) p = some (ds, p.2 || !cs.isEmpty) ∧
    ds.foldl (fun acc d => acc * b + d) 0 = cs.foldl (fun acc c => acc * b + (digC c).toNat) (p.1.foldl (fun acc d => acc * b + d) 0)
  | [], p, _, _ => ⟨p.1, by simp, rfl⟩
  | c :: cs, p, hp, hd => by
    obtain ⟨h1, h2, h3⟩ := hp c (List.mem_cons_self ..)
    obtain ⟨ds, e1, e2⟩ := fold_ok hb cs (p.1.push (digC c).toNat, true) (fun d hm => hp d (List.mem_cons_of_mem _ hm)) (fun d hm => hd d (List.mem_cons_of_mem _ hm))
    refine ⟨ds, ?_, ?_⟩
    · rw [List.foldlM_cons, step_ok h1 h2 h3 hb (hd c (List.mem_cons_self ..))]
      show cs.foldlM (NumText.step b) (p.1.push (digC c).toNat, true) = _
      rw [e1]; simp
    · rw [e2, List.foldl_cons]
      simp
theorem fold_bad {b : Nat} (hb : b ≤ 16) : ∀ (cs : List Nat) (p : Array Nat × Bool), (∀ c ∈ cs, plainC c) → (¬ ∀ c ∈ cs, okd b c) → cs.foldlM (NumText.step b) p = none
  | [], p, _, h => absurd (fun c hc => nomatch hc) h
  | c :: cs, p, hp, hd => by
    obtain ⟨h1, h2, h3⟩ := hp c (List.mem_cons_self ..)
    rw [List.foldlM_cons]
    by_cases h : okd b c
    · rw [step_ok h1 h2 h3 hb h]
      show cs.foldlM (NumText.step b) (p.1.push (digC c).toNat, true) = _
      refine fold_bad hb cs _ (fun d hm => hp d (List.mem_cons_of_mem _ hm)) fun hall => hd fun d hm => ?_
      rcases List.mem_cons.mp hm with rfl | hm
      · exact h
      · exact hall d hm
    · rw [step_bad h1 h2 h3 hb h]; rfl
theorem digits_ok {b : Nat} (hb : b ≤ 16) {cs : List Nat} (hp : ∀ c ∈ cs, plainC c) (h : ReadOk (cs.map digC) b) : ∃ ds, NumText.digits? b cs = some ds ∧ ds.foldl (fun acc d => acc * b + d) 0 = cs.foldl (fun acc c => acc * b + (digC c).toNat) 0 := by
  obtain ⟨ds, e1, e2⟩ := fold_ok hb cs (#[], false) hp (fun c hc => h.2 _ (List.mem_map_of_mem hc))
  refine ⟨ds, ?_, e2⟩
  unfold NumText.digits?
  rw [e1]
  have : cs.isEmpty = false := by
    cases cs with
    | nil => exact absurd rfl h.1
    | cons => rfl
  rw [this]; rfl
theorem digits_bad {b : Nat} (hb : b ≤ 16) {cs : List Nat} (hp : ∀ c ∈ cs, plainC c) (h : ¬ ReadOk (cs.map digC) b) : NumText.digits? b cs = none := by
  unfold NumText.digits?
  by_cases hall : ∀ c ∈ cs, okd b c
  · have : cs = [] := by
      refine Classical.byContradiction fun hn => h ⟨fun e => hn (List.map_eq_nil_iff.mp e), fun d hd => ?_⟩
      obtain ⟨c, hc, rfl⟩ := List.mem_map.mp hd
      exact hall c hc
    subst this; rfl
  · rw [fold_bad hb cs _ hp hall]; rfl
/-! the sum of the powers -/
theorem terms_snoc (ds : List Int) (d : Int) (b : Nat) : (termsR (ds ++ [d]) b).sum = (termsR ds b).sum * b + d := by
  unfold termsR
  have hl : (ds ++ [d]).length = ds.length + 1 := by simp
  rw [hl, List.range'_concat, List.map_append, List.sum_append]
  have h1 : ((List.range' 0 ds.length).map fun i => (ds ++ [d]).getD i 0 * (b : Int) ^ (ds.length + 1 - 1 - i)).sum = ((List.range' 0 ds.length).map fun i => ds.getD i 0 * (b : Int) ^ (ds.length - 1 - i)).sum * b := by
    have : ∀ (l : List Nat), (∀ i ∈ l, i < ds.length) → (l.map fun i => (ds ++ [d]).getD i 0 * (b : Int) ^ (ds.length + 1 - 1 - i)).sum = (l.map fun i => ds.getD i 0 * (b : Int) ^ (ds.length - 1 - i)).sum * b := by
      intro l
      induction l with
      | nil => intro _; simp
      | cons i l ih =>
        intro hi
        have hil := hi i (List.mem_cons_self ..)
        rw [List.map_cons, List.sum_cons, List.map_cons, List.sum_cons, ih fun j hj => hi j (List.mem_cons_of_mem _ hj), Int.add_mul]
        congr 1
        have e1 : (ds ++ [d]).getD i 0 = ds.getD i 0 := by
          rw [List.getD_eq_getElem?_getD, List.getD_eq_getElem?_getD, List.getElem?_append_left hil]
        have e2 : ds.length + 1 - 1 - i = (ds.length - 1 - i) + 1 := by omega
        rw [e1, e2, Int.pow_succ, Int.mul_assoc]
    exact this _ fun i hi => by
      have := List.mem_range'_1.mp hi; omega
  rw [h1]
  congr 1
  simp
theorem terms_hor (b : Nat) : ∀ (R : List Int), (termsR R.reverse b).sum = R.reverse.foldl (fun acc d => acc * (b : Int) + d) 0
  | [] => rfl
  | d :: R => by
    rw [List.reverse_cons, terms_snoc, terms_hor b R, List.foldl_append]; rfl
theorem terms_fold (b : Nat) (ds : List Int) : (termsR ds b).sum = ds.foldl (fun acc d => acc * (b : Int) + d) 0 := by
  have := terms_hor b ds.reverse
  rwa [List.reverse_reverse] at this
theorem hor_nat {b : Nat} : ∀ (cs : List Nat) (a : Nat), (∀ c ∈ cs, 0 ≤ digC c) → ((cs.foldl (fun acc c => acc * b + (digC c).toNat) a : Nat) : Int) = (cs.map digC).foldl (fun acc d => acc * (b : Int) + d) (a : Int)
  | [], a, _ => rfl
  | c :: cs, a, h => by
    rw [List.foldl_cons, hor_nat cs _ fun d hd => h d (List.mem_cons_of_mem _ hd), List.map_cons, List.foldl_cons]
    congr 1
    have := h c (List.mem_cons_self ..)
    rw [Int.natCast_add, Int.natCast_mul, Int.toNat_of_nonneg this]
/-! the law -/
theorem rd_le (L : List Nat) : (rdBase L).1 ≤ 16 := by rcases rdBase_cases L with e | e | e | e <;> rw [e] <;> decide
theorem stem_plain {x : Str} (h : TextOk x) : ∀ c ∈ ((stemR (cl x)).drop (rdBase (cl x)).2).map lo1, plainC c := by
  intro c hc
  obtain ⟨d, hd, rfl⟩ := List.mem_map.mp hc
  have hd' : d ∈ cl x := by
    rw [split_suf (cl x)]
    exact List.mem_append_left _ (List.mem_of_mem_drop hd)
  have := h.2.1 d hd'
  simp only [okc, Bool.and_eq_true, Bool.or_eq_true, decide_eq_true_eq, Bool.not_eq_true', beq_iff_eq, beq_eq_false_iff_ne] at this
  refine ⟨?_, ?_, lo1_up d⟩
  · unfold lo1; split <;> omega
  · unfold lo1; split <;> omega
theorem dot_bad {x : Str} (hd : 46 ∈ cl x) : ¬ ReadOk (rdDigs x) (rdBase (cl x)).1 := by
  intro h
  have h1 : 46 ∈ stemR (cl x) := by
    rw [split_suf (cl x)] at hd
    rcases List.mem_append.mp hd with h | h
    · exact h
    · have := tw_all _ _ _ (List.mem_reverse.mp h)
      cases this
  have h2 : 46 ∈ (stemR (cl x)).drop (rdBase (cl x)).2 := by
    by_cases hk : (rdBase (cl x)).2 = 0
    · rw [hk, List.drop_zero]; exact h1
    · have hlen := stem_ge (cl x)
      have key : ∃ y, (cl x).take 2 = [48, y] ∧ y ≠ 46 ∧ (rdBase (cl x)).2 = 2 := by
        unfold rdBase at hk ⊢
        split
        · rename_i h
          rcases h with h | h
          · exact ⟨_, h, by decide, rfl⟩
          · exact ⟨_, h, by decide, rfl⟩
        · rename_i hx
          rw [if_neg hx] at hk
          split
          · rename_i h
            rcases h with h | h
            · exact ⟨_, h, by decide, rfl⟩
            · exact ⟨_, h, by decide, rfl⟩
          · rename_i hb
            rw [if_neg hb] at hk
            split at hk <;> exact absurd rfl hk
      obtain ⟨y, hy, hne, h2⟩ := key
      rw [h2] at hlen ⊢
      have hs : (stemR (cl x)).take 2 = [48, y] := by
        rw [split_suf (cl x), List.take_append_of_le_length hlen] at hy; exact hy
      rw [← List.take_append_drop 2 (stemR (cl x)), hs] at h1
      rcases List.mem_append.mp h1 with h | h
      · simp at h
        exact absurd h.symm hne
      · exact h
  have h3 : digC 46 ∈ rdDigs x := by
    unfold rdDigs
    exact List.mem_map.mpr ⟨46, List.mem_map.mpr ⟨46, h2, rfl⟩, rfl⟩
  have := (h.2 _ h3).1
  rw [digC_tab 46 (by decide)] at this
  exact absurd this (by decide)
theorem law_none {x : Str} (h : TextOk x) (hr : ¬ ReadOk (rdDigs x) (rdBase (cl x)).1) : cnumF (cl x) = none := by
  unfold cnumF
  split
  · rfl
  · rw [(stem_cn (cl x)).1, cnBase_eq]
    rw [digits_bad (rd_le _) (stem_plain h) hr]
theorem law_some {x : Str} (h : TextOk x) (hr : ReadOk (rdDigs x) (rdBase (cl x)).1) : ∃ n : Nat, (n : Int) = (termsR (rdDigs x) (rdBase (cl x)).1).sum ∧ cnumF (cl x) = some (n, orInt ((sufsR (cl x)).map readWord)) := by
  obtain ⟨ds, e1, e2⟩ := digits_ok (rd_le _) (stem_plain h) hr
  refine ⟨ds.foldl (fun acc d => acc * (rdBase (cl x)).1 + d) 0, ?_, ?_⟩
  rotate_left
  · unfold cnumF
    rw [if_neg fun hd => dot_bad hd hr, (stem_cn (cl x)).1, (stem_cn (cl x)).2, words_cn, cnBase_eq, e1]
  · rw [terms_fold]
    show ((ds.foldl (fun acc d => acc * (rdBase (cl x)).1 + d) 0 : Nat) : Int) = _
    rw [e2]
    exact hor_nat _ 0 fun c hc => (hr.2 _ (List.mem_map_of_mem hc)).1
theorem prefix_shape {cs : List Nat} {p : Nat} (h : NumText.prefix? cs = some p) : ∃ c r, cs = 48 :: c :: r ∧ (((c = 120 ∨ c = 88) ∧ p = 16) ∨ ((c = 111 ∨ c = 79) ∧ p = 8) ∨ ((c = 98 ∨ c = 66) ∧ p = 2)) := by
  unfold NumText.prefix? at h
  split at h
  · rename_i c r
    refine ⟨c, r, rfl, ?_⟩
    split at h
    · rename_i h1
      injection h with h
      exact .inl ⟨by simpa using h1, h.symm⟩
    · split at h
      · rename_i h1
        injection h with h
        exact .inr (.inl ⟨by simpa using h1, h.symm⟩)
      · split at h
        · rename_i h1
          injection h with h
          exact .inr (.inr ⟨by simpa using h1, h.symm⟩)
        · cases h
  · cases h
theorem mem_stem_drop {L : List Nat} {k c : Nat} (h : c ∈ ((stemR L).drop k).map lo1) : ∃ d ∈ L.drop k, lo1 d = c := by
  obtain ⟨d, hd, e⟩ := List.mem_map.mp h
  refine ⟨d, ?_, e⟩
  have : d ∈ (stemR L ++ (sufsR L).reverse).drop k := by
    rw [List.drop_append]
    exact List.mem_append_left _ hd
  rwa [← split_suf L] at this
theorem two_count {p : Nat → Bool} {L : List Nat} {y : Nat} (h : L.take 2 = [48, y]) (hy : p y = true) {d : Nat} (hd : d ∈ L.drop 2) (hp : p d = true) : 2 ≤ L.countP p := by
  obtain ⟨r, rfl⟩ := two_of h
  have h1 : 1 ≤ r.countP p := List.countP_pos_iff.mpr ⟨d, by simpa using hd, hp⟩
  rw [List.countP_cons, List.countP_cons, if_pos hy]
  omega
theorem text_pre {x : Str} (h : TextOk x) : NumText.prefix? (stem (cnBase ((cl x).map lo1)).1) ≠ some (cnBase ((cl x).map lo1)).2 := by
  rw [(stem_cn (cl x)).1, cnBase_eq]
  show NumText.prefix? (((stemR (cl x)).drop (rdBase (cl x)).2).map lo1) ≠ some (rdBase (cl x)).1
  intro hp
  obtain ⟨c, r, e, hc⟩ := prefix_shape hp
  have hm : c ∈ ((stemR (cl x)).drop (rdBase (cl x)).2).map lo1 := by rw [e]; simp
  obtain ⟨d, hd, hl⟩ := mem_stem_drop hm
  have hdL : d ∈ cl x := List.mem_of_mem_drop hd
  have hok := h.2.1 d hdL
  simp only [okc, Bool.and_eq_true, Bool.or_eq_true, decide_eq_true_eq, Bool.not_eq_true', beq_iff_eq, beq_eq_false_iff_ne] at hok
  unfold rdBase at hc hd
  split at hc
  · rename_i hx
    rw [if_pos hx] at hd
    have hdx : isX d = true := by
      have : c = 120 ∨ c = 88 := by omega
      have : d = 120 ∨ d = 88 := by
        unfold lo1 at hl
        split at hl <;> omega
      simpa [isX] using this
    have : 2 ≤ (cl x).countP isX := by
      rcases hx with hx | hx
      · exact two_count hx rfl hd hdx
      · exact two_count hx rfl hd hdx
    have := h.2.2.1
    omega
  · rename_i hx
    rw [if_neg hx] at hd
    split at hc
    · rename_i hb
      rw [if_pos hb] at hd
      have hdb : isB d = true := by
        have : c = 98 ∨ c = 66 := by omega
        have : d = 98 ∨ d = 66 := by
          unfold lo1 at hl
          split at hl <;> omega
        simpa [isB] using this
      have h2 : 2 ≤ (cl x).countP isB := by
        rcases hb with hb | hb
        · exact two_count hb rfl hd hdb
        · exact two_count hb rfl hd hdb
      rcases h.2.2.2 with h3 | h3
      · omega
      · rcases hb with hb | hb
        · exact h3.1 hb
        · exact h3.2 hb
    · rename_i hb
      split at hc
      · have : c = 111 ∨ c = 79 := by omega
        unfold lo1 at hl
        split at hl <;> omega
      · omega
end Mine
end

section
/-! part CompP -/
open PySem PySem.W PyProof.Rows PyProof.Rows.LCp
set_option Elab.async false
set_option linter.unusedVariables false
set_option maxRecDepth 100000
namespace Mine
section
variable {prog : Program} {w : World} {A : Around} {E : Value → Shared → Prop} {s : Shared} {h₀ : Heap} {L : Addr} {m : Str → Option Value} {news : List (Addr × Obj)} {env : Env} {R : Result → Shared → Prop}
def PairSrc (P : Addr → Shared → Prop) (v : Value) (s₁ : Shared) : Prop := ∃ g, v = .ref g ∧ P g s₁
theorem compLoop_pairNone {elt iter c : PySem.Expr} {xi xv : Str} {pi pv tp : Pos} {kk : Nat} {scope : Scope} {pos : Pos} {I l D : Addr} {items : Array Value}
    {cenv : Env} {m : Str → Option Value} (hh : A.handled = none) (hlI : l ≠ I)
    (hxi : cenv.kindOf xi = some .local) (hxv : cenv.kindOf xv = some .local) (hp : (cenv.scope.kind == .class || (cenv.scope.kind == .module && cenv.locals != cenv.globals)) = false)
    (hDC : D ≠ cenv.locals) (hDf : D ∉ [I, l]) (hCf : cenv.locals ∉ [I, l])
    (hst : s.heap.IsListIter I l 0 ∧ s.heap.IsList l items) (hacc : s.heap.PlainList D #[]) (hn : s.heap.Ns cenv.locals m)
    (hpair : ∀ (i : Nat) v, items[i]? = some v → ∃ T a b, v = .ref T ∧ s.heap.IsTuple T #[a, b] ∧ (∃ z t, a = Value.int z t) ∧ T ≠ cenv.locals ∧ T ≠ I)
    (htest : ∀ a b s₂ m₂ E', (∃ z t, a = Value.int z t) → s₂.heap.Ns cenv.locals m₂ → m₂ xi = some a → m₂ xv = some b → (∀ b o, b ≠ cenv.locals → b ∉ [I] → s.heap.get? b = some o → s₂.heap.get? b = some o) →
      wpAny (model prog w) A (isTrue c cenv (eval c cenv)) (fun ok s₃ => ok = false ∧ Keeps s₂ s₃) E' s₂)
    (hR : ∀ h' tk m', h'.Ns cenv.locals m' → h'.PlainList D #[] →
      (∀ b o, b ≠ cenv.locals → b ∉ [I] → s.heap.get? b = some o → h'.get? b = some o) → R (.ok .next) { s with heap := h', toks := tk }) (hne : xi ≠ xv) :
    codeAny (model prog w) A (.compLoop (.ListComp elt [⟨.Tuple [.Name xi pi, .Name xv pv] kk tp, iter, [c], 0⟩] scope pos) 0 (.ref I) (.ref D) cenv) R s := by
  have W := Walks.list (prog := prog) (w := w) hh I l hlI items
  have hDI : D ≠ I := fun e => hDf (by simp [e])
  have hCI : cenv.locals ≠ I := fun e => hCf (by simp [e])
  refine kct_loop
    (fun k s' => ∃ h' tk m', ∃ i : Nat, s' = { s with heap := h', toks := tk } ∧ (h'.IsListIter I l i ∧ h'.IsList l items) ∧ h'.PlainList D #[] ∧ h'.Ns cenv.locals m' ∧
      i ≤ items.size ∧ k = items.size + 1 - i ∧ (∀ b o, b ≠ cenv.locals → b ∉ [I] → s.heap.get? b = some o → h'.get? b = some o)) ?_ (items.size + 1)
    ⟨s.heap, s.toks, m, 0, rfl, hst, hacc, hn, Nat.zero_le _, rfl, fun _ _ _ _ e => e⟩
  rintro k s' ⟨H, tk, m', i, rfl, hst', hacc', hn', hi, rfl, hk⟩
  by_cases hlt : i < items.size
  · refine W.item i _ _ _ hlt hst' fun v h₁ tk₁ hv hst₁ hk₁ => ?_
    obtain ⟨T, a, b, rfl, hT, ha, hTC, hTI⟩ := hpair i v hv
    refine wpAny_letOwnedTupleGo_listiter hst₁.1 ?_
    have hT₁ : h₁.IsTuple T #[a, b] := by
      obtain ⟨o, ho, r⟩ := hT
      exact ⟨o, hk₁ T o (by simpa using hTI) (hk T o hTC (by simpa using hTI) ho), r⟩
    have hn₁ : h₁.Ns cenv.locals m' := hn'.at' fun o q => hk₁ _ o (by simpa using hCI) q
    refine kcp_assign hh hT₁ hxi hxv hp hn₁ fun h₃ tk₃ hn₃ hk₃ => ?_
    have up₃ : ∀ b o, b ≠ cenv.locals → b ∉ [I] → s.heap.get? b = some o → h₃.get? b = some o := fun b o hbC hb q => hk₃ b o hbC (hk₁ b o hb (hk b o hbC hb q))
    have hst₃ := W.frame _ _ h₃ hst₁ fun b hb o q => hk₃ b o (fun h => hCf (h ▸ hb)) q
    refine wpAny_mono (htest a b _ _ _ ha hn₃ (by rw [if_neg hne, if_pos rfl]) (by rw [if_pos rfl]) up₃) (fun ok s₄ h₄ => ?_) fun _ _ e => e
    obtain ⟨rfl, h₄, tk₄, rfl, hk₄⟩ := h₄
    refine ⟨items.size + 1 - (i + 1), by omega, h₄, tk₄, _, i + 1, rfl, W.frame _ _ h₄ hst₃ fun b _ o q => hk₄ b o q, ?_, hn₃.keeps hk₄, hlt, rfl, fun b o hbC hb q => hk₄ b o (up₃ b o hbC hb q)⟩
    obtain ⟨n, q⟩ := hacc'
    exact ⟨n, hk₄ _ _ (hk₃ _ _ hDC (hk₁ _ _ (by simpa using hDI) q))⟩
  · have hin : i = items.size := by omega
    subst hin
    refine W.done _ _ _ hst' fun h₁ tk₁ hk₁ => ?_
    refine hR h₁ tk₁ m' (hn'.at' fun o q => hk₁ _ o (by simpa using hCI) q) ?_ fun b o hbC hb q => hk₁ b o hb (hk b o hbC hb q)
    obtain ⟨n, q⟩ := hacc'
    exact ⟨n, hk₁ _ _ (by simpa using hDI) q⟩
theorem comp_pairNone {elt iter c : PySem.Expr} {xi xv : Str} {pi pv tp : Pos} {kk : Nat} {scope : Scope} {cl : List (Str × Addr)} {pos : Pos} {Q : Value → Shared → Prop} (hh : A.handled = none)
    (hclos : closureFor scope env = pure cl) (hcell : ∀ y ∈ scope.names, y.2 ≠ .cell) (hkind : scope.kind = .function)
    (hnames : ∀ y ∈ scope.names, y.2 = .local → scope.names.lookup y.1 = some .local) (hxi : scope.names.lookup xi = some .local) (hxv : scope.names.lookup xv = some .local) (hne : xi ≠ xv)
    (h : wpAny (model prog w) A (eval iter env) (PairSrc fun l s₁ => ∃ items, s₁.heap.IsList l items ∧ Fr h₀ L s₁.heap m ∧ News h₀ L s₁.heap news ∧
      (∀ (i : Nat) v, items[i]? = some v → ∃ T a b, v = .ref T ∧ s₁.heap.IsTuple T #[a, b] ∧ ∃ z t, a = Value.int z t) ∧
      (∀ C a b s₂ m₂ E', (∃ z t, a = Value.int z t) → s₂.heap.Ns (compEnvC scope cl C env).locals m₂ → m₂ xi = some a → m₂ xv = some b → Fr h₀ L s₂.heap m → News h₀ L s₂.heap news →
        wpAny (model prog w) A (isTrue c (compEnvC scope cl C env) (eval c (compEnvC scope cl C env))) (fun ok s₃ => ok = false ∧ Keeps s₂ s₃) E' s₂) ∧
      (∀ D n h' tk, Fr h₀ L h' m → News h₀ L h' ((D, listOf (List.toArray []) n) :: news) → (∀ p ∈ news, p.1 < D) → Q (.ref D) { s₁ with heap := h', toks := tk })) E s)
    (hs : ∀ x, foldedSetIterable iter env x = pure x) :
    wpAny (model prog w) A (eval (.ListComp elt [⟨.Tuple [.Name xi pi, .Name xv pv] kk tp, iter, [c], 0⟩] scope pos) env) Q E s := by
  rw [eval_ListComp]
  refine wpAny_comprehension_free (use := none) rfl hs hclos hkind hnames (wpAny_mono h (fun v s₂ h₁ => ?_) fun _ _ e => e)
  obtain ⟨l, rfl, items, hL, F, N, hpr, htest, hQ⟩ := h₁
  refine wpAny_pyIter_list hL ?_
  have hlt : l < s₂.heap.objs.size := by obtain ⟨_, e, _⟩ := hL; exact Heap.lt_size e
  refine wpAny_newObj_type (wpAny_newFunctionEnv hcell (by intro y hy; simp at hy) (fun h₁ hns₁ hsb₁ => ?_) hkind)
  dsimp only at hns₁ hsb₁ ⊢
  generalize hH1 : s₂.heap.push { cls := .type "list_iterator", data := .fields #[.ref l, .int 0 0] } = H1 at hns₁ hsb₁ ⊢
  have hH1s : H1.objs.size = s₂.heap.objs.size + 1 := by rw [← hH1, Heap.size_push]
  generalize hH2 : H1.push { cls := .type "list", dict := none, data := .seq ([] : List Value).toArray } = H2 at hns₁ hsb₁ ⊢
  have hC : H2.objs.size = s₂.heap.objs.size + 2 := by rw [← hH2, Heap.size_push, hH1s]
  have hDC : H1.objs.size ≠ H2.objs.size := by rw [hC, hH1s]; exact Nat.ne_of_lt (Nat.lt_succ_self _)
  have up2 : ∀ b o, H1.get? b = some o → H2.get? b = some o := fun b o q => hH2 ▸ Heap.get?_push_of_some _ q
  have up1 : ∀ b o, s₂.heap.get? b = some o → H1.get? b = some o := fun b o q => hH1 ▸ Heap.get?_push_of_some _ q
  have old : ∀ b o, s₂.heap.get? b = some o → h₁.get? b = some o := fun b o q => hsb₁.extBut b o (by have := Heap.lt_size q; rw [hC]; exact Nat.ne_of_lt (Nat.lt_succ_of_lt (Nat.lt_succ_of_lt this))) (Heap.get?_push_of_some _ (up2 b o (up1 b o q)))
  have hacc : h₁.PlainList H1.objs.size #[] := ⟨_, hsb₁.extBut _ _ hDC (Heap.get?_push_of_some _ (hH2 ▸ Heap.get?_push_size _ rfl))⟩
  have hIg : h₁.get? s₂.heap.objs.size = some { cls := .type "list_iterator", data := .fields #[.ref l, .int 0 0] } := hsb₁.extBut _ _ (by rw [hC]; exact Nat.ne_of_lt (Nat.lt_succ_of_lt (Nat.lt_succ_self _))) (Heap.get?_push_of_some _ (up2 _ _ (hH1 ▸ Heap.get?_push_size _ rfl)))
  have hit₁ : h₁.IsListIter s₂.heap.objs.size l 0 := ⟨_, hIg, rfl, rfl⟩
  have hl₁ : h₁.IsList l items := hL.at fun o q => old _ o q
  have fresh : ∀ a, s₂.heap.objs.size ≤ a → s₂.heap.get? a = none := fun a ha => by
    cases q : s₂.heap.get? a with
    | none => rfl
    | some o' => exact absurd (Heap.lt_size q) (Nat.not_lt.mpr ha)
  have ne_of_old : ∀ {b o a}, s₂.heap.get? b = some o → s₂.heap.objs.size ≤ a → b ≠ a := fun q ha e => by rw [e, fresh _ ha] at q; cases q
  have loop : ∀ s₃ : Shared, s₃ = { s₂ with heap := h₁, toks := s₂.toks + ([] : List (Str × Value)).length } →
      codeAny (model prog w) A (.compLoop (.ListComp elt [⟨.Tuple [.Name xi pi, .Name xv pv] kk tp, iter, [c], 0⟩] scope pos) 0 (.ref s₂.heap.objs.size) (.ref H1.objs.size) (compEnvC scope cl H2.objs.size env))
        (compPost (model prog w) A E none Q (.ref H1.objs.size) H2.objs.size) s₃ := by
    rintro s₃ rfl
    have hIC : s₂.heap.objs.size ≠ H2.objs.size := by rw [hC]; exact Nat.ne_of_lt (Nat.lt_succ_of_lt (Nat.lt_succ_self _))
    have hkeep : ∀ (h' : Heap), (∀ b o, b ≠ H2.objs.size → b ∉ [s₂.heap.objs.size] → h₁.get? b = some o → h'.get? b = some o) → ∀ b o, s₂.heap.get? b = some o → h'.get? b = some o :=
      fun h' hk b o q => hk b o (ne_of_old q (by rw [hC]; exact Nat.le_add_right _ 2)) (by simpa using ne_of_old q (Nat.le_refl _)) (old b o q)
    refine compLoop_pairNone (cenv := compEnvC scope cl H2.objs.size env) (items := items) (l := l) hh (Nat.ne_of_lt hlt) (lookup_relabel_local hxi) (lookup_relabel_local hxv) (by simp [compEnvC, relabel, hkind]) hDC ?_ ?_ ⟨hit₁, hl₁⟩ hacc hns₁ ?_ ?_ ?_ hne
    · intro hm
      rcases List.mem_cons.mp hm with e | hm
      · rw [hH1s] at e; exact absurd e (Nat.succ_ne_self _)
      · rw [List.mem_singleton.mp hm] at hH1s; rw [hH1s] at hlt; exact Nat.lt_irrefl _ (Nat.lt_trans (Nat.lt_succ_self _) hlt)
    · intro hm
      rcases List.mem_cons.mp hm with e | hm
      · exact hIC e.symm
      · have e := List.mem_singleton.mp hm
        have : H2.objs.size = l := e
        rw [hC] at this; rw [← this] at hlt; exact absurd hlt (Nat.not_lt.mpr (Nat.le_add_right _ 2))
    · intro i v hv
      obtain ⟨T, a, b, rfl, ⟨o, ho, r⟩, ha⟩ := hpr i v hv
      exact ⟨T, a, b, rfl, ⟨o, old _ _ ho, r⟩, ha, ne_of_old ho (by show s₂.heap.objs.size ≤ H2.objs.size; rw [hC]; exact Nat.le_add_right _ 2), ne_of_old ho (Nat.le_refl _)⟩
    · intro a b s₄ m₄ E' ha hn₄ hma hmb hk
      exact htest _ a b s₄ m₄ E' ha hn₄ hma hmb (F.keeps (hkeep _ hk)) (N.grown (hkeep _ hk))
    · intro h' tk m' hn' hpl hk
      refine ⟨m', hn', fun h'' hs'' => ?_⟩
      have hk2 : ∀ b o, s₂.heap.get? b = some o → h''.get? b = some o := fun b o q => hs''.extBut b o (ne_of_old q (by rw [hC]; exact Nat.le_add_right _ 2)) (hkeep _ hk b o q)
      obtain ⟨n, q⟩ := hpl
      have hD0 : h₀.get? H1.objs.size = none := by
        cases q : h₀.get? H1.objs.size with
        | none => rfl
        | some o' => have := fresh H1.objs.size (by rw [hH1s]; exact Nat.le_succ _); rw [F.keep _ _ q] at this; cases this
      have hDL : H1.objs.size ≠ L := by
        intro q
        have := F.ns.lt
        rw [← q, hH1s] at this; exact absurd this (Nat.not_lt.mpr (Nat.le_succ _))
      refine hQ H1.objs.size n h'' tk (F.keeps hk2) ?_ (fun p hp => ?_)
      · intro p hp
        rcases List.mem_cons.mp hp with rfl | hp
        · exact ⟨hs''.extBut _ _ hDC q, hDL, hD0⟩
        · exact N.grown hk2 p hp
      · rw [hH1s]; exact Nat.lt_succ_of_lt (Heap.lt_size (N p hp).1)
  exact codeAny_compStart_list (loop _ rfl) ((Walks.list (prog := prog) (w := w) hh _ l (Nat.ne_of_lt hlt) items).self 0 _ _ _ ⟨hit₁, hl₁⟩ (loop _ rfl))
end
end Mine
end

section
/-! part ForP -/
open PySem PySem.W PyProof.Rows PyProof.Rows.LCp
set_option Elab.async false
set_option linter.unusedVariables false
set_option maxRecDepth 100000
namespace Mine
section
variable {prog : Program} {w : World} {A : Around} {E : Value → Shared → Prop} {s : Shared} {h₀ : Heap} {m : Str → Option Value} {news newsE : List (Addr × Obj)} {env : Env} {Q : Flow → Shared → Prop}
/-- a for over an empty list -/
theorem for_zero {elts : List PySem.Expr} {kk : Nat} {tp pos : Pos} {iter : PySem.Expr} {body : List Stmt} (hh : A.handled = none)
    (h : wpAny (model prog w) A (eval iter env) (PairSrc fun l s₁ => s₁.heap.IsList l #[] ∧ Fr h₀ env.locals s₁.heap m ∧ News h₀ env.locals s₁.heap news ∧ ∀ h' tk, Fr h₀ env.locals h' m → News h₀ env.locals h' news → Q .next { s₁ with heap := h', toks := tk }) E s)
    (hs : ∀ x, foldedSetIterable iter env x = pure x) : wpAny (model prog w) A (exec (.For (.Tuple elts kk tp) iter body [] pos) env) Q E s := by
  refine wpAny_For (wpAny_mono h (fun v s₁ hv => ?_) fun _ _ x => x) hs
  obtain ⟨l, rfl, hl, F, N, hQ⟩ := hv
  refine wpAny_pyIter_list hl ?_
  have hlt : l < s₁.heap.objs.size := by obtain ⟨_, e, _⟩ := hl; exact Heap.lt_size e
  have W := Walks.list (prog := prog) (w := w) hh s₁.heap.objs.size l (Nat.ne_of_lt hlt) #[]
  have hnew := next_is_new F
  have hL : env.locals ≠ s₁.heap.objs.size := fun e => absurd F.ns.lt (e ▸ Nat.lt_irrefl _)
  refine codeAny_forLoop_any (fun k s' => k = 0 ∧ s' = { s₁ with heap := s₁.heap.push { cls := .type "list_iterator", data := .fields #[.ref l, .int 0 0] } }) ?_ 0 ⟨rfl, rfl⟩
  rintro k s' ⟨rfl, rfl⟩
  refine W.done _ _ _ ⟨⟨_, Heap.get?_push_size _ rfl, rfl, rfl⟩, hl.push _⟩ fun h₁ tk₁ hk₁ => wpAny_execs_nil ?_
  have hold : ∀ b o, s₁.heap.get? b = some o → h₁.get? b = some o := fun b o q => hk₁ b o (by simpa using Nat.ne_of_lt (Heap.lt_size q)) (Heap.get?_push_of_some _ q)
  exact hQ h₁ tk₁ (F.keeps hold) (N.grown hold)
def OneEnd (h₀ : Heap) (L : Addr) (s : Shared) (J : (Str → Option Value) → Prop) (I l : Addr) (oI ol : Obj) (newsE : List (Addr × Obj)) (s₃ : Shared) : Prop :=
  ∃ h' tk m', s₃ = { s with heap := h', toks := tk } ∧ Fr h₀ L h' m' ∧ News h₀ L h' ((I, oI) :: (l, ol) :: newsE) ∧ J m'
def OnePost (h₀ : Heap) (L : Addr) (s : Shared) (J : (Str → Option Value) → Prop) (I l : Addr) (oI ol : Obj) (newsE : List (Addr × Obj)) (Q : Flow → Shared → Prop) (f : Flow) (s₃ : Shared) : Prop := match f with
  | .ret v => Q (.ret v) s₃
  | .brk => Q .next s₃
  | _ => OneEnd h₀ L s J I l oI ol newsE s₃
/-- a for over a list of one pair -/
theorem for_one {xi xv : Str} {pi pv : Pos} {kk : Nat} {tp pos : Pos} {iter : PySem.Expr} {body : List Stmt} (J : (Str → Option Value) → Prop) (hh : A.handled = none)
    (ha : env.kindOf xi = some .local) (hb : env.kindOf xv = some .local) (hp : (env.scope.kind == .class || (env.scope.kind == .module && env.locals != env.globals)) = false)
    (h : wpAny (model prog w) A (eval iter env) (PairSrc fun l s₁ => ∃ ol T a b k, ol = listOf #[.ref T] k ∧ (l, ol) ∈ news ∧ s₁.heap.IsTuple T #[a, b] ∧ Fr h₀ env.locals s₁.heap m ∧ News h₀ env.locals s₁.heap news ∧
      (∀ I oI h' tk, (∀ p ∈ news, p.1 < I) → Fr h₀ env.locals h' (fun z => if z = xv then some b else if z = xi then some a else m z) → News h₀ env.locals h' ((I, oI) :: news) →
        wpAny (model prog w) A (execs body env) (OnePost h₀ env.locals s₁ J I l oI ol newsE Q) E { s₁ with heap := h', toks := tk }) ∧
      (∀ h' tk m', Fr h₀ env.locals h' m' → News h₀ env.locals h' newsE → J m' → Q .next { s₁ with heap := h', toks := tk })) E s)
    (hsub : ∀ p ∈ newsE, p ∈ news) (hE : PassesOwn (model prog w) A env E)
    (hs : ∀ x, foldedSetIterable iter env x = pure x) : wpAny (model prog w) A (exec (.For (.Tuple [.Name xi pi, .Name xv pv] kk tp) iter body [] pos) env) Q E s := by
  refine wpAny_For (wpAny_mono h (fun v s₁ hv => ?_) fun _ _ x => x) hs
  obtain ⟨l, rfl, ol, T, a, b, k, rfl, hmem, hT, F, N, turn, done⟩ := hv
  have hl : s₁.heap.IsList l #[.ref T] := ⟨_, (N _ hmem).1, rfl, k, rfl⟩
  refine wpAny_pyIter_list hl ?_
  have hlt : l < s₁.heap.objs.size := by obtain ⟨_, e, _⟩ := hl; exact Heap.lt_size e
  have W := Walks.list (prog := prog) (w := w) hh s₁.heap.objs.size l (Nat.ne_of_lt hlt) #[.ref T]
  have hnew := next_is_new F
  have hL : env.locals ≠ s₁.heap.objs.size := fun e => absurd F.ns.lt (e ▸ Nat.lt_irrefl _)
  have hlL : l ≠ env.locals := (N _ hmem).2.1
  have hIn : ∀ p ∈ news, p.1 < s₁.heap.objs.size := fun p hp => Heap.lt_size (N p hp).1
  refine codeAny_forLoop_any (fun k s' => (k = 1 ∧ s' = { s₁ with heap := s₁.heap.push { cls := .type "list_iterator", data := .fields #[.ref l, .int 0 0] } }) ∨
    (k = 0 ∧ ∃ h' tk m', s' = { s₁ with heap := h', toks := tk } ∧ Fr h₀ env.locals h' m' ∧ News h₀ env.locals h' newsE ∧ J m' ∧ h'.IsListIter s₁.heap.objs.size l 1 ∧ h'.IsList l #[.ref T])) ?_ 1 (.inl ⟨rfl, rfl⟩)
  rintro k' s' (⟨rfl, rfl⟩ | ⟨rfl, h', tk, m', rfl, F', N', hJ, hit, hl'⟩)
  · refine W.item 0 _ _ _ Nat.zero_lt_one ⟨⟨_, Heap.get?_push_size _ rfl, rfl, rfl⟩, hl.push _⟩ fun v h₁ tk₁ hv hst₁ hk₁ => ?_
    have hold : ∀ b o, s₁.heap.get? b = some o → h₁.get? b = some o := fun b o q => hk₁ b o (by simpa using Nat.ne_of_lt (Heap.lt_size q)) (Heap.get?_push_of_some _ q)
    have hv' : v = .ref T := by simpa using hv.symm
    subst hv'
    refine wpAny_letOwnedTupleGo_listiter hst₁.1 ?_
    have hT₁ : h₁.IsTuple T #[a, b] := by
      obtain ⟨o, ho, r⟩ := hT
      exact ⟨o, hold _ _ ho, r⟩
    have F₁ := F.keeps hold
    refine kcp_assign hh hT₁ ha hb hp F₁.ns fun h₃ tk₃ hn₃ hk₃ => ?_
    obtain ⟨oI, hoI, hoI2⟩ := hst₁.1
    have F₃ : Fr h₀ env.locals h₃ (fun z => if z = xv then some b else if z = xi then some a else m z) := ⟨hn₃, fun b o e => hk₃ b o (Nat.ne_of_lt (Nat.lt_of_lt_of_le (Heap.lt_size e) F.above)) (F₁.keep b o e), F.above⟩
    have N₃ : News h₀ env.locals h₃ ((s₁.heap.objs.size, oI) :: news) := fun p hp => by
      rcases List.mem_cons.mp hp with rfl | hp
      · exact ⟨hk₃ _ _ (Ne.symm hL) hoI, Ne.symm hL, hnew⟩
      · exact ⟨hk₃ _ _ (N p hp).2.1 (hold _ _ (N p hp).1), (N p hp).2⟩
    refine wpAny_mono (turn _ oI h₃ _ hIn F₃ N₃) (fun f s₃ h₃ => ?_) hE
    have back : OneEnd h₀ env.locals s₁ J s₁.heap.objs.size l oI (listOf #[.ref T] k) newsE s₃ → ∃ m_1 : Nat, m_1 < 1 ∧ ((m_1 = 1 ∧ s₃ = { s₁ with heap := s₁.heap.push { cls := .type "list_iterator", data := .fields #[.ref l, .int 0 0] } }) ∨
        (m_1 = 0 ∧ ∃ h' tk m', s₃ = { s₁ with heap := h', toks := tk } ∧ Fr h₀ env.locals h' m' ∧ News h₀ env.locals h' newsE ∧ J m' ∧ h'.IsListIter s₁.heap.objs.size l 1 ∧ h'.IsList l #[.ref T])) := by
      rintro ⟨h', tk, m', rfl, F', N', hJ⟩
      exact ⟨0, by decide, .inr ⟨rfl, h', tk, m', rfl, F', fun p hp => N' p (List.mem_cons_of_mem _ (List.mem_cons_of_mem _ hp)), hJ, ⟨oI, (N' _ (List.mem_cons_self ..)).1, hoI2⟩, ⟨_, (N' _ (List.mem_cons_of_mem _ (List.mem_cons_self ..))).1, rfl, k, rfl⟩⟩⟩
    cases f with
    | ret v => exact h₃
    | brk => exact h₃
    | next => exact back h₃
    | cont => exact back h₃
  · refine W.done _ _ _ ⟨hit, hl'⟩ fun h₁ tk₁ hk₁ => wpAny_execs_nil ?_
    have F₁ : Fr h₀ env.locals h₁ m' := ⟨F'.ns.at' fun o e => hk₁ _ o (by simpa using hL) e, fun b o e => hk₁ b o (by
      intro hb
      rw [List.mem_singleton.mp hb, hnew] at e; cases e) (F'.keep b o e), F'.above⟩
    exact done h₁ tk₁ m' F₁ (fun p hp => ⟨hk₁ _ _ (by simpa using Nat.ne_of_lt (hIn p (hsub p hp))) (N' p hp).1, (N' p hp).2⟩) hJ
end
end Mine
end

section
/-! part N4 -/
open PySem PySem.W PyProof.Rows
set_option Elab.async false
set_option maxRecDepth 100000
set_option linter.unusedVariables false
namespace Mine
noncomputable abbrev theXt : Shared → Bool := fun s => xlAt hd.view_39 [] s && recOk (RowW.records PySem.Challenge.rw_te0066_01.row.toRowW) s
def lScript (sl : Addr) : Str → Option Value := fun y => if y = Str.ofString "script" then some (.ref sl) else none
def lTape (sl l : Addr) : Str → Option Value := fun y => if y = Str.ofString "tape" then some (.ref l) else lScript sl y
def LwA (g : Heap) (L : Addr) (s : Shared) (sl : Addr) (s' : Shared) : Prop :=
  ∃ h tk l vs k ns, s' = { s with heap := h, toks := tk } ∧ Fr g L h (lTape sl l) ∧ News g L h [(l, listOf (List.toArray vs) k)] ∧ IntsAre vs ns ∧ ns.length ≤ 24
def LwZ (g : Heap) (L : Addr) (s : Shared) (s' : Shared) : Prop := ∃ h tk m, s' = { s with heap := h, toks := tk } ∧ Fr g L h m
def LwR (g : Heap) (L : Addr) (s : Shared) (m : Str → Option Value) (news : List (Addr × Obj)) (n : Nat) (st : Int) (r : Addr) (a b c : Int) (t u x : Tok) (s' : Shared) : Prop :=
  ∃ h tk, s' = { s with heap := h, toks := tk } ∧ IsRange s'.heap r a b c t u x ∧ a = 0 ∧ b = (n : Int) ∧ c = st ∧ Fr g L h m ∧ News g L h news
theorem small24 : ∀ n ≤ 24, Builtin.Range.small 0 (n : Nat) 3 = true ∧ Builtin.Range.rangeSize 0 (n : Nat) 3 = (((n + 2) / 3 : Nat) : Int) := by decide
def lAt (i : Nat) (tat : Tok) (l : Addr) (m : Str → Option Value) : Str → Option Value := fun y => if y = Str.ofString "at" then some (.int (0 + (i : Int) * 3) tat) else if y = Str.ofString "tape" then some (.ref l) else m y
def lAbc (va : Int) (ta : Tok) (vb : Int) (tb : Tok) (vc : Int) (tc : Tok) (u : Str → Option Value) : Str → Option Value := fun y => if y = Str.ofString "c" then some (.int vc tc) else if y = Str.ofString "b" then some (.int vb tb) else if y = Str.ofString "a" then some (.int va ta) else u y
def LwB (g : Heap) (L : Addr) (s : Shared) (l : Addr) (news : List (Addr × Obj)) (s' : Shared) : Prop :=
  ∃ h tk va ta vb tb vc tc u, s' = { s with heap := h, toks := tk } ∧ Fr g L h (lAbc va ta vb tb vc tc u) ∧ u (Str.ofString "tape") = some (.ref l) ∧ News g L h news
theorem wpC_leafC {M : Model} {A : Around} {env : Env} {st : Stmt} {rest : List Stmt} {Q : Flow → Shared → Prop} {E : Value → Shared → Prop} {s : Shared} (P : Shared → Prop)
    (h : wpC M A (exec st env) (EndOr P Q) E s) (k : ∀ s', P s' → wpC M A (execs rest env) Q E s') : wpC M A (execs (st :: rest) env) Q E s :=
  wpC_execs_cons (wpC_mono h (fun f s' p => by
    cases f with
    | next => exact k s' p
    | _ => exact p) fun _ _ x => x)
theorem news1 {h₀ h : Heap} {L : Addr} {a : Addr × Obj} {news : List (Addr × Obj)} (N : News h₀ L h (a :: news)) : News h₀ L h [a] := news_drop N fun p hp => by rw [List.mem_singleton.mp hp]; exact List.mem_cons_self ..
theorem turn_len {ns : List Int} {i : Nat} (hi : 3 * i < ns.length) {ms : List Int} {a b : Int} (ha : a = 0 + (i : Int) * 3) (hb : b = 0 + (i : Int) * 3 + 3) (hm : ms = List.take 3 (List.take (min b.toNat ns.length - a.toNat) (List.drop a.toNat ns) ++ [0, 0])) : ms.length = 3 := by
  subst hm
  have h1 : a.toNat = 3 * i := by omega
  have h2 : b.toNat = 3 * i + 3 := by omega
  rw [List.length_take, List.length_append, List.length_take, List.length_drop, h1, h2]
  simp only [List.length_cons, List.length_nil]
  omega
theorem three_of {ws : List Value} {ms : List Int} (h : IntsAre ws ms) (h3 : ms.length = 3) : ∃ (x y z : Int) (tx ty tz : Tok), ws = [.int x tx, .int y ty, .int z tz] := by
  cases h with
  | nil => simp at h3
  | cons n t h =>
    cases h with
    | nil => simp at h3
    | cons n2 t2 h =>
      cases h with
      | nil => simp at h3
      | cons n3 t3 h =>
        cases h with
        | nil => exact ⟨_, _, _, _, _, _, rfl⟩
        | cons _ _ _ => simp at h3
section
variable {prog : Program} {w : World} {A : Around} {E : Value → Shared → Prop} {s : Shared} {env : Env} {h₀ : Heap} {L l : Addr} {m : Str → Option Value} {news : List (Addr × Obj)} {elts : List PySem.Expr} {k : Nat} {pos : Pos}
theorem unpack3 {ws : List Value} {ms : List Int} {Q : Unit → Shared → Prop} (F : Fr h₀ L s.heap m) (N : News h₀ L s.heap news) (hl : s.heap.IsList l ws.toArray) (hi : IntsAre ws ms) (h3 : ms.length = 3) (hh : A.handled = none) (hn : (assignEach elts env).length = 3)
    (hstar : (assignEach elts env).findIdx? (·.1) = none) (h : ∀ h' x y z tx ty tz, Fr h₀ L h' m → News h₀ L h' news → wpAny (model prog w) A (assignInOrder ((assignEach elts env).map (·.2)) [.int x tx, .int y ty, .int z tz]) Q E { s with heap := h' }) :
    wpAny (model prog w) A (assign (.Tuple elts k pos) env (.ref l)) Q E s := by
  obtain ⟨x, y, z, tx, ty, tz, rfl⟩ := three_of hi h3
  exact kun_list F N hl hh hn hstar fun h' F' N' => h h' x y z tx ty tz F' N'
end
theorem news1t {h₀ h : Heap} {L : Addr} {a : Addr × Obj} {news : List (Addr × Obj)} (N : News h₀ L h (a :: news)) : News h₀ L h news := news_drop N fun p hp => List.mem_cons_of_mem _ hp
theorem news3 {h₀ h : Heap} {L : Addr} {a b c : Addr × Obj} {news : List (Addr × Obj)} (N : News h₀ L h (a :: b :: c :: news)) : News h₀ L h news := news_drop N fun p hp => List.mem_cons_of_mem _ (List.mem_cons_of_mem _ (List.mem_cons_of_mem _ hp))
theorem cells_none {names : List (Str × NameKind)} (h : (names.all fun x => decide (x.2 ≠ .cell)) = true) : ∀ x ∈ names, x.2 ≠ .cell := fun x hx => of_decide_eq_true (List.all_eq_true.mp h x hx)
def lText (x : Str) (tx : Tok) (u : Str → Option Value) : Str → Option Value := fun y => if y = Str.ofString "text" then some (.str x tx) else u y
def lDue (d : Addr) (u : Str → Option Value) : Str → Option Value := fun y => if y = Str.ofString "due" then some (.ref d) else u y
def LwT (g : Heap) (L : Addr) (s : Shared) (l : Addr) (news : List (Addr × Obj)) (s' : Shared) : Prop :=
  ∃ h tk x tx u, s' = { s with heap := h, toks := tk } ∧ Fr g L h (lText x tx u) ∧ u (Str.ofString "tape") = some (.ref l) ∧ News g L h news ∧ TextOk x
def dueDs (x : Str) : List Dat := match cnumF (cl x) with
  | none => []
  | some (n, ws) => [.tuple [.int (n : Int), .list (ws.map .str)]]
def LwD (g : Heap) (L : Addr) (s : Shared) (l : Addr) (news : List (Addr × Obj)) (x : Str) (tx : Tok) (s' : Shared) : Prop :=
  ∃ h tk d u newsD dvs dk, s' = { s with heap := h, toks := tk } ∧ Fr g L h (lDue d (lText x tx u)) ∧ u (Str.ofString "tape") = some (.ref l) ∧ News g L h newsD ∧ (d, listOf (List.toArray dvs) dk) ∈ newsD ∧ DatAll newsD dvs (dueDs x) ∧ ∀ p ∈ news, p ∈ newsD
def lGot (g : Addr) (u : Str → Option Value) : Str → Option Value := fun y => if y = Str.ofString "got" then some (.ref g) else u y
def LwG (h₀ : Heap) (L : Addr) (s : Shared) (m : Str → Option Value) (news : List (Addr × Obj)) (s' : Shared) : Prop :=
  ∃ h tk g, s' = { s with heap := h, toks := tk } ∧ Fr h₀ L h (lGot g m) ∧ News h₀ L h ((g, listOf (List.toArray []) 0) :: news) ∧ (∀ p ∈ news, p.1 < g) ∧ h₀.get? g = none
def LwC (h₀ : Heap) (L : Addr) (s : Shared) (m : Str → Option Value) (news : List (Addr × Obj)) (x : Str) (s' : Shared) : Prop :=
  (cnumF (cl x) = none ∧ ∃ h tk g, s' = { s with heap := h, toks := tk } ∧ Fr h₀ L h (lGot g m) ∧ News h₀ L h ((g, listOf (List.toArray []) 0) :: news) ∧ (∀ p ∈ news, p.1 < g)) ∨
  (∃ n ws h tk g tp wl vs k tn kk, cnumF (cl x) = some (n, ws) ∧ s' = { s with heap := h, toks := tk } ∧ Fr h₀ L h (lGot g m) ∧
    News h₀ L h ((tp, { cls := .type "tuple", data := .seq #[.int (n : Int) tn, .ref wl] }) :: (wl, listOf (List.toArray vs) k) :: (g, listOf (List.toArray [.ref tp]) kk) :: news) ∧ StrsAre vs ws ∧ (wl < tp ∧ g < wl) ∧ (∀ p ∈ news, p.1 < g))
theorem turn_eq {m₂ : Str → Option Value} {d : Addr} {x : Str} {tx : Tok} {v : Value} (h1 : m₂ (Str.ofString "due") = some (.ref d)) (h2 : m₂ (Str.ofString "text") = some (.str x tx)) (y : Str) :
    (if y = Str.ofString "turn" then some v else m₂ y) = lDue d (lText x tx (fun y => if y = Str.ofString "turn" then some v else m₂ y)) y := by
  have e1 : ¬ Str.ofString "due" = Str.ofString "turn" := by decide +kernel
  have e2 : ¬ Str.ofString "text" = Str.ofString "turn" := by decide +kernel
  have e3 : ¬ Str.ofString "text" = Str.ofString "due" := by decide +kernel
  unfold lDue lText
  by_cases h : y = Str.ofString "due"
  · subst h; simp [h1, e1]
  · by_cases h' : y = Str.ofString "text"
    · subst h'; simp [h2, e2, e3]
    · simp [h, h']
theorem wpC_callWith_builtinE {prog : Program} {w : World} {A : Around} {E : Value → Shared → Prop} {s : Shared} {env : Env} {pos : Pos} {id : String} {first : List Value} {e : PySem.Expr} {rest : List PySem.Expr} {Q : Value → Shared → Prop}
    (h : wpC (model prog w) A (spliced (backTo pos (starEach (e :: rest) env))) (fun vs s₁ => wpC (model prog w) A (call (.builtin id) (first ++ vs)) Q E s₁) E s)
    (he : starEach (e :: rest) env = (false, eval e env) :: starEach rest env := by rfl) (hplain : (backTo pos (starEach rest env)).any (·.1) = false := by rfl) :
    wpC (model prog w) A (callWith pos (.builtin id) first (backTo pos (starEach (e :: rest) env)) []) Q E s := by
  rw [he] at h ⊢
  exact wpC_callWith_builtin (by show (false || (backTo pos (starEach rest env)).any (·.1)) = false; rw [hplain]; rfl) (wpC_evalArgs h)
theorem got_eq (g g' : Addr) (m : Str → Option Value) (y : Str) : (if y = Str.ofString "got" then some (Value.ref g) else lGot g' m y) = lGot g m y := by
  unfold lGot
  by_cases h : y = Str.ofString "got" <;> simp [h]
theorem app3 {prog : Program} {w : World} {A : Around} {E : Value → Shared → Prop} {s : Shared} {h₀ : Heap} {L D D2 l : Addr} {o o2 : Obj} {m : Str → Option Value} {news : List (Addr × Obj)} {its : Array Value} {n : Nat} {x : Value} {Q : Value → Shared → Prop}
    (F : Fr h₀ L s.heap m) (N : News h₀ L s.heap ((D, o) :: (D2, o2) :: (l, listOf its n) :: news)) (hD : D2 < D) (hl2 : ∀ p ∈ (l, listOf its n) :: news, p.1 < D2) (hl : ∀ p ∈ news, p.1 < l) (hsz : its.size ≤ sizeLine)
    (h : ∀ h', Fr h₀ L h' m → News h₀ L h' ((D, o) :: (D2, o2) :: (l, listOf (its.push x) (n + 1)) :: news) → Q .none { s with heap := h' }) : wpAny (model prog w) A (call (.builtin "list.append") [.ref l, x]) Q E s :=
  append_K F N (.tail (Nat.ne_of_gt (Nat.lt_trans (hl2 _ (List.mem_cons_self ..)) hD)) (.tail (Nat.ne_of_gt (hl2 _ (List.mem_cons_self ..))) (.head fun p hp => Nat.ne_of_lt (hl p hp)))) h hsz
def LwZ2 (h₀ : Heap) (L : Addr) (s : Shared) (m : Str → Option Value) (news : List (Addr × Obj)) (s' : Shared) : Prop :=
  ∃ h tk, s' = { s with heap := h, toks := tk } ∧ Fr h₀ L h m ∧ News h₀ L h news
theorem ne_due {prog : Program} {w : World} {A : Around} {E : Value → Shared → Prop} {s : Shared} {h₀ : Heap} {L a b : Addr} {news : List (Addr × Obj)} {xs ys : List Value} {ka kb : Nat} {ds : List Dat} {Q : Value → Shared → Prop}
    (N : News h₀ L s.heap news) (ma : (a, listOf (List.toArray xs) ka) ∈ news) (Da : DatAll news xs ds) (mb : (b, listOf (List.toArray ys) kb) ∈ news) (Db : DatAll news ys ds)
    (hok : ∀ d ∈ ds, kqdOk 8 d = true) (hu : A.units + 64 < cLine) (h : Q (.bool false) s) : wpAny (model prog w) A (compareOp .NotEq (.ref a) (.ref b)) Q E s := by
  classical
  exact kqd_ne N ma rfl rfl Da (fun _ h => h) mb rfl rfl Db (fun _ h => h) hok hok hu (by rw [decide_eq_true rfl]; exact h)
theorem words_ok : ∀ (L : List Nat), ∀ w ∈ orInt (L.map wordOf), PyData.strOk w = true := by
  have h1 : PyData.strOk (Str.ofString "int") = true := by decide +kernel
  have h2 : PyData.strOk (Str.ofString "unsigned") = true := by decide +kernel
  have h3 : PyData.strOk (Str.ofString "long") = true := by decide +kernel
  intro L w hw
  unfold orInt at hw
  split at hw
  · rw [List.mem_singleton.mp hw]; exact h1
  · obtain ⟨c, _, rfl⟩ := List.mem_map.mp hw
    unfold wordOf
    split
    · exact h2
    · exact h3
theorem cnumF_words {t : List Nat} {n : Nat} {ws : List Str} (h : cnumF t = some (n, ws)) : ∃ L, ws = orInt (List.map wordOf L) := by
  unfold cnumF at h
  split at h
  · cases h
  · split at h
    · cases h
    · injection h with h
      injection h with h1 h2
      exact ⟨_, h2.symm⟩
theorem due_ok (x : Str) : ∀ d ∈ dueDs x, kqdOk 8 d = true := by
  intro d hd
  unfold dueDs at hd
  split at hd
  · cases hd
  · rename_i n ws hc
    obtain ⟨L, rfl⟩ := cnumF_words hc
    rw [List.mem_singleton.mp hd]
    have := words_ok L
    simp only [kqdOk, List.all_cons, List.all_nil, Bool.and_true, Bool.true_and, List.all_map, List.all_eq_true, Function.comp]
    exact this
theorem one_pair {h₀ h : Heap} {L tp wl : Addr} {z : Int} {tn : Tok} {k : Nat} {news : List (Addr × Obj)} (N : News h₀ L h ((tp, { cls := .type "tuple", data := .seq #[.int z tn, .ref wl] k }) :: news)) :
    ∀ (i : Nat) (v : Value), (#[Value.ref tp] : Array Value)[i]? = some v → ∃ T a b, v = .ref T ∧ h.IsTuple T #[a, b] ∧ ∃ z t, a = Value.int z t := by
  intro i v hv
  match i, hv with
  | 0, hv =>
    simp at hv
    exact ⟨tp, _, _, hv.symm, ⟨_, (N _ (List.mem_cons_self ..)).1, rfl, _, rfl⟩, z, tn, rfl⟩
  | i + 1, hv => simp at hv
theorem wpAny_last {M : Model} {A : Around} {env : Env} {st : Stmt} {Q : Flow → Shared → Prop} {E : Value → Shared → Prop} {s : Shared} (h : wpAny M A (exec st env) Q E s) : wpAny M A (execs [st] env) Q E s :=
  wpAny_execs_cons (wpAny_mono h (fun f s' q => by
    cases f with
    | next => exact wpAny_execs_nil q
    | _ => exact q) fun _ _ x => x)
theorem app4 {prog : Program} {w : World} {A : Around} {E : Value → Shared → Prop} {s : Shared} {h₀ : Heap} {L D D2 l : Addr} {o o2 : Obj} {m : Str → Option Value} {news : List (Addr × Obj)} {its : Array Value} {n : Nat} {x : Value} {Q : Value → Shared → Prop}
    (F : Fr h₀ L s.heap m) (N : News h₀ L s.heap ((D, o) :: (D2, o2) :: (l, listOf its n) :: news)) (hD : ∀ p ∈ (D2, o2) :: (l, listOf its n) :: news, p.1 < D) (hl2 : l < D2) (hl : ∀ p ∈ news, p.1 < l) (hsz : its.size ≤ sizeLine)
    (h : ∀ h', Fr h₀ L h' m → News h₀ L h' ((D, o) :: (D2, o2) :: (l, listOf (its.push x) (n + 1)) :: news) → Q .none { s with heap := h' }) : wpAny (model prog w) A (call (.builtin "list.append") [.ref l, x]) Q E s :=
  append_K F N (.tail (Nat.ne_of_gt (hD _ (List.mem_cons_of_mem _ (List.mem_cons_self ..)))) (.tail (Nat.ne_of_gt hl2) (.head fun p hp => Nat.ne_of_lt (hl p hp)))) h hsz
theorem cnumF_len {t : List Nat} {n : Nat} {ws : List Str} (h : cnumF t = some (n, ws)) : ws.length ≤ t.length + 1 := by
  unfold cnumF at h
  split at h
  · cases h
  · split at h
    · cases h
    · injection h with h
      injection h with h1 h2
      have h3 := sufs_len (cnBase (t.map lo1)).1
      have h4 := cnBase_len (t.map lo1)
      rw [List.length_map] at h4
      rw [← h2]
      unfold orInt
      split
      · simp
      · rw [List.length_map]; omega
theorem gotten {g : Addr} {d : Addr} {x : Str} {tx : Tok} {l : Addr} {u : Str → Option Value} (hu : u (Str.ofString "tape") = some (.ref l)) : lGot g (lDue d (lText x tx u)) (Str.ofString "due") = some (.ref d) ∧ lGot g (lDue d (lText x tx u)) (Str.ofString "text") = some (.str x tx) ∧ lGot g (lDue d (lText x tx u)) (Str.ofString "tape") = some (.ref l) := ⟨rfl, rfl, hu⟩
theorem strs_dat {news : List (Addr × Obj)} : ∀ {vs : List Value} {ws : List Str}, StrsAre vs ws → DatAll news vs (ws.map Dat.str)
  | _, _, .nil => .nil
  | _, _, .cons x t h => .cons (.str x t) (strs_dat h)
theorem due_none {x : Str} {news : List (Addr × Obj)} (h : TextOk x) (hr : ¬ ReadOk (rdDigs x) (rdBase (cl x)).1) : DatAll news [] (dueDs x) := by
  unfold dueDs
  rw [law_none h hr]; exact .nil
theorem due_some {x : Str} {news : List (Addr × Obj)} {l tp wl : Addr} {o : Obj} {tn : Tok} {n k : Nat} {vs : List Value} (h : TextOk x) (hr : ReadOk (rdDigs x) (rdBase (cl x)).1) (hS : StrsAre vs (orInt ((sufsR (cl x)).map readWord))) :
    DatAll ((l, o) :: (tp, { cls := .type "tuple", data := .seq #[.int (termsR (rdDigs x) (rdBase (cl x)).1).sum tn, .ref wl] n }) :: (wl, listOf (List.toArray vs) k) :: news) [.ref tp] (dueDs x) := by
  obtain ⟨m, hm, hc⟩ := law_some h hr
  unfold dueDs
  rw [hc, ← hm]
  exact .cons (.tuple (vs := [.int _ _, .ref wl]) (List.mem_cons_of_mem _ (List.mem_cons_self ..)) (.cons (.int _ _) (.cons (.list (List.mem_cons_of_mem _ (List.mem_cons_of_mem _ (List.mem_cons_self ..))) (strs_dat hS)) .nil))) .nil
theorem got_some {x : Str} {n : Nat} {ws : List Str} {news : List (Addr × Obj)} {tp wl : Addr} {vs : List Value} {tn : Tok} {k kk : Nat} {r : List (Addr × Obj)} (hc : cnumF (cl x) = some (n, ws)) (hS : StrsAre vs ws) :
    DatAll ((tp, { cls := .type "tuple", data := .seq #[.int (n : Int) tn, .ref wl] kk }) :: (wl, listOf (List.toArray vs) k) :: news) [.ref tp] (dueDs x) := by
  unfold dueDs
  rw [hc]
  exact .cons (.tuple (vs := [.int _ _, .ref wl]) (List.mem_cons_self ..) (.cons (.int _ _) (.cons (.list (List.mem_cons_of_mem _ (List.mem_cons_self ..)) (strs_dat hS)) .nil))) .nil
theorem got_none {x : Str} {news : List (Addr × Obj)} (hc : cnumF (cl x) = none) : DatAll news [] (dueDs x) := by
  unfold dueDs
  rw [hc]; exact .nil
theorem ne_nil {prog : Program} {w : World} {A : Around} {E : Value → Shared → Prop} {s : Shared} {h₀ : Heap} {L a b : Addr} {news : List (Addr × Obj)} {na nb : Nat} {Q : Value → Shared → Prop}
    (N : News h₀ L s.heap ((b, listOf (List.toArray []) nb) :: (a, listOf (List.toArray []) na) :: news)) (hu : A.units + 64 < cLine) (h : Q (.bool false) s) : wpAny (model prog w) A (compareOp .NotEq (.ref a) (.ref b)) Q E s :=
  ne_due (ds := []) N (List.mem_cons_of_mem _ (List.mem_cons_self ..)) .nil (List.mem_cons_self ..) .nil (fun d hd => nomatch hd) hu h
local macro_rules | `(tactic| walk_at "compareOp NotEq ref ref") => `(tactic| (k_here; (with_reducible show wpAny _ _ (compareOp CmpOp.NotEq (Value.ref _) (Value.ref _)) _ _ _); refine ne_nil (by assumption) (by first | k_units | decide) ?_))
local macro_rules | `(tactic| walk_at "compareOp NotEq ref ref") => `(tactic| (k_here; (with_reducible show wpAny _ _ (compareOp CmpOp.NotEq (Value.ref _) (Value.ref _)) _ _ _); refine ne_due (by assumption) (by assumption) (by assumption) (by assumption) (by assumption) (by assumption) (by first | k_units | decide) ?_))
local macro_rules | `(tactic| walk_at "call ref") => `(tactic| (k_here; (with_reducible show wpAny _ _ (call (Value.ref 47) [_, _, _]) _ _ _); refine text_claim _ _ _ _ _ _ _ _ _ _ _ _ _ _ _ _ _ _ _ _ _ (by assumption) (by assumption) (by assumption) (by assumption) (by assumption) rfl ?_; intro h' tk' x' tx' F' N' hx'))
local macro_rules | `(tactic| walk_at "call ref") => `(tactic| (k_here; (with_reducible show wpAny _ _ (call (Value.ref 52) [_]) _ _ _); refine read_claim _ _ _ _ _ _ _ _ _ _ _ _ _ _ _ _ _ (by assumption) (by assumption) (by assumption) (by assumption) (by assumption) (by assumption) (by assumption) rfl (fun hr' h' tk' l' F' N' l1 => ?_) (fun hr' h' tk' l' tp' wl' vs' k' tn' F' N' hS' l1 l2 => ?_)))
local macro_rules | `(tactic| walk_at "assign Tuple") => `(tactic| (k_here; (with_reducible show wpAny _ _ (assign (Expr.Tuple _ _ _) _ (Value.ref _)) _ _ _); k_dflt (refine' unpack3 ?k1 ?k2 ?k3 ?k7 ?k8 ?k4 ?k5 ?k6 ?_; (case k1 => k_asm); (case k2 => k_asm); (case k3 => kun_lst); (case k7 => assumption); (case k8 => exact turn_len (by assumption) rfl rfl rfl); (case k4 => exact rfl); (case k5 => exact rfl); (case k6 => exact rfl); k_whole); intro h' x y z tx ty tz F' N'; (try k_sweep)))
set_option maxHeartbeats 8000000 in
theorem holds : PySem.Challenge.rw_te0066_01.Holds := by
  w_on
  o_law
  refine holds_T (q := hd.view_39) (loose := []) (Xt := theXt) (XP := XL hd.view_39 []) (Yf := Hook.obs theHook) (Ya := Hook.val theHook) (YP := Hook.says theHook) (N := 880) left (Hook.of theHook) (Hook.keeps theHook) (fun s e => xl_of s (Bool.and_eq_true_iff.mp e).1) XL.keeps (by rfl) (by rfl) (by rfl) (fun s e => recFacts_of (Bool.and_eq_true_iff.mp e).2) (by rfl) (by first | assumption | decide +kernel) (by decide +kernel) ⟨rfl, rfl, rfl, rfl, rfl, by decide +kernel⟩ ?hw ?hc
  case hw => w_witness2
  case hc =>
    k_fill
    intro w s₀ s₁ mg mb G Y fa o pm cd doc dV kV ho hd hcd hD hmg hg args vals as hpre hlay hrd hwl hlo
    have KX := kIn_of Y
    refine Ground.open G ?_
    intro T B D TE TW
    clear D
    wrow_args hpre hlay hrd hwl hlo
    rename_i said ns0 y1 y2 y3 y4 y5 y6 y7 sl vs0 y8 hsl y9 y10 y11 hI0 y12 hn0 y13
    clear y13 y12 y11 y10 y9 y8 y7 y6 y5 y4 y3 y2 y1 said TW TE B G Y
    revert KX; k_fill; intro KX
    have B0 := below_caller s₁.heap
    dsimp only [Calls.docDef] at hd hcd hD hmg
    have hlim := Top.nolimit T
    have he := Dflts.none hD rfl; subst he
    generalize hR : GoodW _ _ _ _ _ = R
    refine codeC_call_def (by decide) ho hd hlim hcd rfl (BindsTo.of_eq rfl) (cells_none rfl) (locs rfl) fun h₁ hns hkeep => ?_
    change wpC _ (callerA.deeper (envOf (Str.ofString "law") _ _ fa cd)) (execs _ (envOf (Str.ofString "law") _ _ fa cd)) _ (fun e s' => wpAny _ (callerA.deeper (envOf (Str.ofString "law") _ _ fa cd)) (leaving (envOf (Str.ofString "law") _ _ fa cd) e) _ _ s') _
    dsimp only
    generalize hQ : (fun (f : Flow) (s' : Shared) => R (.ok (.ret (match f with | .ret v => v | _ => .none))) s') = Qn
    generalize hE : (fun (e : Value) (s' : Shared) => wpAny _ _ (leaving _ e) _ _ s') = En
    have F0 : Fr s₁.heap s₁.heap.objs.size h₁ (lScript sl) := fr_of ⟨hns, hkeep, Nat.le_refl _⟩ fun y => by
      show List.lookup y [(Str.ofString "script", Value.ref sl)] = _
      rw [List.lookup_cons, List.lookup_nil]
      unfold lScript
      by_cases hy : y = Str.ofString "script"
      · rw [if_pos hy, hy, beq_self_eq_true]
      · rw [if_neg hy, beq_eq_false_iff_ne.mpr hy]
    clear hns hkeep hd hD ho hcd hmg
    generalize s₁.heap.objs.size = L at F0 hE ⊢
    have N0 : News s₁.heap L h₁ [] := fun p hp => nomatch hp
    generalize s₁.toks + List.length _ = tk0
    refine wpC_leaf (LwA s₁.heap L s₁ sl) ?_ ?_
    · k_fold
      k_steps
      · exact ⟨rfl, _, _, _, _, _, _, rfl, by assumption, by assumption, by assumption, by omega⟩
      · exact ⟨rfl, _, _, _, [_, _, _], 0, [0, 7, 0], rfl, by assumption, news1 (by assumption), .cons _ _ (.cons _ _ (.cons _ _ .nil)), by decide⟩
    rintro _ ⟨h2, tk2, l, vs, k, ns, rfl, F2, N2, hI, hn⟩
    refine wpC_leafC (LwZ s₁.heap L s₁) ?_ ?_
    · refine wpC_For ?_
      refine wpAny_mono (Q := RangeSrc (LwR s₁.heap L s₁ (lTape sl l) [(l, listOf (List.toArray vs) k)] ns.length 3)) ?_ (fun v s' hv => ?_) (fun _ _ x => x)
      · k_fold
        k_steps
        exact ⟨_, _, _, _, _, _, _, rfl, _, _, rfl, by assumption, rfl, rfl, rfl, by assumption, by assumption⟩
      obtain ⟨r, a, b, c, t, u, x, rfl, h3, tk3, rfl, hr, rfl, rfl, rfl, F3, N3⟩ := hv
      have hsm := small24 ns.length hn
      refine wpC_iterRange rfl hr hsm.1 hsm.2 F3 N3 (fun i m₁ => m₁ (Str.ofString "tape") = some (.ref l)) rfl ?turn ?done (by rw [← hE]; exact PassesOwn.leaving) rfl rfl
      case done =>
        intro m₁ h tk _ F4 N4
        exact ⟨_, _, _, rfl, F4⟩
      intro I i m₁ h tat tk hlt hi hJ F4 N4
      refine wpC_leaf (LwB s₁.heap L s₁ l ((I, krsIt (0 + ((i + 1 : Nat) : Int) * 3) (((ns.length + 2) / 3 : Nat) - ((i + 1 : Nat) : Int)) 3) :: [(l, listOf (List.toArray vs) k)])) ?_ ?_
      · have F5 : Fr s₁.heap L h (lAt i tat l m₁) := fr_of F4 fun y => by
          unfold lAt
          by_cases hy : y = Str.ofString "tape"
          · subst hy; simp [hJ]
          · simp [hy]
        clear F4
        have hi3 : 3 * i < ns.length := by omega
        show wpAny _ _ _ _ _ _
        k_fold
        k_steps
        exact ⟨rfl, _, _, _, _, _, _, _, _, lAt i tat l m₁, rfl, by assumption, rfl, news3 (news1t (by assumption))⟩
      clear hJ F4 N4 F3 N3 F2 N2 hr
      rintro _ ⟨h4, tk4, va, ta, vb, tb, vc, tc, u1, rfl, F4, hu1, N4⟩
      generalize hnews : ((I, krsIt (0 + ((i + 1 : Nat) : Int) * 3) (((ns.length + 2) / 3 : Nat) - ((i + 1 : Nat) : Int)) 3) :: [(l, listOf (List.toArray vs) k)]) = news at *
      refine wpC_leaf (LwT s₁.heap L s₁ l news) ?_ ?_
      · k_fold
        k_steps
        exact ⟨rfl, _, _, _, _, lAbc va ta vb tb vc tc u1, rfl, by assumption, hu1, by assumption, by assumption⟩
      clear F4 N4 hu1
      rintro _ ⟨h5, tk5, x, tx, u, rfl, F5, hu, N5, hx⟩
      refine wpC_leaf (LwD s₁.heap L s₁ l news x tx) ?_ ?_
      · have hA := text_hA hx
        have hlen := hx.1
        show wpAny _ _ _ _ _ _
        k_fold
        k_steps
        · exact ⟨rfl, _, _, _, u, _, _, _, rfl, by assumption, hu, by assumption, List.mem_cons_self .., due_none hx (by assumption), fun p hp => List.mem_cons_of_mem _ hp⟩
        · exact ⟨rfl, _, _, _, u, _, _, _, rfl, by assumption, hu, by assumption, List.mem_cons_self .., due_some hx (by assumption) (by assumption), fun p hp => List.mem_cons_of_mem _ (List.mem_cons_of_mem _ (List.mem_cons_of_mem _ hp))⟩
      clear F5 N5 hu u
      rintro _ ⟨h6, tk6, d, u, newsD, dvs, dk, rfl, F6, hu, N6, hdm, hdD, hsub⟩
      refine wpC_last (wpC_For ?_)
      refine wpAny_mono (Q := RangeSrc (LwR s₁.heap L s₁ (lDue d (lText x tx u)) newsD 2 1)) ?_ (fun v s' hv => ?_) (fun _ _ x => x)
      · k_fold
        k_steps
        exact ⟨_, _, _, _, _, _, _, rfl, _, _, rfl, by assumption, rfl, rfl, rfl, by assumption, by assumption⟩
      clear N6 F6
      obtain ⟨r2, a2, b2, c2, t2, u2, x2, rfl, h7, tk7, rfl, hr2, rfl, rfl, rfl, F7, N7⟩ := hv
      refine wpC_iterRange (n := 2) rfl hr2 (by decide) (by decide) F7 N7 (fun i m₁ => m₁ (Str.ofString "due") = some (.ref d) ∧ m₁ (Str.ofString "text") = some (.str x tx) ∧ m₁ (Str.ofString "tape") = some (.ref l)) ⟨rfl, rfl, hu⟩ ?turn2 ?done2 (by rw [← hE]; exact PassesOwn.leaving) rfl rfl
      case done2 =>
        intro m₁ h tk hJ F8 N8
        exact ⟨_, _, _, rfl, F8, news_drop N8 hsub, hJ.2.2⟩
      clear F7 N7 hr2 hu u
      intro I2 i2 m₂ h8 tt8 tk8 hlt2 hi2 hJ F8 N8
      obtain ⟨hJ1, hJ2, hJ3⟩ := hJ
      generalize hturn : (Value.int (0 + (i2 : Int) * 1) tt8) = vturn at F8
      have F9 : Fr s₁.heap L h8 (lDue d (lText x tx (fun y => if y = Str.ofString "turn" then some vturn else m₂ y))) := fr_of F8 fun y => by
        exact turn_eq hJ1 hJ2 y
      clear F8
      generalize hu : (fun y => if y = Str.ofString "turn" then some vturn else m₂ y) = u at F9
      have hu3 : u (Str.ofString "tape") = some (.ref l) := by rw [← hu]; exact hJ3
      generalize hit : krsIt (0 + ((i2 + 1 : Nat) : Int) * 1) ((2 : Nat) - ((i2 + 1 : Nat) : Int)) 1 = it2 at N8 ⊢
      clear hu hJ1 hJ2 hJ3 hturn
      refine wpC_leaf (LwG s₁.heap L s₁ (lDue d (lText x tx u)) ((I2, it2) :: newsD)) ?_ ?_
      · k_fold
        k_steps
        rename_i l9 _ l1 h9 F9' N9'
        exact ⟨rfl, _, _, l9, rfl, F9', N9', allLt_mem (l := (I2, it2) :: newsD) l1, (N9' _ (List.mem_cons_self ..)).2.2⟩
      rintro _ ⟨h9, tk9, g, rfl, F10, N10, hg1, hg2⟩
      clear F9 N8
      refine wpC_leafC (LwC s₁.heap L s₁ (lDue d (lText x tx u)) ((I2, it2) :: newsD) x) ?_ ?_
      · refine wpC_Try (wpC_last (wpC_Expr (wpC_MethodCall ?_)))
        k_fold
        k_steps
        refine wpC_callWith_builtinE ?_
        refine wpC_spliced_cons (wpC_Call_Name ?_)
        show wpAny _ _ _ _ _ _
        k_fold
        k_steps
        refine wpC_callWith_K (K := hd.heap_39 w.params) (by k_is) (wpC_of_any ?_)
        show wpAny _ _ _ _ _ _
        k_fold
        k_steps
        refine cnum_claim w _ _ _ _ _ L fa cd s₁.heap _ _ _ _ _ x tx hx.1 (text_hA hx) B0 F10 (by assumption) N10 T rfl (text_pre hx) ?_ ?_
        · intro n ws hc h' tk' tp wl vs' k' tn' F11 N11 hS hlt9 hlt8
          show wpAny _ _ _ _ _ _
          k_fold
          k_steps
          refine wpC_of_any ?_
          show wpAny _ _ (call (.builtin "list.append") [.ref g, .ref tp]) _ _ _
          refine app3 F11 N11 hlt9.1 hlt8 hg1 (by decide) ?_
          intro h11 F12 N12
          refine wpC_execs_nil ?_
          show LwC s₁.heap L s₁ (lDue d (lText x tx u)) ((I2, it2) :: newsD) x _
          exact Or.inr ⟨n, ws, _, _, g, tp, wl, vs', k', tn', _, hc, rfl, F12, N12, hS, ⟨hlt9.1, hlt8 _ (List.mem_cons_self ..)⟩, hg1⟩
        · intro hc g9 h' tk' e FG U R'
          refine caught_N0 B0 FG U R' (topRead_of T) rfl rfl rfl rfl (fun h'' F11 N11 => ?_) (hE := by rw [← hE]; passes_own)
          refine wpAny_execs_cons ?_
          show wpAny _ _ _ _ _ _
          k_fold
          k_steps
          rename_i l9 _ l1 h9 F9' N9'
          show LwC s₁.heap L s₁ (lDue d (lText x tx u)) ((I2, it2) :: newsD) x _
          exact Or.inl ⟨hc, _, _, l9, rfl, fr_of F9' (got_eq _ _ _), news_drop N9' (fun p hp => by
            rcases List.mem_cons.mp hp with rfl | hp
            · exact List.mem_cons_self ..
            · exact List.mem_cons_of_mem _ (List.mem_cons_of_mem _ hp)), allLt_mem (l := (I2, it2) :: newsD) l1.2⟩
      clear F10 N10 hg1 hg2
      rintro _ (⟨hc, h10, tk10, g, rfl, F11, N11, hg1⟩ | ⟨n, ws, h10, tk10, g, tp, wl, vs', k', tn, kk, hc, rfl, F11, N11, hS, hlt9, hg1⟩)
      · refine wpC_of_any ?_
        refine wpAny_leafR (LwZ2 s₁.heap L s₁ (lGot g (lDue d (lText x tx u))) ((g, listOf (List.toArray []) 0) :: (I2, it2) :: newsD)) ?_ ?_
        · have m1 : (g, listOf (List.toArray []) 0) ∈ (g, listOf (List.toArray []) 0) :: (I2, it2) :: newsD := List.mem_cons_self ..
          have m2 : (d, listOf (List.toArray dvs) dk) ∈ (g, listOf (List.toArray []) 0) :: (I2, it2) :: newsD := List.mem_cons_of_mem _ (List.mem_cons_of_mem _ hdm)
          have d1 : DatAll ((g, listOf (List.toArray []) 0) :: (I2, it2) :: newsD) [] (dueDs x) := got_none hc
          have d2 := hdD.mono fun p hp => List.mem_cons_of_mem (g, listOf (List.toArray []) 0) (List.mem_cons_of_mem (I2, it2) hp)
          have hok := due_ok x
          show wpAny _ _ _ _ _ _
          k_fold
          iterate 10 (first | walk1 | (dsimp only; walk1))
          refine' comp_pairNone (h₀ := s₁.heap) (L := L) (m := lGot g (lDue d (lText x tx u))) (news := (g, listOf (List.toArray []) 0) :: (I2, it2) :: newsD) ?hh ?hclos ?hcell ?hkind ?hnames ?hxi ?hxv ?hne ?h ?hs
          case hh => rfl
          case hclos => with_unfolding_all rfl
          case hcell => decide
          case hkind => with_unfolding_all rfl
          case hnames => decide
          case hxi => with_unfolding_all rfl
          case hxv => with_unfolding_all rfl
          case hne => decide +kernel
          case hs => intro _; with_unfolding_all rfl
          show wpAny _ _ _ _ _ _
          k_fold
          k_steps
          refine ⟨g, rfl, #[], ⟨_, (N11 _ m1).1, rfl, _, rfl⟩, F11, N11, ?_, ?_, ?_⟩
          · intro j v hv; simp at hv
          · intro C a b s₂ m₂ E' ha hn hma hmb F12 N12
            obtain ⟨z, t, rfl⟩ := ha
            show wpAny _ _ _ _ _ _
            k_fold
            k_steps
            exact ⟨_, _, rfl, fun _ _ e => e⟩
          · intro D nD h' tk F12 N12 hlt12
            show wpAny _ _ _ _ _ _
            k_fold
            k_steps
            exact ⟨_, _, rfl, by assumption, news1t (news1t (by assumption))⟩
        clear F11 N11
        rintro _ ⟨h12, tk12, rfl, F12, N12⟩
        refine wpAny_last (for_zero (h₀ := s₁.heap) (m := lGot g (lDue d (lText x tx u))) (news := (g, listOf (List.toArray []) 0) :: (I2, it2) :: newsD) rfl ?_ (fun _ => by with_unfolding_all rfl))
        show wpAny _ _ _ _ _ _
        k_fold
        k_steps
        exact ⟨g, rfl, ⟨_, (N12 _ (List.mem_cons_self ..)).1, rfl, _, rfl⟩, F12, N12, fun h' tk F' N' => ⟨_, _, _, rfl, F', news1t N', gotten hu3⟩⟩
      · refine wpC_of_any ?_
        refine wpAny_leafR (LwZ2 s₁.heap L s₁ (lGot g (lDue d (lText x tx u))) ((tp, { cls := .type "tuple", data := .seq #[.int (n : Int) tn, .ref wl] }) :: (wl, listOf (List.toArray vs') k') :: (g, listOf (List.toArray [.ref tp]) kk) :: (I2, it2) :: newsD)) ?_ ?_
        · have m1 := List.mem_cons_of_mem (tp, ({ cls := .type "tuple", data := .seq #[.int (n : Int) tn, .ref wl] } : Obj)) (List.mem_cons_of_mem (wl, listOf (List.toArray vs') k') (List.mem_cons_self (a := (g, listOf (List.toArray [.ref tp]) kk)) (l := (I2, it2) :: newsD)))
          have hin : ∀ p ∈ newsD, p ∈ (tp, ({ cls := .type "tuple", data := .seq #[.int (n : Int) tn, .ref wl] } : Obj)) :: (wl, listOf (List.toArray vs') k') :: (g, listOf (List.toArray [.ref tp]) kk) :: (I2, it2) :: newsD := fun p hp => by simp [hp]
          have m2 := hin _ hdm
          have d1 := got_some (news := (g, listOf (List.toArray [.ref tp]) kk) :: (I2, it2) :: newsD) (r := []) (kk := 0) (tn := tn) (tp := tp) (wl := wl) (k := k') hc hS
          have d2 := hdD.mono hin
          have hok := due_ok x
          show wpAny _ _ _ _ _ _
          k_fold
          iterate 10 (first | walk1 | (dsimp only; walk1))
          refine' comp_pairNone (h₀ := s₁.heap) (L := L) (m := lGot g (lDue d (lText x tx u))) (news := (tp, { cls := .type "tuple", data := .seq #[.int (n : Int) tn, .ref wl] }) :: (wl, listOf (List.toArray vs') k') :: (g, listOf (List.toArray [.ref tp]) kk) :: (I2, it2) :: newsD) ?hh ?hclos ?hcell ?hkind ?hnames ?hxi ?hxv ?hne ?h ?hs
          case hh => rfl
          case hclos => with_unfolding_all rfl
          case hcell => decide
          case hkind => with_unfolding_all rfl
          case hnames => decide
          case hxi => with_unfolding_all rfl
          case hxv => with_unfolding_all rfl
          case hne => decide +kernel
          case hs => intro _; with_unfolding_all rfl
          show wpAny _ _ _ _ _ _
          k_fold
          k_steps
          refine ⟨g, rfl, #[.ref tp], ⟨_, (N11 _ m1).1, rfl, _, rfl⟩, F11, N11, ?_, ?_, ?_⟩
          · exact one_pair N11
          · intro C a b s₂ m₂ E' ha hn hma hmb F12 N12
            obtain ⟨z, t, rfl⟩ := ha
            show wpAny _ _ _ _ _ _
            k_fold
            k_steps
            exact ⟨_, _, rfl, fun _ _ e => e⟩
          · intro D nD h' tk F12 N12 hlt12
            show wpAny _ _ _ _ _ _
            k_fold
            k_steps
            exact ⟨_, _, rfl, by assumption, news1t (news1t (by assumption))⟩
        clear F11 N11
        rintro _ ⟨h12, tk12, rfl, F12, N12⟩
        refine wpAny_last (for_one (h₀ := s₁.heap) (m := lGot g (lDue d (lText x tx u))) (news := (tp, { cls := .type "tuple", data := .seq #[.int (n : Int) tn, .ref wl] }) :: (wl, listOf (List.toArray vs') k') :: (g, listOf (List.toArray [.ref tp]) kk) :: (I2, it2) :: newsD) (newsE := (I2, it2) :: newsD)
          (fun m₁ => m₁ (Str.ofString "due") = some (.ref d) ∧ m₁ (Str.ofString "text") = some (.str x tx) ∧ m₁ (Str.ofString "tape") = some (.ref l)) rfl rfl rfl rfl ?_ (fun p hp => List.mem_cons_of_mem _ (List.mem_cons_of_mem _ (List.mem_cons_of_mem _ hp))) (by rw [← hE]; exact PassesOwn.leaving) (fun _ => by with_unfolding_all rfl))
        show wpAny _ _ _ _ _ _
        k_fold
        k_steps
        refine ⟨g, rfl, _, tp, _, _, kk, rfl, List.mem_cons_of_mem _ (List.mem_cons_of_mem _ (List.mem_cons_self ..)), ⟨_, (N12 _ (List.mem_cons_self ..)).1, rfl, _, rfl⟩, F12, N12, ?_, ?_⟩
        · intro I3 oI3 h13 tk13 hI3 F13 N13
          have hws := cnumF_len hc
          rw [cl_len] at hws
          have hxl := hx.1
          have hv9 : (List.toArray vs').size ≤ sizeLine := by rw [List.size_toArray, StrsAre.length hS, sizeLine_eq]; omega
          show wpAny _ _ _ _ _ _
          k_fold
          iterate 9 (first | walk1 | (dsimp only; walk1))
          show wpAny _ _ (call (.builtin "list.append") [.ref wl, .str _ _]) _ _ _
          refine app4 F13 N13 hI3 hlt9.1 (fun p hp => ?_) hv9 ?_
          · rcases List.mem_cons.mp hp with rfl | hp
            · exact hlt9.2
            · exact Nat.lt_trans (hg1 p hp) hlt9.2
          intro h14 F14 N14
          k_steps
          exact ⟨_, _, _, rfl, F14, news_drop N14 (fun p hp => by
            rcases List.mem_cons.mp hp with rfl | hp
            · exact List.mem_cons_self ..
            · exact List.mem_cons_of_mem _ (List.mem_cons_of_mem _ (List.mem_cons_of_mem _ hp))), ⟨rfl, rfl, hu3⟩⟩
        · intro h' tk m' F' N' hJ
          exact ⟨_, _, _, rfl, F', N', hJ⟩
    rintro _ ⟨h15, tk15, m15, rfl, F15⟩
    refine wpC_of_any ?_
    k_steps
    show Qn (.ret (.bool true)) _
    rw [← hQ]
    show R (.ok (.ret (.bool true))) _
    rw [← hR]
    refine ⟨.inl ⟨.bool true, .bool true, [], rfl, ?_, .bool true, ?_, ?_⟩, fun b o e => F15.keep b o e, rfl, hg⟩
    · intro cls; rfl
    · wrow_post
    · intro h; exact ⟨List.nodup_nil, fun a ha => nomatch ha⟩
end Mine
end

set_option maxRecDepth 100000 in
theorem PySem.Challenge.cw_te0066_01_holds : PySem.Challenge.rw_te0066_01.Holds := by
  exact Mine.holds
