import PyProof.Rows.All
import Wide.All
import OpenK.AllK
import Wide.FinOn
import PySem.Challenge.RW_io0036_01
open PySem PySem.W PyProof.Rows PySem.Calls
set_option Elab.async false
set_option maxRecDepth 100000
set_option maxHeartbeats 8000000
namespace Mine
section
open PySem.Spec
open PySem.Sem (wp)
abbrev PCtx := PySem.Ctx
def notDec : Code → Bool
  | .builtin id _ => !Builtin.Bytes.decodersThatHold.contains id
  | _ => true
structure Clean (Γ : PCtx) : Prop where
  code : notDec Γ.code = true
  below : ∀ x ∈ Γ.below, notDec x.1 = true
theorem Clean.enter {Γ : PCtx} {c : Code} {h : Option Value} {p : Pos} (hc : Clean Γ) (hn : notDec c = true) : Clean (Γ.enter c h p) := by
  refine ⟨hn, fun x hx => ?_⟩
  have hx' : x ∈ (Γ.code, p) :: Γ.below := hx
  rcases List.mem_cons.mp hx' with rfl | hx'
  · exact hc.code
  · exact hc.below x hx'
theorem Clean.goto {Γ : PCtx} {c : Code} (hc : Clean Γ) (hn : notDec c = true) : Clean (Γ.goto c) := ⟨hn, hc.below⟩

def wpC {α : Type} (M : Model) (A : Around) (t : Sem α) (Q : α → Shared → Prop) (E : Value → Shared → Prop) (s : Shared) : Prop :=
  ∀ Γ p, Γ.In A → Clean Γ → wp M Γ t (fun a _ s' => Q a s') (fun e _ s' => E e s') p s
def codeC (M : Model) (A : Around) (c : Code) (R : Result → Shared → Prop) (s : Shared) : Prop :=
  ∀ Γ p, Γ.code = c → Γ.Below A → Clean Γ → wpCode M Γ R p s

section
variable {α β : Type} {M : Model} {A : Around} {E : Value → Shared → Prop} {s : Shared}
theorem wpC_any {t : Sem α} {Q : α → Shared → Prop} (h : wpAny M A t Q E s) : wpC M A t Q E s := fun Γ p hΓ _ => h Γ p hΓ
theorem codeC_any {c : Code} {R : Result → Shared → Prop} (h : codeAny M A c R s) : codeC M A c R s := fun Γ p hc hΓ _ => h Γ p hc hΓ
theorem wpC_mono {t : Sem α} {Q Q' : α → Shared → Prop} {E' : Value → Shared → Prop} (h : wpC M A t Q E s)
    (hQ : ∀ a s, Q a s → Q' a s) (hE : ∀ e s, E e s → E' e s) : wpC M A t Q' E' s :=
  fun Γ p hΓ hC => Sem.wp_mono M Γ t (fun a _ s => hQ a s) (fun e _ s => hE e s) p s (h Γ p hΓ hC)
theorem wpC_pure {a : α} {Q : α → Shared → Prop} (h : Q a s) : wpC M A (pure a) Q E s := fun _ _ _ _ => h
theorem wpC_bind {m : Sem α} {f : α → Sem β} {Q : β → Shared → Prop} (h : wpC M A m (fun a s' => wpC M A (f a) Q E s') E s) :
    wpC M A (m >>= f) Q E s := fun Γ p hΓ hC => by
  rw [Sem.wp_bind']
  exact Sem.wp_mono M Γ m (fun a p' s' h' => h' Γ p' hΓ hC) (fun _ _ _ h' => h') p s (h Γ p hΓ hC)
theorem wpC_bindA {m : Sem α} {f : α → Sem β} {Q : β → Shared → Prop} (h : wpAny M A m (fun a s' => wpC M A (f a) Q E s') E s) :
    wpC M A (m >>= f) Q E s := wpC_bind (wpC_any h)
theorem wpC_holding {vs : List Value} {m : Sem α} {Q : α → Shared → Prop} (h : wpC M A m Q E s) : wpC M A (holding vs m) Q E s :=
  fun Γ p hΓ hC => by rw [Sem.wp_holding]; exact h Γ p hΓ hC
theorem wpC_standAt {pos : Pos} {f : Unit → Sem β} {Q : β → Shared → Prop} (h : wpC M A (f ()) Q E s) : wpC M A (standAt pos >>= f) Q E s := wpC_bindA (wpAny_standAt h)
theorem wpC_attempt {m : Sem α} {Q : Except Value α → Shared → Prop} (h : wpC M A m (fun a => Q (.ok a)) (fun e => Q (.error e)) s) :
    wpC M A m.attempt Q E s := fun Γ p hΓ hC => by rw [Sem.wp_attempt]; exact h Γ p hΓ hC
theorem wpC_onRaise {m : Sem α} {k : Value → Sem Unit} {Q : α → Shared → Prop}
    (h : wpC M A m Q (fun e s' => wpC M A (k e) (fun _ s'' => E e s'') E s') s) : wpC M A (m.onRaise k) Q E s := fun Γ p hΓ hC => by
  rw [Sem.wp_onRaise]
  exact Sem.wp_mono M Γ m (fun _ _ _ h' => h') (fun e p' s' h' => h' Γ p' hΓ hC) p s (h Γ p hΓ hC)
theorem wpC_tryCatch {m : Sem α} {k : Value → Sem α} {Q : α → Shared → Prop} (h : wpC M A m Q (fun e s' => wpC M A (k e) Q E s') s) :
    wpC M A (tryCatch m k) Q E s := fun Γ p hΓ hC => by
  rw [Sem.wp_tryCatch']
  exact Sem.wp_mono M Γ m (fun _ _ _ h' => h') (fun e p' s' h' => h' Γ p' hΓ hC) p s (h Γ p hΓ hC)
theorem wpC_keep {vs : List Value} {m : Sem α} {Q : α → Shared → Prop} (h : wpC M A m Q E s) : wpC M A (m.keep vs) Q E s :=
  fun Γ p hΓ hC => by rw [Sem.wp_keep]; exact h Γ p hΓ hC
theorem wpC_of_eq {t : Sem α} {a : α} {Q : α → Shared → Prop} (e : t = pure a) (h : Q a s) : wpC M A t Q E s := wpC_any (wpAny_of_eq e h)
theorem wpC_operate {vs : List Value} {m : Sem Value} {Q : Value → Shared → Prop} (h : wpC M A m Q E s) : wpC M A (operate vs m) Q E s :=
  fun Γ p hΓ hC => by rw [Sem.wp_operate]; exact h Γ p hΓ hC
theorem wpC_bindName {env : Env} {x : Str} {v : Value} {Q : Unit → Shared → Prop} (h : wpC M A (storeName env x v) Q E s) : wpC M A (bindName env x v) Q E s :=
  fun Γ p hΓ hC => by rw [Sem.wp_bindName]; exact h Γ p hΓ hC
theorem wpC_run {c : Code} {h : Option Value} {Q : Flow → Shared → Prop} (hn : notDec c = true)
    (hc : codeC M (A.mark h) c (fun r s' => match r with | .ok f => Q f s' | .error e => E e s') s) (hnb : h ≠ some byPass := by intro x; cases x) :
    wpC M A (run c h) Q E s :=
  fun Γ p hΓ hC => by rw [Sem.wp_run]; exact hc _ p rfl (hΓ.enter c h p hnb) (hC.enter hn)
theorem wpC_runValue {c : Code} {Q : Value → Shared → Prop} (hn : notDec c = true)
    (hc : codeC M A c (fun r s' => match r with | .ok (.ret v) => Q v s' | .ok _ => False | .error e => E e s') s) :
    wpC M A (runValue c) Q E s := fun Γ p hΓ hC => by rw [Sem.wp_runValue]; exact hc _ p rfl (hΓ.enter c none p (by intro x; cases x)) (hC.enter hn)
theorem wpC_call {f : Value} {pos : List Value} {kw : List (Str × Value)} {Q : Value → Shared → Prop}
    (hc : codeC M A (.call f ⟨pos, kw⟩) (fun r s' => match r with | .ok (.ret v) => Q v s' | .ok _ => False | .error e => E e s') s) :
    wpC M A (call f pos kw) Q E s := wpC_runValue rfl hc
theorem codeC_mono {c : Code} {R R' : Result → Shared → Prop} (h : codeC M A c R s) (hR : ∀ r s, R r s → R' r s) : codeC M A c R' s :=
  fun Γ p hc hΓ hC => wpCode_mono hR (h Γ p hc hΓ hC)

abbrev afterC (M : Model) (A : Around) (R : Result → Shared → Prop) : Fin → Shared → Prop := fun fin s' => match fin with
  | .done f => R (.ok f) s'
  | .again c' => c'.quiet = true ∧ notDec c' = true ∧ codeC M A c' R s'
theorem codeC_of_tree {c : Code} {R : Result → Shared → Prop}
    (h : wpC M (A.under c) (M.den c) (afterC M A R) (fun e s' => R (.error e) s') s) : codeC M A c R s := fun Γ p hc hΓ hC => by
  rw [wpCode_iff_wp, hc]
  refine Sem.wp_mono M Γ _ (fun fin p' s' h' => ?_) (fun _ _ _ h' => h') p s (h Γ p (hc ▸ hΓ.in) hC)
  cases fin with
  | done f => exact h'
  | again c' => exact ⟨h'.1, h'.2.2 (Γ.goto c') p' rfl (hΓ.goto c') (hC.goto h'.2.1)⟩
theorem codeC_loop {c : Code} {R : Result → Shared → Prop} (hq : c.quiet = true) (hn : notDec c = true) (I : Nat → Shared → Prop)
    (turn : ∀ n s, I n s → wpC M (A.under c) (M.den c)
      (fun fin s' => match fin with | .done f => R (.ok f) s' | .again c' => (c' = c ∧ ∃ m, m < n ∧ I m s') ∨ (c'.quiet = true ∧ notDec c' = true ∧ codeC M A c' R s')) (fun e s' => R (.error e) s') s)
    (n : Nat) (h : I n s) : codeC M A c R s := by
  induction n using Nat.strongRecOn generalizing s with
  | ind n ih =>
    refine codeC_of_tree (wpC_mono (turn n s h) (fun fin s' hf => ?_) fun _ _ h' => h')
    cases fin with
    | done f => exact hf
    | again c' =>
      rcases hf with ⟨rfl, m, hm, hI⟩ | hf
      · exact ⟨hq, hn, ih m hm hI⟩
      · exact hf
end

-- statements and expressions
section
variable {M : Model} {A : Around} {E : Value → Shared → Prop} {s : Shared} {env : Env}
def FlowC (M : Model) (A : Around) (E : Value → Shared → Prop) (env : Env) (rest : List Stmt) (Q : Flow → Shared → Prop) (f : Flow) (s' : Shared) : Prop := match f with
  | .next => wpC M A (execs rest env) Q E s'
  | f => Q f s'
theorem wpC_execs_cons {st rest} {Q : Flow → Shared → Prop}
    (h : wpC M A (exec st env) (FlowC M A E env rest Q) E s) :
    wpC M A (execs (st :: rest) env) Q E s := fun Γ p hΓ hC => by
  rw [execs_cons, Sem.wp_bind']
  refine Sem.wp_mono M Γ _ (fun f p' s' h' => ?_) (fun _ _ _ h' => h') _ _ (h Γ p hΓ hC)
  cases f <;> first | exact h' Γ p' hΓ hC | exact h'
/-- a statement that the library's own rules take -/
theorem wpC_execs_any {st rest} {Q : Flow → Shared → Prop}
    (h : wpAny M A (exec st env) (FlowC M A E env rest Q) E s) : wpC M A (execs (st :: rest) env) Q E s := wpC_execs_cons (wpC_any h)
theorem wpC_Assign_Name {x pos' value pos} {Q : Flow → Shared → Prop}
    (h : wpC M A (eval value env) (fun v s₁ => wpC M A (storeName env x v) (fun _ => Q .next) E s₁) E s)
    (hs : swapsWith value (some (.Name x pos')) pos.line env = pure false := by rfl) :
    wpC M A (exec (.Assign [.Name x pos'] value pos) env) Q E s := by
  rw [exec_Assign_Name env x pos' value pos hs]
  exact wpC_standAt (wpC_bind (wpC_mono h (fun v s₁ h₁ => wpC_standAt (wpC_bind (wpC_bindName (wpC_mono h₁ (fun _ _ q => wpC_pure q) fun _ _ e => e)))) fun _ _ e => e))
theorem wpC_If {test body orelse pos} {Q : Flow → Shared → Prop}
    (h : wpC M A (isTrue test env (eval test env))
      (fun b s₂ => if b then wpC M A (execs body env) Q E s₂ else wpC M A (execs orelse env) Q E s₂) E s) :
    wpC M A (exec (.If test body orelse pos) env) Q E s := by
  rw [exec_If]
  refine wpC_standAt (wpC_bind (wpC_mono h (fun b s₂ h₂ => ?_) fun _ _ h' => h'))
  cases b <;> exact h₂
theorem wpC_Return_some {e pos} {Q : Flow → Shared → Prop} (h : wpC M A (eval e env) (fun v => Q (.ret v)) E s) :
    wpC M A (exec (.Return (some e) pos) env) Q E s := by
  rw [exec_Return_some]
  exact wpC_standAt (wpC_bind (wpC_mono h (fun _ _ q => wpC_pure q) fun _ _ h' => h'))
theorem wpC_Call_Name {id : Str} {p pos : Pos} {args : List Expr} {keywords : List Keyword} {Q : Value → Shared → Prop}
    (h : wpAny M A (eval (.Name id p) env) (fun f s₁ => wpC M A (callWith pos f [] (backTo pos (starEach args env)) (backToKw pos (keywordEach keywords env))) Q E s₁) E s) :
    wpC M A (eval (.Call (.Name id p) args keywords pos) env) Q E s := by
  rw [arm_eval_Call_Name']
  exact wpC_bindA h
theorem wpC_Call_Method {o : Expr} {name : Str} {apos pos : Pos} {args : List Expr} {kws : List Keyword} {pl : Sem Bool} {Q : Value → Shared → Prop}
    (h : wpAny M A (eval o env) (fun ov s₁ => wpAny M A (getMethod ov name pl) (fun fx s₂ => wpC M A (callWith pos fx.1 fx.2 (backTo pos (starEach args env)) (backToKw pos (keywordEach kws env))) Q E s₂) E s₁) E s)
    (he : eval (.Call (.Attribute o name apos) args kws pos) env = (do
      let ov ← eval o env
      standAt apos.atName
      let (f, first) ← holding [ov] (getMethod ov name pl)
      callWith pos f first (backTo pos (starEach args env)) (backToKw pos (keywordEach kws env))) := by rfl) :
    wpC M A (eval (.Call (.Attribute o name apos) args kws pos) env) Q E s := by
  rw [he]
  refine wpC_bindA (wpAny_mono h (fun ov s₁ h₁ => wpC_standAt (wpC_bind (wpC_holding (wpC_any (wpAny_mono h₁ (fun fx s₂ h₂ => ?_) fun _ _ x => x))))) fun _ _ x => x)
  exact h₂
theorem splicedC_nil {Q : List Value → Shared → Prop} (h : Q [] s) : wpC M A (spliced []) Q E s := wpC_any (spliced_nil h)
theorem splicedC_cons {x : Sem Value} {rest : List (Bool × Sem Value)} {Q : List Value → Shared → Prop}
    (h : wpC M A x (fun v s₁ => wpC M A (spliced rest) (fun vs s₂ => Q (v :: vs) s₂) E s₁) E s) : wpC M A (spliced ((false, x) :: rest)) Q E s := by
  rw [spliced]
  refine wpC_bind (wpC_mono h (fun v s₁ h₁ => ?_) fun _ _ x => x)
  simp only [Bool.false_eq_true, if_false]
  exact wpC_bind (wpC_pure (wpC_bind (wpC_holding (wpC_mono h₁ (fun vs s₂ h₂ => wpC_pure h₂) fun _ _ x => x))))
theorem evalArgsC_plain {f : Value} {x : Sem Value} {rest : List (Bool × Sem Value)} {Q : Args → Shared → Prop}
    (h : wpC M A (spliced ((false, x) :: rest)) (fun vs s' => Q ⟨vs, []⟩ s') E s) : wpC M A (evalArgs f true ((false, x) :: rest) []) Q E s := by
  unfold evalArgs
  show wpC M A (spliced ((false, x) :: rest) >>= _) Q E s
  refine wpC_bind (wpC_mono h (fun vs s' h' => ?_) fun _ _ x => x)
  refine wpC_holding ?_
  exact wpC_bind (wpC_pure (wpC_bind (wpC_pure (wpC_pure h'))))
theorem callWithC_of {P : Heap → Prop} {pos : Pos} {f : Value} {first : List Value} {Q : Value → Shared → Prop} {args : List (Bool × Sem Value)} {keywords : List (Option Str × Sem Value)} (hplain : (args.any (·.1) || keywords.any (·.1.isNone)) = false)
    (hk : ∀ h, P h → ∃ k, (k = Keeper.frame ∨ k = Keeper.machine ∨ k = Keeper.boundFrame) ∧ Looks M h (keeperOf f) k)
    (h : wpC M A (evalArgs f true args keywords) (fun a s₁ => P s₁.heap ∧ wpC M A (call f (first ++ a.pos) a.kw) Q E s₁) E s) : wpC M A (callWith pos f first args keywords) Q E s := by
  unfold callWith
  refine wpC_bind (wpC_holding (wpC_mono h (fun a s₁ h₁ => wpC_standAt ?_) fun _ _ x => x))
  obtain ⟨k, hk', L⟩ := hk _ h₁.1
  simp only [hplain]
  refine wpC_bindA (L.here ?_)
  have tail : ∀ {t : Sem Value}, wpC M A t Q E s₁ → wpC M A (t >>= fun r => holding [r] point >>= fun _ => pure r) Q E s₁ :=
    fun ht => wpC_bind (wpC_mono ht (fun r s₂ hr => wpC_any (wpAny_bind (wpAny_holding (wpAny_point (wpAny_pure hr))))) fun _ _ x => x)
  have marked (mk : Value) : wpC M A (callMarked mk f (first ++ a.pos) a.kw) Q E s₁ := by unfold callMarked; exact wpC_keep h₁.2
  rcases hk' with rfl | rfl | rfl <;> dsimp only <;> first | exact tail h₁.2 | (split <;> first | exact tail h₁.2 | exact tail (marked _))
theorem callWithC_K {K : Frag} {h₀ : Heap} {pos : Pos} {f : Value} {first : List Value} {Q : Value → Shared → Prop} {e : Expr} {rest : List Expr} (_X : K.In h₀) (hk : keepIn K f = true) (h : wpC M A (spliced (backTo pos (starEach (e :: rest) env))) (fun vs s₁ => K.In s₁.heap ∧ wpC M A (call f (first ++ vs)) Q E s₁) E s)
    (he : starEach (e :: rest) env = (false, eval e env) :: starEach rest env := by rfl) (hplain : (backTo pos (starEach rest env)).any (·.1) = false := by rfl) :
    wpC M A (callWith pos f first (backTo pos (starEach (e :: rest) env)) []) Q E s := by
  rw [he] at h ⊢
  exact callWithC_of (by show ((false || (backTo pos (starEach rest env)).any (·.1)) || false) = false; rw [hplain]; rfl) (keeps_K hk) (evalArgsC_plain h)
theorem callWithC_K0 {K : Frag} {pos : Pos} {f : Value} {first : List Value} {Q : Value → Shared → Prop} (X : K.In s.heap) (hk : keepIn K f = true) (h : wpC M A (call f (first ++ [])) Q E s) : wpC M A (callWith pos f first (backTo pos (starEach [] env)) []) Q E s :=
  callWithC_of rfl (keeps_K hk) (wpC_any (evalArgs_nil3 ⟨X, h⟩))
end
section
variable {prog : Program} {w : World} {A : Around} {E : Value → Shared → Prop} {s : Shared} {env : Env} {R : Result → Shared → Prop}
theorem wpC_Expr {e pos} {Q : Flow → Shared → Prop} (h : wpC (model prog w) A (eval e env) (fun _ => Q .next) E s)
    (hi : interactive env = false := by rfl) (hs : swapsWith e none pos.line env = pure false := by rfl) :
    wpC (model prog w) A (exec (.Expr e pos) env) Q E s := by
  rw [exec_Expr env e pos hi hs]
  exact wpC_standAt (wpC_bind (wpC_mono h (fun v s' h' => wpC_any (wpAny_dropValue h')) fun _ _ x => x))
theorem codeC_func {body env}
    (h : wpC (model prog w) (A.deeper env) (execs body env) (fun f s' => R (.ok (.ret (match f with | .ret v => v | _ => .none))) s')
      (fun e s' => wpAny (model prog w) (A.deeper env) (leaving env e) (fun _ s'' => R (.error e) s'') (fun e' s'' => R (.error e') s'') s') s) :
    codeC (model prog w) A (.func body env) R s := by
  refine codeC_of_tree ?_
  show wpC _ (A.deeper env) (do point; match ← (execs body env).onRaise (leaving env) with | .ret v => ret v | _ => ret .none) _ _ s
  refine wpC_bindA (wpAny_point (wpC_bind (wpC_onRaise (wpC_mono h (fun f s' h' => ?_) fun _ _ h' => wpC_any h'))))
  cases f <;> exact wpC_pure h'
theorem codeC_call_function {a : Addr} {args : Args} {o : Obj} {fd : FuncData} {body : List Stmt} (hroom : A.depth < recursionLimit)
    (ho : s.heap.get? a = some o)
    (hd' : o.data = .func fd) (hco : fd.scope.isCoroutine = false) (hgen : fd.scope.isGenerator = false) (hbody : fd.body = .stmts body) (hcd : s.heap.CodeRec fd.code fd.qualname)
    (h : wpAny (model prog w) A.in1 (bindArgs fd args) (fun binds s₁ =>
      wpAny (model prog w) A.in1 (newFunctionEnv fd.scope fd.globals fd.closure binds (fd.qualname ++ ".<locals>.") (some a) fd.code none fd.builtins)
        (fun env s₂ => s₂.heap.NoLimit ∧ codeC (model prog w) A (.func body env) R s₂) (fun e s' => R (.error e) s') s₁) (fun e s' => R (.error e) s') s) :
    codeC (model prog w) A (.call (.ref a) args) R s := by
  refine codeC_of_tree (wpC_any ?_)
  show wpAny _ A.in1 (callAny (.ref a) args) _ _ s
  simp only [callAny]
  refine wpAny_bind (wpAny_load ho ?_)
  obtain ⟨c, oc, vs, tq, hc, hoc, hdc, hq⟩ := hcd
  simp only [hd', callFunction, hco, hgen, hbody, hc]
  rw [hc] at h
  refine wpAny_bind (m := field (.ref c) 1) (wpAny_field hoc hdc hq (wpAny_bind (wpAny_pure ?_)))
  exact wpAny_bind (wpAny_mono h (fun binds s₁ h₁ => wpAny_bind (wpAny_mono h₁ (fun env s₂ h₂ => wpAny_bind (wpAny_enterFrame h₂.1 hroom
    (wpAny_pure (And.intro rfl (And.intro rfl h₂.2))))) fun _ _ h' => h')) fun _ _ h' => h')
theorem codeC_call_def {a : Addr} {o : Obj} {fd : FuncData} {body : List Stmt} {args : Args} {binds : List (Str × Value)}
    (hroom : A.depth < recursionLimit) (ho : s.heap.get? a = some o) (hdata : o.data = .func fd) (hlim : s.heap.NoLimit) (hcd : s.heap.CodeRec fd.code fd.qualname)
    (hbody : fd.body = .stmts body) (hbind : BindsTo s fd args binds)
    (hcell : ∀ x ∈ fd.scope.names, x.2 ≠ .cell) (hloc : ∀ x ∈ binds, fd.scope.names.lookup x.1 = some .local)
    (h : ∀ h₀, h₀.Ns s.heap.objs.size (fun x => binds.reverse.lookup x) → (∀ b o, s.heap.get? b = some o → h₀.get? b = some o) →
      wpC (model prog w) (A.deeper (callEnv fd s.heap.objs.size a)) (execs body (callEnv fd s.heap.objs.size a)) (fun f s' => R (.ok (.ret (match f with | .ret v => v | _ => .none))) s')
        (fun e s' => wpAny (model prog w) (A.deeper (callEnv fd s.heap.objs.size a)) (leaving (callEnv fd s.heap.objs.size a) e) (fun _ s'' => R (.error e) s'') (fun e' s'' => R (.error e') s'') s')
        { s with heap := h₀, toks := s.toks + binds.length })
    (hco : fd.scope.isCoroutine = false := by rfl) (hgen : fd.scope.isGenerator = false := by rfl) (hk : fd.scope.kind = .function := by rfl) :
    codeC (model prog w) A (.call (.ref a) args) R s := by
  refine codeC_call_function hroom ho hdata hco hgen hbody hcd (hbind _ _ _ _ ?_)
  refine wpAny_newFunctionEnv hcell hloc (fun h₀ hns₀ hsb₀ => ⟨hlim.fresh _ hsb₀, codeC_func (h h₀ hns₀ fun b o e => ?_)⟩) hk
  exact hsb₀.extBut b o (Nat.ne_of_lt (Heap.lt_size e)) (Heap.get?_push_of_some _ e)
end

end
section
open PySem.Spec
/-- the caller's own stack is clean -/
abbrev ctx0 : PCtx := ⟨.builtin "claim.caller" {}, none, none, [], none⟩
theorem clean0 : Clean ctx0 := ⟨by decide +kernel, fun _ hx => nomatch hx⟩
/-- from a walk in C to the run itself -/
theorem endsC {prog : Program} {w : World} {t : Sem Fin} {s : Shared} {R : Result → Shared → Prop} (hz : s.asleep)
    (h : wpC (model prog w) callerA t (fun fin s' => ∃ f, fin = .done f ∧ R (.ok f) s' ∧ AllBare s'.gens) (fun e s' => R (.error e) s' ∧ AllBare s'.gens) s) :
    ∃ n r s' s'', runN (denote table) prog w n s ⟨t, .builtin "claim.caller" {}, default, []⟩ = .halted (outcomeOf r) s' ∧
      schedN (denote table) prog w n (.single s ⟨t, .builtin "claim.caller" {}, default, []⟩) = .halted (outcomeOf r) s' ∧ s'.forget = s''.forget ∧ R r s'' := by
  obtain ⟨n, r, s₁, s₂, hs, hn, hfo, hR⟩ := wp_halts_full (M := model prog w) (c := .builtin "claim.caller" {}) (t := t) (p := default) (R := R) hz
    (Sem.wp_mono _ ctx0 t (fun fin _ s' x => by
      obtain ⟨f, rfl, a, b⟩ := x
      exact ⟨a, leftWithCleanup_false_of_bare b⟩) (fun _ _ _ x => ⟨x.1, leftWithCleanup_false_of_bare x.2⟩) _ _ (h ctx0 default caller_in clean0))
  exact ⟨n, r, s₂, s₁, hn, hs, hfo, hR⟩
theorem fromC {c : ClaimW} {tree : List Value → Sem Fin} {w : World} {s : Shared} {free : Addr → Prop} {gens : Prop} {kept : Heap → Prop} (hz : s.asleep) (hgens : s.gens = #[])
    (hspec : ∀ args, c.pre args = true → WData.layableAll args = true → ∀ ord : List DictEntry → List DictEntry, (∀ l, (ord l).Perm l) →
      ∃ vs s₁, layAllW c.records (classAt s.heap) w.params ord args s = some (vs, s₁) ∧
        wpC (model c.prog w) callerA (tree vs) (fun fin s' => ∃ f, fin = .done f ∧ (c.Ends s args vs s₁ (.ok f) s' ∧ s'.os = s.os ∧ kept s'.heap) ∧ AllBare s'.gens)
          (fun e s' => (c.Ends s args vs s₁ (.error e) s' ∧ s'.os = s.os ∧ kept s'.heap) ∧ AllBare s'.gens) s₁) :
    c.CallFrom (fun vs => ⟨tree vs, .builtin "claim.caller" {}, default, []⟩) w free gens kept s := by
  intro args hpre hlay ord hord
  obtain ⟨vs, s₁, hlaid, hcode⟩ := hspec args hpre hlay ord hord
  have hal := layAllW_rest _ _ _ hlaid
  obtain ⟨k, r, s', s'', hrun, hsched, hfo, hcase, hos, hkp⟩ := endsC (R := fun r s' => c.Ends s args vs s₁ r s' ∧ s'.os = s.os ∧ kept s'.heap) (Shared.asleep_of_life hal.2.2.2 hz) hcode
  obtain ⟨eh, _, _, eo, _⟩ := Shared.forget_eq hfo
  have hcase := hcase.congr eh
  have hkp : kept s'.heap := by rw [eh]; exact hkp
  rw [← eo] at hos
  have hlife : s'.heap.life = s.heap.life := (runN_life _ _ _ hrun).trans hal.2.2.2
  refine ⟨vs, s₁, hlaid, k, _, s', hsched, ?_, (fun _ i x hx => by rw [hgens] at hx; simp at hx), hkp, by rw [hlife], Shared.rest_eq hos⟩
  rcases hcase with ⟨v, rfl, d1, d2, d3, d4, d5⟩ | ⟨e, ob, cls, rfl, d1, d2, d3, d4, d5⟩
  · exact .inl ⟨v, rfl, d1, d2, d3, fun b o y _ => d4 b o y, d5⟩
  · exact .inr ⟨e, ob, cls, rfl, d1, d2, d3, d4, fun b o y _ => d5 b o y⟩
/-- what is to be walked, in C -/
abbrev WalkC (q : Program) (loose : List Str) (XP : (Str → Option Value) → Heap → Prop) (YP : World → Heap → Prop) (r : RowW) (d : DefRec) (kwd : List (Str × Expr)) : Prop :=
  ∀ (w : World) (s₀ s₁ : Shared) (mg mb : Str → Option Value), Ground q loose r.records XP w s₀ mg mb s₁.heap → YP w s₁.heap → ∀ (a : Addr) (o : Obj) (pm cd doc dV kV : Value), s₁.heap.get? a = some o →
    o.data = .func { docDef d.name d.params d.body d.scope pm cd doc with defaults := dV, kwdefaults := kV } → s₁.heap.CodeRec cd d.name → Dflts mg s₁.heap d.params kwd dV kV → mg d.name = some (.ref a) → s₁.gens = #[] →
    ∀ (args : List WData) (vals : List Value) (as : List Addr), r.claim.pre args = true → WData.layableAll args = true → ReadsAllW r.records (classAt s₀.heap) s₁.heap vals args as → WellAll w.params s₁.heap vals args → (∀ a ∈ as, (a == sysModules) = false) →
      codeC (model r.prog w) callerA (.call (.ref a) ⟨vals, []⟩) (GoodWG r.claim (classAt s₀.heap) (ExcName.means s₀.heap) args s₁) s₁
theorem good_ret {c : ClaimW} {cl : Str → Option Addr} {mean : ExcName → Option Value} {args : List WData} {s₁ s' : Shared} {f : Flow} (g : GoodWG c cl mean args s₁ (.ok f) s') : ∃ v, f = .ret v := by
  obtain ⟨⟨v, d, as, e, _⟩ | ⟨e, ob, cls, h, _⟩, _⟩ := g
  · cases e; exact ⟨v, rfl⟩
  · cases h
/-- the head of an open row, for a walk in C; what the top leaves is asked for beside the walk -/
theorem holdsC {r : OpenRow} {q : Program} {loose : List Str} {Xt : Shared → Bool} {XP : (Str → Option Value) → Heap → Prop} {α : Type} {Yf : Shared → α} {Ya : World → α} {YP : World → Heap → Prop} {d : DefRec} {kwd : List (Str × Expr)} {N : Nat}
    (hY : ∀ w s, Yf s = Ya w → YP w s.heap) (hYk : ∀ w h h', YP w h → (∀ b o, h.get? b = some o → h'.get? b = some o) → YP w h')
    (hX : ∀ s, Xt s = true → XP (s.heap.nsMap mainGlobals) s.heap) (hXk : ∀ mg h h', XP mg h → (∀ b o, h.get? b = some o → h'.get? b = some o) → XP mg h')
    (hdef : defOf q r.name = some (d, kwd)) (hp : r.prog.theDef r.name = some (d.params, d.body, d.scope)) (hk : kwWritten? d.params.kwonlyargs d.params.kw_defaults = some kwd) (hRf : ∀ s, Xt s = true → RecFacts r.records s.heap) (hwr : (!r.writes || r.records.isEmpty) = true)
    (k1 : r.wellSaid = true) (ok : (chainsOk q && opensWell r.prog && (frees r.toRowW && r.within.isEmpty)) = true) (hb : r.prog.bare) (hw : r.toRowW.promised)
    (both : LeftO r.prog q loose Xt Yf Ya N ∧ WalkC q loose XP YP r.toRowW d kwd) : r.Holds := by
  obtain ⟨left, call⟩ := both
  obtain ⟨ok, k5⟩ := Bool.and_eq_true_iff.mp ok
  obtain ⟨hch, o1⟩ := Bool.and_eq_true_iff.mp ok
  obtain ⟨k5, k6⟩ := Bool.and_eq_true_iff.mp k5
  obtain ⟨hsame, hu, ha, hap, hm⟩ := frees_parts k5
  refine ⟨k1, hw, ⟨hb, o1, by show r.toRowW.makers.map _ = []; rw [hm]; rfl⟩, hw.witness, fun w => ⟨(left.behind hX hch w).1, fun s' hs' => ?_⟩⟩
  obtain ⟨s₀, hf, hg0, s, hT, hz, hgens, hg, G00, y⟩ := (left.behind (XP := fun mg h => XP mg h ∧ RecFacts r.records h) (fun s hs => ⟨hX s hs, hRf s hs⟩) hch w).2 s' hs'
  have G0 : Ground q loose [] XP w s (s.heap.nsMap mainGlobals) (s.heap.nsMap builtinsNs) s.heap := ⟨G00.T, G00.B, G00.D, G00.TE, G00.TD, G00.W, G00.X.1, G00.cls, G00.has, G00.apart, G00.once, G00.K⟩
  have RF := G00.X.2
  have hT' := hT
  have hgens : s.gens = #[] := Array.eq_empty_of_size_eq_zero (beq_iff_eq.mp hgens)
  refine ⟨s₀, hf, hg0, s, hT, fun n hn => ?_, RF.1, RF.2.1, ?_⟩
  · obtain rfl : n = r.name := by split at hn <;> simp_all
    exact pinned_of_view hg G0 hdef hp hk
  have G : Ground q loose r.records XP w s _ _ s.heap := RF.ground G0
  refine fromC (c := r.toRowW.claim) hz hgens fun args hpre hlay ord hord => ?_
  obtain ⟨⟨vs, s₁⟩, hlaid⟩ := Option.isSome_iff_exists.mp (layAllW_isSome (P := w.params) (ord := ord) G.has args r.args s (pre_splitW hpre).1)
  have keeps := layAllW_keeps _ _ _ hlaid
  have hal := layAllW_rest _ _ _ hlaid
  obtain ⟨as, hrd, hin, hold⟩ := reads_layAllW hord _ _ _ hlaid hlay s₁.heap (fun _ _ e => e)
  have L : Laid r.records w s s₁ args vs as := ⟨⟨ord, hord, hlaid⟩, hrd, hin, hold, keeps, hal.1.trans hgens, hal.2.2.1⟩
  have G₁ := G.keeps hXk keeps
  have Y₁ := hYk _ _ _ (hY w s y) keeps
  obtain ⟨a, o, pm, cd, doc, dV, kV, h1, h2, h3, h4, h5⟩ := G₁.fn hdef
  have body := call w s s₁ _ _ G₁ Y₁ a o pm cd doc dV kV h2 h3 h4 h5 (defOf_name hdef ▸ h1) L.gens args vs as hpre hlay L.reads L.well (L.low G.low)
  have hi := ident_freeW hu ha hap
  have hwi : r.toRowW.claim.within = [] := List.isEmpty_iff.mp k6
  have fin : ∀ res s', GoodWG r.toRowW.claim (classAt s.heap) (ExcName.means s.heap) args s₁ res s' → _ := fun res s' g => g.laid (c := r.toRowW.claim) hsame hwi hi L
  refine ⟨vs, s₁, hlaid, ?_⟩
  refine wpC_bindA (wpAny_nsGet G₁.T.g ?_)
  rw [h1]
  refine wpC_bind (wpC_call (codeC_mono body fun res s' g => ?_))
  rcases res with e | (v | _ | _ | _)
  · exact ⟨⟨(fin _ _ g).1, (fin _ _ g).2.1, fun q => ⟨namesKept_of hT' hg _ keeps g.2.1.old, noTable hwr q⟩⟩, (fin _ _ g).2.2⟩
  all_goals first
    | exact wpC_pure ⟨_, rfl, ⟨(fin _ _ g).1, (fin _ _ g).2.1, fun q => ⟨namesKept_of hT' hg _ keeps g.2.1.old, noTable hwr q⟩⟩, (fin _ _ g).2.2⟩
    | (obtain ⟨v, e⟩ := good_ret g; cases e)

end
section
open PySem.Spec
/-- the top's run, in tree form, by a recursor alone -/
noncomputable def goT (tb : String → Option Builtin) (p : Program) (w : World) (n₀ : Nat) (ann : Option Value) (n : Nat) : SharedT → Thread → Option SharedT :=
  @Nat.rec (fun _ => SharedT → Thread → Option SharedT) (fun _ _ => none) (fun _ ih s t => match through t with
    | true => some s
    | false => match stepOk n₀ ann t with
      | false => none
      | true => match stepT (denote tb) p w s t with
        | some x => ih x.1 x.2
        | none => none) n
theorem goT_run {tb : String → Option Builtin} {p : Program} {w : World} {n₀ : Nat} {ann : Option Value} : ∀ (n : Nat) (s s' : SharedT) (t : Thread), goT tb p w n₀ ann n s t = some s' → topRun tb p w n₀ ann n s.abs t = some s'.abs
  | 0, s, s', t, h => nomatch h
  | n + 1, s, s', t, h => by
    have h : (match through t with
      | true => some s
      | false => match stepOk n₀ ann t with
        | false => none
        | true => match stepT (denote tb) p w s t with
          | some x => goT tb p w n₀ ann n x.1 x.2
          | none => none) = some s' := h
    unfold topRun
    cases ht : through t with
    | true => rw [ht] at h; cases h; rfl
    | false =>
      rw [ht] at h
      cases hk : stepOk n₀ ann t with
      | false => rw [hk] at h; cases h
      | true =>
        rw [hk] at h
        cases hs : stepT (denote tb) p w s t with
        | none => rw [hs] at h; cases h
        | some x =>
          rw [hs] at h
          show (match true with | false => none | true => match step (denote tb) p w s.abs t with | .go s' t' => topRun tb p w n₀ ann n s' t' | .halt _ _ => none) = _
          rw [stepT_spec (s' := x.1) (t' := x.2) hs]
          exact goT_run n x.1 s' x.2 h
/-- the same, over the library's quick forms -/
noncomputable def goQ (p : Program) (w : World) (n₀ : Nat) (ann : Option Value) (n : Nat) : SharedT → Thread → Option SharedT :=
  @Nat.rec (fun _ => SharedT → Thread → Option SharedT) (fun _ _ => none) (fun _ ih s t => match through t with
    | true => some s
    | false => match PySem.W.Fast.tw6613529449190102663 n₀ ann t with
      | false => none
      | true => match PySem.W.Fast.tw10156331382660048174 (PySem.W.Fast.tw11892475500146522536 PySem.W.Fast.tw14364793385576792824) p w s t with
        | some x => ih x.1 x.2
        | none => none) n
theorem goQ_eq (p : Program) (w : World) (n₀ : Nat) (ann : Option Value) (n : Nat) : goT treeTable p w n₀ ann n = goQ p w n₀ ann n := by
  unfold goT goQ
  rw [PySem.W.Fast.te6613529449190102663, PySem.W.Fast.te10156331382660048174, PySem.W.Fast.te11892475500146522536, PySem.W.Fast.te14364793385576792824]
noncomputable def bootT (P : Params) : BT := ((((((((((BT.nil.ins 0 (boot_o_0 P)).ins 1 (boot_o_1 P)).ins 2 (boot_o_2 P)).ins 3 (boot_o_3 P)).ins 4 (boot_o_4 P)).ins 5 (boot_o_5 P)).ins 6 (boot_o_6 P)).ins 7 (boot_o_7 P)).ins 8 (boot_o_8 P)).ins 9 (boot_o_9 P)).ins 10 (boot_o_10 P)
theorem bootT_eq (P : Params) : absHeap (bootT P) 11 {} = boot_heap P := by kernel_rfl
noncomputable abbrev bootS (w : World) (os : OsState) : SharedT := ⟨bootT w.params, 11, {}, ⟨[]⟩, boot_drawn, boot_toks, os⟩
theorem boot_looks (P : Params) : ((boot_heap P).isNs mainGlobals, (boot_heap P).objs.size, (boot_heap P).nsMap mainGlobals "__annotations__") = (true, 11, some (.ref 6)) := by kernel_rfl
/-- an object by the tree -/
def getQ (s : SharedT) (a : Nat) : Option Obj := match Nat.blt a s.n with
  | true => match s.tree.get a with
    | some o => alive o
    | none => s.abs.heap.get? a
  | false => none
theorem getQ_eq (s : SharedT) : getQ s = s.abs.heap.get? := by
  funext a
  unfold getQ
  by_cases h : a < s.n
  · rw [show Nat.blt a s.n = true from Nat.ble_eq_true_of_le h]
    show (match s.tree.get a with | some o => alive o | none => s.abs.heap.get? a) = _
    cases g : s.tree.get a with
    | none => rfl
    | some o => exact (abs_get h g).symm
  · rw [show Nat.blt a s.n = false from Bool.eq_false_iff.mpr fun e => h (Nat.le_of_ble_eq_true e)]
    exact (abs_get_none h).symm
theorem left_of_run {p q : Program} {loose : List Str} {Xt : Shared → Bool} {α : Type} {Yf : Shared → α} {Ya : World → α} {N : Nat}
    (ho : opening p = plainProg p.main.scope.names) (hN : Nat.ble 600 N = true) (hf : ∀ s, fenceModules? p s = some s)
    (run : ∀ (w : World) (os : OsState), (goT treeTable p w 11 (some (.ref 6)) N (bootS w os) (topStub p)).map (fun s =>
        (staticsOk (importedModules p.main.body) (boot_heap w.params) s.abs.heap && namesBound p s.abs.heap && gensDone s.abs && laidKept (boot_heap w.params) s.abs.heap,
          openSeen q loose (importedModules p.main.body) Xt true s.abs, Yf s.abs)) = some (true, openGood q loose, Ya w)) : LeftO p q loose Xt Yf Ya N := fun w => by
  obtain ⟨⟨h, gs, d, k, os⟩, e, e'⟩ := Option.map_eq_some_iff.mp (boot_open ho hN hf w)
  obtain ⟨rfl, rfl, rfl, rfl⟩ : h = boot_heap w.params ∧ gs = ⟨[]⟩ ∧ d = boot_drawn ∧ k = boot_toks := by simpa using e'
  obtain ⟨z1, z2, z3⟩ : _ ∧ _ ∧ _ := by simpa only [Prod.mk.injEq] using boot_looks w.params
  obtain ⟨s, hs, hl⟩ := Option.map_eq_some_iff.mp (run w os)
  obtain ⟨l1, l2, l3⟩ : _ ∧ _ ∧ _ := by simpa only [Prod.mk.injEq] using hl
  have r := goT_run _ _ _ _ hs
  have hb : (bootS w os).abs = ⟨boot_heap w.params, ⟨[]⟩, boot_drawn, boot_toks, os⟩ := by
    show (⟨absHeap (bootT w.params) 11 {}, _, _, _, _⟩ : Shared) = _
    rw [bootT_eq]
  rw [hb] at r
  have t : topFrom treeTable p w N ⟨boot_heap w.params, ⟨[]⟩, boot_drawn, boot_toks, os⟩ = some s.abs := by
    unfold topFrom
    dsimp only
    rw [z1, z2, z3, r]
    show (match staticsOk (importedModules p.main.body) (boot_heap w.params) s.abs.heap && namesBound p s.abs.heap && gensDone s.abs && laidKept (boot_heap w.params) s.abs.heap with | true => some s.abs | false => none) = some s.abs
    rw [l1]
  unfold openEnds
  rw [e]
  show (topFrom treeTable p w N _).map _ = _
  rw [t]
  exact congrArg some (Prod.ext l2 l3)

end
section
/-- the def of the law, out of the text -/
noncomputable def lawS : Stmt := (fun (s : Stmt) (_ : PySem.Challenge.pw_io0036_01.main.body[19]? = some s) => s) _ rfl
noncomputable def viewC : Program := { PySem.Challenge.pw_io0036_01 with main := { PySem.Challenge.pw_io0036_01.main with body := [lawS] } }
noncomputable def looseC : List Str := [Str.ofString "_wall", Str.ofString "FileWrapper", Str.ofString "guess_scheme", Str.ofString "_whence", Str.ofString "_index", Str.ofString "UnsupportedOperation", Str.ofString "IOBase", Str.ofString "BufferedIOBase", Str.ofString "TextIOBase", Str.ofString "BytesIO", Str.ofString "StringIO", Str.ofString "setup_testing_defaults", Str.ofString "_law_stream", Str.ofString "_law_pieces", Str.ofString "_law_holds"]
theorem said_ok : PySem.Challenge.rw_io0036_01.wellSaid = true := by
  rw [PySem.W.Fast.te9446332074065402090]
  kernel_rfl
local macro_rules | `(tactic| o_law) => `(tactic| refine holds_law Mine.said_ok fun said => ?_)
local macro_rules | `(tactic| o_head $H) => `(tactic| refine Mine.holdsC (q := Mine.viewC) (loose := Mine.looseC) (Xt := fun s => xlAt Mine.viewC [] s && recOk (RowW.records PySem.Challenge.rw_io0036_01.row.toRowW) s) (XP := XL Mine.viewC []) (Yf := Hook.obs $H) (Ya := Hook.val $H) (YP := Hook.says $H) (N := 8786) (Hook.of $H) (Hook.keeps $H) (fun s e => xl_of s (Bool.and_eq_true_iff.mp e).1) XL.keeps (by rfl) (by rfl) (by rfl) (fun s e => recFacts_of (Bool.and_eq_true_iff.mp e).2) (by rfl) (by assumption) (by decide +kernel) ⟨rfl, rfl, rfl, rfl, rfl, by decide +kernel⟩ ?hw ?hc)
open_top hd for PySem.Challenge.rw_io0036_01

end
section
theorem no_fence (s : Shared) : fenceModules? PySem.Challenge.pw_io0036_01 s = some s := by rfl
theorem opens_plain : opening PySem.Challenge.pw_io0036_01 = plainProg PySem.Challenge.pw_io0036_01.main.scope.names := by kernel_rfl
/-- one run of the top, by the kernel: what it leaves -/
theorem top_run (w : World) (os : OsState) : (goQ PySem.Challenge.pw_io0036_01 w 11 (some (.ref 6)) 8786 (bootS w os) (topStub PySem.Challenge.pw_io0036_01)).map (fun s =>
        (staticsOk (importedModules PySem.Challenge.pw_io0036_01.main.body) (boot_heap w.params) s.abs.heap && namesBound PySem.Challenge.pw_io0036_01 s.abs.heap && gensDone s.abs && laidKept (boot_heap w.params) s.abs.heap,
          openSeen viewC looseC (importedModules PySem.Challenge.pw_io0036_01.main.body) (fun s => xlAt viewC [] s && recOk (RowW.records PySem.Challenge.rw_io0036_01.row.toRowW) s) true s.abs,
          ((hd.heap_1 w.params).map (·.1)).map (getQ s))) = some (true, openGood viewC looseC, (hd.heap_1 w.params).map fun p => some p.2) := by
  rw [PySem.W.Fast.te4187177175401517315]
  kernel_rfl
theorem topC (as : List Addr) (e : ∀ P, as = (hd.heap_1 P).map (·.1)) : LeftO PySem.Challenge.rw_io0036_01.row.prog viewC looseC (fun s => xlAt viewC [] s && recOk (RowW.records PySem.Challenge.rw_io0036_01.row.toRowW) s) (Hook.obs (kHook hd.heap_1 as e)) (Hook.val (kHook hd.heap_1 as e)) 8786 := by
  refine left_of_run opens_plain rfl no_fence fun w os => ?_
  rw [goQ_eq]
  have h := top_run w os
  rw [← e w.params] at h
  simp only [getQ_eq] at h
  exact h

end
theorem filled : (PySem.Challenge.rw_io0036_01, hd.heap_1) = (PySem.Challenge.rw_io0036_01, hd.heap_1) := by (k_fill; rfl)
section
open PySem.Spec
open PySem.Sem (wp)
theorem lmadeBy_none {M : Model} {h : Heap} {C : Addr} {oc : Value} {od : Option Addr} {cd : ClassData} {sl : Array (Option Value)} {c : Value} {l : List Value} (ho : h.get? C = some ⟨oc, od, .cls cd, sl⟩) (hs : (sl.toList[4]?).join = some .none) (hl : cd.mro = c :: l) :
    Looks M h (Bind.madeBy (.ref C)) none := by
  intro A Q E s k q
  have hm : Looks M h (mroOf (.ref C)) cd.mro := ((Looks.ld (part := none) ho).andThen .now).andThen .now
  unfold Bind.madeBy
  refine wpAny_bind (hm A _ E s k ?_)
  rw [hl, List.forIn_cons]
  refine wpAny_bind (wpAny_bind (wpAny_bind (wpAny_bind (wpAny_loadPart (k _ _ ho) (wpAny_pure ?_)))))
  dsimp only
  rw [← Array.getElem?_toList, hs]
  exact wpAny_pure (wpAny_pure (wpAny_pure q))
theorem lmadeBy_object {M : Model} {h : Heap} : Looks M h (Bind.madeBy (.type "object")) (some "object.__new__") :=
  Looks.of_pure (madeBy_type (T := "object") (id := "object.__new__") (c := .type "object") (tl := []) (by rw [mroOf_type]; kernel_rfl) (by rw [typeLookup_type, builtinLookup_eq_fast]; kernel_rfl) (by decide +kernel))
structure ClsAt (h : Heap) (C : Addr) (bases : List Value) (mro : List Value) : Prop where
  at_ : ∃ oc od cd sl, h.get? C = some ⟨oc, od, .cls cd, sl⟩ ∧ (sl.toList[4]?).join = some .none ∧ cd.mro = .ref C :: mro ∧ cd.bases = bases ∧ cd.slotNames = [] ∧ cd.abstract = false ∧ cd.hasDel = false
theorem ClsAt.madeBy {M : Model} {h : Heap} {C : Addr} {bs mro : List Value} (x : ClsAt h C bs mro) : Looks M h (Bind.madeBy (.ref C)) none := by
  obtain ⟨oc, od, cd, sl, ho, hs, hm, _⟩ := x
  exact lmadeBy_none ho hs hm
theorem ClsAt.mroL {M : Model} {h : Heap} {C : Addr} {bs mro : List Value} (x : ClsAt h C bs mro) : Looks M h (mroOf (.ref C)) (.ref C :: mro) := by
  obtain ⟨oc, od, cd, sl, ho, hs, hm, _⟩ := x
  rw [← hm]
  exact ((Looks.ld (part := none) ho).andThen .now).andThen .now
theorem ClsAt.basesL {M : Model} {h : Heap} {C : Addr} {bs mro : List Value} (x : ClsAt h C bs mro) : ∀ A (Q : ClassData → Shared → Prop) E s, (∀ b o, h.get? b = some o → s.heap.get? b = some o) → (∀ cd, cd.bases = bs → cd.slotNames = [] → Q cd s) → wpAny M A (classData C) Q E s := by
  obtain ⟨oc, od, cd, sl, ho, hs, hm, hb, hn, _⟩ := x
  intro A Q E s k q
  unfold classData
  exact wpAny_bind (wpAny_load (k _ _ ho) (wpAny_pure (q cd hb hn)))
theorem sl_object {M : Model} {h : Heap} : Looks M h (Builtin.Slots.slotNamesOf (.type "object")) [] := Looks.of_pure (by kernel_rfl)
theorem addsL_object {M : Model} {h : Heap} : Looks M h (Builtin.Slots.addsLayout (.type "object")) false := Looks.of_pure (by kernel_rfl)
theorem addsL_of_object {M : Model} {h : Heap} {C : Addr} {mro : List Value} (x : ClsAt h C [.type "object"] mro) : Looks M h (Builtin.Slots.addsLayout (.ref C)) false := by
  intro A Q E s k q
  unfold Builtin.Slots.addsLayout
  refine wpAny_bind (x.basesL A _ E s k fun cd hb hn => ?_)
  rw [hb]
  dsimp only
  rw [List.forIn_cons]
  refine wpAny_bind (wpAny_bind (wpAny_bind (sl_object A _ E s k (wpAny_pure ?_))))
  simp only [List.forIn_nil]
  refine wpAny_pure (wpAny_pure ?_)
  rw [hn]
  exact q
theorem addsL_of_ref {M : Model} {h : Heap} {C D : Addr} {bs mro mro' : List Value} (x : ClsAt h C [.ref D] mro) (y : ClsAt h D bs mro') : Looks M h (Builtin.Slots.addsLayout (.ref C)) false := by
  intro A Q E s k q
  unfold Builtin.Slots.addsLayout
  refine wpAny_bind (x.basesL A _ E s k fun cd hb hn => ?_)
  rw [hb]
  dsimp only
  rw [List.forIn_cons]
  have hsl : Looks M h (Builtin.Slots.slotNamesOf (.ref D)) [] := by
    intro A Q E s k q
    unfold Builtin.Slots.slotNamesOf
    refine wpAny_bind (y.basesL A _ E s k fun cd hb hn => wpAny_pure ?_)
    rw [hn]; exact q
  refine wpAny_bind (wpAny_bind (wpAny_bind (hsl A _ E s k (wpAny_pure ?_))))
  simp only [List.forIn_nil]
  refine wpAny_pure (wpAny_pure ?_)
  rw [hn]
  exact q
theorem own_object : ((Manifest.find? "object").elim false (·.ownLayout)) = true := by decide +kernel
theorem solid1 {M : Model} {h : Heap} {b : Value} (hm : Looks M h (mroOf b) [.type "object"]) : Looks M h (Builtin.Slots.solid b) (.type "object") := by
  intro A Q E s k q
  obtain ⟨hh, g, d, t, os⟩ := s
  unfold Builtin.Slots.solid
  refine wpAny_bind (hm A _ E _ k ?_)
  dsimp only
  rw [List.forIn_cons]
  first | refine wpAny_bind (wpAny_bind (wpAny_bind (addsL_object A _ E _ k ?_))) | refine wpAny_bind (wpAny_bind (addsL_object A _ E _ k ?_))
  have ho := own_object
  repeat wp_step
  exact q
theorem solid2 {M : Model} {h : Heap} {b : Value} {C : Addr} (hm : Looks M h (mroOf b) [.ref C, .type "object"]) (hC : Looks M h (Builtin.Slots.addsLayout (.ref C)) false) : Looks M h (Builtin.Slots.solid b) (.type "object") := by
  intro A Q E s k q
  obtain ⟨hh, g, d, t, os⟩ := s
  unfold Builtin.Slots.solid
  refine wpAny_bind (hm A _ E _ k ?_)
  dsimp only
  rw [List.forIn_cons]
  first | refine wpAny_bind (wpAny_bind (wpAny_bind (hC A _ E _ k ?_))) | refine wpAny_bind (wpAny_bind (hC A _ E _ k ?_))
  have ho := own_object
  refine wpAny_pure ?_
  dsimp only
  rw [List.forIn_cons]
  first | refine wpAny_bind (wpAny_bind (wpAny_bind (addsL_object A _ E _ k ?_))) | refine wpAny_bind (wpAny_bind (addsL_object A _ E _ k ?_))
  repeat wp_step
  exact q
theorem solid3 {M : Model} {h : Heap} {b : Value} {C D : Addr} (hm : Looks M h (mroOf b) [.ref C, .ref D, .type "object"]) (hC : Looks M h (Builtin.Slots.addsLayout (.ref C)) false) (hD : Looks M h (Builtin.Slots.addsLayout (.ref D)) false) : Looks M h (Builtin.Slots.solid b) (.type "object") := by
  intro A Q E s k q
  obtain ⟨hh, g, d, t, os⟩ := s
  unfold Builtin.Slots.solid
  refine wpAny_bind (hm A _ E _ k ?_)
  dsimp only
  rw [List.forIn_cons]
  first | refine wpAny_bind (wpAny_bind (wpAny_bind (hC A _ E _ k ?_))) | refine wpAny_bind (wpAny_bind (hC A _ E _ k ?_))
  have ho := own_object
  refine wpAny_pure ?_
  dsimp only
  rw [List.forIn_cons]
  first | refine wpAny_bind (wpAny_bind (wpAny_bind (hD A _ E _ k ?_))) | refine wpAny_bind (wpAny_bind (hD A _ E _ k ?_))
  refine wpAny_pure ?_
  dsimp only
  rw [List.forIn_cons]
  first | refine wpAny_bind (wpAny_bind (wpAny_bind (addsL_object A _ E _ k ?_))) | refine wpAny_bind (wpAny_bind (addsL_object A _ E _ k ?_))
  repeat wp_step
  exact q
theorem bestOne {M : Model} {h : Heap} {b r : Value} (hs : Looks M h (Builtin.Slots.solid b) r) : Looks M h (Builtin.Slots.bestBase [b]) b := by
  intro A Q E s k q
  obtain ⟨hh, g, d, t, os⟩ := s
  unfold Builtin.Slots.bestBase
  dsimp only
  rw [List.forIn_cons]
  refine wpAny_bind (wpAny_bind (wpAny_bind (hs A _ E _ k ?_)))
  repeat wp_step
  exact q
theorem static3 {M : Model} {h : Heap} {C D B : Addr} (hC : ClsAt h C [.ref D] [.ref D, .ref B, .type "object"]) (hD : ClsAt h D [.ref B] [.ref B, .type "object"]) (hB : ClsAt h B [.type "object"] [.type "object"]) :
    Looks M h (Bind.staticBase (.ref C)) (.type "object") := by
  have aB := addsL_of_object (M := M) hB
  have aD := addsL_of_ref (M := M) hD hB
  have b1 := bestOne (solid3 (M := M) hD.mroL aD aB)
  have b2 := bestOne (solid2 (M := M) hB.mroL aB)
  have b3 := bestOne (solid1 (M := M) (h := h) (b := .type "object") (Looks.of_pure (by rw [mroOf_type]; kernel_rfl)))
  intro A Q E s k q
  unfold Bind.staticBase
  refine wpAny_bind (hC.mroL A _ E s k ?_)
  dsimp only
  rw [List.forIn_cons]
  dsimp only
  first | refine wpAny_bind (wpAny_bind (wpAny_bind (hC.madeBy A _ E s k ?_))) | refine wpAny_bind (wpAny_bind (hC.madeBy A _ E s k ?_))
  refine bm_if_false rfl ?_
  refine wpAny_bind (hC.basesL A _ E s k fun cd hb _ => ?_)
  rw [hb]
  refine wpAny_bind (b1 A _ E s k (wpAny_pure ?_))
  dsimp only
  rw [List.forIn_cons]
  dsimp only
  first | refine wpAny_bind (wpAny_bind (wpAny_bind (hD.madeBy A _ E s k ?_))) | refine wpAny_bind (wpAny_bind (hD.madeBy A _ E s k ?_))
  refine bm_if_false rfl ?_
  refine wpAny_bind (hD.basesL A _ E s k fun cd hb _ => ?_)
  rw [hb]
  refine wpAny_bind (b2 A _ E s k (wpAny_pure ?_))
  dsimp only
  rw [List.forIn_cons]
  dsimp only
  first | refine wpAny_bind (wpAny_bind (wpAny_bind (hB.madeBy A _ E s k ?_))) | refine wpAny_bind (wpAny_bind (hB.madeBy A _ E s k ?_))
  refine bm_if_false rfl ?_
  refine wpAny_bind (hB.basesL A _ E s k fun cd hb _ => ?_)
  rw [hb]
  refine wpAny_bind (b3 A _ E s k (wpAny_pure ?_))
  dsimp only
  rw [List.forIn_cons]
  dsimp only
  first | refine wpAny_bind (wpAny_bind (wpAny_bind (lmadeBy_object A _ E s k ?_))) | refine wpAny_bind (wpAny_bind (lmadeBy_object A _ E s k ?_))
  refine bm_if_true rfl ?_
  exact wpAny_pure (wpAny_pure (wpAny_pure q))

end
section
open PySem.Spec
open PySem.Sem (wp)
section
variable {prog : Program} {w : World} {A : Around} {E : Value → Shared → Prop} {s : Shared} {R : Result → Shared → Prop}
theorem notDec_id {id : String} {args : Args} (h : Builtin.Bytes.decodersThatHold.contains id = false) : notDec (.builtin id args) = true := by
  show (!Builtin.Bytes.decodersThatHold.contains id) = true
  rw [h]; rfl
theorem wpC_if_false {α : Type} {M : Model} {c : Bool} {a b : Sem α} {Q : α → Shared → Prop} (hc : c = false) (h : wpC M A b Q E s) : wpC M A (if c = true then a else b) Q E s := by
  subst hc
  exact h
theorem wpC_if_true {α : Type} {M : Model} {c : Bool} {a b : Sem α} {Q : α → Shared → Prop} (hc : c = true) (h : wpC M A a Q E s) : wpC M A (if c = true then a else b) Q E s := by
  subst hc
  exact h
theorem codeC_builtin {id : String} {args : Args} {b : Builtin} (hb : entryFor table id = some b)
    (h : wpC (model prog w) (A.under (.builtin id args)) (b args) (afterC (model prog w) A R) (fun e s' => R (.error e) s') s) :
    codeC (model prog w) A (.builtin id args) R s := by
  refine codeC_of_tree ?_
  show wpC _ _ (match entryFor table id with | some b => b args | none => unsupported ((withoutEnding? id "#data").getD id)) _ _ s
  rw [hb]; exact h
theorem codeC_call_builtin_at {id : String} {args : Args} {b : Builtin} (hq : (Code.builtin id args).quiet = true) (hn : notDec (.builtin id args) = true) (hb : entryFor table id = some b)
    (h : wpAny (model prog w) A.in1 (checkBuiltinCall id args) (fun _ s₁ => wpC (model prog w) (A.under (.builtin id args)) (b args) (afterC (model prog w) A R) (fun e s' => R (.error e) s') s₁)
      (fun e s' => R (.error e) s') s) : codeC (model prog w) A (.call (.builtin id) args) R s := by
  refine codeC_of_tree (wpC_any ?_)
  show wpAny _ A.in1 (do checkBuiltinCall id args; again (.builtin id args)) _ _ s
  refine wpAny_bind (wpAny_mono h (fun _ s₁ h₁ => wpAny_pure (And.intro hq (And.intro hn (codeC_builtin hb h₁)))) fun _ _ h' => h')

def OwnMade (prog : Program) (w : World) (A : Around) (K : Frag) (C fI : Addr) (R : Result → Shared → Prop) (obj : Value) (s₂ : Shared) : Prop :=
  ∃ x o, obj = .ref x ∧ s₂.heap.get? x = some o ∧ o.cls = .ref C ∧ K.In s₂.heap ∧ codeC (model prog w) A (.call (.ref fI) ⟨[.ref x], []⟩) (InitBack x R) s₂
theorem make_ownC {K : Frag} {mro : List Value} {C fI : Addr} {od : Option Addr} {oc : Value} {cd : ClassData} {sl : Array (Option Value)} (X : K.In s.heap) (hl : K.lookup C = some ⟨oc, od, .cls cd, sl⟩) (hs : (sl.toList[4]?).join = some .none) (hm : cd.mro = .ref C :: mro)
    (hcall : specialIn K (.ref C) "__call__" = some (some (.builtin "type.__call__"))) (htyp : instIn K (.ref C) (.type "type") = some true) (hself : subIn K (.ref C) (.ref C) = some true)
    (hi : findIn K (.ref C) "__init__" = some (some (.ref fI))) (hf : typeIn K (.ref fI) = some (.type "function"))
    (hnew : wpAny (model prog w) (A.under (.builtin "type.__call__" ⟨[.ref C], []⟩)) (getAttr (.ref C) (Str.ofString "__new__")) (fun v s₁ => wpAny (model prog w) (A.under (.builtin "type.__call__" ⟨[.ref C], []⟩)) (call v [.ref C])
      (OwnMade prog w (A.under (.builtin "type.__call__" ⟨[.ref C], []⟩)) K C fI R) (fun e s' => R (.error e) s') s₁) (fun e s' => R (.error e) s') s) :
    codeC (model prog w) A (.call (.ref C) ⟨[], []⟩) R s := by
  have hC := X _ _ hl
  have call := looks_specialIn (M := model prog w) X hcall
  have typ := looks_instIn (M := model prog w) X htyp
  have hmr : Looks (model prog w) s.heap (mroOf (.ref C)) cd.mro := ((Looks.ld (part := none) hC).andThen .now).andThen .now
  obtain ⟨h, g, d, t, os⟩ := s
  have hmade : Looks (model prog w) h (Bind.madeBy (.ref C)) none := by
    intro A Q E s k q
    unfold Bind.madeBy
    refine wpAny_bind (hmr A _ E s k ?_)
    rw [hm, List.forIn_cons]
    refine wpAny_bind (wpAny_bind (wpAny_bind (wpAny_bind (wpAny_loadPart (k _ _ hC) (wpAny_pure ?_)))))
    dsimp only
    rw [← Array.getElem?_toList, hs]
    exact wpAny_pure (wpAny_pure (wpAny_pure q))
  refine codeC_of_tree (wpC_any ?_)
  show wpAny _ _ (callAny (.ref C) _) _ _ _
  refine nd_load hC ?_
  show wpAny _ _ (callAny.viaDunder (.ref C) _) _ _ _
  unfold callAny.viaDunder
  refine wpAny_bind (call.at ?_)
  dsimp only
  rw [tc_bind]
  refine wpAny_bind (wpAny_pure (wpAny_bind (wpAny_pure ?_)))
  refine wpAny_pure (a := Fin.again (.call (.builtin "type.__call__") ⟨[.ref C], []⟩)) (And.intro rfl (And.intro rfl ?_))
  refine codeC_call_builtin_at (Code.quiet_builtin _ (by decide +kernel)) (notDec_id (by decide +kernel)) entry_typeCall (check_slot tc_kind tc_split typ (tc_args _ _ _) ?_)
  unfold Builtin.«type.__call__»
  dsimp only
  refine wpC_bindA (hmr.at ?_)
  refine wpC_if_false (by rw [hm]; rfl) ?_
  refine wpC_bindA (hmade.at ?_)
  dsimp only
  refine wpC_bindA (wpAny_mono hnew (fun v s₁ h₁ => ?_) fun _ _ e => e)
  refine wpC_bindA (wpAny_holding (wpAny_mono h₁ (fun obj s₂ h₂ => ?_) fun _ _ e => e))
  obtain ⟨x, o, rfl, hx, hxc, X₂, hinit⟩ := h₂
  have t1 : Looks (model prog w) s₂.heap (typeOf (.ref x)) (.ref C) := hxc ▸ ((Looks.ld hx).andThen .now)
  have self := looks_subIn (M := model prog w) X₂ hself
  have ti : Looks (model prog w) s₂.heap (isInstance (.ref x) (.ref C)) true := t1.andThen self
  refine wpC_bindA (ti.here ?_)
  refine wpC_if_false rfl ?_
  have hi2 := looks_findIn (M := model prog w) X₂ hi
  refine wpC_bind (wpC_holding ?_)
  unfold callSpecial?
  have tsp : Looks (model prog w) s₂.heap (specialOf (.ref x) (Str.ofString "__init__")) (some (.ref fI)) := t1.andThen hi2
  refine wpC_bindA (tsp.here ?_)
  dsimp only
  refine wpC_holding (wpC_bindA ((bind_fn X₂ _ hf).here ?_))
  refine wpC_bind (wpC_call (codeC_mono hinit fun r s' z => ?_))
  rcases r with e | (v | _ | _ | _) <;> first | exact z | exact z.elim | skip
  obtain ⟨rfl, z⟩ := z
  refine wpC_pure ?_
  dsimp only
  exact wpC_if_false rfl (wpC_pure z)
end

end
section
open PySem.Spec
open PySem.Sem (wp)
section
variable {prog : Program} {w : World} {A : Around} {C : Addr} {R : Result → Shared → Prop} {h : Heap} {g : Array GenState} {d : Drawn} {t : Nat} {os : OsState}
theorem new_own (hC : ∃ oc od cd sl, h.get? C = some ⟨oc, od, .cls cd, sl⟩ ∧ cd.abstract = false ∧ cd.hasDel = false) (base : Looks (model prog w) h (Bind.staticBase (.ref C)) (.type "object"))
    (top : Looks (model prog w) h (isSubtype (.ref C) (.type "object")) true) (typ : Looks (model prog w) h (isInstance (.ref C) (.type "type")) true)
    (hq : R (.ok (.ret (.ref (h.objs.size + 1)))) ⟨(h.push emptyDict).push (instObj C h.objs.size), g, d, t, os⟩) :
    codeAny (model prog w) A (.call (.builtin "object.__new__") ⟨[.ref C], []⟩) R ⟨h, g, d, t, os⟩ := by
  obtain ⟨oc, od, cd, sl, hC, e1, e2⟩ := hC
  have made : Looks (model prog w) h (Bind.madeBy (.type "object")) (some "object.__new__") := lmadeBy_object
  have F := PySem.F.objNew
  refine codeAny_call_builtin_code (Code.quiet_builtin _ F.quiet) ?_
  simp only [checkBuiltinCall, F.kind, F.split, F.row]
  have here : Looks (model prog w) h (Bind.madeHere "object.__new__" (.ref C)) () := base.andThen (made.andThen (Looks.of_pure (by simp only [Option.map_some, bne_self_eq_false, Bool.false_eq_true, if_false])))
  have args : Bind.checkArgs "object.__new__" ⟨.hand, "object.__new__", "__new__", .cls, []⟩ ⟨[.ref C], []⟩ = pure () := by kernel_rfl
  rw [args]
  repeat (first | simp only [bne_self_eq_false, Bool.false_eq_true, if_false] | lk)
  refine codeAny_builtin F.entry ?_
  unfold Builtin.«object.__new__»
  have fin : ∀ A', wpAny (model prog w) A' (do
      let d ← if typeHasDict (.ref C) then some <$> alloc { cls := .type "dict", data := .dict #[] } else pure none
      ret (← newObj (.ref C) .plain d)) (fun fin s' => match fin with | .done f => R (.ok f) s' | .again c' => c'.quiet = true ∧ codeAny (model prog w) A c' R s') (fun e s' => R (.error e) s') ⟨h, g, d, t, os⟩ := by
    intro A'
    show wpAny _ _ ((alloc emptyDict >>= fun x => pure (some x)) >>= _) _ _ _
    refine wpAny_bind (wpAny_bind (wpAny_alloc (wpAny_pure (wpAny_bind ?_))))
    show wpAny _ _ (newObjAsIs _ _ _) _ _ _
    unfold newObjAsIs classHasDel
    refine wpAny_bind (wpAny_alloc (wpAny_bind (wpAny_bind (wpAny_load (Heap.get?_push_of_some _ (Heap.get?_push_of_some _ hC)) (wpAny_pure ?_)))))
    rw [e2]
    refine wpAny_pure (wpAny_pure ?_)
    show R _ _
    rw [Heap.size_push]
    exact hq
  repeat (first | simp only [e1, Bool.false_eq_true, if_false] | exact fin _ | lk)
end
section
variable {prog : Program} {w : World} {A : Around} {E : Value → Shared → Prop} {s : Shared} {K : Frag} {C : Addr} {h₀ : Heap} {L : Addr} {m : Str → Option Value} {news : List (Addr × Obj)}
theorem clsAt_of {h : Heap} (X : K.In h) {oc : Value} {od : Option Addr} {cd : ClassData} {sl : Array (Option Value)} {bs mro : List Value} (hl : K.lookup C = some ⟨oc, od, .cls cd, sl⟩) (hs : (sl.toList[4]?).join = some .none) (hm : cd.mro = .ref C :: mro) (hb : cd.bases = bs) (hn : cd.slotNames = []) (ha : cd.abstract = false) (hd : cd.hasDel = false) : ClsAt h C bs mro :=
  ⟨_, _, _, _, X _ _ hl, hs, hm, hb, hn, ha, hd⟩
theorem new_ownK {D B : Addr} {Q : Value → Shared → Prop} (F : Fr h₀ L s.heap m) (X₀ : K.In h₀) (N : News h₀ L s.heap news)
    (hC : ∀ h, K.In h → ClsAt h C [.ref D] [.ref D, .ref B, .type "object"]) (hD : ∀ h, K.In h → ClsAt h D [.ref B] [.ref B, .type "object"]) (hB : ∀ h, K.In h → ClsAt h B [.type "object"] [.type "object"])
    (ht : subIn K (.ref C) (.type "object") = some true) (hi : instIn K (.ref C) (.type "type") = some true)
    (h : ∀ x dx h', Fr h₀ L h' m → News h₀ L h' ((x, instObj C dx) :: (dx, emptyDict) :: news) → (∀ p ∈ news, p.1 < dx) → dx < x → Q (.ref x) { s with heap := h' }) :
    wpAny (model prog w) A (call (.builtin "object.__new__") [.ref C]) Q E s := by
  obtain ⟨hh, g, d, t, os⟩ := s
  have X := X₀.keeps F.keep
  have cC := hC _ X
  refine wpAny_call (new_own ?_ (static3 cC (hD _ X) (hB _ X)) (looks_subIn X ht) (looks_instIn X hi) ?_)
  · obtain ⟨oc, od, cd, sl, ho, _, _, _, _, ha, hdl⟩ := cC
    exact ⟨oc, od, cd, sl, ho, ha, hdl⟩
  · refine h _ hh.objs.size _ ((F.push _).push _) ?_ (fun p hp => Heap.lt_size (N p hp).1) (Nat.lt_succ_self _)
    have := (N.push F emptyDict).push (F.push _) (instObj C hh.objs.size)
    rwa [Heap.size_push] at this
end

end
section
open PySem.Spec
abbrev baObj (b : Array UInt8) : Obj := { cls := .type "bytearray", data := .bytearray b }
namespace BF
theorem owner_ba : Manifest.owners.lookup (String.ofList ['b', 'y', 't', 'e', 'a', 'r', 'r', 'a', 'y']) = some Manifest.sig_bytearray := by kernel_rfl
theorem slot_len : Slot "bytearray" "__len__" "bytearray.__len__" :=
  .of (owner := "bytearray") (n := "__len__") (by rw [typeLookup_type, builtinLookup_eq_fast]; kernel_rfl) (by decide +kernel) (by decide +kernel) (by decide +kernel)
    (by first | exact .inl (by decide +kernel) | exact .inr (by decide +kernel)) (by rw [isSubtype_type]; kernel_rfl)
theorem entry_len : entryFor table "bytearray.__len__" = some Builtin.«bytearray.__len__» := by first | exact entryFor_of_tree (by kernel_rfl) | exact entryFor_of_fast (by kernel_rfl)
theorem args_len (a : Value) : argsOk "bytearray.__len__" ⟨[a], []⟩ := by
  unfold argsOk; rw [signature?_of (id := "bytearray.__len__") (n := ['_', '_', 'n', 'e', 'l', '_', '_']) (o := ['y', 'a', 'r', 'r', 'a', 'e', 't', 'y', 'b']) (by kernel_rfl) owner_ba]; kernel_rfl
theorem slot_getitem : Slot "bytearray" "__getitem__" "bytearray.__getitem__" :=
  .of (owner := "bytearray") (n := "__getitem__") (by rw [typeLookup_type, builtinLookup_eq_fast]; kernel_rfl) (by decide +kernel) (by decide +kernel) (by decide +kernel)
    (by first | exact .inl (by decide +kernel) | exact .inr (by decide +kernel)) (by rw [isSubtype_type]; kernel_rfl)
theorem entry_getitem : entryFor table "bytearray.__getitem__" = some Builtin.«bytearray.__getitem__» := by first | exact entryFor_of_tree (by kernel_rfl) | exact entryFor_of_fast (by kernel_rfl)
theorem args_getitem (a b : Value) : argsOk "bytearray.__getitem__" ⟨[a, b], []⟩ := by
  unfold argsOk; rw [signature?_of (id := "bytearray.__getitem__") (n := ['_', '_', 'm', 'e', 't', 'i', 't', 'e', 'g', '_', '_']) (o := ['y', 'a', 'r', 'r', 'a', 'e', 't', 'y', 'b']) (by kernel_rfl) owner_ba]; kernel_rfl
theorem slot_setitem : Slot "bytearray" "__setitem__" "bytearray.__setitem__" :=
  .of (owner := "bytearray") (n := "__setitem__") (by rw [typeLookup_type, builtinLookup_eq_fast]; kernel_rfl) (by decide +kernel) (by decide +kernel) (by decide +kernel)
    (by first | exact .inl (by decide +kernel) | exact .inr (by decide +kernel)) (by rw [isSubtype_type]; kernel_rfl)
theorem entry_setitem : entryFor table "bytearray.__setitem__" = some Builtin.«bytearray.__setitem__» := by first | exact entryFor_of_tree (by kernel_rfl) | exact entryFor_of_fast (by kernel_rfl)
theorem args_setitem (a b c : Value) : argsOk "bytearray.__setitem__" ⟨[a, b, c], []⟩ := by
  unfold argsOk; rw [signature?_of (id := "bytearray.__setitem__") (n := ['_', '_', 'm', 'e', 't', 'i', 't', 'e', 's', '_', '_']) (o := ['y', 'a', 'r', 'r', 'a', 'e', 't', 'y', 'b']) (by kernel_rfl) owner_ba]; kernel_rfl
end BF
section
variable {prog : Program} {w : World} {A : Around} {E : Value → Shared → Prop} {s : Shared}
theorem ba_type {a : Addr} {b : Array UInt8} (ho : s.heap.get? a = some (baObj b)) : s.TypeIs (.ref a) "bytearray" := ⟨_, ho, rfl⟩
theorem ba_meets_len (a : Addr) (b : Array UInt8) : Meets (Builtin.«bytearray.__len__» ⟨[.ref a], []⟩) (fun _ R s => s.heap.get? a = some (baObj b) ∧ R (.ok (.ret (.int b.size s.toks))) { s with toks := s.toks + 1 }) := by
  refine .of_wp fun prog w A R s hS => ?_
  obtain ⟨ho, h⟩ := hS
  show wpAny _ _ (Builtin.Bytes.payload (.ref a) >>= fun r => _) _ _ s
  refine wpAny_bind ?_
  unfold Builtin.Bytes.payload Builtin.Bytes.payload?
  refine wpAny_bind (wpAny_bind (wpAny_load ho ?_))
  refine wpAny_pure (wpAny_pure ?_)
  exact wpAny_bind (wpAny_mkInt (wpAny_pure ⟨_, rfl, h⟩))
theorem ba_len {a : Addr} {b : Array UInt8} {Q : Value → Shared → Prop} (ho : s.heap.get? a = some (baObj b)) (hz : b.size ≤ 16777216)
    (h : Q (.int b.size (s.toks + 1)) { s with toks := s.toks + 1 + 1 }) : wpAny (model prog w) A (call (.builtin "len") [.ref a]) Q E s :=
  call_len_meets (ba_type ho) BF.slot_len BF.entry_len (BF.args_len _) (ba_meets_len a b) (by omega) (by omega) (fun _ hq => ⟨ho, hq⟩) h

theorem picked_extract (b : Array UInt8) {lo hi : Int} (h0 : 0 ≤ lo) (h1 : 0 ≤ hi) : KBy.picked b (some lo) (some hi) = b.extract lo.toNat hi.toNat := by
  obtain ⟨l, rfl⟩ := Int.eq_ofNat_of_zero_le h0
  obtain ⟨u, rfl⟩ := Int.eq_ofNat_of_zero_le h1
  rw [KBc.picked_eq]
  simp only [Option.elim]
  have e1 : clipAt b.size (l : Int) = min l b.size := clipAt_nat b.size l
  have e2 : clipAt b.size (u : Int) = min u b.size := clipAt_nat b.size u
  rw [e1, e2]
  apply Array.ext'
  simp only [Int.toNat_natCast, Array.toList_extract, List.extract_eq_take_drop]
  rcases Nat.le_total l b.size with hl | hl
  · rw [Nat.min_eq_left hl]
    rcases Nat.le_total u b.size with hu | hu
    · rw [Nat.min_eq_left hu]
    · rw [Nat.min_eq_right hu]
      rw [List.take_of_length_le (by simp), List.take_of_length_le (by simp; omega)]
  · rw [Nat.min_eq_right hl]
    rw [List.drop_of_length_le (by simp), List.drop_of_length_le (by simpa using hl)]
    simp

theorem ba_meets_slice (a sl : Addr) (b : Array UInt8) {l u : Value} {lo hi : Option Int} (hl : IsPart l lo) (hu : IsPart u hi) :
    Meets (Builtin.«bytearray.__getitem__» ⟨[.ref a, .ref sl], []⟩) (fun _ R s => s.heap.get? a = some (baObj b) ∧ s.heap.IsSliceOf sl l u .none ∧ b.size ≤ sizeLine ∧
      R (.ok (.ret (.ref s.heap.objs.size))) { s with heap := s.heap.push (baObj (KBy.picked b lo hi)) }) := by
  refine .of_wp fun prog w A R s hS => ?_
  obtain ⟨hb, ⟨o, ho, hc, hd⟩, hsz, h⟩ := hS
  have hT : s.TypeIs (.ref sl) "slice" := ⟨o, ho, hc⟩
  show wpAny _ _ (Builtin.Bytes.subscript? (.ref sl) >>= fun r => _) _ _ s
  refine wpAny_bind ?_
  unfold Builtin.Bytes.subscript?
  refine wpAny_bind (wpAny_specialOf hT slice_no_index (wpAny_pure ?_))
  refine wpAny_bind (wpAny_typeOf hT ?_)
  show wpAny _ _ (Builtin.Bytes.sliceParts (.ref sl) >>= fun r => _) _ _ s
  refine wpAny_bind ?_
  unfold Builtin.Bytes.sliceParts
  refine wpAny_bind (wpAny_field (x := .none) ho hd rfl ?_)
  kby_none
  refine wpAny_ite (KBy.ite_no (show ¬ ((Value.none == rawInt 0) = true) from Bool.false_ne_true) ?_)
  refine wpAny_bind (wpAny_field (x := l) ho hd rfl ?_)
  have go : wpAny (model prog w) A.in1 (sliceIndices (rawPart lo) (rawPart hi) (rawPart none) b.size) (fun r s' => r = sliceBounds lo hi none b.size ∧ s' = s) (fun _ _ => False) s :=
    wpAny_of_eq (sliceIndices_raw lo hi none b.size (fun e => nomatch e)) ⟨rfl, rfl⟩
  have hz : sizeOk (Data.bytearray (KBy.picked b lo hi)) := Nat.le_trans (KBc.size_picked_le b lo hi) hsz
  cases hl <;> cases hu <;> (first
    | (kby_none; (refine wpAny_bind (wpAny_field (x := .none) ho hd rfl ?_)); kby_none)
    | (kby_none; (refine wpAny_bind (wpAny_field (x := .int _ _) ho hd rfl ?_)); kby_int)
    | (kby_int; (refine wpAny_bind (wpAny_field (x := .none) ho hd rfl ?_)); kby_none)
    | (kby_int; (refine wpAny_bind (wpAny_field (x := .int _ _) ho hd rfl ?_)); kby_int)) <;> refine wpAny_pure ?_
  all_goals
    show wpAny _ _ (Builtin.Bytes.payload (.ref a) >>= fun r => _) _ _ s
    refine wpAny_bind ?_
    unfold Builtin.Bytes.payload Builtin.Bytes.payload?
    refine wpAny_bind (wpAny_bind (wpAny_load hb ?_))
    refine wpAny_pure (wpAny_pure ?_)
    refine wpAny_bind (wpAny_mono go (fun r s' hr => ?_) fun _ _ e => e.elim)
    obtain ⟨hr1, hr2⟩ := hr
    subst hr1 hr2
    refine wpAny_bind ?_
    unfold Builtin.Bytes.newBytearray
    refine wpAny_newObj_type ?_ hz
    exact wpAny_pure ⟨_, rfl, h⟩
end

end
section
open PySem.Spec
open PySem.Sem (wp)
namespace BF
theorem look_buffer : typeLookup (.type "bytearray") "__buffer__" = pure (some (.builtin "bytearray.__buffer__")) := by rw [typeLookup_type, builtinLookup_eq_fast]; kernel_rfl
theorem look_release : typeLookup (.type "bytearray") "__release_buffer__" = pure (some (.builtin "bytearray.__release_buffer__")) := by rw [typeLookup_type, builtinLookup_eq_fast]; kernel_rfl
theorem look_bytes : typeLookup (.type "bytearray") "__bytes__" = pure none := by rw [typeLookup_type, builtinLookup_eq_fast]; kernel_rfl
theorem look_index : typeLookup (.type "bytearray") "__index__" = pure none := by rw [typeLookup_type, builtinLookup_eq_fast]; kernel_rfl
theorem sub_self : isSubtype (.type "bytearray") (.type "bytearray") = pure true := by rw [isSubtype_type]; kernel_rfl
theorem bytes_no_index : typeLookup (.type "bytes") "__index__" = pure none := by rw [typeLookup_type, builtinLookup_eq_fast]; kernel_rfl
theorem bytes_no_int : typeLookup (.type "bytes") "__int__" = pure none := by rw [typeLookup_type, builtinLookup_eq_fast]; kernel_rfl
theorem bytes_no_float : typeLookup (.type "bytes") "__float__" = pure none := by rw [typeLookup_type, builtinLookup_eq_fast]; kernel_rfl
theorem bytes_no_complex : isSubtype (.type "bytes") (.type "complex") = pure false := by rw [isSubtype_type]; kernel_rfl
theorem bytes_no_ba : isSubtype (.type "bytes") (.type "bytearray") = pure false := by rw [isSubtype_type]; kernel_rfl
theorem ends_buffer : ("bytearray.__buffer__".endsWith ("." ++ "__buffer__")) = true := by decide +kernel
theorem ends_release : ("bytearray.__release_buffer__".endsWith ("." ++ "__release_buffer__")) = true := by decide +kernel
theorem drop_buffer : "bytearray.__buffer__".dropRight ("__buffer__".length + 1) = "bytearray" := by decide +kernel
theorem drop_release : "bytearray.__release_buffer__".dropRight ("__release_buffer__".length + 1) = "bytearray" := by decide +kernel
end BF
section
variable {M : Model} {A : Around} {E : Value → Shared → Prop} {s : Shared} {a : Addr} {b : Array UInt8}
theorem slot_own_buffer {Q : Bool → Shared → Prop} (ho : s.heap.get? a = some (baObj b)) (h : Q true s) : wpAny M A (Builtin.Bytes.slotIsOwn (.ref a) "__buffer__") Q E s := by
  unfold Builtin.Bytes.slotIsOwn
  refine wpAny_bind (wpAny_specialOf (ba_type ho) BF.look_buffer ?_)
  dsimp only
  rw [BF.ends_buffer]
  refine bm_if_false rfl ?_
  rw [BF.drop_buffer]
  exact wpAny_isInstance (ba_type ho) BF.sub_self h
theorem slot_own_release {Q : Bool → Shared → Prop} (ho : s.heap.get? a = some (baObj b)) (h : Q true s) : wpAny M A (Builtin.Bytes.slotIsOwn (.ref a) "__release_buffer__") Q E s := by
  unfold Builtin.Bytes.slotIsOwn
  refine wpAny_bind (wpAny_specialOf (ba_type ho) BF.look_release ?_)
  dsimp only
  rw [BF.ends_release]
  refine bm_if_false rfl ?_
  rw [BF.drop_release]
  exact wpAny_isInstance (ba_type ho) BF.sub_self h
theorem own_release {Q : Bool → Shared → Prop} (ho : s.heap.get? a = some (baObj b)) (h : Q false s) : wpAny M A (Builtin.Bytes.ownRelease (.ref a)) Q E s := by
  unfold Builtin.Bytes.ownRelease
  exact wpAny_bind (slot_own_release ho (wpAny_pure h))
theorem ba_payload {Q : Array UInt8 → Shared → Prop} (ho : s.heap.get? a = some (baObj b)) (h : Q b s) : wpAny M A (Builtin.Bytes.payload (.ref a)) Q E s := by
  unfold Builtin.Bytes.payload Builtin.Bytes.payload?
  refine wpAny_bind (wpAny_bind (wpAny_load ho ?_))
  exact wpAny_pure (wpAny_pure h)
theorem ba_buffer {id : String} {f : Bool} {Q : Option (Array UInt8) → Shared → Prop} (ho : s.heap.get? a = some (baObj b)) (h : Q (some b) s) : wpAny M A (Builtin.Bytes.buffer? id (.ref a) f) Q E s := by
  unfold Builtin.Bytes.buffer?
  refine wpAny_bind (wpAny_specialOf (ba_type ho) BF.look_buffer ?_)
  dsimp only
  refine wpAny_bind (slot_own_buffer ho ?_)
  refine bm_if_false rfl ?_
  refine wpAny_bind (wpAny_specialOf (ba_type ho) BF.look_buffer ?_)
  refine wpAny_bind (own_release ho ?_)
  refine bm_if_false rfl ?_
  exact wpAny_bind (ba_payload ho (wpAny_pure h))
theorem bytes_buffer_full {id : String} {t : Tok} : Builtin.Bytes.buffer? id (.bytes b t) true = pure (some b) := by
  unfold Builtin.Bytes.buffer?
  rw [KBy.special_eq KBy.look_buffer, KBy.own_buffer, KBy.own_release]
  kernel_rfl
theorem ba_write {f : Array UInt8 → Array UInt8} {Q : Unit → Shared → Prop} (ho : s.heap.get? a = some (baObj b)) (hz : (f b).size ≤ sizeLine) (h : Q () { s with heap := s.heap.update a (Obj.mapBytearray f) }) : wpAny M A (Builtin.Bytes.write (.ref a) f) Q E s := by
  show wpAny M A (updateBytearray a f) Q E s
  unfold updateBytearray
  refine wpAny_bind (wpAny_load ho ?_)
  show wpAny _ _ (update a (Obj.mapBytearray f) >>= fun _ => lookBehind a) _ _ _
  refine wpAny_bind (wpAny_update ho ?_)
  have h₂ : (s.heap.update a (Obj.mapBytearray f)).get? a = some (baObj (f b)) := Heap.get?_update_self (Obj.mapBytearray f) ho rfl
  refine wpAny_lookBehind h₂ ?_ h
  show (if (f b).size > sizeLine then some "bytearray:memory" else none) = none
  rw [if_neg (Nat.not_lt.mpr hz)]
theorem exportedC {Q : Bool → Shared → Prop} (hg : A.guards = some []) (h : Q false s) : wpC M A (Builtin.Bytes.exported (.ref a)) Q E s := fun Γ p hΓ hC => by
  unfold Builtin.Bytes.exported
  show Q (List.any ((Γ.code, p) :: Γ.below) _) s
  rw [List.any_eq_false.mpr ?_]
  · exact h
  · have hgs : ∀ x ∈ (Γ.code, p) :: Γ.below, x.1.isGuard = false := by
      have e : guardsOf ((Γ.code, p) :: Γ.below) = [] := by rw [guardsOf_cons]; exact hΓ.2.2.2.1 [] hg
      intro x hx
      unfold guardsOf at e
      have := List.filter_eq_nil_iff.mp e x.1 (List.mem_map_of_mem hx)
      simpa using this
    have hcl : ∀ x ∈ (Γ.code, p) :: Γ.below, notDec x.1 = true := by
      intro x hx
      rcases List.mem_cons.mp hx with rfl | hx
      · exact hC.code
      · exact hC.below x hx
    rintro ⟨c, q⟩ hx
    have h1 := hgs _ hx
    have h2 := hcl _ hx
    cases c with
    | builtin id args =>
      have h1' : guardIds.contains id = false := h1
      have h2' : (!Builtin.Bytes.decodersThatHold.contains id) = true := h2
      simp only [Bool.not_eq_true'] at h2'
      split
      · rename_i heq; injection heq with e1 _; injection e1 with e2 _; subst e2; exact absurd h1' (by decide +kernel)
      · rename_i heq; injection heq with e1 _; injection e1 with e2 _; subst e2; exact absurd h1' (by decide +kernel)
      · rename_i heq; injection heq with e1 _; injection e1 with e2 _; subst e2; exact absurd h1' (by decide +kernel)
      · rename_i heq; injection heq with e1 _; injection e1 with e2 _; subst e2; exact absurd h1' (by decide +kernel)
      · rename_i heq; injection heq with e1 _; injection e1 with e2 _; subst e2; exact absurd h1' (by decide +kernel)
      · rename_i heq; injection heq with e1 _; injection e1 with e2 _; subst e2
        rw [h2', Bool.and_false]; exact Bool.false_ne_true
      · exact Bool.false_ne_true
    | _ => exact Bool.false_ne_true
end

end
section
open PySem.Spec
open PySem.Sem (wp)
namespace BF
theorem bind0 : Builtin.Bytes.bindOptional "bytearray.__init__" "bytearray" ["source", "encoding", "errors"] [] [] = pure [none, none, none] := by kernel_rfl
theorem bind1 (v : Value) : Builtin.Bytes.bindOptional "bytearray.__init__" "bytearray" ["source", "encoding", "errors"] [v] [] = pure [some v, none, none] := by kernel_rfl
end BF
section
variable {prog : Program} {w : World} {A : Around} {E : Value → Shared → Prop} {s : Shared} {a : Addr} {b : Array UInt8}
theorem exports_zero {M : Model} {Q : Nat → Shared → Prop} (ho : s.heap.get? a = some (baObj b)) (h : Q 0 s) : wpAny M A (Builtin.Bytes.exportsOf (.ref a)) Q E s := by
  unfold Builtin.Bytes.exportsOf
  exact wpAny_bind (wpAny_load ho (wpAny_pure h))
theorem notExportedC {M : Model} {Q : Bool → Shared → Prop} (hg : A.guards = some []) (ho : s.heap.get? a = some (baObj b)) (h : Q false s) :
    wpC M A (Builtin.Bytes.exported (.ref a) <||> (do return (← Builtin.Bytes.exportsOf (.ref a)) > 0)) Q E s := by
  show wpC M A (Builtin.Bytes.exported (.ref a) >>= _) Q E s
  refine wpC_bind (exportedC hg ?_)
  show wpC M A (Builtin.Bytes.exportsOf (.ref a) >>= _) Q E s
  exact wpC_bindA (exports_zero ho (wpC_pure h))
theorem ba_init0 {M : Model} {Q : Fin → Shared → Prop} (hg : A.guards = some []) (ho : s.heap.get? a = some (baObj b)) (h : Q (.done (.ret .none)) { s with heap := s.heap.update a (Obj.mapBytearray fun _ => #[]) }) :
    wpC M A (Builtin.«bytearray.__init__» ⟨[.ref a], []⟩) Q E s := by
  unfold Builtin.«bytearray.__init__»
  dsimp only
  refine wpC_bindA (own_release ho ?_)
  refine wpC_if_false rfl ?_
  refine wpC_bindA (wpAny_of_eq BF.bind0 ?_)
  dsimp only
  refine wpC_bindA (wpAny_of_eq (a := ()) rfl ?_)
  refine wpC_bindA (wpAny_of_eq (a := ()) rfl ?_)
  refine wpC_bind (notExportedC hg ho ?_)
  refine wpC_if_false rfl ?_
  refine wpC_bindA (ba_write ho (Nat.zero_le _) ?_)
  exact wpC_any (wpAny_of_eq (a := Fin.done (.ret .none)) rfl h)
theorem ba_init1 {M : Model} {t : Tok} {x : Array UInt8} {Q : Fin → Shared → Prop} (hg : A.guards = some []) (ho : s.heap.get? a = some (baObj b)) (hz : x.size ≤ sizeLine)
    (h : Q (.done (.ret .none)) { s with heap := (s.heap.update a (Obj.mapBytearray fun _ => #[])).update a (Obj.mapBytearray fun _ => x) }) :
    wpC M A (Builtin.«bytearray.__init__» ⟨[.ref a, .bytes x t], []⟩) Q E s := by
  unfold Builtin.«bytearray.__init__»
  dsimp only
  refine wpC_bindA (own_release ho ?_)
  refine wpC_if_false rfl ?_
  refine wpC_bindA (wpAny_of_eq (BF.bind1 _) ?_)
  dsimp only
  refine wpC_bindA (wpAny_of_eq (a := ()) rfl ?_)
  refine wpC_bindA (wpAny_of_eq (a := ()) rfl ?_)
  refine wpC_bind (notExportedC hg ho ?_)
  refine wpC_if_false rfl ?_
  refine wpC_bindA (ba_write ho (Nat.zero_le _) ?_)
  have ho2 : (s.heap.update a (Obj.mapBytearray fun _ => #[])).get? a = some (baObj #[]) := Heap.get?_update_self (Obj.mapBytearray fun _ => #[]) ho rfl
  refine wpC_bindA (wpAny_of_eq (a := none) rfl ?_)
  refine wpC_if_false rfl ?_
  refine wpC_any ?_
  refine wpAny_bind (wpAny_of_eq (a := ()) rfl ?_)
  refine wpAny_bind (wpAny_specialOf (T := "bytes") (PySem.W.typeIs_bytes _ _ _) BF.bytes_no_index ?_)
  refine bm_if_false rfl ?_
  refine wpAny_bind (wpAny_of_eq bytes_buffer_full ?_)
  dsimp only
  refine wpAny_bind (wpAny_rule ?_)
  refine wpAny_bind (ba_write (s := { s with heap := _ }) ho2 hz ?_)
  exact wpAny_of_eq (a := Fin.done (.ret .none)) rfl h
end

end
section
open PySem.Spec
open PySem.Sem (wp)
namespace BF
theorem mro_ba : mroOf (.type "bytearray") = pure [.type "bytearray", .type "object"] := by rw [mroOf_type]; kernel_rfl
theorem look_new : typeLookup (.type "bytearray") "__new__" = pure (some (.builtin "bytearray.__new__")) := by rw [typeLookup_type, builtinLookup_eq_fast]; kernel_rfl
theorem slot_init : Slot "bytearray" "__init__" "bytearray.__init__" :=
  .of (owner := "bytearray") (n := "__init__") (by rw [typeLookup_type, builtinLookup_eq_fast]; kernel_rfl) (by decide +kernel) (by decide +kernel) (by decide +kernel)
    (by first | exact .inl (by decide +kernel) | exact .inr (by decide +kernel)) (by rw [isSubtype_type]; kernel_rfl)
theorem called : TypeCalled "bytearray" "bytearray.__new__" "bytearray.__init__" :=
  ⟨by decide +kernel, by decide +kernel, ⟨_, _, mro_ba⟩, madeBy_type mro_ba look_new (by decide +kernel), by decide +kernel, by rw [isSubtype_type]; kernel_rfl, slot_init⟩
theorem typeCall0 : checkTypeCall "bytearray" ⟨[], []⟩ = pure () := by kernel_rfl
theorem typeCall1 (a : Value) : checkTypeCall "bytearray" ⟨[a], []⟩ = pure () := by kernel_rfl
theorem newCall0 : checkBuiltinCall "bytearray.__new__" ⟨[.type "bytearray"], []⟩ = pure () := by kernel_rfl
theorem newCall1 (a : Value) : checkBuiltinCall "bytearray.__new__" ⟨[.type "bytearray", a], []⟩ = pure () := by kernel_rfl
theorem entry_new : entryFor table "bytearray.__new__" = some Builtin.«list.__new__» :=
  entryFor_alias (id' := "list.__new__") (by kernel_rfl) (by first | rfl | decide +kernel) (by decide +kernel) (by kernel_rfl)
theorem entry_init : entryFor table "bytearray.__init__" = some Builtin.«bytearray.__init__» := by first | exact entryFor_of_tree (by kernel_rfl) | exact entryFor_of_fast (by kernel_rfl)
theorem plain_new : plainId "bytearray.__new__" = true := by decide +kernel
theorem args_init0 (a : Value) : argsOk "bytearray.__init__" ⟨[a], []⟩ := by
  unfold argsOk; rw [signature?_of (id := "bytearray.__init__") (n := ['_', '_', 't', 'i', 'n', 'i', '_', '_']) (o := ['y', 'a', 'r', 'r', 'a', 'e', 't', 'y', 'b']) (by kernel_rfl) owner_ba]; kernel_rfl
theorem args_init1 (a b : Value) : argsOk "bytearray.__init__" ⟨[a, b], []⟩ := by
  unfold argsOk; rw [signature?_of (id := "bytearray.__init__") (n := ['_', '_', 't', 'i', 'n', 'i', '_', '_']) (o := ['y', 'a', 'r', 'r', 'a', 'e', 't', 'y', 'b']) (by kernel_rfl) owner_ba]; kernel_rfl
set_option maxRecDepth 1000000 in
theorem owner_new : ("bytearray.__new__".splitOn ".__new__").headD "" = "bytearray" := by simp +decide [String.splitOn, String.splitOnAux]
theorem nodict : typeHasDict (.type "bytearray") = false := by decide +kernel
end BF
section
variable {prog : Program} {w : World} {A : Around} {E : Value → Shared → Prop} {s : Shared}
theorem code_ba_new (rest : List Value) (hc : checkBuiltinCall "bytearray.__new__" ⟨.type "bytearray" :: rest, []⟩ = pure ()) {Q₁ : Value → Shared → Prop}
    (h : Q₁ (.ref s.heap.objs.size) { s with heap := s.heap.push (baObj #[]) }) :
    codeAny (model prog w) A (.call (.builtin "bytearray.__new__") ⟨.type "bytearray" :: rest, []⟩) (wants Q₁ E) s := by
  refine codeAny_of_tree ?_
  show wpAny _ A.in1 (do checkBuiltinCall "bytearray.__new__" ⟨.type "bytearray" :: rest, []⟩; again (.builtin "bytearray.__new__" ⟨.type "bytearray" :: rest, []⟩)) _ _ s
  refine wpAny_bind (wpAny_of_eq hc (wpAny_pure ⟨plainId_quiet BF.plain_new _, codeAny_builtin_stack BF.entry_new rfl fun p st => ?_⟩))
  rw [Around.under_plainId BF.plain_new _]
  have hsub := BF.sub_self
  have hown := BF.owner_new
  have hnd := BF.nodict
  obtain ⟨hp, g, d, tk, os⟩ := s
  simp only [hown]
  wp_walk
  exact h
theorem callTypeC {T newId initId : String} {Bi : Builtin} {args : List Value} {Q Q₁ : Value → Shared → Prop} (ft : TypeCalled T newId initId)
    (hct : checkTypeCall T ⟨args, []⟩ = pure ()) (entryI : entryFor table initId = some Bi) (hnI : Builtin.Bytes.decodersThatHold.contains initId = false)
    (hnew : codeAny (model prog w) A.in1 (.call (.builtin newId) ⟨.type T :: args, []⟩) (wants Q₁ E) s)
    (hnext : ∀ obj s₁, Q₁ obj s₁ → s₁.TypeIs obj T ∧ argsOk initId ⟨obj :: args, []⟩ ∧
      wpC (model prog w) A.in1.in1 (Bi ⟨obj :: args, []⟩) (afterC (model prog w) A.in1 (wants (fun r s₂ => r = .none ∧ Q obj s₂) E)) (fun e s' => wants (fun r s₂ => r = .none ∧ Q obj s₂) E (.error e) s') s₁) :
    wpC (model prog w) A (call (.type T) args) Q E s := by
  obtain ⟨c, tl, hmro⟩ := ft.mro
  have hmade := ft.made
  have hsub := ft.sub
  refine wpC_call (codeC_of_tree (wpC_any ?_))
  show wpAny _ _ (callAny (.type T) _) _ _ _
  refine wpAny_pure ⟨Code.quiet_builtin _ (by decide +kernel), notDec_id (by decide +kernel), codeC_builtin F.entry_type_call ?_⟩
  rw [Around.under_plain (weight_type_call_type T args []) rfl]
  unfold Builtin.«type.__call__»
  dsimp only
  refine wpC_if_false ft.notType ?_
  refine wpC_if_false ft.canCreate ?_
  refine wpC_bindA (wpAny_of_eq hct ?_)
  refine wpC_bindA (wpAny_of_eq hmro ?_)
  refine wpC_if_false rfl ?_
  refine wpC_bindA (wpAny_of_eq hmade ?_)
  dsimp only
  refine wpC_bindA (wpAny_pure ?_)
  refine wpC_bindA (wpAny_holding (wpAny_call (codeAny_mono hnew fun r s₁ hr => ?_)))
  cases r with
  | error e => exact hr
  | ok fl =>
    cases fl with
    | ret obj =>
      obtain ⟨hT, hok, hsi⟩ := hnext _ _ hr
      dsimp only
      refine wpC_bindA (wpAny_isInstance hT hsub ?_)
      refine wpC_if_false rfl ?_
      refine wpC_bind (wpC_holding ?_)
      unfold callSpecial?
      refine wpC_bindA (wpAny_specialOf hT ft.init.lookup ?_)
      dsimp only
      refine wpC_holding (wpC_bindA (wpAny_of_eq (ft.init.bind obj) ?_))
      refine wpC_bind (wpC_call (codeC_call_builtin_at (plainId_quiet ft.init.plain _) (notDec_id hnI) entryI (ft.init.check _ _ _ _ _ _ _ _ hT hok ?_)))
      rw [Around.under_plainId ft.init.plain _]
      refine wpC_mono hsi (fun fin s₂ h₂ => ?_) fun e s₂ h₂ => h₂
      cases fin with
      | done f =>
        cases f with
        | ret r =>
          obtain ⟨rfl, hq⟩ := h₂
          refine wpC_pure ?_
          dsimp only
          exact wpC_if_false rfl (wpC_pure hq)
        | _ => exact h₂.elim
      | again c' =>
        refine ⟨h₂.1, h₂.2.1, codeC_mono h₂.2.2 fun r s₃ h₃ => ?_⟩
        cases r with
        | error e => exact h₃
        | ok fl =>
          cases fl with
          | ret r =>
            obtain ⟨rfl, hq⟩ := h₃
            refine wpC_pure ?_
            dsimp only
            exact wpC_if_false rfl (wpC_pure hq)
          | _ => exact h₃.elim
    | _ => exact hr.elim
end

end
section
open PySem.Spec
open PySem.Sem (wp)
section
variable {prog : Program} {w : World} {A : Around} {E : Value → Shared → Prop} {s : Shared} {h₀ : Heap} {L : Addr} {m : Str → Option Value} {news news' : List (Addr × Obj)}
/-- bytearray() -/
theorem ba_make0 {Q : Value → Shared → Prop} (hg : A.guards = some []) (F : Fr h₀ L s.heap m) (N : News h₀ L s.heap news)
    (h : ∀ x h', Fr h₀ L h' m → News h₀ L h' ((x, baObj #[]) :: news) → (∀ p ∈ news, p.1 < x) → Q (.ref x) { s with heap := h' }) :
    wpC (model prog w) A (call (.type "bytearray") []) Q E s := by
  refine callTypeC BF.called BF.typeCall0 BF.entry_init (by decide +kernel) (Q₁ := fun obj s₁ => obj = .ref s.heap.objs.size ∧ s₁ = { s with heap := s.heap.push (baObj #[]) }) (code_ba_new [] BF.newCall0 ⟨rfl, rfl⟩) fun obj s₁ h₁ => ?_
  obtain ⟨rfl, rfl⟩ := h₁
  have ho : (s.heap.push (baObj #[])).get? s.heap.objs.size = some (baObj #[]) := Heap.get?_push_size _ rfl
  refine ⟨ba_type (s := { s with heap := s.heap.push (baObj #[]) }) ho, BF.args_init0 _, ba_init0 hg ho ?_⟩
  obtain ⟨F', N'⟩ := news_upd (pre := []) (o' := baObj #[]) (f := Obj.mapBytearray fun _ => #[]) (F.push (baObj #[])) (N.push F (baObj #[])) (fun _ hp => nomatch hp) (fun p hp => Nat.ne_of_lt (Heap.lt_size (N p hp).1)) rfl rfl
  exact ⟨rfl, h _ _ F' N' fun p hp => Heap.lt_size (N p hp).1⟩
/-- bytearray(b) : a copy; what stood stands -/
theorem ba_make1 {Q : Value → Shared → Prop} {x : Array UInt8} {t : Tok} (hg : A.guards = some []) (hz : x.size ≤ sizeLine)
    (h : ∀ a h', h'.get? a = some (baObj x) → (∀ b o, s.heap.get? b = some o → h'.get? b = some o) → Q (.ref a) { s with heap := h' }) :
    wpC (model prog w) A (call (.type "bytearray") [.bytes x t]) Q E s := by
  refine callTypeC BF.called (BF.typeCall1 _) BF.entry_init (by decide +kernel) (Q₁ := fun obj s₁ => obj = .ref s.heap.objs.size ∧ s₁ = { s with heap := s.heap.push (baObj #[]) }) (code_ba_new [_] (BF.newCall1 _) ⟨rfl, rfl⟩) fun obj s₁ h₁ => ?_
  obtain ⟨rfl, rfl⟩ := h₁
  have ho : (s.heap.push (baObj #[])).get? s.heap.objs.size = some (baObj #[]) := Heap.get?_push_size _ rfl
  refine ⟨ba_type (s := { s with heap := s.heap.push (baObj #[]) }) ho, BF.args_init1 _ _, ba_init1 hg ho hz ?_⟩
  have h1 : ((s.heap.push (baObj #[])).update s.heap.objs.size (Obj.mapBytearray fun _ => #[])).get? s.heap.objs.size = some (baObj #[]) := Heap.get?_update_self (Obj.mapBytearray fun _ => #[]) ho rfl
  have h2 : (((s.heap.push (baObj #[])).update s.heap.objs.size (Obj.mapBytearray fun _ => #[])).update s.heap.objs.size (Obj.mapBytearray fun _ => x)).get? s.heap.objs.size = some (baObj x) := Heap.get?_update_self (Obj.mapBytearray fun _ => x) h1 rfl
  refine ⟨rfl, h _ _ h2 fun b o e => ?_⟩
  have hne : b ≠ s.heap.objs.size := Nat.ne_of_lt (Heap.lt_size e)
  rw [Heap.get?_update_ne _ _ _ _ hne, Heap.get?_update_ne _ _ _ _ hne]
  exact Heap.get?_push_of_some _ e

theorem parts_int {M : Model} {sl : Addr} {lo hi : Int} {t1 t2 : Tok} {Q : Value × Value × Value → Shared → Prop} (hs : s.heap.IsSliceOf sl (.int lo t1) (.int hi t2) .none) (h : Q (rawInt lo, rawInt hi, .none) s) : wpAny M A (Builtin.Bytes.sliceParts (.ref sl)) Q E s := by
  obtain ⟨o, ho, hc, hd⟩ := hs
  unfold Builtin.Bytes.sliceParts
  refine wpAny_bind (wpAny_field (x := .none) ho hd rfl ?_)
  kby_none
  refine wpAny_ite (KBy.ite_no (show ¬ ((Value.none == rawInt 0) = true) from Bool.false_ne_true) ?_)
  refine wpAny_bind (wpAny_field (x := .int lo t1) ho hd rfl ?_)
  kby_int
  refine wpAny_bind (wpAny_field (x := .int hi t2) ho hd rfl ?_)
  kby_int
  exact wpAny_pure h
theorem bounds_empty {hi : Int} (h : 0 ≤ hi) : sliceIndices (rawInt 0) (rawInt hi) .none 0 = pure ((0 : Int), (0 : Int), (1 : Int)) := by
  have e := sliceIndices_raw (some 0) (some hi) none 0 (fun e => nomatch e)
  have e2 : sliceBounds (some 0) (some hi) none 0 = ((0 : Int), (0 : Int), (1 : Int)) := by
    unfold sliceBounds
    simp only [Option.getD_none]
    have h1 : ¬ hi < 0 := by omega
    simp [h1]
    omega
  rw [e2] at e
  exact e
theorem has_not {M : Model} {x : Array UInt8} {t : Tok} {name : Str} {Q : Bool → Shared → Prop} (e : typeLookup (.type "bytes") name = pure none) (h : Q false s) :
    wpAny M A (do return (← specialOf (.bytes x t) name).isSome) Q E s := by
  show wpAny M A (specialOf (.bytes x t) name >>= _) Q E s
  exact wpAny_bind (wpAny_specialOf (T := "bytes") (PySem.W.typeIs_bytes _ _ _) e (wpAny_pure h))
/-- an empty bytearray's [0:n] = b -/
theorem ba_setslice {bf sl : Addr} {x : Array UInt8} {t t1 t2 : Tok} {hi : Int} {Q : Fin → Shared → Prop} (hg : A.guards = some []) (h0 : 0 ≤ hi) (hb : s.heap.get? bf = some (baObj #[])) (hs : s.heap.IsSliceOf sl (.int 0 t1) (.int hi t2) .none) (hz : x.size ≤ sizeLine)
    (h : ∀ h' : Heap, h'.get? bf = some (baObj x) → (∀ b o, b ≠ bf → s.heap.get? b = some o → h'.get? b = some o) → Q (.done (.ret .none)) { s with heap := h' }) :
    wpC (model prog w) A (Builtin.«bytearray.__setitem__» ⟨[.ref bf, .ref sl, .bytes x t], []⟩) Q E s := by
  have hT : s.TypeIs (.ref sl) "slice" := by obtain ⟨o, ho, hc, _⟩ := hs; exact ⟨o, ho, hc⟩
  unfold Builtin.«bytearray.__setitem__»
  dsimp only
  refine wpC_if_false rfl ?_
  show wpC _ _ (Builtin.Bytes.subscript? (.ref sl) >>= fun r => _) _ _ s
  refine wpC_bindA ?_
  unfold Builtin.Bytes.subscript?
  refine wpAny_bind (wpAny_specialOf hT slice_no_index (wpAny_pure ?_))
  refine wpC_bindA (wpAny_typeOf hT ?_)
  refine wpC_if_false rfl ?_
  refine wpC_bindA (parts_int hs ?_)
  refine wpC_bindA (wpAny_isInstance (T := "bytes") (PySem.W.typeIs_bytes _ _ _) BF.bytes_no_ba ?_)
  refine wpC_if_true rfl ?_
  refine wpC_bindA (Q := Q) ?_
  refine wpAny_bind (has_not (x := x) (t := t) BF.bytes_no_index ?_)
  refine wpAny_bind (has_not (x := x) (t := t) BF.bytes_no_int ?_)
  refine wpAny_bind (has_not (x := x) (t := t) BF.bytes_no_float ?_)
  refine wpAny_isInstance (T := "bytes") (PySem.W.typeIs_bytes _ _ _) BF.bytes_no_complex ?_
  refine wpC_bindA (wpAny_of_eq (a := none) rfl ?_)
  refine wpC_if_false rfl ?_
  refine wpC_bindA (wpAny_rule ?_)
  refine wpC_bind (ba_make1 hg hz fun a h' ha hk => ?_)
  refine wpC_bindA (wpAny_holding (parts_int (lo := 0) (hi := hi) (t1 := t1) (t2 := t2) ?_ ?_))
  · obtain ⟨o, ho, r⟩ := hs
    exact ⟨o, hk _ _ ho, r⟩
  refine wpC_bindA (ba_payload ha ?_)
  refine wpC_bindA (ba_payload (hk _ _ hb) ?_)
  refine wpC_bindA (wpAny_of_eq (bounds_empty h0) ?_)
  dsimp only
  refine wpC_if_true rfl ?_
  refine wpC_bindA (wpAny_rule ?_)
  have fin : wpC (model prog w) A (do
      Builtin.Bytes.write (.ref bf) fun b => b.extract 0 (0 : Int).toNat ++ x ++ b.extract (max (0 : Int) 0).toNat b.size
      ret Value.none) Q E { s with heap := h' } := by
    have e : ((#[] : Array UInt8).extract 0 (0 : Int).toNat ++ x ++ (#[] : Array UInt8).extract (max (0 : Int) 0).toNat (#[] : Array UInt8).size) = x := by simp
    refine wpC_bindA (ba_write (s := { s with heap := h' }) (hk _ _ hb) (by rw [e]; exact hz) ?_)
    refine wpC_any (wpAny_of_eq (a := Fin.done (.ret .none)) rfl ?_)
    refine h _ ?_ fun b o hne e' => ?_
    · have := Heap.get?_update_self (Obj.mapBytearray fun b => b.extract 0 (0 : Int).toNat ++ x ++ b.extract (max (0 : Int) 0).toNat b.size) (hk _ _ hb) rfl
      rw [this]
      exact congrArg (fun z => some (baObj z)) e
    · show (Heap.update _ _ _).get? b = _
      rw [Heap.get?_update_ne _ _ _ _ hne]
      exact hk _ _ e'
  by_cases hne : ((x.size : Int) != max (0 : Int) 0 - 0) = true
  · refine wpC_if_true hne ?_
    refine wpC_bind ?_
    unfold Builtin.Bytes.checkResize
    refine wpC_bind (notExportedC hg (s := { s with heap := h' }) (hk _ _ hb) ?_)
    refine wpC_if_false rfl (wpC_pure ?_)
    exact fin
  · refine wpC_if_false (Bool.eq_false_iff.mpr hne) ?_
    exact fin
theorem fr_keep {h h' : Heap} {bf : Addr} (F : Fr h₀ L h m) (hk : ∀ b o, b ≠ bf → h.get? b = some o → h'.get? b = some o) (hL : L ≠ bf) (hI : h₀.get? bf = none) : Fr h₀ L h' m :=
  ⟨F.ns.at' fun o e => hk L o hL e, fun b o e => hk b o (fun q => by rw [q, hI] at e; cases e) (F.keep b o e), F.above⟩
/-- self.__buf[0:n] = b on an empty buffer, as the store's statement asks it -/
theorem ba_setItem {bf sl : Addr} {pre post : List (Addr × Obj)} {x : Array UInt8} {t t1 t2 : Tok} {hi : Int} {Q : Unit → Shared → Prop} (hg : A.guards = some []) (h0 : 0 ≤ hi) (F : Fr h₀ L s.heap m) (N : News h₀ L s.heap (pre ++ (bf, baObj #[]) :: post)) (h1 : ∀ p ∈ pre, p.1 ≠ bf) (h2 : ∀ p ∈ post, p.1 ≠ bf)
    (hs : s.heap.IsSliceOf sl (.int 0 t1) (.int hi t2) .none) (hz : x.size ≤ sizeLine)
    (h : ∀ h', Fr h₀ L h' m → News h₀ L h' (pre ++ (bf, baObj x) :: post) → Q () { s with heap := h' }) :
    wpC (model prog w) A (setItem (.ref bf) (.ref sl) (.bytes x t)) Q E s := by
  have hb : s.heap.get? bf = some (baObj #[]) := N.get (List.mem_append_right _ (.head _))
  have hT := ba_type hb
  unfold setItem
  refine wpC_holding ?_
  refine wpC_bindA (wpAny_sequenceKey hT (by decide) ?_)
  refine wpC_bind ?_
  unfold callSpecial?
  refine wpC_bindA (wpAny_specialOf hT BF.slot_setitem.lookup ?_)
  dsimp only
  refine wpC_holding (wpC_bindA (wpAny_of_eq (BF.slot_setitem.bind _) ?_))
  refine wpC_bind (wpC_call (codeC_call_builtin_at (plainId_quiet BF.slot_setitem.plain _) (notDec_id (by decide +kernel)) BF.entry_setitem (BF.slot_setitem.check _ _ _ _ _ _ _ _ hT (BF.args_setitem _ _ _) ?_)))
  rw [Around.under_plainId BF.slot_setitem.plain _]
  refine ba_setslice hg h0 hb hs hz fun h' hb' hk => ?_
  refine wpC_pure ?_
  dsimp only
  refine wpC_pure ?_
  have B := N (bf, baObj #[]) (List.mem_append_right _ (.head _))
  refine h h' (fr_keep F hk (Ne.symm B.2.1) B.2.2) fun p hp => ?_
  rcases List.mem_append.mp hp with q | q
  · have P := N p (List.mem_append_left _ q); exact ⟨hk _ _ (h1 p q) P.1, P.2⟩
  · rcases List.mem_cons.mp q with rfl | q
    · exact ⟨hb', B.2⟩
    · have P := N p (List.mem_append_right _ (.tail _ q)); exact ⟨hk _ _ (h2 p q) P.1, P.2⟩
end

end
section
open PySem.Spec
open PySem.Sem (wp)
section
variable {prog : Program} {w : World} {A : Around} {E : Value → Shared → Prop} {s : Shared} {h₀ : Heap} {L : Addr} {m : Str → Option Value} {news news' : List (Addr × Obj)}
theorem bytes_of_ba_new {a : Addr} {b : Array UInt8} {Q : Value → Shared → Prop} (ho : s.heap.get? a = some (baObj b)) (hz : b.size ≤ sizeLine)
    (hQ : ∀ t k, Q (.bytes b t) { s with toks := k }) :
    codeAny (model prog w) A (.call (.builtin "bytes.__new__") ⟨[.type "bytes", .ref a], []⟩) (wants Q E) s := by
  refine codeAny_of_tree ?_
  show wpAny _ A.in1 (do checkBuiltinCall "bytes.__new__" ⟨[.type "bytes", .ref a], []⟩; again (.builtin "bytes.__new__" ⟨[.type "bytes", .ref a], []⟩)) _ _ s
  refine wpAny_bind (wpAny_of_eq (F.bm_newCall _) (wpAny_pure ⟨plainId_quiet F.bm_plain _, codeAny_builtin F.bm_entry ?_⟩))
  rw [Around.under_plainId F.bm_plain _]
  have hT := ba_type ho
  unfold Builtin.«bytes.__new__»
  refine wpAny_bind (wpAny_of_eq (a := true) rfl ?_)
  refine bm_if_false rfl ?_
  refine wpAny_bind (wpAny_of_eq F.bm_sub ?_)
  refine bm_if_false rfl ?_
  refine wpAny_bind (wpAny_of_eq (F.bm_bind _) ?_)
  refine wpAny_bind (wpAny_of_eq (a := ()) rfl ?_)
  refine wpAny_bind (wpAny_of_eq (a := ()) rfl ?_)
  refine bm_if_false rfl ?_
  refine wpAny_bind (wpAny_specialOf hT BF.look_bytes ?_)
  refine wpAny_bind (wpAny_bind ?_)
  show wpAny _ _ (load a >>= _) _ _ _
  refine wpAny_bind (wpAny_load ho ?_)
  refine wpAny_pure (wpAny_pure ?_)
  refine bm_if_false rfl ?_
  refine wpAny_bind (wpAny_specialOf hT BF.look_index ?_)
  refine bm_if_true rfl ?_
  first
    | show wpAny _ _ (Builtin.Bytes.buffer? "bytes.__new__" (.ref a) true >>= _) _ _ _
    | (refine wpAny_bind ?_; show wpAny _ _ (Builtin.Bytes.buffer? "bytes.__new__" (.ref a) true >>= _) _ _ _)
  refine wpAny_bind (ba_buffer ho ?_)
  dsimp only
  refine wpAny_bind (wpAny_rule ?_)
  refine wpAny_bind (wpAny_mkBytes ?_ hz)
  first
    | (show wpAny _ _ (if (Value.type "bytes" == Value.type "bytes") = true then _ else _) _ _ _; refine bm_if_true (by decide) ?_)
    | (refine wpAny_bind ?_; show wpAny _ _ (if (Value.type "bytes" == Value.type "bytes") = true then _ else _) _ _ _; refine bm_if_true (by decide) ?_)
  first
    | exact wpAny_pure (hQ _ _)
    | exact wpAny_bind (wpAny_pure (wpAny_pure (hQ _ _)))
    | exact wpAny_bind (wpAny_pure (wpAny_pure (wpAny_pure (hQ _ _))))
    | exact wpAny_pure (wpAny_pure (hQ _ _))
theorem bytes_of_ba {a : Addr} {b : Array UInt8} {Q : Value → Shared → Prop} (ho : s.heap.get? a = some (baObj b)) (hz : b.size ≤ sizeLine)
    (hQ : ∀ t k, Q (.bytes b t) { s with toks := k }) : wpAny (model prog w) A (call (.type "bytes") [.ref a]) Q E s := by
  refine callType_codes (Q₁ := fun obj s₁ => s₁.TypeIs obj "bytes" ∧ Q obj s₁) F.bm_called (F.bm_typeCall _) F.entry_object_init
    (bytes_of_ba_new ho hz fun t k => ⟨PySem.W.typeIs_bytes _ _ _, hQ t k⟩) fun obj s₁ h₁ => ?_
  exact ⟨h₁.1, F.args_object_init_2 obj _, object_init_meets F.bm_called.init.lookup F.bm_called.made (by decide) prog w A.in1 _ s₁ ⟨h₁.1, rfl, h₁.2⟩⟩
theorem ba_bytes_K {a : Addr} {b : Array UInt8} {Q : Value → Shared → Prop} (F : Fr h₀ L s.heap m) (N : News h₀ L s.heap news) (hm : (a, baObj b) ∈ news) (hz : b.size ≤ 16777216)
    (h : ∀ t h' k, Fr h₀ L h' m → News h₀ L h' news → Q (.bytes b t) { s with heap := h', toks := k }) : wpAny (model prog w) A (call (.type "bytes") [.ref a]) Q E s :=
  bytes_of_ba (N.get hm) (by rw [sizeLine_eq]; exact hz) fun t k => h t s.heap k F N
theorem ba_len_K {a : Addr} {b : Array UInt8} {Q : Value → Shared → Prop} (N : News h₀ L s.heap news) (hm : (a, baObj b) ∈ news) (hz : b.size ≤ 16777216)
    (h : ∀ t k, Q (.int b.size t) { s with toks := k }) : wpAny (model prog w) A (call (.builtin "len") [.ref a]) Q E s := ba_len (N.get hm) hz (h _ _)
theorem ba_slice_K {value slice : PySem.Expr} {a : Addr} {b : Array UInt8} {lo hi : Int} {t1 t2 : Tok} {Q : Value → Shared → Prop} (F : Fr h₀ L s.heap m) (N : News h₀ L s.heap news) (hm : (a, baObj b) ∈ news) (hz : b.size ≤ 16777216) (h0 : 0 ≤ lo) (h1 : 0 ≤ hi)
    (h : ∀ x h', Fr h₀ L h' m → News h₀ L h' ((x, baObj (b.extract lo.toNat hi.toNat)) :: news) → (∀ p ∈ news, p.1 < x) → Q (.ref x) { s with heap := h' })
    (hs : subscripted slice false (.ref a) (.ref s.heap.objs.size) = operate [.ref s.heap.objs.size, .ref a] (getItem (.ref a) (.ref s.heap.objs.size)) := by with_unfolding_all rfl)
    (ht : ∀ r, letTemporaryGo value (.ref a) r = pure () := by intro _; with_unfolding_all rfl) :
    wpAny (model prog w) A (subscriptTail value slice (.ref a) (.ref s.heap.objs.size)) Q E { s with heap := s.heap.push { cls := .type "slice", data := .fields #[.int lo t1, .int hi t2, .none] } } := by
  have ho := N.get hm
  have ho' : (s.heap.push { cls := .type "slice", data := .fields #[.int lo t1, .int hi t2, .none] }).get? a = some (baObj b) := Heap.get?_push_of_some _ ho
  have hT : ({ s with heap := s.heap.push { cls := .type "slice", data := .fields #[.int lo t1, .int hi t2, .none] } } : Shared).TypeIs (.ref a) "bytearray" := ba_type (s := { s with heap := _ }) ho'
  have F1 := F.push { cls := .type "slice", data := .fields #[.int lo t1, .int hi t2, .none] }
  have N1 := News.pushKeep N { cls := .type "slice", data := .fields #[.int lo t1, .int hi t2, .none] }
  have N2 := N1.push F1 (baObj (KBy.picked b (some lo) (some hi)))
  have F2 := F1.push (baObj (KBy.picked b (some lo) (some hi)))
  rw [picked_extract b h0 h1] at N2 F2
  refine tail_of_ItemOn ⟨"bytearray", _, BF.slot_getitem.lookup, hT, getItem_meets hT (by decide) BF.slot_getitem BF.entry_getitem (BF.args_getitem _ _) (ba_meets_slice a _ b (.int lo t1) (.int hi t2))
    ⟨ho', Heap.IsSliceOf.new _ _ _ _, by rw [sizeLine_eq]; exact hz, ?_⟩⟩ hs ht
  rw [picked_extract b h0 h1]
  exact h _ _ F2 N2 fun p hp => Heap.lt_size (N1 p hp).1
end

end
section
open PySem.Spec
open PySem.Sem (wp)
section
variable {prog : Program} {w : World} {A₀ A : Around} {s : Shared} {base h₀ g₀ : Heap} {outer : List Env} {L a : Addr} {m : Str → Option Value} {env : Env} {cn : Str} {cs : Scope} {ccd : Value} {news : List (Addr × Obj)} {K : Frag} {p : Program} {loose : List Str} {mean : ExcName → Option Value} {mg mb : Str → Option Value}
    {R : Result → Shared → Prop} {name qual : Str} {params : Arguments} {body : List Stmt} {scope : Scope} {dV kV doc pm cdv ct oc : Value} {an od : Option Addr} {osl : Array (Option Value)} {f : Addr} {args : Args} {binds : List (Str × Value)}
theorem codeC_defK (B : Below A₀ base outer h₀) (F : Fr h₀ L s.heap m) (X₀ : K.In h₀) (N : News h₀ L s.heap news) (T : Top p loose mean mg mb h₀) (hA : A.frames = some (env :: outer)) (hf : env.frame = some L) (hke : env.scope.kind = .function)
    (ho : K.lookup f = some ⟨oc, od, .func (fnOf name qual params body scope dV kV doc pm an cdv ct), osl⟩) (hcd : codeIn K cdv qual = true) (hroom : A.depth < recursionLimit)
    (hbind : BindsTo s (fnOf name qual params body scope dV kV doc pm an cdv ct) args binds) (hloc : ∀ y ∈ binds, scope.names.lookup y.1 = some .local)
    (h : ∀ g L' h₁, Fr h₀ L g m → Fr g L' h₁ (fun y => binds.reverse.lookup y) → News g L' h₁ news → Below A base (env :: outer) g → K.In g → Top p loose mean mg mb g →
      wpC (model prog w) (A.deeper (envOf qual scope L' f cdv)) (execs body (envOf qual scope L' f cdv))
        (fun fl s' => LeaveK h₀ L m g R (match fl with | .ret v => v | _ => .none) s')
        (fun e s' => wpAny (model prog w) (A.deeper (envOf qual scope L' f cdv)) (leaving (envOf qual scope L' f cdv) e) (fun _ s'' => R (.error e) s'') (fun e' s'' => R (.error e') s'') s')
        { s with heap := h₁, toks := s.toks + binds.length })
    (hco : scope.isCoroutine = false) (hgen : scope.isGenerator = false) (hk : scope.kind = .function)
    (hcell : ∀ x ∈ scope.names, x.2 ≠ .cell) : codeC (model prog w) A (.call (.ref f) args) R s := by
  have X := X₀.keeps F.keep
  obtain ⟨FG, BG, st, lv⟩ := groundX (R := R) B F N hA hf hke
  refine codeC_call_def (fd := fnOf name qual params body scope dV kV doc pm an cdv ct) (body := body) (binds := binds) hroom (X _ _ ho) rfl (T.nolimit.keeps F.keep) (codeRec_of X hcd) rfl hbind hcell hloc (fun h₁ hns hk₁ => ?_) hco hgen hk
  exact wpC_mono (h _ s.heap.objs.size h₁ FG ⟨hns, fun b o e => hk₁ b o (of_hideAll _ e), Nat.le_of_eq (hideAll_size _ _)⟩
    (fun p hp => ⟨hk₁ _ _ (N p hp).1, Nat.ne_of_lt (Heap.lt_size (N p hp).1), hideAll_none _ (List.mem_map_of_mem hp)⟩) BG (X₀.keeps st) (T.keeps st)) (fun fl s' hl => lv _ _ hl) fun _ _ y => y

theorem codeC_defS0 (B : Below A₀ base [] h₀) (F : Fr h₀ L s.heap m) (X₀ : K.In h₀) (N : News h₀ L s.heap news) (T : Top p loose mean mg mb h₀) (hA : A.frames = some [envOf cn cs L a ccd])
    (ho : K.lookup f = some ⟨oc, od, .func (fnOf name qual params body scope dV kV doc pm an cdv ct), osl⟩) (hcd : codeIn K cdv qual = true) (hroom : A.depth < recursionLimit)
    (hbind : BindsTo s (fnOf name qual params body scope dV kV doc pm an cdv ct) args binds) (hloc : ∀ y ∈ binds, scope.names.lookup y.1 = some .local)
    (h : ∀ g L' h₁, Fr h₀ L g m → Fr g L' h₁ (fun y => binds.reverse.lookup y) → News g L' h₁ news → Below A base [envOf cn cs L a ccd] g → K.In g → Top p loose mean mg mb g → KtsDicts ([envOf cn cs L a ccd].filterMap (·.frame)) g →
      wpC (model prog w) (A.deeper (envOf qual scope L' f cdv)) (execs body (envOf qual scope L' f cdv))
        (fun fl s' => LeaveS0 ([envOf cn cs L a ccd].filterMap (·.frame)) h₀ L m g R (match fl with | .ret v => v | _ => .none) s')
        (fun e s' => wpAny (model prog w) (A.deeper (envOf qual scope L' f cdv)) (leaving (envOf qual scope L' f cdv) e) (fun _ s'' => R (.error e) s'') (fun e' s'' => R (.error e') s'') s')
        { s with heap := h₁, toks := s.toks + binds.length })
    (hck : cs.kind = .function) (hco : scope.isCoroutine = false) (hgen : scope.isGenerator = false) (hk : scope.kind = .function)
    (hcell : ∀ x ∈ scope.names, x.2 ≠ .cell) : codeC (model prog w) A (.call (.ref f) args) R s := by
  have X := X₀.keeps F.keep
  refine codeC_call_def (fd := fnOf name qual params body scope dV kV doc pm an cdv ct) (body := body) (binds := binds) hroom (X _ _ ho) rfl (T.nolimit.keeps F.keep) (codeRec_of X hcd) rfl hbind hcell hloc (fun h₁ hns hk₁ => ?_) hco hgen hk
  obtain ⟨oL, es, ep, hLg, hLd, hN, hNs, st, B₂⟩ := kts_enter B F N hA hck
  refine wpC_mono (h _ s.heap.objs.size h₁ ⟨hN _ hLg, st, F.above⟩ ⟨hns, fun b o e => hk₁ b o (of_hideAll _ e), Nat.le_of_eq (hideAll_size _ _)⟩
    (fun p hp => ⟨hk₁ _ _ (N p hp).1, Nat.ne_of_lt (Heap.lt_size (N p hp).1), hideAll_none _ (List.mem_map_of_mem hp)⟩) B₂ (X₀.keeps st) (T.keeps st) (fun b hb => by
      rcases kts_mem hb with rfl | z
      · exact ⟨oL, es, ep, hLg, hLd⟩
      · simp at z)) (fun fl s' hl => ?_) fun _ _ y => y
  obtain ⟨g', L', m', news', T', F', N', k⟩ := hl
  have nL₀ : h₀.get? L = none := kts_self F
  obtain ⟨sl, hs⟩ := T'.up hLg
  refine k ⟨hNs sl _ (F'.keep _ _ hs), fun b o e => F'.keep b o (T'.other b o (st b o e) (fun q => by
    rcases kts_mem q with z | z
    · rw [z, nL₀] at e
      cases e
    · simp at z)), F.above⟩ fun p hp => ⟨(N' p hp).1, fun q => ?_, ?_⟩
  · have := (N' p hp).2.2; rw [q, hs] at this; cases this
  · cases q : h₀.get? p.1 with
    | none => rfl
    | some o =>
      obtain ⟨sl', hs'⟩ := T'.up (st _ _ q)
      have := (N' p hp).2.2
      rw [hs'] at this
      cases this
theorem wpC_Assign_Attr {M : Model} {A : Around} {E : Value → Shared → Prop} {s : Shared} {env : Env} {o : Expr} {attr : Str} {pos' : Pos} {value : Expr} {pos : Pos} {Q : Flow → Shared → Prop}
    (h : wpC M A (eval value env) (fun v s₁ => wpAny M A (eval o env) (fun ov s₂ => wpAny M A (setAttr ov attr v) (fun _ s₃ => Q .next s₃) E s₂) E s₁) E s)
    (hs : swapsWith value (some (.Attribute o attr pos')) pos.line env = pure false := by rfl) :
    wpC M A (exec (.Assign [.Attribute o attr pos'] value pos) env) Q E s := fun Γ p hΓ hC => by
  simp only [plainObj_exec_Assign_Attribute o attr pos' value pos hs, assign_Attribute, Sem.wp_bind', Sem.wp_holding, Sem.wp_cmd_standAt, Sem.wp_release, Sem.wp_pure']
  exact Sem.wp_mono M Γ _ (fun v p₁ s₁ h₁ => Sem.wp_mono M Γ _ (fun ov _ s₂ h₂ => h₂ Γ _ hΓ) (fun _ _ _ h' => h') _ _ (h₁ Γ p₁ hΓ)) (fun _ _ _ h' => h') _ _ (h Γ _ hΓ hC)
theorem wpC_Assign_Subscript {M : Model} {A : Around} {E : Value → Shared → Prop} {s : Shared} {env : Env} {o i : Expr} {pos' : Pos} {value : Expr} {pos : Pos} {Q : Flow → Shared → Prop}
    (h : wpAny M A (eval value env) (fun v s₁ => wpAny M A (eval o env) (fun ov s₂ => wpAny M A (eval i env) (fun iv s₃ =>
      wpC M A (setItem ov iv v) (fun _ => Q .next) E s₃) E s₂) E s₁) E s)
    (hs : swapsWith value (some (.Subscript o i pos')) pos.line env = pure false := by rfl) :
    wpC M A (exec (.Assign [.Subscript o i pos'] value pos) env) Q E s := fun Γ p hΓ hC => by
  simp only [exec_Assign_Subscript o i pos' value pos hs, assign_Subscript, Sem.wp_bind', Sem.wp_holding, Sem.wp_cmd_standAt, Sem.wp_release, Sem.wp_pure']
  exact Sem.wp_mono M Γ _ (fun v p₁ s₁ h₁ => Sem.wp_mono M Γ _ (fun ov p₂ s₂ h₂ => Sem.wp_mono M Γ _ (fun iv _ s₃ h₃ => h₃ Γ _ hΓ hC)
    (fun _ _ _ h' => h') _ _ (h₂ Γ p₂ hΓ)) (fun _ _ _ h' => h') _ _ (h₁ Γ p₁ hΓ)) (fun _ _ _ h' => h') _ _ (h Γ _ hΓ)
end

end
section
open PySem.Spec
open PySem.Sem (wp)
section
variable {M : Model} {A : Around} {E : Value → Shared → Prop} {s : Shared} {env : Env}
theorem wpC_IfExp {test body orelse : Expr} {pos : Pos} {Q : Value → Shared → Prop}
    (h : wpC M A (isTrue test env (eval test env)) (fun b s₁ => if b then wpC M A (eval body env) Q E s₁ else wpC M A (eval orelse env) Q E s₁) E s) :
    wpC M A (eval (.IfExp test body orelse pos) env) Q E s := by
  rw [arm_eval_IfExp]
  refine wpC_bind (wpC_mono h (fun b s₁ h₁ => ?_) fun _ _ x => x)
  cases b <;> exact h₁
theorem callWithC_type0 {pos : Pos} {T : String} {Q : Value → Shared → Prop} (h : wpC M A (call (.type T) []) Q E s) :
    wpC M A (callWith pos (.type T) [] (backTo pos (starEach [] env)) (backToKw pos (keywordEach [] env))) Q E s :=
  callWithC_of (P := fun _ => True) rfl (fun h _ => ⟨.machine, .inr (.inl rfl), Looks.of_pure (by first | rfl | kernel_rfl)⟩) (wpC_any (evalArgs_nil3 ⟨trivial, h⟩))
theorem ktr_le {α : Type} {t : Sem α} {Q : α → Shared → Prop} {dp un dp' un' : Nat} {gd : Option (List Code)} {cn : Str} {cs : Scope} {L a : Addr} {ccd : Value} {cl : List (Str × Addr)} {outer : List Env}
    (h : wpAny M (ktrTop dp un gd cn cs L a ccd cl outer) t Q E s) (h1 : dp' ≤ dp) (h2 : un' ≤ un) : wpAny M (ktrTop dp' un' gd cn cs L a ccd cl outer) t Q E s :=
  fun Γ p hΓ => h Γ p ⟨hΓ.1, Nat.le_trans hΓ.2.1 h1, hΓ.2.2.1, hΓ.2.2.2.1, Nat.le_trans hΓ.2.2.2.2 h2⟩
theorem ktrC_le {α : Type} {t : Sem α} {Q : α → Shared → Prop} {dp un dp' un' : Nat} {gd : Option (List Code)} {cn : Str} {cs : Scope} {L a : Addr} {ccd : Value} {cl : List (Str × Addr)} {outer : List Env}
    (h : wpC M (ktrTop dp un gd cn cs L a ccd cl outer) t Q E s) (h1 : dp' ≤ dp) (h2 : un' ≤ un) : wpC M (ktrTop dp' un' gd cn cs L a ccd cl outer) t Q E s :=
  fun Γ p hΓ hC => h Γ p ⟨hΓ.1, Nat.le_trans hΓ.2.1 h1, hΓ.2.2.1, hΓ.2.2.2.1, Nat.le_trans hΓ.2.2.2.2 h2⟩ hC
end

end
section
open PySem.Spec
open PySem.Sem (wp)
section
variable {M : Model} {A : Around} {E : Value → Shared → Prop} {s : Shared} {env : Env}
theorem callWithC_builtin {pos : Pos} {id : String} {first : List Value} {args : List (Bool × Sem Value)} {Q : Value → Shared → Prop} (hplain : args.any (·.1) = false)
    (h : wpC M A (evalArgs (.builtin id) true args []) (fun a s₁ => wpC M A (call (.builtin id) (first ++ a.pos) a.kw) Q E s₁) E s) :
    wpC M A (callWith pos (.builtin id) first args []) Q E s := by
  unfold callWith
  refine wpC_bind (wpC_holding (wpC_mono h (fun a s₁ h₁ => wpC_standAt ?_) fun _ _ x => x))
  simp only [hplain, List.any_nil, Bool.or_false]
  refine wpC_bind (wpC_pure ?_)
  exact wpC_bind (wpC_mono h₁ (fun r s₂ hr => wpC_any (wpAny_bind (wpAny_holding (wpAny_point (wpAny_pure hr))))) fun _ _ x => x)
theorem callWithC_builtin2 {pos : Pos} {id : String} {first : List Value} {e₁ e₂ : Expr} {Q : Value → Shared → Prop}
    (h : wpAny M A (eval e₁ env) (fun v₁ s₁ => wpC M A (eval e₂ env) (fun v₂ s₂ => wpC M A (call (.builtin id) (first ++ [v₁, v₂])) Q E s₂) E s₁) E s)
    (he : starEach [e₁, e₂] env = [(false, eval e₁ env), (false, eval e₂ env)] := by rfl) :
    wpC M A (callWith pos (.builtin id) first (backTo pos (starEach [e₁, e₂] env)) (backToKw pos (keywordEach [] env))) Q E s := by
  rw [he]
  refine callWithC_builtin rfl (evalArgsC_plain (splicedC_cons (wpC_any (wpAny_mono h (fun v s₁ h₁ => ?_) fun _ _ x => x))))
  exact splicedC_cons (wpC_mono h₁ (fun v₂ s₂ h₂ => splicedC_nil h₂) fun _ _ x => x)
theorem callWithC_K1 {K : Frag} {h₀ : Heap} {pos : Pos} {f : Value} {first : List Value} {Q : Value → Shared → Prop} {e : Expr} (X : K.In h₀) (hk : keepIn K f = true)
    (h : wpC M A (eval e env) (fun v s₁ => K.In s₁.heap ∧ wpC M A (call f (first ++ [v])) Q E s₁) E s)
    (he : starEach [e] env = [(false, eval e env)] := by rfl) :
    wpC M A (callWith pos f first (backTo pos (starEach [e] env)) (backToKw pos (keywordEach [] env))) Q E s := by
  refine callWithC_K X hk ?_ he rfl
  rw [he]
  exact splicedC_cons (wpC_mono h (fun v s₁ h₁ => splicedC_nil h₁) fun _ _ x => x)
theorem callWithC_K2 {K : Frag} {h₀ : Heap} {pos : Pos} {f : Value} {first : List Value} {Q : Value → Shared → Prop} {e e₂ : Expr} (X : K.In h₀) (hk : keepIn K f = true)
    (h : wpC M A (eval e env) (fun v s₁ => wpC M A (eval e₂ env) (fun v₂ s₂ => K.In s₂.heap ∧ wpC M A (call f (first ++ [v, v₂])) Q E s₂) E s₁) E s)
    (he : starEach [e, e₂] env = (false, eval e env) :: starEach [e₂] env := by rfl) (he' : starEach [e₂] env = [(false, eval e₂ env)] := by rfl) :
    wpC M A (callWith pos f first (backTo pos (starEach [e, e₂] env)) (backToKw pos (keywordEach [] env))) Q E s := by
  refine callWithC_K X hk ?_ he (by rw [he']; rfl)
  rw [he, he']
  exact splicedC_cons (wpC_mono h (fun v s₁ h₁ => splicedC_cons (wpC_mono h₁ (fun v s₁ h₁ => splicedC_nil h₁) fun _ _ x => x)) fun _ _ x => x)
end

end
section
open PySem.Spec
open PySem.Sem (wp)
section
variable {M : Model} {A : Around} {E : Value → Shared → Prop} {s : Shared} {env : Env}
theorem wpC_isTrue_Not {x : Expr} {p : Pos} {whole : Sem Value} {Q : Bool → Shared → Prop} (h : wpC M A (isTrue x env (eval x env)) (fun b s₁ => Q (!b) s₁) E s) :
    wpC M A (isTrue (.UnaryOp .Not x p) env whole) Q E s := by
  rw [show isTrue (.UnaryOp .Not x p) env whole = (do return !(← isTrue x env (eval x env))) from rfl]
  exact wpC_bind (wpC_mono h (fun b s₁ h₁ => wpC_pure h₁) fun _ _ e => e)
theorem wpC_isTrue_Call {f : Expr} {args : List Expr} {kws : List Keyword} {p : Pos} {Q : Bool → Shared → Prop}
    (h : wpC M A (eval (.Call f args kws p) env) (fun v s₁ => wpAny M A (truthy v) Q E s₁) E s) :
    wpC M A (isTrue (.Call f args kws p) env (eval (.Call f args kws p) env)) Q E s := by
  rw [show isTrue (.Call f args kws p) env (eval (.Call f args kws p) env) = (do let v ← eval (.Call f args kws p) env; standAt (Expr.Call f args kws p).pos; holding [v] (truthy v)) from rfl]
  exact wpC_bind (wpC_mono h (fun v s₁ h₁ => wpC_standAt (wpC_holding (wpC_any h₁))) fun _ _ e => e)
theorem wpC_And2 {e₁ e₂ : Expr} {pos : Pos} {Q : Value → Shared → Prop}
    (h : wpC M A (eval e₁ env) (fun v s₁ => wpAny M A (truthy v) (fun b s₂ => if b then wpC M A (eval e₂ env) Q E s₂ else Q v s₂) E s₁) E s) :
    wpC M A (eval (.BoolOp .And [e₁, e₂] pos) env) Q E s := by
  rw [show eval (.BoolOp .And [e₁, e₂] pos) env = boolOp pos .And [eval e₁ env, eval e₂ env] from rfl]
  unfold boolOp
  refine wpC_bind (wpC_mono h (fun v s₁ h₁ => wpC_standAt (wpC_bindA (wpAny_holding (wpAny_mono h₁ (fun b s₂ h₂ => ?_) fun _ _ e => e)))) fun _ _ e => e)
  cases b
  · exact wpC_pure h₂
  · exact h₂
theorem callWithC_K4 {K : Frag} {h₀ : Heap} {pos : Pos} {f : Value} {first : List Value} {Q : Value → Shared → Prop} {e₁ e₂ e₃ e₄ : Expr} (X : K.In h₀) (hk : keepIn K f = true)
    (h : wpAny M A (eval e₁ env) (fun v₁ s₁ => wpAny M A (eval e₂ env) (fun v₂ s₂ => wpAny M A (eval e₃ env) (fun v₃ s₃ => wpAny M A (eval e₄ env) (fun v₄ s₄ => K.In s₄.heap ∧ wpC M A (call f (first ++ [v₁, v₂, v₃, v₄])) Q E s₄) E s₃) E s₂) E s₁) E s)
    (he : starEach [e₁, e₂, e₃, e₄] env = (false, eval e₁ env) :: starEach [e₂, e₃, e₄] env := by rfl) (he' : starEach [e₂, e₃, e₄] env = [(false, eval e₂ env), (false, eval e₃ env), (false, eval e₄ env)] := by rfl) :
    wpC M A (callWith pos f first (backTo pos (starEach [e₁, e₂, e₃, e₄] env)) (backToKw pos (keywordEach [] env))) Q E s := by
  refine callWithC_K X hk ?_ he (by rw [he']; rfl)
  rw [he, he']
  exact splicedC_cons (wpC_any (wpAny_mono h (fun v s₁ h₁ => splicedC_cons (wpC_any (wpAny_mono h₁ (fun v s₂ h₂ => splicedC_cons (wpC_any (wpAny_mono h₂ (fun v s₃ h₃ =>
    splicedC_cons (wpC_any (wpAny_mono h₃ (fun v s₄ h₄ => splicedC_nil h₄) fun _ _ x => x))) fun _ _ x => x))) fun _ _ x => x))) fun _ _ x => x))
theorem wpC_runOwn {c : Code} {h : Option Value} {Q : Flow → Shared → Prop} (hn : notDec c = true)
    (hc : codeC M (A.mark h) c (fun r s' => match r with | .ok f => Q f s' | .error _ => False) s) (hnb : h ≠ some byPass := by intro x; cases x) :
    wpC M A (runOwn c env h) Q E s := by
  unfold runOwn
  refine wpC_onRaise (wpC_run hn (codeC_mono hc fun r s' z => ?_) hnb)
  cases r with
  | ok f => exact z
  | error e => exact z.elim
theorem wpC_For {target iter body orelse pos} {Q : Flow → Shared → Prop}
    (h : wpAny M A (eval iter env) (fun x s₁ => wpAny M A (pyIter x) (fun it s₂ =>
      codeC M A (.forLoop target it body orelse env) (fun r s' => match r with | .ok f => Q f s' | .error _ => False) s₂) E s₁) E s)
    (hs : ∀ x, foldedSetIterable iter env x = pure x := by intro _; rfl) :
    wpC M A (exec (.For target iter body orelse pos) env) Q E s := by
  rw [exec_For]
  refine wpC_bindA (wpAny_standAt ?_)
  refine wpC_bindA (wpAny_mono h (fun x s₁ h₁ => ?_) fun _ _ e => e)
  refine wpC_bindA (wpAny_of_eq (hs x) ?_)
  refine wpC_bindA (wpAny_standAt ?_)
  refine wpC_bindA (wpAny_holding (wpAny_mono h₁ (fun it s₂ h₂ => ?_) fun _ _ e => e))
  exact wpC_runOwn rfl h₂
end
section
variable {prog : Program} {w : World} {A : Around} {E : Value → Shared → Prop} {s : Shared} {env : Env}
theorem codeC_forName {R : Result → Shared → Prop} {x : Str} {px : Pos} {it : Value} {body : List Stmt} (I : Nat → Shared → Prop)
    (turn : ∀ n s, I n s → wpAny (model prog w) A (pyNext it) (fun r s₁ => match r with
      | none => R (.ok .next) s₁
      | some v => wpAny (model prog w) A (storeName env x v) (fun _ s₂ => wpC (model prog w) A (execs body env) (fun f s₃ => match f with
          | .next | .cont => ∃ m, m < n ∧ I m s₃
          | .brk => R (.ok .next) s₃
          | .ret v => R (.ok (.ret v)) s₃) (fun _ _ => False) s₂) (fun _ _ => False) s₁) (fun _ _ => False) s)
    (n : Nat) (h : I n s) (ht : ∀ v, letOwnedTupleGo (.Name x px) it v = pure () := by intro _; rfl) : codeC (model prog w) A (.forLoop (.Name x px) it body [] env) R s := by
  refine codeC_loop rfl rfl I (fun n s hI => ?_) n h
  show wpC _ _ ((forTurn (.Name x px) it body [] env).onRaise (fun x => do noteFrame x env; theTreesLotGoes x)) _ _ s
  refine wpC_onRaise (E := _) (wpC_mono (E := fun _ _ => False) (Q := _) ?_ (fun _ _ z => z) fun _ _ z => z.elim)
  simp only [forTurn]
  refine wpC_bindA (wpAny_standAt (wpC_bindA (wpAny_onRaise (wpAny_mono (turn n s hI) (fun r s₁ h₁ => ?_) fun _ _ h' => h'.elim))))
  cases r with
  | none => exact wpC_pure (.inr ⟨rfl, rfl, codeC_any (codeAny_block (wpAny_execs_nil h₁))⟩)
  | some v =>
    refine wpC_bindA (wpAny_of_eq (ht v) ?_)
    refine wpC_bindA (wpAny_assign_Name (wpAny_mono h₁ (fun _ s₂ h₂ => ?_) fun _ _ h' => h'))
    refine wpC_bind (wpC_mono h₂ (fun f s₃ h₃ => ?_) fun _ _ h' => h')
    cases f with
    | next => exact wpC_pure (.inl ⟨rfl, h₃⟩)
    | cont => exact wpC_pure (.inl ⟨rfl, h₃⟩)
    | brk => exact wpC_pure h₃
    | ret v => exact wpC_pure h₃
theorem enterC {R : Result → Shared → Prop} {name : Str} {params : Arguments} {body : List Stmt} {scope : Scope}
    {dV kV pm cd doc : Value} {a : Addr} {o : Obj} {args : Args} {binds : List (Str × Value)}
    (hroom : A.depth < recursionLimit) (ho : s.heap.get? a = some o) (hdata : o.data = .func { docDef name params body scope pm cd doc with defaults := dV, kwdefaults := kV }) (hlim : s.heap.NoLimit) (hcd : s.heap.CodeRec cd name)
    (hbind : BindsTo s { docDef name params body scope pm cd doc with defaults := dV, kwdefaults := kV } args binds)
    (hloc : ∀ x ∈ binds, scope.names.lookup x.1 = some .local)
    (h : ∀ h₁, Fr s.heap s.heap.objs.size h₁ (fun x => binds.reverse.lookup x) →
      wpC (model prog w) (A.deeper (envOf name scope s.heap.objs.size a cd)) (execs body (envOf name scope s.heap.objs.size a cd))
        (fun f s' => R (.ok (.ret (match f with | .ret v => v | _ => .none))) s') (fun _ _ => False) { s with heap := h₁, toks := s.toks + binds.length })
    (hco : scope.isCoroutine = false := by rfl) (hgen : scope.isGenerator = false := by rfl) (hk : scope.kind = .function := by rfl)
    (hcell : ∀ x ∈ scope.names, x.2 ≠ .cell := by decide) :
    codeC (model prog w) A (.call (.ref a) args) R s :=
  codeC_call_def hroom ho hdata hlim hcd rfl hbind hcell hloc (fun h₁ hns hkeep => wpC_mono (h h₁ ⟨hns, hkeep, Nat.le_refl _⟩) (fun _ _ z => z) fun _ _ z => z.elim) hco hgen hk
/-- a for over a list of ints on the ledger, its body in C: the names x and y turn -/
theorem forC {Q : Flow → Shared → Prop} {h₀ : Heap} {m : Str → Option Value} {news : List (Addr × Obj)} {x y : Str} {px pos : Pos} {iter : Expr} {body : List Stmt} {l : Addr} {lo : Obj} {vs : List Value} {ns : List Int}
    (hh : A.handled = none) (hx : env.kindOf x = some .local) (hp : (env.scope.kind == .class || (env.scope.kind == .module && env.locals != env.globals)) = false)
    (F : Fr h₀ env.locals s.heap m) (N : News h₀ env.locals s.heap news) (hl : (l, lo) ∈ news) (hlo : ∀ h : Heap, h.get? l = some lo → h.IsList l vs.toArray) (hi : IntsAre vs ns)
    (hev : ∀ {Q : Value → Shared → Prop}, Q (.ref l) s → wpAny (model prog w) A (eval iter env) Q E s)
    (turn : ∀ n t yv h tk I oI, n ∈ ns → Fr h₀ env.locals h (fun z => if z = x then some (.int n t) else if z = y then yv else m z) → News h₀ env.locals h ((I, oI) :: news) →
      wpC (model prog w) A (execs body env) (fun f s' => f = .next ∧ ∃ h' tk' xv yv', s' = { s with heap := h', toks := tk' } ∧ Fr h₀ env.locals h' (fun z => if z = x then xv else if z = y then yv' else m z) ∧ News h₀ env.locals h' ((I, oI) :: news)) (fun _ _ => False) { s with heap := h, toks := tk })
    (done : ∀ xv yv h tk, Fr h₀ env.locals h (fun z => if z = x then xv else if z = y then yv else m z) → News h₀ env.locals h news → Q .next { s with heap := h, toks := tk })
    (hs : ∀ x, foldedSetIterable iter env x = pure x := by intro _; rfl) :
    wpC (model prog w) A (exec (.For (.Name x px) iter body [] pos) env) Q E s := by
  have hls : s.heap.IsList l vs.toArray := hlo _ (N _ hl).1
  have hol := (N _ hl).1
  have hlt : l < s.heap.objs.size := Heap.lt_size hol
  refine wpC_For (hev (wpAny_pyIter_list hls ?_)) hs
  have W := Walks.list (prog := prog) (w := w) hh s.heap.objs.size l (Nat.ne_of_lt hlt) vs.toArray
  have hlen : vs.toArray.size = ns.length := by simp [hi.length]
  rw [hlen] at W
  have hLne : env.locals ≠ s.heap.objs.size := Nat.ne_of_lt F.ns.lt
  have hIn : h₀.get? s.heap.objs.size = none := by
    cases q : h₀.get? s.heap.objs.size with
    | none => rfl
    | some o => exact absurd (Nat.lt_of_lt_of_le (Heap.lt_size q) (Nat.le_of_lt (Nat.lt_of_le_of_lt F.above F.ns.lt))) (Nat.lt_irrefl _)
  have mself : ∀ (m : Str → Option Value), (fun z => if z = x then m x else if z = y then m y else m z) = m := fun m => by
    funext z
    split
    · next h => rw [h]
    · split
      · next h => rw [h]
      · rfl
  refine codeC_forName (fun k s' => ∃ h' tk xv yv i, s' = { s with heap := h', toks := tk } ∧ h'.IsListIter s.heap.objs.size l i ∧ Fr h₀ env.locals h' (fun z => if z = x then xv else if z = y then yv else m z) ∧ News h₀ env.locals h' news ∧ i ≤ ns.length ∧ k = ns.length + 1 - i) ?_ (ns.length + 1)
    ⟨_, _, m x, m y, 0, rfl, ⟨_, Heap.get?_push_size _ rfl, rfl, rfl⟩, by rw [mself]; exact F.push _, fun p hp => ⟨Heap.get?_push_of_some _ (N p hp).1, (N p hp).2⟩, Nat.zero_le _, rfl⟩
  rintro k s' ⟨h', tk, xv, yv, i, rfl, hit, F', N', hi', rfl⟩
  have hoff : ∀ q ∈ news, q.1 ≠ s.heap.objs.size := fun q hq e => absurd (Heap.lt_size (N q hq).1) (by rw [e]; exact Nat.lt_irrefl _)
  have next : ∀ h₁ : Heap, (∀ b o, b ∉ [s.heap.objs.size] → h'.get? b = some o → h₁.get? b = some o) → Fr h₀ env.locals h₁ (fun z => if z = x then xv else if z = y then yv else m z) ∧ News h₀ env.locals h₁ news := fun h₁ hk₁ =>
    ⟨⟨F'.ns.at' fun o e => hk₁ _ o (by simpa using hLne) e, fun b o e => hk₁ b o (fun hb => by rw [List.mem_singleton.mp hb, hIn] at e; cases e) (F'.keep b o e), F'.above⟩,
      fun p hp => ⟨hk₁ _ _ (by simpa using hoff p hp) (N' p hp).1, (N' p hp).2⟩⟩
  by_cases hlt' : i < ns.length
  · refine W.item i _ _ _ hlt' ⟨hit, hlo _ (N' _ hl).1⟩ fun v h₁ tk₁ hP hst₁ hk₁ => ?_
    obtain ⟨F₁, N₁⟩ := next h₁ hk₁
    obtain ⟨t, hxi⟩ := hi.get i ns[i] (by simp [hlt'])
    have hv : v = .int ns[i] t := by
      have hP' : vs[i]? = some v := by simpa using hP
      rw [hxi] at hP'; exact (Option.some.inj hP').symm
    subst hv
    obtain ⟨oI, hoI, hcI, hdI⟩ := hst₁.1
    refine wpAny_storeName_local hx F₁.ns (fun h₂ hn₂ hs₂ => ?_) hp
    have F₂ := F₁.set hn₂ hs₂
    have e : (fun z => if z = x then some (Value.int ns[i] t) else if z = x then xv else if z = y then yv else m z) = fun z => if z = x then some (Value.int ns[i] t) else if z = y then yv else m z := by
      funext z
      by_cases h1 : z = x <;> simp [h1]
    rw [e] at F₂
    have NI : News h₀ env.locals h₂ ((s.heap.objs.size, oI) :: news) := fun p hp => by
      rcases List.mem_cons.mp hp with rfl | hp
      · exact ⟨(hs₂.2 _ (Ne.symm hLne)).trans hoI, Ne.symm hLne, hIn⟩
      · exact (N₁.set hs₂) p hp
    refine wpC_mono (turn ns[i] t yv h₂ _ s.heap.objs.size oI (List.getElem_mem hlt') F₂ NI) (fun f s₃ h₃ => ?_) fun _ _ z => z
    obtain ⟨rfl, h₄, tk₄, xv', yv', rfl, F₄, N₄⟩ := h₃
    exact ⟨ns.length + 1 - (i + 1), by omega, h₄, tk₄, xv', yv', i + 1, rfl, ⟨oI, (N₄ _ (.head _)).1, hcI, hdI⟩, F₄, fun p hp => N₄ p (.tail _ hp), hlt', rfl⟩
  · have hin : i = ns.length := by omega
    subst hin
    refine W.done _ _ _ ⟨hit, hlo _ (N' _ hl).1⟩ fun h₁ tk₁ hk₁ => ?_
    obtain ⟨F₁, N₁⟩ := next h₁ hk₁
    exact done xv yv h₁ tk₁ F₁ N₁
end

end
section
open PySem.Spec
inductive BsAre : List Value → List (Array UInt8) → Prop
  | nil : BsAre [] []
  | cons (b : Array UInt8) (t : Tok) {vs : List Value} {bs : List (Array UInt8)} : BsAre vs bs → BsAre (.bytes b t :: vs) (b :: bs)
theorem BsAre.append {vs vs' : List Value} {bs bs' : List (Array UInt8)} (h : BsAre vs bs) (h' : BsAre vs' bs') : BsAre (vs ++ vs') (bs ++ bs') := by
  induction h with
  | nil => exact h'
  | cons b t _ ih => exact .cons b t ih
theorem BsAre.length {vs : List Value} {bs : List (Array UInt8)} (h : BsAre vs bs) : vs.length = bs.length := by
  induction h with
  | nil => rfl
  | cons b t _ ih => simp [ih]
theorem BsAre.drop {vs : List Value} {bs : List (Array UInt8)} (h : BsAre vs bs) : ∀ n, BsAre (vs.drop n) (bs.drop n) := by
  induction h with
  | nil => intro n; simp; exact .nil
  | cons b t h ih => intro n; cases n with
    | zero => exact .cons b t h
    | succ n => exact ih n
theorem BsAre.take {vs : List Value} {bs : List (Array UInt8)} (h : BsAre vs bs) : ∀ n, BsAre (vs.take n) (bs.take n) := by
  induction h with
  | nil => intro n; simp; exact .nil
  | cons b t h ih => intro n; cases n with
    | zero => exact .nil
    | succ n => exact .cons b t (ih n)
section
variable {prog : Program} {w : World} {A : Around} {h₀ : Heap} {L : Addr} {m : Str → Option Value} {env : Env} {elt : Expr} {x : Str} {scope : Scope} {cl : List (Str × Addr)} {s : Shared} {S : List (Addr × Obj) → Prop} {P : Nat → Value → Prop} {Fin : List Value → List (Addr × Obj) → Prop} {news : List (Addr × Obj)}
def KbsEl (news : List (Addr × Obj)) (b : Array UInt8) (y : Value) (news' : List (Addr × Obj)) : Prop := news' = news ∧ ∃ t : Tok, y = .bytes b t
theorem kbs_rest {n : Nat} {ks : List Int} (g : Int → Array UInt8) (hks : ks.length = n) (hP : ∀ i v, i < n → P i v → ∃ k t, ks[i]? = some k ∧ v = .int k t)
    (turn : ∀ k t I oI C oC D m₂ ys h tk (E' : Value → Shared → Prop), k ∈ ks → LCg.NsObj oC m₂ → m₂ x = some (.int k t) → Fr h₀ L h m → News h₀ L h ((I, oI) :: (C, oC) :: (D, LCg.lst ys) :: news) → LCg.Off3 I C D news → ((@Ne Nat I C) ∧ (@Ne Nat I D) ∧ (@Ne Nat C D)) →
      wpAny (model prog w) A (eval elt (compEnvC scope cl C env)) (LCg.CompEnd h₀ L m { s with heap := h, toks := tk } I oI C oC D (LCg.lst ys) S (fun y news' => KbsEl news (g k) y news')) E' { s with heap := h, toks := tk })
    (fin : ∀ ys, BsAre ys (ks.map g) → Fin ys news) : LCg.CompRest prog w A h₀ L m env elt x scope cl s S P Fin n 0 [] news := by
  have key : ∀ (j i : Nat) (ys : List Value), i + j = n → BsAre ys ((ks.take i).map g) → LCg.CompRest prog w A h₀ L m env elt x scope cl s S P Fin j i ys news := by
    intro j
    induction j with
    | zero =>
      intro i ys hi hy
      have e : i = ks.length := by omega
      subst e
      rw [List.take_length] at hy
      exact LCg.CompRest.zero (fin ys hy)
    | succ j ih =>
      intro i ys hi hy
      refine LCg.CompRest.succ ?_
      intro v I oI C oC D m₂ h tk E' hv hC hx F N off ne
      obtain ⟨k, t, hk, hv'⟩ := hP i v (by omega) hv
      rw [hv'] at hx
      refine wpAny_mono (turn k t I oI C oC D m₂ ys h tk E' (List.mem_of_getElem? hk) hC hx F N off ne) (fun y s₂ hq => ?_) fun _ _ e => e
      obtain ⟨h', tk', nw, e, F', N', off', hS, hn, t', hy'⟩ := hq
      rw [hn] at N' off' hS
      refine ⟨h', tk', news, e, F', N', off', hS, ?_⟩
      rw [hy']
      refine ih (i + 1) _ (by omega) ?_
      rw [List.take_add_one, hk]
      simpa using BsAre.append hy (.cons (g k) t' .nil)
  exact key n 0 [] (by omega) (by simp only [List.take_zero, List.map_nil]; exact .nil)
theorem kbs_range {n : Nat} {a : Int} (g : Int → Array UInt8)
    (turn : ∀ k t I oI C oC D m₂ ys h tk (E' : Value → Shared → Prop), a ≤ k → k < a + (n : Int) → LCg.NsObj oC m₂ → m₂ x = some (.int k t) → Fr h₀ L h m → News h₀ L h ((I, oI) :: (C, oC) :: (D, LCg.lst ys) :: news) → LCg.Off3 I C D news → ((@Ne Nat I C) ∧ (@Ne Nat I D) ∧ (@Ne Nat C D)) →
      wpAny (model prog w) A (eval elt (compEnvC scope cl C env)) (LCg.CompEnd h₀ L m { s with heap := h, toks := tk } I oI C oC D (LCg.lst ys) S (fun y news' => KbsEl news (g k) y news')) E' { s with heap := h, toks := tk })
    (fin : ∀ ys, BsAre ys ((rangeKs a n).map g) → Fin ys news) : LCg.CompRest prog w A h₀ L m env elt x scope cl s S (fun i v => ∃ t, v = .int (a + (i : Int)) t) Fin n 0 [] news :=
  kbs_rest (ks := rangeKs a n) g (rangeKs_length a n) (fun i v hi hv => by
    obtain ⟨t, e⟩ := hv
    exact ⟨a + (i : Int), t, by simp [rangeKs, hi], e⟩)
    (fun k t I oI C oC D m₂ ys h tk E' hk hC hx F N off ne => turn k t I oI C oC D m₂ ys h tk E' (mem_rangeKs hk).1 (mem_rangeKs hk).2 hC hx F N off ne) fin
theorem kbs_list {vs : List Value} {ns : List Int} (g : Int → Array UInt8) (hi : IntsAre vs ns)
    (turn : ∀ k t I oI C oC D m₂ ys h tk (E' : Value → Shared → Prop), k ∈ ns → LCg.NsObj oC m₂ → m₂ x = some (.int k t) → Fr h₀ L h m → News h₀ L h ((I, oI) :: (C, oC) :: (D, LCg.lst ys) :: news) → LCg.Off3 I C D news → ((@Ne Nat I C) ∧ (@Ne Nat I D) ∧ (@Ne Nat C D)) →
      wpAny (model prog w) A (eval elt (compEnvC scope cl C env)) (LCg.CompEnd h₀ L m { s with heap := h, toks := tk } I oI C oC D (LCg.lst ys) S (fun y news' => KbsEl news (g k) y news')) E' { s with heap := h, toks := tk })
    (fin : ∀ ys, BsAre ys (ns.map g) → Fin ys news) : LCg.CompRest prog w A h₀ L m env elt x scope cl s S (fun i v => vs.toArray[i]? = some v) Fin vs.toArray.size 0 [] news :=
  kbs_rest (ks := ns) g (by rw [List.size_toArray]; exact hi.length.symm) (fun i v _ hv => by
    obtain ⟨k, t, e, hk⟩ := IntsAre.at hi i v (by simpa using hv)
    exact ⟨k, t, hk, e⟩) turn fin
end
section
variable {prog : Program} {w : World} {A : Around} {E : Value → Shared → Prop} {s : Shared} {value slice : PySem.Expr} {b : Array UInt8} {t : Tok} {h₀ : Heap} {L : Addr} {m : PySem.Str → Option Value} {news : List (Addr × Obj)} {Q : Value → Shared → Prop} {lo hi : Int} {t1 t2 : Tok}
theorem bslice2 (hF : Fr h₀ L s.heap m) (hN : News h₀ L s.heap news) (hz : b.size ≤ 16777216) (h0 : 0 ≤ lo) (h1 : 0 ≤ hi)
    (h : ∀ h' t' k, Fr h₀ L h' m → News h₀ L h' news → Q (.bytes (b.extract lo.toNat hi.toNat) t') { s with heap := h', toks := k })
    (hs : subscripted slice false (.bytes b t) (.ref s.heap.objs.size) = operate [.ref s.heap.objs.size, .bytes b t] (getItem (.bytes b t) (.ref s.heap.objs.size)) := by with_unfolding_all rfl)
    (ht : ∀ r, letTemporaryGo value (.bytes b t) r = pure () := by intro _; with_unfolding_all rfl) :
    wpAny (model prog w) A (subscriptTail value slice (.bytes b t) (.ref s.heap.objs.size)) Q E { s with heap := s.heap.push { cls := .type "slice", data := .fields #[.int lo t1, .int hi t2, .none] } } :=
  KBc.slice_K (ks := KBw.bInts b) (lo := some lo) (hi := some hi) hF hN rfl (by constructor) (by constructor) (by rw [KBw.ints_length]; exact hz) (fun h' t' k F' N' _ => by rw [picked_extract b h0 h1]; exact h h' t' k F' N') hs ht
theorem picked_from (b : Array UInt8) {lo : Int} (h0 : 0 ≤ lo) : KBy.picked b (some lo) none = b.extract lo.toNat b.size := by
  have e := picked_extract b h0 (Int.natCast_nonneg b.size)
  rw [Int.toNat_natCast] at e
  rw [← e, KBc.picked_eq, KBc.picked_eq]
  simp only [Option.elim]
  have e2 : clipAt b.size (b.size : Int) = min b.size b.size := clipAt_nat b.size b.size
  rw [e2, Nat.min_self]
theorem bslice1 (hF : Fr h₀ L s.heap m) (hN : News h₀ L s.heap news) (hz : b.size ≤ 16777216) (h0 : 0 ≤ lo)
    (h : ∀ h' t' k, Fr h₀ L h' m → News h₀ L h' news → Q (.bytes (b.extract lo.toNat b.size) t') { s with heap := h', toks := k })
    (hs : subscripted slice false (.bytes b t) (.ref s.heap.objs.size) = operate [.ref s.heap.objs.size, .bytes b t] (getItem (.bytes b t) (.ref s.heap.objs.size)) := by with_unfolding_all rfl)
    (ht : ∀ r, letTemporaryGo value (.bytes b t) r = pure () := by intro _; with_unfolding_all rfl) :
    wpAny (model prog w) A (subscriptTail value slice (.bytes b t) (.ref s.heap.objs.size)) Q E { s with heap := s.heap.push { cls := .type "slice", data := .fields #[.int lo t1, .none, .none] } } :=
  KBc.slice_K (ks := KBw.bInts b) (lo := some lo) (hi := none) hF hN rfl (by constructor) (by constructor) (by rw [KBw.ints_length]; exact hz) (fun h' t' k F' N' _ => by rw [picked_from b h0]; exact h h' t' k F' N') hs ht
end

end
section
open PySem.Spec
section
variable {prog : Program} {w : World} {A : Around} {E : Value → Shared → Prop} {s : Shared} {a b : Addr} {xs ys : List Value} {bs : List (Array UInt8)} {Q : Value → Shared → Prop} {h₀ : Heap} {L : Addr} {news : List (Addr × Obj)}
theorem BsAre.get {vs : List Value} {bs : List (Array UInt8)} (h : BsAre vs bs) : ∀ j (hj : j < vs.length), ∃ b t, bs[j]? = some b ∧ vs[j] = .bytes b t := by
  induction h with
  | nil => intro j hj; exact absurd hj (Nat.not_lt_zero _)
  | cons b t h ih => intro j hj; cases j with
    | zero => exact ⟨b, t, rfl, rfl⟩
    | succ j => exact ih j (by simpa using hj)
theorem bs_ne_same (ha : s.heap.IsList a xs.toArray) (hb : s.heap.IsList b ys.toArray) (hx : BsAre xs bs) (hy : BsAre ys bs) (hu : A.units < cLine) (h : Q (.bool false) s) :
    wpAny (model prog w) A (compareOp .NotEq (.ref a) (.ref b)) Q E s := by
  refine SeqAt.RcNeAt.lists (e := fun _ => true) ha hb (by simp [hx.length, hy.length]) hu (fun j h1 h2 => ?_) prog w E Q (by
    rw [show (List.range xs.toArray.size).all (fun _ => true) = true from List.all_eq_true.mpr fun _ _ => rfl]; exact h)
  intro prog w E Q hq
  obtain ⟨b1, t1, e1, g1⟩ := hx.get j (by simpa using h1)
  obtain ⟨b2, t2, e2, g2⟩ := hy.get j (by simpa using h2)
  have e : b1 = b2 := by rw [e1] at e2; exact Option.some.inj e2
  subst e
  simp only [List.getElem_toArray, g1, g2]
  exact PySem.W.eqBool_bytes (by simpa using hq)
theorem lst_isList {h : Heap} (N : News h₀ L h news) (hm : (a, LCg.lst xs) ∈ news) : h.IsList a xs.toArray := ⟨_, N.get hm, rfl, _, rfl⟩
theorem bs_ne_K (N : News h₀ L s.heap news) (ha : (a, LCg.lst xs) ∈ news) (hb : (b, LCg.lst ys) ∈ news) (hx : BsAre xs bs) (hy : BsAre ys bs) (hu : A.units < cLine) (h : Q (.bool false) s) :
    wpAny (model prog w) A (compareOp .NotEq (.ref a) (.ref b)) Q E s := bs_ne_same (lst_isList N ha) (lst_isList N hb) hx hy hu h
variable {value slice : PySem.Expr} {m : PySem.Str → Option Value} {x y : Int} {t : Tok} {l : Addr} {its : Array Value}
theorem bs_upto {vs : List Value} (h : 0 ≤ y) : slicePick vs.toArray none (some y) none = (vs.take y.toNat).toArray := by
  have e : sliceBounds none (some y) none vs.toArray.size = (((0 : Nat) : Int), ((min y.toNat vs.toArray.size : Nat) : Int), 1) := by
    simp only [sliceBounds, Option.getD_none, show (1 : Int) > 0 by decide, if_true, if_neg (show ¬ (y < 0) by omega)]
    congr 1
    congr 1
    omega
  rw [kmk_pick_nat _ e]
  show ((vs.drop 0).take (min y.toNat vs.toArray.size - 0)).toArray = _
  rw [List.drop_zero, Nat.sub_zero, List.size_toArray, kmk_take_min]
theorem bs_from {vs : List Value} (h : 0 ≤ x) : slicePick vs.toArray (some x) none none = (vs.drop x.toNat).toArray := by
  have e : sliceBounds (some x) none none vs.toArray.size = (((min x.toNat vs.toArray.size : Nat) : Int), ((vs.toArray.size : Nat) : Int), 1) := by
    simp only [sliceBounds, Option.getD_none, show (1 : Int) > 0 by decide, if_true, if_neg (show ¬ (x < 0) by omega)]
    congr 1
    omega
  rw [kmk_pick_nat _ e]
  show ((vs.drop (min x.toNat vs.toArray.size)).take (vs.toArray.size - min x.toNat vs.toArray.size)).toArray = _
  rw [List.size_toArray, kmk_drop_min, List.take_of_length_le (by rw [List.length_drop]; omega)]
theorem bs_slice_upto {vs : List Value} (F : Fr h₀ L s.heap m) (N : News h₀ L s.heap news) (hm : (l, LCg.lst vs) ∈ news) (hb : BsAre vs bs) (h0 : 0 ≤ y)
    (hz : bs.length ≤ 16777216)
    (h : ∀ D ws h', Fr h₀ L h' m → News h₀ L h' ((D, listOf (List.toArray ws) 0) :: news) → (∀ p ∈ news, p.1 < D) → BsAre ws (bs.take y.toNat) → Q (.ref D) { s with heap := h' })
    (hs : subscripted slice false (.ref l) (.ref s.heap.objs.size) = operate [.ref s.heap.objs.size, .ref l] (getItem (.ref l) (.ref s.heap.objs.size)) := by with_unfolding_all rfl)
    (ht : ∀ r, letTemporaryGo value (.ref l) r = pure () := by intro _; with_unfolding_all rfl) :
    wpAny (model prog w) A (subscriptTail value slice (.ref l) (.ref s.heap.objs.size)) Q E { s with heap := s.heap.push { cls := .type "slice", data := .fields #[.none, .int y t, .none] } } :=
  kmk_slice (lo := none) (hi := some y) F N (lst_isList N hm) (by constructor) (by constructor) (fun D h' F' N' l1 => h D _ h' F' (by rw [bs_upto h0] at N'; exact N') l1 (hb.take _)) hs ht (by rw [List.size_toArray, hb.length, PySem.sizeLine_eq]; exact hz)
theorem bs_slice_from {vs : List Value} (F : Fr h₀ L s.heap m) (N : News h₀ L s.heap news) (hm : (l, LCg.lst vs) ∈ news) (hb : BsAre vs bs) (h0 : 0 ≤ x)
    (hz : bs.length ≤ 16777216)
    (h : ∀ D ws h', Fr h₀ L h' m → News h₀ L h' ((D, listOf (List.toArray ws) 0) :: news) → (∀ p ∈ news, p.1 < D) → BsAre ws (bs.drop x.toNat) → Q (.ref D) { s with heap := h' })
    (hs : subscripted slice false (.ref l) (.ref s.heap.objs.size) = operate [.ref s.heap.objs.size, .ref l] (getItem (.ref l) (.ref s.heap.objs.size)) := by with_unfolding_all rfl)
    (ht : ∀ r, letTemporaryGo value (.ref l) r = pure () := by intro _; with_unfolding_all rfl) :
    wpAny (model prog w) A (subscriptTail value slice (.ref l) (.ref s.heap.objs.size)) Q E { s with heap := s.heap.push { cls := .type "slice", data := .fields #[.int x t, .none, .none] } } :=
  kmk_slice (lo := some x) (hi := none) F N (lst_isList N hm) (by constructor) (by constructor) (fun D h' F' N' l1 => h D _ h' F' (by rw [bs_from h0] at N'; exact N') l1 (hb.drop _)) hs ht (by rw [List.size_toArray, hb.length, PySem.sizeLine_eq]; exact hz)
end

end
section
open PySem.Spec
namespace BF
theorem slot_join : Slot "bytes" "join" "bytes.join" :=
  .of (owner := "bytes") (n := "join") (by rw [typeLookup_type, builtinLookup_eq_fast]; kernel_rfl) (by decide +kernel) (by decide +kernel) (by decide +kernel)
    (by first | exact .inl (by decide +kernel) | exact .inr (by decide +kernel)) (by rw [isSubtype_type]; kernel_rfl)
theorem type_join : typeOf (.builtin "bytes.join") = pure (.type "method_descriptor") := by show builtinType _ = _; rw [builtinType_eq_fast]; kernel_rfl
theorem entry_join : entryFor table "bytes.join" = some Builtin.«bytes.join» := entryFor_of_tree (by kernel_rfl)
theorem args_join (a b : Value) : argsOk "bytes.join" ⟨[a, b], []⟩ := by
  unfold argsOk; rw [signature?_of (id := "bytes.join") (n := ['n', 'i', 'o', 'j']) (o := ['s', 'e', 't', 'y', 'b']) (by kernel_rfl) FB.owner_bytes]; kernel_rfl
end BF
/-- many bytes, glued -/
def glue (bs : List (Array UInt8)) : Array UInt8 := bs.foldl (· ++ ·) #[]
theorem glue_snoc (bs : List (Array UInt8)) (b : Array UInt8) : glue (bs ++ [b]) = glue bs ++ b := by unfold glue; rw [List.foldl_append]; rfl
theorem joined_nil (l : List (Array UInt8 × Nat)) (z : Array UInt8) : l.foldl (fun out (p : Array UInt8 × Nat) => (if p.2 > 0 then out ++ #[] else out) ++ p.1) z = (l.map (·.1)).foldl (· ++ ·) z := by
  induction l generalizing z with
  | nil => rfl
  | cons p l ih =>
    rw [List.foldl_cons, List.map_cons, List.foldl_cons, ih]
    congr 1
    split <;> simp
theorem joined_glue (bs : List (Array UInt8)) : Builtin.Bytes.joined #[] bs = glue bs := by
  unfold Builtin.Bytes.joined glue
  show List.foldl (fun out (p : Array UInt8 × Nat) => (if p.2 > 0 then out ++ #[] else out) ++ p.1) #[] bs.zipIdx = _
  rw [joined_nil, List.zipIdx_map_fst]
theorem BsAre.at {vs : List Value} {bs : List (Array UInt8)} (h : BsAre vs bs) : ∀ i, i < vs.length → ∃ b t, bs[i]? = some b ∧ vs[i]? = some (.bytes b t) := by
  induction h with
  | nil => intro i hi; exact absurd hi (Nat.not_lt_zero _)
  | cons b t h ih => intro i hi; cases i with
    | zero => exact ⟨b, t, rfl, rfl⟩
    | succ i => exact ih i (Nat.lt_of_succ_lt_succ hi)
section
variable {prog : Program} {w : World} {A : Around} {E : Value → Shared → Prop} {s : Shared}
theorem take_eq {id : String} {b : Array UInt8} {t : Tok} : Builtin.Bytes.takeBufferQuiet? id (.bytes b t) 0 = pure (some (b, none)) := by
  unfold Builtin.Bytes.takeBufferQuiet? Builtin.Bytes.takeBuffer?
  rw [KBy.special_eq KBy.look_buffer, KBy.own_buffer, show ((0 : Int) == Builtin.Bytes.fullReadOnly) = false from by decide +kernel, KBy.buffer_eq]
  kernel_rfl
theorem items_at {M : Model} {l : Addr} {xs : Array Value} {Q : Option (Array Value) → Shared → Prop} (hl : s.heap.IsList l xs) (h : Q (some xs) s) : wpAny M A (seqItems? (.ref l)) Q E s := by
  obtain ⟨o, ho, hc, n, hd⟩ := hl
  unfold seqItems?
  refine wpAny_bind (wpAny_load ho ?_)
  rw [hd]
  exact wpAny_pure h
theorem joinLetGo_any {M : Model} {taken : List (Value × Option Value)} (ht : ∀ p ∈ taken, p.2 = none) {keep : List Value} {Q : Unit → Shared → Prop} (h : Q () s) : wpAny M A (Builtin.Bytes.joinLetGo taken keep) Q E s := by
  induction taken with
  | nil => exact wpAny_pure h
  | cons p r ih =>
    obtain ⟨x, u⟩ := p
    obtain rfl : u = none := ht _ (.head _)
    unfold Builtin.Bytes.joinLetGo
    exact wpAny_bind (wpAny_letGo (ih fun p hp => ht p (.tail _ hp)))
theorem if_no {α : Type} {M : Model} {c : Bool} {a b : Sem α} {Q : α → Shared → Prop} (hc : c = false) (h : wpAny M A b Q E s) : wpAny M A (if c = true then a else b) Q E s := by
  subst hc; exact h
theorem one_yes {P : Array Value → Type} (x : Value) (f : (x : Value) → P #[x]) (g : (x : Array Value) → P x) : Builtin.Bytes.joinM.match_1 P #[x] f g = f x := rfl
theorem one_not {P : Array Value → Type} {xs : Array Value} (h : xs.size ≠ 1) (f : (x : Value) → P #[x]) (g : (x : Array Value) → P x) : Builtin.Bytes.joinM.match_1 P xs f g = g xs := by
  unfold Builtin.Bytes.joinM.match_1
  rw [dif_neg h]
theorem jn_meets {l : Addr} {vs : List Value} {bs : List (Array UInt8)} {t : Tok} (hb : BsAre vs bs) (hz : (glue bs).size ≤ 16777216) (hs : bs.foldl (· + ·.size) 0 ≤ 16777216) :
    Meets (Builtin.«bytes.join» ⟨[.bytes #[] t, .ref l], []⟩) (fun _ R s => s.heap.IsList l vs.toArray ∧ ∀ t' k, R (.ok (.ret (.bytes (glue bs) t'))) { s with toks := k }) := by
  refine .of_wp fun prog w A R s hS => ?_
  obtain ⟨hl, h⟩ := hS
  unfold Builtin.«bytes.join» Builtin.Bytes.joinM
  dsimp only
  refine wpAny_bind (wpAny_of_eq (a := (Value.bytes #[] t, Value.ref l)) (by kernel_rfl) ?_)
  dsimp only
  rw [if_pos (by decide)]
  refine wpAny_bind ?_
  unfold Builtin.Bytes.joinItems
  have hT : s.TypeIs (.ref l) "list" := hl.typeIs
  refine wpAny_bind (wpAny_typeOf hT ?_)
  rw [if_pos (by decide)]
  refine wpAny_pure ?_
  refine wpAny_bind (items_at hl ?_)
  dsimp only
  rw [if_pos (by decide)]
  by_cases hn : vs.toArray.size = 1
  · obtain ⟨b, u, rfl, rfl⟩ : ∃ b u, bs = [b] ∧ vs = [.bytes b u] := by
      cases hb with
      | nil => exact absurd hn (by decide)
      | cons b u hb' => cases hb' with
        | nil => exact ⟨b, u, rfl, rfl⟩
        | cons b' u' hb' => simp at hn
    rw [show [Value.bytes b u].toArray = #[Value.bytes b u] from rfl, one_yes]
    refine wpAny_bind (wpAny_typeOf (PySem.W.typeIs_bytes _ _ _) ?_)
    rw [if_pos (by decide)]
    refine wpAny_bind (wpAny_rule ?_)
    have e : glue [b] = b := by unfold glue; simp
    have h' := h u s.toks
    rw [e] at h'
    exact wpAny_of_eq (a := Fin.done (.ret (.bytes b u))) rfl ⟨_, rfl, h'⟩
  · rw [one_not hn]
    refine wpAny_bind ?_
    rw [Std.Legacy.Range.forIn_eq_forIn_range']
    refine wpAny_forIn_list _ (fun rest (c : Array (Array UInt8) × List (Value × Option Value)) s' => s' = s ∧ ∃ k, k ≤ vs.length ∧ rest = List.range' k (vs.length - k) ∧ c.1.toList = bs.take k ∧ (∀ p ∈ c.2, p.2 = none) ∧ c.2.any (fun x => x.1.onHeap) = false) _ ?_ ?_ _ _ ⟨rfl, 0, Nat.zero_le _, by simp [Std.Legacy.Range.size], by simp, (fun _ hp => nomatch hp), rfl⟩
    · rintro x rest ⟨parts, taken⟩ s' ⟨rfl, k, hk, hr, hp, ht, ho⟩
      have hlt : k < vs.length := by
        rcases Nat.lt_or_ge k vs.length with h | h
        · exact h
        · rw [Nat.sub_eq_zero_of_le h] at hr; cases hr
      obtain ⟨n, hn'⟩ : ∃ n, vs.length - k = n + 1 := ⟨vs.length - k - 1, by omega⟩
      rw [hn', List.range'_succ] at hr
      obtain ⟨rfl, hr⟩ := List.cons.inj hr
      obtain ⟨b, u, hbk, hvk⟩ := hb.at x hlt
      have hget : vs.toArray.getD x .none = .bytes b u := by
        rw [Array.getD_eq_getD_getElem?, List.getElem?_toArray, hvk]; rfl
      dsimp only
      refine wpAny_bind (items_at hl ?_)
      dsimp only
      rw [if_neg (by rw [ho]; decide), hget, take_eq]
      refine wpAny_bind (wpAny_holding (wpAny_pure ?_))
      dsimp only
      refine wpAny_bind (items_at hl ?_)
      dsimp only
      rw [if_neg (by simp)]
      refine wpAny_pure ⟨rfl, x + 1, hlt, ?_, ?_, ?_, ?_⟩
      · rw [hr]; congr 1; omega
      · dsimp only
        rw [Array.toList_push, hp, List.take_add_one, hbk]; rfl
      · intro p hp'
        rcases List.mem_append.mp hp' with h | h
        · exact ht p h
        · rw [List.mem_singleton.mp h]
      · dsimp only
        rw [List.any_append, ho]; rfl
    · rintro ⟨parts, taken⟩ s' ⟨rfl, k, hk, hr, hp, ht, ho⟩
      have hkn : k = vs.length := by
        rcases Nat.lt_or_ge k vs.length with h | h
        · obtain ⟨n, hn'⟩ : ∃ n, vs.length - k = n + 1 := ⟨vs.length - k - 1, by omega⟩
          rw [hn', List.range'_succ] at hr; cases hr
        · omega
      subst hkn
      rw [hb.length, List.take_length] at hp
      obtain rfl : parts = bs.toArray := by rw [← hp]
      dsimp only
      refine wpAny_bind ?_
      unfold Builtin.Bytes.payload Builtin.Bytes.payload?
      refine wpAny_bind (wpAny_pure (wpAny_pure ?_))
      have hsum : (bs.toArray.foldl (fun x1 x2 => x1 + x2.size) ((#[] : Array UInt8).size * (bs.toArray.size - 1))) = bs.foldl (· + ·.size) 0 := by simp
      rw [hsum, KBy.tooLong_not hs]
      refine if_no rfl ?_
      rw [joined_glue]
      show wpAny _ _ (mkBytes (glue bs) >>= fun r => _) _ _ _
      refine wpAny_bind (wpAny_mkBytes ?_ (by rw [sizeLine_eq]; exact hz))
      refine wpAny_bind (wpAny_holding (wpAny_point ?_))
      refine wpAny_bind (joinLetGo_any ht ?_)
      exact wpAny_of_eq (a := Fin.done (.ret _)) rfl ⟨_, rfl, h _ _⟩
theorem join_call {l : Addr} {vs : List Value} {bs : List (Array UInt8)} {t : Tok} {Q : Value → Shared → Prop} (hl : s.heap.IsList l vs.toArray) (hb : BsAre vs bs) (hz : (glue bs).size ≤ 16777216) (hs : bs.foldl (· + ·.size) 0 ≤ 16777216)
    (h : ∀ t' k, Q (.bytes (glue bs) t') { s with toks := k }) : wpAny (model prog w) A (call (.builtin "bytes.join") [.bytes #[] t, .ref l]) Q E s :=
  call_meets BF.slot_join (PySem.W.typeIs_bytes _ _ _) BF.entry_join (BF.args_join _ _) (jn_meets hb hz hs) ⟨hl, h⟩
theorem join_method {M : Model} {b : Array UInt8} {t : Tok} {pl : Sem Bool} {Q : Value × List Value → Shared → Prop} (h : Q (.builtin "bytes.join", [.bytes b t]) s) : wpAny M A (getMethod (.bytes b t) (Str.ofString "join") pl) Q E s := by
  with_reducible exact KBd.method_of (.bytes b t) (PySem.W.typeIs_bytes _ _ _) BF.slot_join BF.type_join KBd.noRef h
end

end
section
open PySem.Spec
theorem fmod_lo (q : Int) : 0 ≤ q.fmod 131 := by rw [Int.fmod_eq_emod_of_nonneg _ (by decide)]; exact Int.emod_nonneg _ (by decide)
theorem fmod_hi (q : Int) : q.fmod 131 < 131 := by rw [Int.fmod_eq_emod_of_nonneg _ (by decide)]; exact Int.emod_lt_of_pos _ (by decide)
/-- the octets of one number -/
def oct1 (x : Int) : Array UInt8 := ((List.replicate (1 + (x.fdiv 256).fmod 131).toNat [(x.fmod 256).toNat.toUInt8]).flatten).toArray
theorem oct1_size (x : Int) : (oct1 x).size = (1 + (x.fdiv 256).fmod 131).toNat := by
  unfold oct1
  simp
theorem oct1_bounds (x : Int) : 1 ≤ (oct1 x).size ∧ (oct1 x).size ≤ 131 := by
  rw [oct1_size]
  have := fmod_lo (x.fdiv 256)
  have := fmod_hi (x.fdiv 256)
  omega
theorem sizes_from (bs : List (Array UInt8)) (k : Nat) : bs.foldl (· + ·.size) k = k + bs.foldl (· + ·.size) 0 := by
  induction bs generalizing k with
  | nil => rfl
  | cons b bs ih => rw [List.foldl_cons, List.foldl_cons, ih (k + b.size), ih (0 + b.size)]; omega
theorem glue_from (bs : List (Array UInt8)) (z : Array UInt8) : (bs.foldl (· ++ ·) z).size = z.size + bs.foldl (· + ·.size) 0 := by
  induction bs generalizing z with
  | nil => rfl
  | cons b bs ih => rw [List.foldl_cons, List.foldl_cons, ih, sizes_from bs (0 + b.size), Array.size_append]; omega
theorem glue_size (bs : List (Array UInt8)) : (glue bs).size = bs.foldl (· + ·.size) 0 := by
  unfold glue; rw [glue_from]; simp
theorem octs_bounds (ns : List Int) : ns.length ≤ (ns.map oct1).foldl (· + ·.size) 0 ∧ (ns.map oct1).foldl (· + ·.size) 0 ≤ 131 * ns.length := by
  induction ns with
  | nil => exact ⟨Nat.le_refl _, Nat.le_refl _⟩
  | cons n ns ih =>
    rw [List.map_cons, List.foldl_cons, sizes_from, List.length_cons]
    have := oct1_bounds n
    omega
section
variable {prog : Program} {w : World} {A : Around} {E : Value → Shared → Prop} {s : Shared}
theorem mul_oct {c : UInt8} {q : Int} {t u : Tok} {Q : Value → Shared → Prop} (h : ∀ t' k, Q (.bytes ((List.replicate (1 + q.fmod 131).toNat [c]).flatten).toArray t') { s with toks := k }) :
    wpAny (model prog w) A (binaryOp .Mult (.bytes #[c] t) (.int (1 + q.fmod 131) u)) Q E s := by
  have := fmod_lo q
  have := fmod_hi q
  exact bytes_mul_any (b := [c]) (List.cons_ne_nil _ _) (by omega) (by omega) (Nat.le_of_ble_eq_true rfl) h
theorem join_octs {l : Addr} {vs : List Value} {ns : List Int} {x : Int} {t : Tok} {Q : Value → Shared → Prop} (hl : s.heap.IsList l vs.toArray) (hb : BsAre vs ((ns ++ [x]).map oct1)) (hn : ns.length ≤ 63)
    (h : ∀ (oct : Array UInt8) t' k, 0 < oct.size → oct.size ≤ 8384 → Q (.bytes oct t') { s with toks := k }) : wpAny (model prog w) A (call (.builtin "bytes.join") [.bytes #[] t, .ref l]) Q E s := by
  have hz := glue_size ((ns ++ [x]).map oct1)
  have ho := octs_bounds (ns ++ [x])
  have hlen : (ns ++ [x]).length = ns.length + 1 := by simp
  exact join_call hl hb (by omega) (by omega) fun t' k => h _ t' k (by omega) (by omega)
theorem sizes8 {z : Int} {k : Nat} (hz1 : 1 ≤ z) (hz2 : z ≤ 8384) (hk : k < 8) : 1 ≤ [1, 2, 3, 7, 64, z, z + 1, 1000].getD k 0 ∧ [1, 2, 3, 7, 64, z, z + 1, 1000].getD k 0 ≤ 20000 := by
  match k, hk with
  | 0, _ => exact ⟨by show (1 : Int) ≤ 1; decide, by show (1 : Int) ≤ 20000; decide⟩
  | 1, _ => exact ⟨by show (1 : Int) ≤ 2; decide, by show (2 : Int) ≤ 20000; decide⟩
  | 2, _ => exact ⟨by show (1 : Int) ≤ 3; decide, by show (3 : Int) ≤ 20000; decide⟩
  | 3, _ => exact ⟨by show (1 : Int) ≤ 7; decide, by show (7 : Int) ≤ 20000; decide⟩
  | 4, _ => exact ⟨by show (1 : Int) ≤ 64; decide, by show (64 : Int) ≤ 20000; decide⟩
  | 5, _ => exact ⟨by show 1 ≤ z; omega, by show z ≤ 20000; omega⟩
  | 6, _ => exact ⟨by show 1 ≤ z + 1; omega, by show z + 1 ≤ 20000; omega⟩
  | 7, _ => exact ⟨by show (1 : Int) ≤ 1000; decide, by show (1000 : Int) ≤ 20000; decide⟩
  | k + 8, h => exact absurd h (by omega)
theorem pick8 {value slice : PySem.Expr} {l : Addr} {vs : List Value} {z n : Int} {u : Tok} {Q : Value → Shared → Prop} (ht : IsTup s.heap l vs.toArray) (hi : IntsAre vs [1, 2, 3, 7, 64, z, z + 1, 1000])
    (hz1 : 1 ≤ z) (hz2 : z ≤ 8384) (h : ∀ sz t, 1 ≤ sz → sz ≤ 20000 → Q (.int sz t) s)
    (hs : subscripted slice false (.ref l) (.int (n.fmod 8) u) = operate [.ref l, .int (n.fmod 8) u] (getItem (.ref l) (.int (n.fmod 8) u)) := by with_unfolding_all rfl) :
    wpAny (model prog w) A (subscriptTail value slice (.ref l) (.int (n.fmod 8) u)) Q E s := by
  have h0 : 0 ≤ n.fmod 8 := by rw [Int.fmod_eq_emod_of_nonneg _ (by decide)]; exact Int.emod_nonneg _ (by decide)
  have h1 : n.fmod 8 < 8 := by rw [Int.fmod_eq_emod_of_nonneg _ (by decide)]; exact Int.emod_lt_of_pos _ (by decide)
  have b := sizes8 (k := (n.fmod 8).toNat) hz1 hz2 (by omega)
  exact item_anyT ht hi h0 h1 (by omega) (fun t => h _ t b.1 b.2) hs
theorem swap_fr {h₀ h : Heap} {L : Addr} {m : PySem.Str → Option Value} {x y : PySem.Str} {xv yv yv' : Option Value} (hxy : y ≠ x) (F : Fr h₀ L h (fun z => if z = y then yv' else if z = x then xv else if z = y then yv else m z)) :
    Fr h₀ L h (fun z => if z = x then xv else if z = y then yv' else m z) := by
  have e : (fun z => if z = y then yv' else if z = x then xv else if z = y then yv else m z) = fun z => if z = x then xv else if z = y then yv' else m z := by
    funext z
    by_cases h1 : z = y
    · subst h1; rw [if_pos rfl, if_neg hxy, if_pos rfl]
    · simp only [if_neg h1]
  rw [e] at F
  exact F
theorem few_eq (n : Int) : ∃ few : Nat, few ≤ 3 ∧ (n.fdiv 8).fmod 4 = (few : Int) := by
  have h0 : 0 ≤ (n.fdiv 8).fmod 4 := by rw [Int.fmod_eq_emod_of_nonneg _ (by decide)]; exact Int.emod_nonneg _ (by decide)
  have h1 : (n.fdiv 8).fmod 4 < 4 := by rw [Int.fmod_eq_emod_of_nonneg _ (by decide)]; exact Int.emod_lt_of_pos _ (by decide)
  exact ⟨((n.fdiv 8).fmod 4).toNat, by omega, by omega⟩
theorem few2_eq (n : Int) : ∃ few : Nat, few ≤ 3 ∧ n.fmod 2 = (few : Int) := by
  have h0 : 0 ≤ n.fmod 2 := by rw [Int.fmod_eq_emod_of_nonneg _ (by decide)]; exact Int.emod_nonneg _ (by decide)
  have h1 : n.fmod 2 < 2 := by rw [Int.fmod_eq_emod_of_nonneg _ (by decide)]; exact Int.emod_lt_of_pos _ (by decide)
  exact ⟨(n.fmod 2).toNat, by omega, by omega⟩
theorem place_bounds (n : Int) (k : Nat) : 0 ≤ n.fmod ((k : Int) + 1) ∧ n.fmod ((k : Int) + 1) ≤ (k : Int) := by
  have h0 : 0 ≤ n.fmod ((k : Int) + 1) := by rw [Int.fmod_eq_emod_of_nonneg _ (by omega)]; exact Int.emod_nonneg _ (by omega)
  have h1 : n.fmod ((k : Int) + 1) < (k : Int) + 1 := by rw [Int.fmod_eq_emod_of_nonneg _ (by omega)]; exact Int.emod_lt_of_pos _ (by omega)
  omega
end

end
section
namespace HF
theorem kind_hasattr : builtinKind "hasattr" = none := by decide +kernel
theorem plain_hasattr : plainId "hasattr" = true := by decide +kernel
theorem entry_hasattr : entryFor table "hasattr" = some Builtin.«hasattr» := entryFor_of_tree (by kernel_rfl)
theorem args_hasattr (a b : Value) : argsOk "hasattr" ⟨[a, b], []⟩ := by unfold argsOk; kernel_rfl
end HF
section
variable {prog : Program} {w : World} {A : Around} {E : Value → Shared → Prop} {s : Shared} {K : Frag} {x C f L : Addr} {ox : Obj} {od : Obj} {name : Str} {expr : Bool} {h₀ : Heap} {m : Str → Option Value} {news : List (Addr × Obj)} {es : List DictEntry} {n : Nat} {Q : Value → Shared → Prop} {t : Tok}
theorem kbmF_open (X : K.In s.heap) (I : InstAt s.heap x ox C (some od)) (hga : findIn K (.ref C) "__getattribute__" = some (some (.builtin "object.__getattribute__")))
    (h : wpAny (model prog w) A.in1 (Builtin.«proto.getattr_hooked» ⟨[.ref x, .str name t], []⟩)
      (fun fin s' => match fin with | .done (.ret v) => wpAny (model prog w) A (handedOut v) Q E s' | _ => False) (fun e s' => wpAny (model prog w) A (noteIf false (.ref x) (.str name t) e) (fun _ s'' => E e s'') E s') s) :
    wpAny (model prog w) A (getAttrBy (.ref x) (.str name t) false expr) Q E s := by
  obtain ⟨hh, g, d, tk, os⟩ := s
  have L0 := I.type (M := model prog w)
  have L1 := looks_findIn (M := model prog w) X hga
  unfold getAttrBy
  refine wpAny_holding (wpAny_bind (L0.at (wpAny_bind (L1.at ?_))))
  show wpAny _ _ (getAttrEveryday _ _ _) _ _ _
  refine wpAny_bind (wpAny_onRaise (wpAny_runValue (codeAny_builtin F.plainObj_entry_getattr_hooked (wpAny_mono h (fun fin s' z => ?_) fun _ _ z => z))))
  rcases fin with (_ | _ | _ | _) | _ <;> first | exact z | exact z.elim
theorem kbmF_bind {g a : Value} (X : K.In s.heap) (I : InstAt s.heap x ox C (some od)) (hga : findIn K (.ref C) "__getattribute__" = some (some (.builtin "object.__getattribute__")))
    (hf : findObj K C (some od) name = some (.bind g a)) (hk : findIn K (.ref C) "__getattr__" = some none)
    (h : wpAny (model prog w) A.in1 (call g [a, .ref x, .ref C]) (fun v s' => wpAny (model prog w) A (handedOut v) Q E s') (fun e s' => wpAny (model prog w) A (noteIf false (.ref x) (.str name t) e) (fun _ s'' => E e s'') E s') s) :
    wpAny (model prog w) A (getAttrBy (.ref x) (.str name t) false expr) Q E s := by
  refine kbmF_open X I hga ?_
  obtain ⟨hh', gg, d, tk, os⟩ := s
  have L0 := I.type (M := model prog w)
  have L1 := looks_find (M := model prog w) X I hf
  have L2 := looks_findIn (M := model prog w) X hk
  refine wpAny_bind (wpAny_pure (wpAny_bind (L0.at (wpAny_bind (L1.at (wpAny_bind (L2.at ?_)))))))
  show wpAny _ _ (holding [a] (call g [a, .ref x, .ref C]) >>= ret) _ _ _
  exact wpAny_bind (wpAny_holding (wpAny_mono h (fun v s' z => wpAny_pure z) fun _ _ z => z))
theorem kbmF_boundBy (F : Fr h₀ L s.heap m) (X₀ : K.In h₀) (N : News h₀ L s.heap news) (I : InstAt s.heap x ox C (some (dictOf es n))) (hg : plainGet K C name = true) (hh : hasDictIn K C = true) (ha : findIn K (.ref C) name = some (some (.ref f))) (hf : isFn K (.ref f) = true)
    (hgf : specialIn K (.ref f) "__get__" = some (some (.builtin "function.__get__"))) (ht : takesIn K (.ref f) = some false) (hc : copiedNames.contains name = false) (hl : getL name es = some none)
    (h : ∀ q h', Fr h₀ L h' m → News h₀ L h' ((q, methodObj (.ref f) (.ref x)) :: news) → (∀ p ∈ news, p.1 < q) → Q (.ref q) { s with heap := h' }) : wpAny (model prog w) A (getAttrBy (.ref x) (.str name t) false expr) Q E s :=
  kbmF_bind (X₀.keeps F.keep) I (plainGet_of hg).1 (findObj_fn hh ha hgf ht hc (by show lookIn name (dictOf es n) = _; rw [lookIn_dict, hl])) (plainGet_of hg).2
    (wpAny_call (fn_get (X₀.keeps F.keep) (beq_iff_eq.mp hf) (handed_on rfl (h s.heap.objs.size _ (F.push _) (N.push F _) fun p hp => Heap.lt_size (N p hp).1))))
theorem hasattr_own (F : Fr h₀ L s.heap m) (X₀ : K.In h₀) (N : News h₀ L s.heap news) (I : InstAt s.heap x ox C (some (dictOf es n))) (hg : plainGet K C name = true) (hh : hasDictIn K C = true) (ha : findIn K (.ref C) name = some (some (.ref f))) (hf : isFn K (.ref f) = true)
    (hgf : specialIn K (.ref f) "__get__" = some (some (.builtin "function.__get__"))) (ht : takesIn K (.ref f) = some false) (hc : copiedNames.contains name = false) (hl : getL name es = some none)
    (hm : subIn K (.ref C) (.type "module") = some false)
    (h : ∀ q h', Fr h₀ L h' m → News h₀ L h' ((q, methodObj (.ref f) (.ref x)) :: news) → (∀ p ∈ news, p.1 < q) → Q (.bool true) { s with heap := h' }) :
    wpAny (model prog w) A (call (.builtin "hasattr") [.ref x, .str name t]) Q E s := by
  refine Calls.call_function_entry HF.kind_hasattr HF.plain_hasattr HF.entry_hasattr (HF.args_hasattr _ _) ?_
  have X := X₀.keeps F.keep
  have L0 := I.type (M := model prog w)
  have L1 := looks_subIn (M := model prog w) X hm
  unfold Builtin.«hasattr»
  refine wpAny_bind (wpAny_of_eq (a := [.ref x, .str name t]) (by first | rfl | kernel_rfl) ?_)
  dsimp only
  refine wpAny_bind (wpAny_of_eq (a := ()) (by first | rfl | kernel_rfl) ?_)
  show wpAny _ _ (typeOf (.ref x) >>= _) _ _ _
  refine wpAny_bind (L0.here ?_)
  dsimp only
  refine wpAny_bind (wpAny_mono (Q := fun r s' => r = 0 ∧ s' = s) (E := fun _ _ => False) ?_ (fun r s' hr => ?_) fun _ _ z => z.elim)
  · show wpAny _ _ (isInstance (.ref x) (.type "module") >>= _) _ _ _
    unfold isInstance
    refine wpAny_bind (wpAny_bind (L0.here (L1.here ?_)))
    exact wpAny_pure ⟨rfl, rfl⟩
  · obtain ⟨rfl, rfl⟩ := hr
    show wpAny _ _ (getAttrBy? _ _ >>= _) _ _ _
    unfold getAttrBy?
    refine wpAny_bind (wpAny_bind (wpAny_attempt (kbmF_boundBy F X₀ N I hg hh ha hf hgf ht hc hl fun q h' F' N' l1 => ?_)))
    exact wpAny_pure (wpAny_pure ⟨_, rfl, h q h' F' N' l1⟩)
end

end
section
section
variable {prog : Program} {w : World} {A : Around} {E : Value → Shared → Prop} {s : Shared} {x : Addr} {Q : Value → Shared → Prop}
theorem iter_call (h : wpAny (model prog w) A.in1 (pyIter (.ref x)) Q E s) : wpAny (model prog w) A (call (.builtin "iter") [.ref x]) Q E s := by
  refine Calls.call_function_entry (by decide +kernel) (by decide +kernel) kdk_entry_iter (kdk_args_iter _) ?_
  unfold Builtin.«iter»
  refine wpAny_bind (wpAny_of_eq (a := [Value.ref x]) (by first | rfl | kernel_rfl) ?_)
  dsimp only
  exact wpAny_bind (wpAny_mono h (fun v s' hq => wpAny_pure ⟨_, rfl, hq⟩) fun _ _ e => e)
end

end
local macro_rules | `(tactic| ktr_enter) => `(tactic| (refine' code_def ?k1 ?k2 ?k3 ?k4 ?k5 ?kA ?kF ?kK ?k6 ?k7 ?k8 ?k9 ?kB ?_ ?c2 ?c3 ?c4 ?c5; (case kA => exact rfl); (case kF => exact rfl); (case kK => first | exact rfl | assumption); (case k1 => k_asm); (case k2 => k_asm); (case k3 => k_asm); (case k4 => k_asm); (case k5 => k_asm); (case k6 => k_is); (case k7 => k_is); (case k8 => first | k_room | ktr_room); (case k9 => first | exact BindsTo.of_eq rfl | exact binds_K (by k_in) rfl (by k_is) rfl rfl rfl | fail "ktr_enter: no rule for these arguments"); (case c5 => decide); (case kB => exact locs rfl); (case c2 => exact rfl); (case c3 => exact rfl); (case c4 => exact rfl); k_whole; intro g' L' h' FG' F' N' B' X' T'; (try dsimp only); (try k_lift B'); (try k_fold)))
local macro_rules | `(tactic| ktr_unf) => `(tactic| (refine' codeC_defK ?k1 ?k2 ?k3 ?k4 ?k5 ?kA ?kF ?kK ?k6 ?k7 ?k8 ?k9 ?kB ?_ ?c2 ?c3 ?c4 ?c5; (case kA => exact rfl); (case kF => exact rfl); (case kK => first | exact rfl | assumption); (case k1 => k_asm); (case k2 => k_asm); (case k3 => k_asm); (case k4 => k_asm); (case k5 => k_asm); (case k6 => k_is); (case k7 => k_is); (case k8 => first | k_room | ktr_room); (case k9 => first | exact BindsTo.of_eq rfl | exact binds_K (by k_in) rfl (by k_is) rfl rfl rfl | fail "ktr_unf: no rule for these arguments"); (case c5 => decide); (case kB => exact locs rfl); (case c2 => exact rfl); (case c3 => exact rfl); (case c4 => exact rfl); k_whole; intro g' L' h' FG' F' N' B' X' T'; (try dsimp only); (try k_lift B')))
local macro_rules | `(tactic| k_all) => `(tactic| assumption)
section
theorem offNX1 : True := by (w_top off; trivial)
abbrev bioD (P : Params) (t1 t2 t3 : Tok) (buf : Value) (pos : Int) : List DictEntry :=
  [⟨PyData.keyHash P (Str.ofString "_BytesIO__buf"), .str (Str.ofString "_BytesIO__buf") t1, buf⟩,
   ⟨PyData.keyHash P (Str.ofString "_BytesIO__pos"), .str (Str.ofString "_BytesIO__pos") t2, .int pos t3⟩]
abbrev fwD (P : Params) (t1 t2 t3 t4 : Tok) (S q : Addr) (size : Int) : List DictEntry :=
  [⟨PyData.keyHash P (Str.ofString "filelike"), .str (Str.ofString "filelike") t1, .ref S⟩,
   ⟨PyData.keyHash P (Str.ofString "blksize"), .str (Str.ofString "blksize") t2, .int size t4⟩,
   ⟨PyData.keyHash P (Str.ofString "close"), .str (Str.ofString "close") t3, .ref q⟩]
theorem owit_stopS {M : Model} {A A₀ : Around} {E : Value → Shared → Prop} {s : Shared} {Q : Option Value → Shared → Prop} {base g g₀ G : Heap} {outer : List Env} {L a e t : Addr} {m : Str → Option Value} {name : Str} {scope : Scope} {cd : Value} {vs : List Value} {news : List (Addr × Obj)} {KF : Frag}
    {p : Program} {loose : List Str} {mean : ExcName → Option Value} {mg mb : Str → Option Value} {X : String}
    (R : RaisedS base G (envOf name scope L a cd :: outer) e (.type X) t vs news s.heap) (F : Fr g L G m) (K : Below A₀ base outer g) (hsm : G.UpToSlots s.heap) (XB : KF.In base) (TB : Top p loose mean mg mb base)
    (D : KtsDicts (outer.filterMap (·.frame)) g) (T0 : KtsTurn (outer.filterMap (·.frame)) g₀ g) (hsub : isSubtype (.type X) (.type "StopIteration") = pure true)
    (k : ∀ g', KtsTurn (outer.filterMap (·.frame)) g₀ g' → Fr g' L s.heap m → News g' L s.heap news → Below A₀ base outer g' → KF.In g' → Top p loose mean mg mb g' → KtsDicts (outer.filterMap (·.frame)) g' → Q none s) :
    OwitStop M A Q E (.ref e) s := by
  obtain ⟨⟨B, hB, hBG, hl, hfl, hnew⟩, htup⟩ := R
  have hL : B.get? L = none := by
    obtain ⟨_, ⟨L', _, hf, hn', _⟩, _⟩ := hfl.2.2.1
    obtain rfl : L = L' := Option.some.inj hf
    exact hn'
  have hf' := flyingW_base hB hfl
  obtain ⟨ob, hob, hobc⟩ := hf'.there
  have hT : s.TypeIs (.ref e) X := (show ∃ o, s.heap.get? e = some o ∧ o.cls = .type X from ⟨ob, hob, hobc⟩)
  obtain ⟨g₅, T₅, F₅, K₅⟩ := kts_ground K F hBG hfl.1 hsm
  unfold OwitStop
  refine wpAny_isInstance hT hsub ?_
  show (if true = true then Q none s else E (.ref e) s)
  rw [if_pos rfl]
  exact k g₅ (T0.trans T₅) F₅ (fun q hq => ⟨hfl.1 _ _ (hl q hq).1, (fun z => by have := (hl q hq).1; rw [z, hL] at this; cases this), T₅.none_ _ (kts_none F.keep (hl q hq).2.1)⟩) K₅ (XB.keeps K₅.stays) (TB.keeps K₅.stays) (D.turn T₅)
theorem truthyB_yes {prog : Program} {w : World} {A : Around} {E : Value → Shared → Prop} {s : Shared} {b : Array UInt8} {t : Tok} {Q : Bool → Shared → Prop} (h1 : b.size ≤ 16777216) (h2 : 1 ≤ b.size) (h : ∀ k, Q true { s with toks := k }) : wpAny (model prog w) A (truthy (.bytes b t)) Q E s := by
  refine truthy_bytes (by omega) ?_
  have e : ((b.size : Int) != 0) = true := bne_iff_ne.mpr (by omega)
  rw [e]; exact h _
theorem truthyB_no {prog : Program} {w : World} {A : Around} {E : Value → Shared → Prop} {s : Shared} {b : Array UInt8} {t : Tok} {Q : Bool → Shared → Prop} (h2 : b.size = 0) (h : ∀ k, Q false { s with toks := k }) : wpAny (model prog w) A (truthy (.bytes b t)) Q E s := by
  refine truthy_bytes (by omega) ?_
  have e : ((b.size : Int) != 0) = false := by simp [h2]
  rw [e]; exact h _
local macro_rules | `(tactic| walk_at "call ref") => `(tactic| (k_here; k_dflt (refine wpAny_call ?_; ktr_enter)))
local macro_rules | `(tactic| walk_at "call builtin:len") => `(tactic| (k_here; (with_reducible show wpAny _ _ (call (Value.builtin "len") [Value.ref _]) _ _ _); k_dflt (refine' Mine.ba_len_K ?N ?m ?z ?_; (case N => k_asm); (case m => k_mem); (case z => omega); k_whole); intro _ _))
local macro_rules | `(tactic| walk_at "call type:bytes") => `(tactic| (k_here; (with_reducible show wpAny _ _ (call (Value.type "bytes") [Value.ref _]) _ _ _); k_dflt (refine' Mine.ba_bytes_K ?F ?N ?m ?z ?_; (case F => k_asm); (case N => k_asm); (case m => k_mem); (case z => first | omega | (simp only [Array.size_extract]; omega)); k_whole); intro _ _ _ F' N'; (try k_sweep)))
local macro_rules | `(tactic| walk_at "subscriptTail") => `(tactic| (k_here; (with_reducible show wpAny _ _ (subscriptTail _ (Expr.Slice _ _ none _) (Value.ref _) (Value.ref _)) _ _ _); (with_reducible rename Fr _ _ _ _ => F'); (with_reducible rename News _ _ _ _ => N'); k_dflt (refine' Mine.ba_slice_K (s := ⟨_, _, _, _, _⟩) F' N' ?m ?z ?a ?b ?_ ; (case m => k_mem); (case z => omega); (case a => omega); (case b => omega); k_whole); intro x' h' F' N' l1; (try k_lt l1); (try k_sweep)))
local macro_rules | `(tactic| walk_at "truthy bytes") => `(tactic| (k_here; (with_reducible show wpAny _ _ (truthy (Value.bytes _ _)) _ _ _); k_dflt (first
  | (refine' Mine.truthyB_no ?z ?_; (case z => first | rfl | (simp only [Array.size_extract]; omega)); k_whole; intro _)
  | (refine' Mine.truthyB_yes ?y ?z ?_; (case y => first | omega | (simp only [Array.size_extract]; omega)); (case z => first | omega | (simp only [Array.size_extract]; omega)); k_whole; intro _))))
theorem next_spec {prog : Program} {w : World} {p : Program} {loose : List Str} {mean : ExcName → Option Value} {mg mb : Str → Option Value}
    {gd : Option (List Code)} {cn : Str} {cs : Scope} {a : Nat} {ccd : Value} {outer : List Env} {A₀ : Around} {base g₀ h₀ : Heap} {L : Addr} {m : Str → Option Value} {s : Shared} {Q : Option Value → Shared → Prop} {E : Value → Shared → Prop}
    {S d bf W dW q : Nat} {t1 t2 t3 u1 u2 u3 u4 : Tok} {oct : Array UInt8} {pos size : Int} {rest : List (Addr × Obj)}
    (hSd : S ≠ d) (hbd : bf ≠ d) (hWd : W ≠ d) (hVd : dW ≠ d) (hr : ∀ p ∈ rest, p.1 ≠ d)
    (h0 : 0 ≤ pos) (h1 : pos ≤ 20000) (h2 : 1 ≤ size) (h3 : size ≤ 20000) (h4 : oct.size ≤ 20000)
    (B : Below A₀ base outer h₀) (F : Fr h₀ L s.heap m) (X : (Mine.hd.heap_1 w.params).In h₀)
    (N : News h₀ L s.heap ((S, instObj 365 d) :: (d, dictOf (bioD w.params t1 t2 t3 (.ref bf) pos) 2) :: (bf, baObj oct) :: (W, instObj 53 dW) :: (dW, dictOf (fwD w.params u1 u2 u3 u4 S q size) 3) :: rest))
    (T : Top p loose mean mg mb h₀) (hk : cs.kind = .function)
    (XB : (Mine.hd.heap_1 w.params).In base) (TB : Top p loose mean mg mb base) (D : KtsDicts (outer.filterMap (·.frame)) h₀) (T0 : KtsTurn (outer.filterMap (·.frame)) g₀ h₀)
    (item : pos < oct.size → ∀ np : Int, np = min (pos + size) oct.size → ∀ t t3' h' k, Fr h₀ L h' m →
      News h₀ L h' ((S, instObj 365 d) :: (d, dictOf (bioD w.params t1 t2 t3' (.ref bf) np) 2) :: (bf, baObj oct) :: (W, instObj 53 dW) :: (dW, dictOf (fwD w.params u1 u2 u3 u4 S q size) 3) :: rest) →
      Q (some (.bytes (oct.extract pos.toNat np.toNat) t)) { s with heap := h', toks := k })
    (stop : (oct.size : Int) ≤ pos → ∀ g' h' k, KtsTurn (outer.filterMap (·.frame)) g₀ g' → Fr g' L h' m →
      News g' L h' ((S, instObj 365 d) :: (d, dictOf (bioD w.params t1 t2 t3 (.ref bf) pos) 2) :: (bf, baObj oct) :: (W, instObj 53 dW) :: (dW, dictOf (fwD w.params u1 u2 u3 u4 S q size) 3) :: rest) →
      Below A₀ base outer g' → (Mine.hd.heap_1 w.params).In g' → Top p loose mean mg mb g' → KtsDicts (outer.filterMap (·.frame)) g' → Q none { s with heap := h', toks := k }) :
    wpAny (model prog w) (ktrTop 310 40 gd cn cs L a ccd [] outer) (pyNext (.ref W)) Q E s := by
  k_dflt (refine' owit_next ?F ?X ?I ?hs ?hf ?_; (case F => k_asm); (case X => k_asm); (case I => k_inst); (case hs => k_is); (case hf => k_is); k_whole)
  k_steps
  · (rename RaisedS _ _ _ _ _ _ _ _ _ => rsX)
    k_dflt (refine' owit_stopS rsX ?F ?K ?U ?XB ?TB ?D ?T0 ?s ?_; (case F => assumption); (case K => assumption); (case XB => assumption); (case TB => assumption); (case D => assumption); (case T0 => assumption); (case U => assumption); (case s => first | rfl | kernel_rfl | decide))
    intro g' T' F' N' B' X' P' D'
    exact stop (by omega) g' _ _ T' F' N' B' X' P' D'
  · exact item (by omega) _ (by omega) _ _ _ _ (by assumption) (cb_drop (by assumption) fun p hp => List.mem_cons_of_mem _ hp)
  · exact item (by omega) _ (by omega) _ _ _ _ (by assumption) (cb_drop (by assumption) fun p hp => List.mem_cons_of_mem _ hp)

end
section
theorem offMK1 : True := by (w_top off; trivial)
theorem cls365 {w : World} : ∀ h, (hd.heap_1 w.params).In h → ClsAt h 365 [.ref 123] [.ref 123, .ref 108, .type "object"] := fun h X => by
  k_dflt (refine' clsAt_of X ?l ?s ?m ?b ?n ?a ?d; (case l => k_is); (case s => rfl); (case m => rfl); (case b => rfl); (case n => rfl); (case a => rfl); (case d => rfl))
theorem cls123 {w : World} : ∀ h, (hd.heap_1 w.params).In h → ClsAt h 123 [.ref 108] [.ref 108, .type "object"] := fun h X => by
  k_dflt (refine' clsAt_of X ?l ?s ?m ?b ?n ?a ?d; (case l => k_is); (case s => rfl); (case m => rfl); (case b => rfl); (case n => rfl); (case a => rfl); (case d => rfl))
theorem cls108 {w : World} : ∀ h, (hd.heap_1 w.params).In h → ClsAt h 108 [.type "object"] [.type "object"] := fun h X => by
  k_dflt (refine' clsAt_of X ?l ?s ?m ?b ?n ?a ?d; (case l => k_is); (case s => rfl); (case m => rfl); (case b => rfl); (case n => rfl); (case a => rfl); (case d => rfl))
theorem cls612 {w : World} : ∀ h, (hd.heap_1 w.params).In h → ClsAt h 612 [.ref 135] [.ref 135, .ref 108, .type "object"] := fun h X => by
  k_dflt (refine' clsAt_of X ?l ?s ?m ?b ?n ?a ?d; (case l => k_is); (case s => rfl); (case m => rfl); (case b => rfl); (case n => rfl); (case a => rfl); (case d => rfl))
theorem cls135 {w : World} : ∀ h, (hd.heap_1 w.params).In h → ClsAt h 135 [.ref 108] [.ref 108, .type "object"] := fun h X => by
  k_dflt (refine' clsAt_of X ?l ?s ?m ?b ?n ?a ?d; (case l => k_is); (case s => rfl); (case m => rfl); (case b => rfl); (case n => rfl); (case a => rfl); (case d => rfl))

end
section
theorem offMK2 : True := by (w_top off; trivial)
local macro_rules | `(tactic| walk_at "call builtin:object.__new__") => `(tactic| (k_here; (with_reducible show wpAny _ _ (call (Value.builtin "object.__new__") [Value.ref _]) _ _ _); k_dflt (first
  | (refine' Mine.new_ownK ?F ?X ?N Mine.cls365 Mine.cls123 Mine.cls108 ?t ?i ?_; (case F => k_asm); (case X => k_asm); (case N => k_asm); (case t => k_is); (case i => k_is); k_whole)
  | (refine' Mine.new_ownK ?F ?X ?N Mine.cls612 Mine.cls135 Mine.cls108 ?t ?i ?_; (case F => k_asm); (case X => k_asm); (case N => k_asm); (case t => k_is); (case i => k_is); k_whole)); intro x' d' h' F' N' l1 l2; (try k_lt l1); (try k_lt2 l2); (try k_sweep)))
local macro_rules | `(tactic| walk_at "call ref") => `(tactic| (k_here; k_dflt (refine wpAny_call ?_; refine' kp_both ?k1 ?k2 ?k3 ?k4 ?k5 ?kA ?kF ?kK ?k6 ?k7 ?k8 ?kV ?kX ?kQ ?kM ?kN ?kD ?kR ?kP ?kS ?kT ?kB ?_ ?c2 ?c3 ?c4 ?c5; (case kA => exact rfl); (case kF => exact rfl); (case kK => first | exact rfl | assumption); (case k1 => k_asm); (case k2 => k_asm); (case k3 => k_asm); (case k4 => k_asm); (case k5 => k_asm); (case k6 => k_is); (case k7 => k_is); (case k8 => k_room); (case kV => kp_lit); (case kX => kp_lit); (case kQ => exact rfl); (case kM => exact rfl); (case kN => exact rfl); (case kD => kp_flats); (case kR => exact rfl); (case kP => exact rfl); (case kS => exact fun _ => rfl); (case kT => exact fun _ _ => rfl); (case kB => exact fun _ _ => locs rfl); (case c5 => decide); (case c2 => exact rfl); (case c3 => exact rfl); (case c4 => exact rfl); k_whole; intro C' D' o' g' L' h' tk' l1 l2 lo' hs' fs' FG' F' N' B' X' T'; (try k_lt l1); (try k_lt2 l2); (try dsimp only); (try k_lift B'); (try k_fold))))
theorem allLt_mem {d : Addr} : ∀ {l : List (Addr × Obj)}, AllLt d l → ∀ p ∈ l, p.1 < d
  | [], _, _, h => nomatch h
  | _ :: _, x, p, h => by
    rcases List.mem_cons.mp h with rfl | h
    · exact x.1
    · exact allLt_mem x.2 p h
theorem mem_skip2 {α : Type} {x y z u v p : α} {l : List α} (h : p ∈ x :: y :: z :: l) : p ∈ x :: y :: z :: u :: v :: l := by
  simp only [List.mem_cons] at h ⊢
  rcases h with h | h | h | h
  · exact .inl h
  · exact .inr (.inl h)
  · exact .inr (.inr (.inl h))
  · exact .inr (.inr (.inr (.inr (.inr h))))
theorem bio_make {prog : Program} {w : World} {p : Program} {loose : List Str} {mean : ExcName → Option Value} {mg mb : Str → Option Value}
    {cn : Str} {cs : Scope} {a : Nat} {ccd : Value} {outer : List Env} {A₀ : Around} {base h₀ : Heap} {L : Addr} {m : Str → Option Value} {s : Shared} {Q : Value → Shared → Prop} {E : Value → Shared → Prop} {news : List (Addr × Obj)}
    (B : Below A₀ base outer h₀) (F : Fr h₀ L s.heap m) (X : (Mine.hd.heap_1 w.params).In h₀)
    (N : News h₀ L s.heap news)
    (T : Top p loose mean mg mb h₀) (hk : cs.kind = .function)
    (ret : ∀ S d bf t1 t2 t3 h' k, Fr h₀ L h' m → News h₀ L h' ((bf, baObj #[]) :: (S, instObj 365 d) :: (d, dictOf (bioD w.params t1 t2 t3 (.ref bf) 0) 2) :: news) → d < S → S < bf → (∀ p ∈ news, p.1 < d) → Q (.ref S) { s with heap := h', toks := k }) :
    wpC (model prog w) (ktrTop 310 40 (some []) cn cs L a ccd [] outer) (call (.ref 365) []) Q E s := by
  refine wpC_call ?_
  k_dflt (refine' make_ownC (K := hd.heap_1 w.params) (X.keeps F.keep) ?l ?s ?m ?c ?t ?sf ?i ?f ?_; (case l => k_is); (case s => rfl); (case m => rfl); (case c => k_is); (case t => k_is); (case sf => k_is); (case i => k_is); (case f => k_is))
  k_steps
  refine ⟨_, instObj 365 _, rfl, News.get (by assumption) (by k_mem), rfl, Frag.In.keeps (by assumption) (Fr.keep (by assumption)), ?_⟩
  k_dflt ktr_unf
  refine wpC_execs_any ?_
  k_steps
  dsimp only [FlowC]
  refine wpC_execs_cons (wpC_Assign_Attr (wpC_IfExp (wpC_any ?_)))
  k_steps
  refine wpC_Call_Name ?_
  k_steps
  refine callWithC_type0 ?_
  k_dflt (refine' ba_make0 rfl ?F ?N ?_; (case F => k_asm); (case N => k_asm))
  intro bf h' F' N' l1
  k_lt l1
  k_sweep
  k_steps
  dsimp only [FlowC]
  refine wpC_execs_any ?_
  k_steps
  dsimp only [FlowC]
  refine wpC_any ?_
  k_steps
  obtain ⟨_, _, hlt⟩ := (by assumption : _ ∧ _ ∧ AllLt _ news)
  refine' ret _ _ _ _ _ _ _ _ ?F ?N ?a ?b ?c
  case N => exact cb_drop (by assumption) fun p hp => mem_skip2 hp
  case F => assumption
  case a => first | assumption | omega
  case b => exact l1.1
  case c => exact allLt_mem (by assumption)

end
section
theorem offMK3 : True := by (w_top off; trivial)
local macro_rules | `(tactic| walk_at "call builtin:object.__new__") => `(tactic| (k_here; (with_reducible show wpAny _ _ (call (Value.builtin "object.__new__") [Value.ref _]) _ _ _); k_dflt (first
  | (refine' Mine.new_ownK ?F ?X ?N Mine.cls365 Mine.cls123 Mine.cls108 ?t ?i ?_; (case F => k_asm); (case X => k_asm); (case N => k_asm); (case t => k_is); (case i => k_is); k_whole)
  | (refine' Mine.new_ownK ?F ?X ?N Mine.cls612 Mine.cls135 Mine.cls108 ?t ?i ?_; (case F => k_asm); (case X => k_asm); (case N => k_asm); (case t => k_is); (case i => k_is); k_whole)); intro x' d' h' F' N' l1 l2; (try k_lt l1); (try k_lt2 l2); (try k_sweep)))
local macro_rules | `(tactic| walk_at "call ref") => `(tactic| (k_here; k_dflt (refine wpAny_call ?_; refine' kp_both ?k1 ?k2 ?k3 ?k4 ?k5 ?kA ?kF ?kK ?k6 ?k7 ?k8 ?kV ?kX ?kQ ?kM ?kN ?kD ?kR ?kP ?kS ?kT ?kB ?_ ?c2 ?c3 ?c4 ?c5; (case kA => exact rfl); (case kF => exact rfl); (case kK => first | exact rfl | assumption); (case k1 => k_asm); (case k2 => k_asm); (case k3 => k_asm); (case k4 => k_asm); (case k5 => k_asm); (case k6 => k_is); (case k7 => k_is); (case k8 => k_room); (case kV => kp_lit); (case kX => kp_lit); (case kQ => exact rfl); (case kM => exact rfl); (case kN => exact rfl); (case kD => kp_flats); (case kR => exact rfl); (case kP => exact rfl); (case kS => exact fun _ => rfl); (case kT => exact fun _ _ => rfl); (case kB => exact fun _ _ => locs rfl); (case c5 => decide); (case c2 => exact rfl); (case c3 => exact rfl); (case c4 => exact rfl); k_whole; intro C' D' o' g' L' h' tk' l1 l2 lo' hs' fs' FG' F' N' B' X' T'; (try k_lt l1); (try k_lt2 l2); (try dsimp only); (try k_lift B'); (try k_fold))))

theorem mem_skip4 {α : Type} {x y u v p : α} {l : List α} (h : p ∈ l) : p ∈ x :: y :: u :: v :: l := List.mem_cons_of_mem _ (List.mem_cons_of_mem _ (List.mem_cons_of_mem _ (List.mem_cons_of_mem _ h)))
theorem sio_make {prog : Program} {w : World} {p : Program} {loose : List Str} {mean : ExcName → Option Value} {mg mb : Str → Option Value}
    {cn : Str} {cs : Scope} {a : Nat} {ccd : Value} {outer : List Env} {A₀ : Around} {base h₀ : Heap} {L : Addr} {m : Str → Option Value} {s : Shared} {Q : Value → Shared → Prop} {E : Value → Shared → Prop} {news : List (Addr × Obj)}
    (B : Below A₀ base outer h₀) (F : Fr h₀ L s.heap m) (X : (Mine.hd.heap_1 w.params).In h₀)
    (N : News h₀ L s.heap news)
    (T : Top p loose mean mg mb h₀) (hk : cs.kind = .function)
    (ret : ∀ S h' k, Fr h₀ L h' m → News h₀ L h' news → Q (.ref S) { s with heap := h', toks := k }) :
    wpC (model prog w) (ktrTop 310 40 (some []) cn cs L a ccd [] outer) (call (.ref 612) []) Q E s := by
  refine wpC_call ?_
  k_dflt (refine' make_ownC (K := hd.heap_1 w.params) (X.keeps F.keep) ?l ?s ?m ?c ?t ?sf ?i ?f ?_; (case l => k_is); (case s => rfl); (case m => rfl); (case c => k_is); (case t => k_is); (case sf => k_is); (case i => k_is); (case f => k_is))
  k_steps
  refine ⟨_, instObj 612 _, rfl, News.get (by assumption) (by k_mem), rfl, Frag.In.keeps (by assumption) (Fr.keep (by assumption)), ?_⟩
  refine codeC_any ?_
  k_dflt ktr_enter
  k_steps
  refine' ret _ _ _ ?F ?N
  case N => exact cb_drop (by assumption) fun p hp => mem_skip4 hp
  case F => assumption

end
section
local macro_rules | `(tactic| walk_at "none such") => `(tactic| fail)
section
theorem offMK4 : True := by (w_top off; trivial)
local macro_rules | `(tactic| walk_at "call ref") => `(tactic| (k_here; k_dflt (refine wpAny_call ?_; ktr_enter)))
theorem https_none : ([PyData.str (Str.ofString "yes"), PyData.str (Str.ofString "on"), PyData.str (Str.ofString "1")].any fun y => y.eqv PyData.none) = false := by with_unfolding_all decide
local macro_rules | `(tactic| walk_at "compareOp In") => `(tactic| (k_here; (with_reducible show wpAny _ _ (compareOp CmpOp.In Value.none (Value.ref _)) _ _ _); k_dflt (refine SeqAt.in_tuple_reads (reads_tuple_at (News.get (by k_asm) (by k_mem)) rfl rfl (by ke_reads)) Reads.none (by first | decide +kernel | with_unfolding_all rfl) rfl (by ke_room) ?_); rw [https_none]))
theorem mem_ins {α : Type} {x y z u v p : α} {l : List α} (h : p ∈ x :: y :: z :: v :: l) : p ∈ x :: y :: z :: u :: v :: l := by
  simp only [List.mem_cons] at h ⊢
  rcases h with h | h | h | h | h
  · exact .inl h
  · exact .inr (.inl h)
  · exact .inr (.inr (.inl h))
  · exact .inr (.inr (.inr (.inr (.inl h))))
  · exact .inr (.inr (.inr (.inr (.inr h))))
theorem setup_spec {prog : Program} {w : World} {p : Program} {loose : List Str} {mean : ExcName → Option Value} {mg mb : Str → Option Value}
    {cn : Str} {cs : Scope} {a : Nat} {ccd : Value} {outer : List Env} {A₀ : Around} {base h₀ : Heap} {L D : Addr} {o : Obj} {m : Str → Option Value} {s : Shared} {Q : Value → Shared → Prop} {E : Value → Shared → Prop} {news : List (Addr × Obj)}
    (B : Below A₀ base outer h₀) (F : Fr h₀ L s.heap m) (X : (Mine.hd.heap_1 w.params).In h₀)
    (N : News h₀ L s.heap ((D, o) :: news)) (lo : (D == sysModules) = false)
    (hd : o.IsDictOf (PySem.strKind prog w) ([] : List (Str × Value)))
    (hlt : AllLt D news)
    (T : Top p loose mean mg mb h₀) (hk : cs.kind = .function)
    (ret : ∀ S d bf o' kvs t1 t2 t3 h' k, Fr h₀ L h' m → News h₀ L h' ((bf, baObj #[]) :: (S, instObj 365 d) :: (d, dictOf (bioD w.params t1 t2 t3 (.ref bf) 0) 2) :: (D, o') :: news) → d < S → S < bf → D < d →
      o'.IsDictOf (PySem.strKind prog w) kvs → PySem.valueAt kvs (Str.ofString "wsgi.input") = some (.ref S) → Q .none { s with heap := h', toks := k }) :
    wpC (model prog w) (ktrTop 307 24 (some []) cn cs L a ccd [] outer) (call (.ref 621) [.ref D]) Q E s := by
  refine wpC_call ?_
  k_dflt ktr_unf
  refine wpC_execs_any ?_
  k_steps
  dsimp only [FlowC]
  refine wpC_execs_any ?_
  k_steps
  dsimp only [FlowC]
  refine wpC_execs_any ?_
  k_steps
  dsimp only [FlowC]
  refine wpC_execs_any ?_
  k_steps
  dsimp only [FlowC]
  refine wpC_execs_any ?_
  k_steps
  dsimp only [FlowC]
  refine wpC_execs_any ?_
  k_steps
  dsimp only [FlowC]
  refine wpC_execs_any ?_
  k_steps
  dsimp only [FlowC]
  refine wpC_execs_any ?_
  k_steps
  dsimp only [FlowC]
  refine wpC_execs_any ?_
  k_steps
  dsimp only [FlowC]
  refine wpC_execs_any ?_
  k_steps
  dsimp only [FlowC]
  refine wpC_execs_cons (wpC_Expr (wpC_Call_Method ?_))
  k_steps
  refine callWithC_builtin2 ?_
  k_steps
  refine wpC_Call_Name ?_
  k_steps
  k_dflt (refine' callWithC_K0 (K := Mine.hd.heap_1 w.params) ?X ?k ?_; (case X => exact Frag.In.keeps (by assumption) (Fr.keep (by assumption))); (case k => k_is))
  k_dflt (refine' ktrC_le (bio_make ?B ?F ?X ?N ?T ?hk ?_) ?h1 ?h2; (case B => k_asm); (case F => k_asm); (case X => k_asm); (case N => k_asm); (case T => k_asm); (case hk => first | exact rfl | assumption); (case h1 => exact Nat.le_of_ble_eq_true rfl); (case h2 => exact Nat.le_of_ble_eq_true rfl))
  intro S d bf t1 t2 t3 h' k F' N' l1 l2 l3
  have q2 := fun p hp => Nat.lt_trans (l3 p hp) l1
  have q3 := fun p hp => Nat.lt_trans (q2 p hp) l2
  have q4 := Nat.lt_trans l1 l2
  k_lt l3; k_lt q2; k_lt q3; k_lt2 l1; k_lt2 l2; k_lt2 q4
  dsimp only
  simp only [List.cons_append, List.nil_append]
  refine wpC_any ?_
  k_steps
  dsimp only [FlowC]
  refine wpC_execs_cons (wpC_Expr (wpC_Call_Method ?_))
  k_steps
  refine callWithC_builtin2 ?_
  k_steps
  refine wpC_Call_Name ?_
  k_steps
  k_dflt (refine' callWithC_K0 (K := Mine.hd.heap_1 w.params) ?X ?k ?_; (case X => exact Frag.In.keeps (by assumption) (Fr.keep (by assumption))); (case k => k_is))
  k_dflt (refine' ktrC_le (sio_make ?B ?F ?X ?N ?T ?hk ?_) ?h1 ?h2; (case B => k_asm); (case F => k_asm); (case X => k_asm); (case N => k_asm); (case T => k_asm); (case hk => first | exact rfl | assumption); (case h1 => exact Nat.le_of_ble_eq_true rfl); (case h2 => exact Nat.le_of_ble_eq_true rfl))
  intro SS h' k F' N'
  dsimp only
  simp only [List.cons_append, List.nil_append]
  refine wpC_any ?_
  k_steps
  dsimp only [FlowC]
  refine wpC_execs_any ?_
  k_steps
  dsimp only [FlowC]

  refine wpC_execs_any ?_
  k_steps
  dsimp only [FlowC]
  refine wpC_any ?_
  k_steps
  refine' ret _ _ _ _ _ _ _ _ _ _ ?F ?N ?a ?b ?c ?d ?e
  case N => exact cb_drop (by assumption) fun p hp => List.mem_cons_of_mem _ (mem_ins hp)
  case F => assumption
  case a => assumption
  case b => assumption
  case c => first | assumption | exact l3.2.1
  case d => assumption
  case e => rfl

end
end
local macro_rules | `(tactic| walk_at "call ref") => `(tactic| (k_here; k_dflt (refine wpAny_call ?_; ktr_enter)))
local macro_rules | `(tactic| walk_at "subscriptTail") => `(tactic| (k_here; k_dflt (refine' kda_item (knd := PySem.strKind _ _) ?N ?p ?d (strKind_is _ _ _ _) ?l ?_; (case N => k_asm); (case p => k_mem); (case d => k_asm); (case l => assumption))))
local macro_rules | `(tactic| walk_at "call builtin:len") => `(tactic| (k_here; (with_reducible show wpAny _ _ (call (Value.builtin "len") [Value.ref _]) _ _ _); k_dflt (refine' Mine.ba_len_K ?N ?m ?z ?_; (case N => k_asm); (case m => k_mem); (case z => first | decide | omega); k_whole); intro _ _))
local macro_rules | `(tactic| walk_at "call type:bytes") => `(tactic| (k_here; (with_reducible show wpAny _ _ (call (Value.type "bytes") [Value.ref _]) _ _ _); k_dflt (refine' Mine.ba_bytes_K ?F ?N ?m ?z ?_; (case F => k_asm); (case N => k_asm); (case m => k_mem); (case z => first | omega | (simp only [Array.size_extract]; omega)); k_whole); intro _ _ _ F' N'; (try k_sweep)))
local macro_rules | `(tactic| walk_at "subscriptTail") => `(tactic| (k_here; (with_reducible show wpAny _ _ (subscriptTail _ (Expr.Slice _ _ none _) (Value.ref _) (Value.ref _)) _ _ _); (with_reducible rename Fr _ _ _ _ => F'); (with_reducible rename News _ _ _ _ => N'); k_dflt (refine' Mine.ba_slice_K (s := ⟨_, _, _, _, _⟩) F' N' ?m ?z ?a ?b ?_ ; (case m => k_mem); (case z => omega); (case a => omega); (case b => omega); k_whole); intro x' h' F' N' l1; (try k_lt l1); (try k_sweep)))
local macro_rules | `(tactic| walk_at "call type:type") => `(tactic| (k_here; (with_reducible show wpAny _ _ (call _ [Value.bytes _ _]) _ _ _); refine call_type_of (Tx := "bytes") rfl (by decide +kernel) ?_))
section
theorem offMK5 : True := by (w_top off; trivial)
theorem ba_setItem_new {prog : Program} {w : World} {A : Around} {E : Value → Shared → Prop} {s : Shared} {h₀ : Heap} {L : Addr} {m : Str → Option Value} {bf : Addr} {post : List (Addr × Obj)} {x : Array UInt8} {t t1 t2 : Tok} {hi : Int} {Q : Unit → Shared → Prop} (hg : A.guards = some []) (h0 : 0 ≤ hi) (F : Fr h₀ L s.heap m) (N : News h₀ L s.heap ((bf, baObj #[]) :: post)) (h2 : ∀ p ∈ post, p.1 ≠ bf)
    (hz : x.size ≤ 16777216)
    (h : ∀ h', Fr h₀ L h' m → News h₀ L h' ((bf, baObj x) :: post) → Q () { s with heap := h' }) :
    wpC (model prog w) A (setItem (.ref bf) (.ref s.heap.objs.size) (.bytes x t)) Q E { s with heap := s.heap.push { cls := .type "slice", data := .fields #[.int 0 t1, .int hi t2, .none] } } :=
  ba_setItem (s := { s with heap := s.heap.push { cls := .type "slice", data := .fields #[.int 0 t1, .int hi t2, .none] } }) (pre := []) hg h0 (F.push _) (News.pushKeep N _) (fun _ hp => nomatch hp) h2 (Heap.IsSliceOf.new _ _ _ _) (by rw [sizeLine_eq]; exact hz) h
theorem mem_stream {α : Type} {x y z u p : α} {l : List α} (h : p ∈ y :: z :: x :: l) : p ∈ x :: y :: z :: u :: l := by
  simp only [List.mem_cons] at h ⊢
  rcases h with h | h | h | h
  · exact .inr (.inl h)
  · exact .inr (.inr (.inl h))
  · exact .inl h
  · exact .inr (.inr (.inr (.inr h)))
theorem stream_spec {prog : Program} {w : World} {p : Program} {loose : List Str} {mean : ExcName → Option Value} {mg mb : Str → Option Value}
    {cn : Str} {cs : Scope} {a : Nat} {ccd : Value} {outer : List Env} {A₀ : Around} {base h₀ : Heap} {L : Addr} {m : Str → Option Value} {s : Shared} {Q : Value → Shared → Prop} {E : Value → Shared → Prop} {news : List (Addr × Obj)}
    {tt1 tt2 : Tok} {oct : Array UInt8} {place : Int}
    (h4 : oct.size ≤ 20000) (h0 : 0 < oct.size) (hp0 : 0 ≤ place) (hp1 : place ≤ oct.size)
    (B : Below A₀ base outer h₀) (F : Fr h₀ L s.heap m) (X : (Mine.hd.heap_1 w.params).In h₀)
    (N : News h₀ L s.heap news)
    (T : Top p loose mean mg mb h₀) (hk : cs.kind = .function)
    (ret : ∀ S d bf t1 t2 t3 h' k, Fr h₀ L h' m → News h₀ L h' ((S, instObj 365 d) :: (d, dictOf (bioD w.params t1 t2 t3 (.ref bf) place) 2) :: (bf, baObj oct) :: news) → d < S → S < bf → AllLt d news →
      Q (.ref S) { s with heap := h', toks := k }) :
    wpC (model prog w) (ktrTop 306 20 (some []) cn cs L a ccd [] outer) (call (.ref 628) [.bytes oct tt1, .int place tt2]) Q E s := by
  refine wpC_call ?_
  k_dflt ktr_unf
  refine wpC_execs_any ?_
  k_steps
  dsimp only [FlowC]
  refine wpC_execs_cons (wpC_Expr (wpC_Call_Name ?_))
  k_steps
  k_dflt (refine' callWithC_K1 (K := Mine.hd.heap_1 w.params) ?X ?k ?_; (case X => k_asm); (case k => k_is))
  refine wpC_any ?_
  k_steps
  k_dflt (refine' ktrC_le (setup_spec ?B ?F ?X ?N ?lo ?hd ?hlt ?T ?hk ?_) ?h1 ?h2; (case B => k_asm); (case F => k_asm); (case X => k_asm); (case N => k_asm); (case lo => k_asm); (case hd => k_asm); (case hlt => exact allLt_of (by assumption)); (case T => k_asm); (case hk => first | exact rfl | assumption); (case h1 => exact Nat.le_of_ble_eq_true rfl); (case h2 => exact Nat.le_of_ble_eq_true rfl))
  intro S d bf o' kvs t1 t2 t3 h' k F' N' l1 l2 l3 hd' hv'
  have q0 : ∀ q ∈ news, q.1 < _ := (by assumption)
  have q1 := fun q hq => Nat.lt_trans (q0 q hq) l3
  have q2 := fun q hq => Nat.lt_trans (q1 q hq) l1
  have q3 := fun q hq => Nat.lt_trans (q2 q hq) l2
  have l4 := Nat.lt_trans l1 l2
  have l5 := Nat.lt_trans l3 l1
  have l6 := Nat.lt_trans l5 l2
  replace q0 := allLt_of q0; replace q1 := allLt_of q1; replace q2 := allLt_of q2; replace q3 := allLt_of q3; k_lt2 l1; k_lt2 l2; k_lt2 l3; k_lt2 l4; k_lt2 l5; k_lt2 l6
  dsimp only [FlowC]
  refine wpC_execs_any ?_
  k_steps
  dsimp only [FlowC]
  refine wpC_execs_cons (wpC_Expr (wpC_Call_Method ?_))
  k_steps
  k_dflt (refine' callWithC_K1 (K := Mine.hd.heap_1 w.params) ?X ?k ?_; (case X => k_asm); (case k => k_is))
  refine wpC_any ?_
  k_steps
  refine wpC_call ?_
  k_dflt ktr_unf
  refine wpC_execs_any ?_
  k_steps
  dsimp only [FlowC]
  refine wpC_execs_any ?_
  k_steps
  dsimp only [FlowC]
  refine wpC_execs_any ?_
  k_steps
  dsimp only [FlowC]
  refine wpC_execs_any ?_
  k_steps
  all_goals try (exfalso; omega)
  dsimp only [FlowC]
  refine wpC_execs_any ?_
  k_steps
  dsimp only [FlowC]
  refine wpC_execs_any ?_
  k_steps
  all_goals try (exfalso; rename_i z _; revert z; decide)
  all_goals try (exfalso; rename_i z; revert z; decide)
  dsimp only [FlowC]
  refine wpC_execs_any ?_
  k_steps
  all_goals try (exfalso; rename_i z _; revert z; decide)
  all_goals try (exfalso; rename_i z; revert z; decide)
  dsimp only [FlowC]
  refine wpC_execs_cons (wpC_Assign_Subscript ?_)
  k_steps
  dsimp only
  k_dflt (refine' ba_setItem_new (s := ⟨_, _, _, _, _⟩) ?g ?z ?F ?N ?h2 ?x ?_; (case g => exact rfl); (case F => k_asm); (case N => k_asm); (case z => omega); (case x => omega))
  · intro q hq
    simp only [List.mem_cons] at hq
    rcases hq with rfl | rfl | rfl | hq
    · exact Nat.ne_of_lt l2
    · exact Nat.ne_of_lt l4
    · exact Nat.ne_of_lt l6
    · exact Nat.ne_of_lt (allLt_mem q3 q hq)
  intro h' F' N'
  dsimp only
  dsimp only [FlowC]
  refine wpC_execs_any ?_
  k_steps
  dsimp only [FlowC]
  refine wpC_any ?_
  k_steps
  refine wpC_any ?_
  k_steps
  all_goals try (exfalso; omega)
  refine' ret _ _ _ _ _ _ _ _ ?F ?N ?a ?b ?c
  case N => exact cb_drop (by assumption) fun p hp => mem_stream hp
  case F => assumption
  case a => exact l1
  case b => exact l2
  case c => exact q1

end
section
structure Cut (oct : Array UInt8) (size : Int) (ds : List (Array UInt8)) (ps : Nat → Int) : Prop where
  lo : ∀ j, 0 ≤ ps j
  hi : ∀ j, ps j ≤ oct.size
  fin : ∀ j, ds.length ≤ j → ps j = oct.size
  lt : ∀ j, j < ds.length → ps j < oct.size
  step : ∀ j, ps (j + 1) = min (ps j + size) oct.size
  at_ : ∀ j, j < ds.length → ds[j]? = some (oct.extract (ps j).toNat (ps (j + 1)).toNat)
abbrev wled (P : Params) (t1 t2 t3 u1 u2 u3 u4 : Tok) (S d bf W dW q : Nat) (oct : Array UInt8) (pos size : Int) (rest : List (Addr × Obj)) : List (Addr × Obj) :=
  (S, instObj 365 d) :: (d, dictOf (bioD P t1 t2 t3 (.ref bf) pos) 2) :: (bf, baObj oct) :: (W, instObj 53 dW) :: (dW, dictOf (fwD P u1 u2 u3 u4 S q size) 3) :: rest
structure Grd (prog : Program) (w : World) (p : Program) (loose : List Str) (mean : ExcName → Option Value) (mg mb : Str → Option Value) (A₀ : Around) (base : Heap) (outer : List Env) (g₀ g : Heap) : Prop where
  B : Below A₀ base outer g
  X : (Mine.hd.heap_1 w.params).In g
  T : Top p loose mean mg mb g
  D : KtsDicts (outer.filterMap (·.frame)) g
  T0 : KtsTurn (outer.filterMap (·.frame)) g₀ g
structure Wst (S d bf W dW : Nat) (oct : Array UInt8) (size : Int) : Prop where
  hSd : S ≠ d
  hbd : bf ≠ d
  hWd : W ≠ d
  hVd : dW ≠ d
  h2 : 1 ≤ size
  h3 : size ≤ 20000
  h4 : oct.size ≤ 20000
theorem next_cut {prog : Program} {w : World} {p : Program} {loose : List Str} {mean : ExcName → Option Value} {mg mb : Str → Option Value}
    {gd : Option (List Code)} {cn : Str} {cs : Scope} {a : Nat} {ccd : Value} {outer : List Env} {A₀ : Around} {base g₀ h₀ : Heap} {L : Addr} {m : Str → Option Value} {s : Shared} {Q : Option Value → Shared → Prop} {E : Value → Shared → Prop}
    {S d bf W dW q : Nat} {t1 t2 t3 u1 u2 u3 u4 : Tok} {oct : Array UInt8} {size : Int} {rest : List (Addr × Obj)} {ds : List (Array UInt8)} {ps : Nat → Int} {j dp un : Nat}
    (hdp : dp ≤ 310) (hun : un ≤ 40) (Z : Wst S d bf W dW oct size) (hr : ∀ p ∈ rest, p.1 ≠ d) (C : Cut oct size ds ps) (hj : j ≤ ds.length)
    (G : Grd prog w p loose mean mg mb A₀ base outer g₀ h₀) (F : Fr h₀ L s.heap m)
    (N : News h₀ L s.heap (wled w.params t1 t2 t3 u1 u2 u3 u4 S d bf W dW q oct (ps j) size rest)) (hk : cs.kind = .function)
    (XB : (Mine.hd.heap_1 w.params).In base) (TB : Top p loose mean mg mb base)
    (item : ∀ x, ds[j]? = some x → ∀ t t3' h' k, Fr h₀ L h' m → News h₀ L h' (wled w.params t1 t2 t3' u1 u2 u3 u4 S d bf W dW q oct (ps (j + 1)) size rest) →
      Q (some (.bytes x t)) { s with heap := h', toks := k })
    (stop : j = ds.length → ∀ g' h' k, Grd prog w p loose mean mg mb A₀ base outer g₀ g' → Fr g' L h' m → News g' L h' (wled w.params t1 t2 t3 u1 u2 u3 u4 S d bf W dW q oct (ps j) size rest) → Q none { s with heap := h', toks := k }) :
    wpAny (model prog w) (ktrTop dp un gd cn cs L a ccd [] outer) (pyNext (.ref W)) Q E s := by
  refine ktr_le (next_spec (pos := ps j) Z.hSd Z.hbd Z.hWd Z.hVd hr (C.lo j) (by have := C.hi j; have := Z.h4; omega) Z.h2 Z.h3 Z.h4 G.B F G.X N G.T hk XB TB G.D G.T0 ?_ ?_) hdp hun
  · intro hlt np hnp t t3' h' k F' N'
    have hj' : j < ds.length := by
      rcases Nat.lt_or_ge j ds.length with h | h
      · exact h
      · have := C.fin j h; omega
    have e : np = ps (j + 1) := by rw [C.step j]; exact hnp
    subst e
    exact item _ (C.at_ j hj') t t3' h' k F' N'
  · intro hge g' h' k T' F' N' B' X' TT' D'
    have hj' : j = ds.length := by
      rcases Nat.lt_or_ge j ds.length with h | h
      · have := C.lt j h; omega
      · omega
    exact stop hj' g' h' k ⟨B', X', TT', D', T'⟩ F' N'

end
section
theorem offNX2 : True := by (w_top off; trivial)
theorem iter_spec {prog : Program} {w : World} {p : Program} {loose : List Str} {mean : ExcName → Option Value} {mg mb : Str → Option Value}
    {gd : Option (List Code)} {cn : Str} {cs : Scope} {a : Nat} {ccd : Value} {outer : List Env} {A₀ : Around} {base h₀ : Heap} {L : Addr} {S d bf W dW q : Nat} {t1 t2 t3 u1 u2 u3 u4 : Tok} {oct : Array UInt8} {pos size : Int} {m : Str → Option Value} {s : Shared} {Q : Value → Shared → Prop} {E : Value → Shared → Prop} {news : List (Addr × Obj)}
    (B : Below A₀ base outer h₀) (F : Fr h₀ L s.heap m) (X : (Mine.hd.heap_1 w.params).In h₀)
    (N : News h₀ L s.heap ((S, instObj 365 d) :: (d, dictOf (bioD w.params t1 t2 t3 (.ref bf) pos) 2) :: (bf, baObj oct) :: (W, instObj 53 dW) :: (dW, dictOf (fwD w.params u1 u2 u3 u4 S q size) 3) :: news)) (T : Top p loose mean mg mb h₀) (hk : cs.kind = .function)
    (ret : ∀ h' k, Fr h₀ L h' m → News h₀ L h' ((S, instObj 365 d) :: (d, dictOf (bioD w.params t1 t2 t3 (.ref bf) pos) 2) :: (bf, baObj oct) :: (W, instObj 53 dW) :: (dW, dictOf (fwD w.params u1 u2 u3 u4 S q size) 3) :: news) → Q (.ref W) { s with heap := h', toks := k }) :
    wpAny (model prog w) (ktrTop 310 40 gd cn cs L a ccd [] outer) (pyIter (.ref W)) Q E s := by
  k_dflt (refine' owit_iter ?F ?X ?I ?hs ?hf ?_; (case F => k_asm); (case X => k_asm); (case I => k_inst); (case hs => k_is); (case hf => k_is); k_whole)
  k_steps
  exact ret _ _ (by assumption) (by assumption)

end
section
theorem offMK6 : True := by (w_top off; trivial)
theorem mem_skip2b {α : Type} {x u v p : α} {l : List α} (h : p ∈ x :: l) : p ∈ x :: u :: v :: l := by
  simp only [List.mem_cons] at h ⊢
  rcases h with h | h
  · exact .inl h
  · exact .inr (.inr (.inr h))
local macro_rules | `(tactic| walk_at "subscriptTail") => `(tactic| (k_here; (with_reducible show wpAny _ _ (subscriptTail _ (Expr.Slice _ _ none _) (Value.bytes _ _) (Value.ref _)) _ _ _); (with_reducible rename Fr _ _ _ _ => F'); (with_reducible rename News _ _ _ _ => N'); k_dflt (refine' Mine.bslice2 (s := ⟨_, _, _, _, _⟩) F' N' ?z ?a ?b ?_; (case z => omega); (case a => first | assumption | omega); (case b => first | assumption | omega); k_whole); intro h' t' k' F' N'; (try k_sweep)))
def cnt (oct : Array UInt8) (size : Int) : Nat := (-(-(oct.size : Int)).fdiv size).toNat
def piece (oct : Array UInt8) (size : Int) (k : Int) : Array UInt8 := oct.extract (k * size).toNat ((k + 1) * size).toNat
def pieces (oct : Array UInt8) (size : Int) : List (Array UInt8) := (rangeKs 0 (cnt oct size)).map (piece oct size)
theorem cnt_lo {oct : Array UInt8} {size : Int} (h1 : 1 ≤ size) : 0 ≤ -(-(oct.size : Int)).fdiv size := by
  rw [Int.fdiv_eq_ediv_of_nonneg _ (by omega)]
  have := Int.ediv_mul_le (-(oct.size : Int)) (b := size) (by omega)
  by_cases h : 0 < (-(oct.size : Int)) / size
  · have := Int.mul_le_mul_of_nonneg_right (a := 1) (b := (-(oct.size : Int)) / size) (c := size) (by omega) (by omega)
    omega
  · omega
theorem cnt_hi {oct : Array UInt8} {size : Int} (h1 : 1 ≤ size) (h4 : oct.size ≤ 20000) : -(-(oct.size : Int)).fdiv size ≤ 20000 := by
  rw [Int.fdiv_eq_ediv_of_nonneg _ (by omega)]
  have := Int.le_ediv_of_mul_le (a := -20000) (b := -(oct.size : Int)) (c := size) (by omega) (by
    have : 20000 * 1 ≤ 20000 * size := Int.mul_le_mul_of_nonneg_left h1 (by decide)
    have e : (-20000 : Int) * size = -(20000 * size) := Int.neg_mul ..
    rw [e]; omega)
  omega
theorem pieces_spec {prog : Program} {w : World} {p : Program} {loose : List Str} {mean : ExcName → Option Value} {mg mb : Str → Option Value}
    {gd : Option (List Code)} {cn : Str} {cs : Scope} {a : Nat} {ccd : Value} {outer : List Env} {A₀ : Around} {base h₀ : Heap} {L : Addr} {m : Str → Option Value} {s : Shared} {Q : Value → Shared → Prop} {E : Value → Shared → Prop} {news : List (Addr × Obj)}
    {tt1 tt2 : Tok} {oct : Array UInt8} {size : Int}
    (h4 : oct.size ≤ 20000) (h1 : 1 ≤ size) (h2 : size ≤ 20000)
    (B : Below A₀ base outer h₀) (F : Fr h₀ L s.heap m) (X : (Mine.hd.heap_1 w.params).In h₀)
    (N : News h₀ L s.heap news)
    (T : Top p loose mean mg mb h₀) (hk : cs.kind = .function)
    (ret : ∀ l h' k ys, Fr h₀ L h' m → News h₀ L h' ((l, LCg.lst ys) :: news) → BsAre ys (pieces oct size) → LCg.Off1 l news → Q (.ref l) { s with heap := h', toks := k }) :
    wpAny (model prog w) (ktrTop 306 20 gd cn cs L a ccd [] outer) (call (.ref 633) [.bytes oct tt1, .int size tt2]) Q E s := by
  refine wpAny_call ?_
  k_dflt (refine' code_defC ?k1 ?k2 ?k3 ?k4 ?k5 ?kA ?kF ?kK ?k6 ?k7 ?k8 ?k9 ?kB ?kD ?_ ?c2 ?c3 ?c4; (case kA => exact rfl); (case kF => exact rfl); (case kK => first | exact rfl | assumption); (case k1 => k_asm); (case k2 => k_asm); (case k3 => k_asm); (case k4 => k_asm); (case k5 => k_asm); (case k6 => k_is); (case k7 => k_is); (case k8 => first | k_room | ktr_room); (case k9 => first | exact BindsTo.of_eq rfl | exact binds_K (by k_in) rfl (by k_is) rfl rfl rfl | fail "k_enter: no rule for these arguments"); (case kB => exact rfl); (case kD => decide +kernel); (case c2 => exact rfl); (case c3 => exact rfl); (case c4 => exact rfl); k_whole; intro g' L' h' tk' cells' FG' F' N' Y' B' X' T' l1; (try k_lt l1); k_cells Y'; (try simp only [List.cons_append, List.nil_append] at N'); (try dsimp only); (try k_lift B'); (try k_fold))
  k_steps
  have e2 : (-(-(oct.size : Int)).fdiv size - 0).toNat = cnt oct size := by unfold cnt; rw [Int.sub_zero]
  k_dflt (refine LCg.CompSrc.range (by rfl) (by k_asm) (by k_asm) (by assumption) ?_ (rangeSize_nat _ _) ?_ ?_)
  · exact small_one (by decide) (by decide) (by have := cnt_lo (oct := oct) h1; omega) (by have := cnt_hi (oct := oct) h1 h4; omega)
  · rw [PySem.sizeLine_eq]; have := cnt_lo (oct := oct) h1; have := cnt_hi (oct := oct) h1 h4; omega
  intro g'
  refine kbs_range (piece oct size) ?_ ?_
  · intro k t I oI C oC D m₂ ys h tk E' hk0 hk1 hC hx F' N' off ne
    have off0 := off
    simp only [LCg.Off3] at off
    have hm0 : 0 ≤ k * size := Int.mul_nonneg hk0 (by omega)
    have hm1 : 0 ≤ (k + 1) * size := Int.mul_nonneg (by omega) (by omega)
    k_steps
    exact ⟨_, _, _, rfl, by assumption, by assumption, off0, trivial, rfl, _, rfl⟩
  · intro ys hys
    rw [e2] at hys
    k_steps
    refine ret _ _ _ _ (by assumption) ?_ hys ?_
    · exact cb_drop (by assumption) fun p hp => mem_skip2b hp
    · exact (by assumption : _ ∧ _ ∧ LCg.Off1 _ news).2.2

end
section
theorem news_repl {h₀ h h' : Heap} {L C : Addr} {o o' : Obj} {l₁ l₂ : List (Addr × Obj)} (N : News h₀ L h (l₁ ++ (C, o) :: l₂)) (hs : Heap.SameBut C h h') (ho : h'.get? C = some o') (h1 : ∀ p ∈ l₁, p.1 ≠ C) (h2 : ∀ p ∈ l₂, p.1 ≠ C) :
    News h₀ L h' (l₁ ++ (C, o') :: l₂) := fun p hp => by
  have hC := N (C, o) (List.mem_append_right _ List.mem_cons_self)
  rcases List.mem_append.mp hp with hp | hp
  · exact ⟨hs.extBut _ _ (h1 p hp) (N p (List.mem_append_left _ hp)).1, (N p (List.mem_append_left _ hp)).2⟩
  · rcases List.mem_cons.mp hp with rfl | hp
    · exact ⟨ho, hC.2⟩
    · exact ⟨hs.extBut _ _ (h2 p hp) (N p (List.mem_append_right _ (List.mem_cons_of_mem _ hp))).1, (N p (List.mem_append_right _ (List.mem_cons_of_mem _ hp))).2⟩
theorem comp_wrap {prog : Program} {w : World} {p : Program} {loose : List Str} {mean : ExcName → Option Value} {mg mb : Str → Option Value}
    {gd : Option (List Code)} {cn : Str} {cs : Scope} {a : Nat} {ccd : Value} {outer : List Env} {A₀ : Around} {base g₀ h₀ : Heap} {L : Addr} {m : Str → Option Value} {s : Shared} {Q : Value → Shared → Prop} {E : Value → Shared → Prop}
    {S d bf W dW q : Nat} {t1 t2 t3 u1 u2 u3 u4 : Tok} {oct : Array UInt8} {size : Int} {rest : List (Addr × Obj)} {ds : List (Array UInt8)} {ps : Nat → Int} {j dp un : Nat}
    {iter : Expr} {x : Str} {pe px : Pos} {scope : Scope} {cl : List (Str × Addr)} {pos : Pos} {env : Env}
    (hdp : dp ≤ 310) (hun : un ≤ 40) (Z : Wst S d bf W dW oct size) (hr : ∀ p ∈ rest, p.1 ≠ d) (C : Cut oct size ds ps) (hj : j ≤ ds.length)
    (G : Grd prog w p loose mean mg mb A₀ base outer g₀ h₀) (F : Fr h₀ L s.heap m)
    (N : News h₀ L s.heap (wled w.params t1 t2 t3 u1 u2 u3 u4 S d bf W dW q oct (ps j) size rest)) (hk : cs.kind = .function)
    (XB : (Mine.hd.heap_1 w.params).In base) (TB : Top p loose mean mg mb base)
    (hcell : ∀ y ∈ scope.names, y.2 ≠ .cell) (hkind : scope.kind = .function) (hx : scope.names.lookup x = some .local) (hdb : (x == ("__debug__" : Str)) = false)
    (hds : ds.length ≤ 20000)
    (ret : ∀ D g' h' k t3' ys, Grd prog w p loose mean mg mb A₀ base outer g₀ g' → Fr g' L h' m → News g' L h' ((D, LCg.lst ys) :: wled w.params t1 t2 t3' u1 u2 u3 u4 S d bf W dW q oct (ps ds.length) size rest) →
      BsAre ys (ds.drop j) → (∀ p ∈ wled w.params t1 t2 t3' u1 u2 u3 u4 S d bf W dW q oct (ps ds.length) size rest, p.1 < D) → Q (.ref D) { s with heap := h', toks := k }) :
    wpAny (model prog w) (ktrTop dp un gd cn cs L a ccd [] outer) (newList []) (fun acc s₃ => wpAny (model prog w) (ktrTop dp un gd cn cs L a ccd [] outer) (newFunctionEnv scope env.globals cl [] env.qual none .none (some env)) (fun cenv s₄ =>
      codeAny (model prog w) (ktrTop dp un gd cn cs L a ccd [] outer) (.compStart (.ListComp (.Name x pe) [⟨.Name x px, iter, [], 0⟩] scope pos) 0 (.ref W) acc { cenv with scope := relabel scope env })
        (compPost (model prog w) (ktrTop dp un gd cn cs L a ccd [] outer) E none Q acc cenv.locals) s₄) E s₃) E s := by
  refine wpAny_newObj_type (wpAny_newFunctionEnv hcell (by intro y hy; simp at hy) (fun h₁ hns₁ hsb₁ => ?_) hkind)
  dsimp only at hns₁ hsb₁ ⊢
  generalize hH2 : s.heap.push { cls := .type "list", dict := none, data := .seq ([] : List Value).toArray } = H2 at hns₁ hsb₁ ⊢
  have hC : H2.objs.size = s.heap.objs.size + 1 := by rw [← hH2, Heap.size_push]
  have hDC : s.heap.objs.size ≠ H2.objs.size := by rw [hC]; exact Nat.ne_of_lt (Nat.lt_succ_self _)
  have below : ∀ b, b < s.heap.objs.size → b ≠ H2.objs.size ∧ b ≠ s.heap.objs.size := fun b hb => ⟨by rw [hC]; exact Nat.ne_of_lt (Nat.lt_succ_of_lt hb), Nat.ne_of_lt hb⟩
  have old : ∀ b o, s.heap.get? b = some o → h₁.get? b = some o := fun b o e => hsb₁.extBut b o (below b (Heap.lt_size e)).1 (Heap.get?_push_of_some _ (hH2 ▸ Heap.get?_push_of_some _ e))
  have hacc : h₁.get? s.heap.objs.size = some (LCg.lst []) := hsb₁.extBut _ _ hDC (Heap.get?_push_of_some _ (hH2 ▸ Heap.get?_push_size _ rfl))
  have fresh : ∀ a, s.heap.objs.size ≤ a → s.heap.get? a = none := fun a ha => by
    cases e : s.heap.get? a with
    | none => rfl
    | some o' => exact absurd (Heap.lt_size e) (Nat.not_lt.mpr ha)
  have fresh₀ : ∀ a, s.heap.objs.size ≤ a → h₀.get? a = none := fun a ha => by
    cases e : h₀.get? a with
    | none => rfl
    | some o' => have := F.keep a o' e; rw [fresh a ha] at this; cases this
  have hD₀ : h₀.get? s.heap.objs.size = none := fresh₀ _ (Nat.le_refl _)
  have hC₀ : h₀.get? H2.objs.size = none := fresh₀ _ (by rw [hC]; exact Nat.le_succ _)
  have hLlt : L < s.heap.objs.size := F.ns.lt
  have hDL : s.heap.objs.size ≠ L := Ne.symm (below L hLlt).2
  have hCL : H2.objs.size ≠ L := Ne.symm (below L hLlt).1
  have addr : ∀ pos t, ∀ p ∈ wled w.params t1 t2 t u1 u2 u3 u4 S d bf W dW q oct pos size rest, p.1 < s.heap.objs.size := fun pos t p hp => by
    have key : ∃ o, (p.1, o) ∈ wled w.params t1 t2 t3 u1 u2 u3 u4 S d bf W dW q oct (ps j) size rest := by
      simp only [wled, List.mem_cons] at hp ⊢
      rcases hp with rfl | rfl | rfl | rfl | rfl | hp
      · exact ⟨_, .inl rfl⟩
      · exact ⟨_, .inr (.inl rfl)⟩
      · exact ⟨_, .inr (.inr (.inl rfl))⟩
      · exact ⟨_, .inr (.inr (.inr (.inl rfl)))⟩
      · exact ⟨_, .inr (.inr (.inr (.inr (.inl rfl))))⟩
      · exact ⟨p.2, .inr (.inr (.inr (.inr (.inr hp))))⟩
    obtain ⟨o, ho⟩ := key
    exact Heap.lt_size (N _ ho).1
  have dlt : d < s.heap.objs.size := addr (ps j) t3 (d, _) (List.mem_cons_of_mem _ List.mem_cons_self)
  obtain ⟨oC₁, heC₁, hoC₁⟩ := LCg.ns_obj hns₁
  have N₁ : News h₀ L h₁ (wled w.params t1 t2 t3 u1 u2 u3 u4 S d bf W dW q oct (ps j) size ((s.heap.objs.size, LCg.lst []) :: (H2.objs.size, oC₁) :: rest)) := fun p hp => by
    simp only [wled, List.mem_cons] at hp
    rcases hp with h | h | h | h | h | rfl | rfl | h
    · exact ⟨old _ _ (N p (by simp only [wled, List.mem_cons]; exact .inl h)).1, (N p (by simp only [wled, List.mem_cons]; exact .inl h)).2⟩
    · exact ⟨old _ _ (N p (by simp only [wled, List.mem_cons]; exact .inr (.inl h))).1, (N p (by simp only [wled, List.mem_cons]; exact .inr (.inl h))).2⟩
    · exact ⟨old _ _ (N p (by simp only [wled, List.mem_cons]; exact .inr (.inr (.inl h)))).1, (N p (by simp only [wled, List.mem_cons]; exact .inr (.inr (.inl h)))).2⟩
    · exact ⟨old _ _ (N p (by simp only [wled, List.mem_cons]; exact .inr (.inr (.inr (.inl h))))).1, (N p (by simp only [wled, List.mem_cons]; exact .inr (.inr (.inr (.inl h))))).2⟩
    · exact ⟨old _ _ (N p (by simp only [wled, List.mem_cons]; exact .inr (.inr (.inr (.inr (.inl h)))))).1, (N p (by simp only [wled, List.mem_cons]; exact .inr (.inr (.inr (.inr (.inl h)))))).2⟩
    · exact ⟨hacc, hDL, hD₀⟩
    · exact ⟨heC₁, hCL, hC₀⟩
    · exact ⟨old _ _ (N p (by simp only [wled, List.mem_cons]; exact .inr (.inr (.inr (.inr (.inr h)))))).1, (N p (by simp only [wled, List.mem_cons]; exact .inr (.inr (.inr (.inr (.inr h)))))).2⟩
  have hr' : ∀ (ys : List Value) (oC : Obj), ∀ p ∈ ((s.heap.objs.size, LCg.lst ys) :: (H2.objs.size, oC) :: rest : List (Addr × Obj)), p.1 ≠ d := fun ys oC p hp => by
    simp only [List.mem_cons] at hp
    rcases hp with rfl | rfl | hp
    · exact Ne.symm (below d dlt).2
    · exact Ne.symm (below d dlt).1
    · exact hr p hp
  have loop : ∀ (s₃ : Shared) h₁ tk₁ oC₁ m₁, s₃ = { s with heap := h₁, toks := tk₁ } → LCg.NsObj oC₁ m₁ → Fr h₀ L h₁ m → News h₀ L h₁ (wled w.params t1 t2 t3 u1 u2 u3 u4 S d bf W dW q oct (ps j) size ((s.heap.objs.size, LCg.lst []) :: (H2.objs.size, oC₁) :: rest)) →
      codeAny (model prog w) (ktrTop dp un gd cn cs L a ccd [] outer) (.compLoop (.ListComp (.Name x pe) [⟨.Name x px, iter, [], 0⟩] scope pos) 0 (.ref W) (.ref s.heap.objs.size) (compEnvC scope cl H2.objs.size env))
        (compPost (model prog w) (ktrTop dp un gd cn cs L a ccd [] outer) E none Q (.ref s.heap.objs.size) H2.objs.size) s₃ := by
    rintro s₃ h₁ tk₁ oC₁ m₁ rfl hoC₁ F₁ N₁
    refine codeAny_compLoop_list
      (fun k s' => ∃ i g h' tk t3' ys oC m', s' = { s with heap := h', toks := tk } ∧ k = ds.length + 1 - i ∧ j ≤ i ∧ i ≤ ds.length ∧ BsAre ys ((ds.drop j).take (i - j)) ∧ LCg.NsObj oC m' ∧ Grd prog w p loose mean mg mb A₀ base outer g₀ g ∧ Fr g L h' m ∧
        News g L h' (wled w.params t1 t2 t3' u1 u2 u3 u4 S d bf W dW q oct (ps i) size ((s.heap.objs.size, LCg.lst ys) :: (H2.objs.size, oC) :: rest))) ?_ (ds.length + 1 - j)
      ⟨j, h₀, h₁, _, t3, [], oC₁, _, rfl, rfl, Nat.le_refl _, hj, by rw [Nat.sub_self]; exact .nil, hoC₁, G, F₁, N₁⟩
    rintro k s' ⟨i, g, h', tk, t3', ys, oC, m', rfl, rfl, hji, hi, hys, hoC, G', F', N'⟩
    refine next_cut hdp hun Z (hr' ys oC) C hi G' F' N' hk XB TB (fun v hv t t3'' h₂ tk₂ F₂ N₂ => ?_) (fun hend g' h₂ tk₂ G₂ F₂ N₂ => ?_)
    · have hlt : i < ds.length := (List.getElem?_eq_some_iff.mp hv).1
      have mC : (H2.objs.size, oC) ∈ wled w.params t1 t2 t3'' u1 u2 u3 u4 S d bf W dW q oct (ps (i + 1)) size ((s.heap.objs.size, LCg.lst ys) :: (H2.objs.size, oC) :: rest) := by simp [wled]
      have hg₀ : ∀ o, g.get? H2.objs.size ≠ some o := fun o e => by rw [(N₂ _ mC).2.2] at e; cases e
      refine wpAny_assign_Name (wpAny_storeName_local (m := m') (lookup_relabel_local hx) (hoC.ns (N₂ _ mC).1) (fun h₃ hn₃ hs₃ => ?_) (by simp [compEnvC, relabel, hkind]))
      obtain ⟨oC₃, heC₃, hoC₃⟩ := LCg.ns_obj hn₃
      have F₃ : Fr g L h₃ m := F₂.change hs₃ hCL (N₂ _ mC).2.2
      have N₃ : News g L h₃ (wled w.params t1 t2 t3'' u1 u2 u3 u4 S d bf W dW q oct (ps (i + 1)) size ((s.heap.objs.size, LCg.lst ys) :: (H2.objs.size, oC₃) :: rest)) :=
        news_repl (l₁ := wled w.params t1 t2 t3'' u1 u2 u3 u4 S d bf W dW q oct (ps (i + 1)) size [(s.heap.objs.size, LCg.lst ys)]) (l₂ := rest) N₂ hs₃ heC₃ (fun p hp => by
          simp only [wled, List.mem_cons, List.not_mem_nil, or_false] at hp
          rcases hp with h | h | h | h | h | rfl
          · exact (below _ (addr (ps (i + 1)) t3'' p (by simp only [wled, List.mem_cons]; exact .inl h))).1
          · exact (below _ (addr (ps (i + 1)) t3'' p (by simp only [wled, List.mem_cons]; exact .inr (.inl h)))).1
          · exact (below _ (addr (ps (i + 1)) t3'' p (by simp only [wled, List.mem_cons]; exact .inr (.inr (.inl h))))).1
          · exact (below _ (addr (ps (i + 1)) t3'' p (by simp only [wled, List.mem_cons]; exact .inr (.inr (.inr (.inl h)))))).1
          · exact (below _ (addr (ps (i + 1)) t3'' p (by simp only [wled, List.mem_cons]; exact .inr (.inr (.inr (.inr (.inl h))))))).1
          · exact hDC) (fun p hp => (below _ (addr (ps (i + 1)) t3'' p (by simp only [wled, List.mem_cons]; exact .inr (.inr (.inr (.inr (.inr hp))))))).1)
      refine LCgL.ld_own (v := .bytes v t) N₃ (by simp [wled] : (H2.objs.size, oC₃) ∈ _) hoC₃ (by simp) ?_ (by exact hkind) (by exact lookup_relabel_local hx) hdb
      have zD := (N₃ (s.heap.objs.size, LCg.lst ys) (by simp [wled])).1
      have hyl : ys.length = i - j := by rw [hys.length, List.length_take, List.length_drop]; omega
      refine append_at (hsz := by show ys.toArray.size ≤ sizeLine; rw [List.size_toArray, hyl, PySem.sizeLine_eq]; omega) zD fun h₅ hs₅ hD₅ => ?_
      refine ⟨ds.length + 1 - (i + 1), by omega, i + 1, g, h₅, _, t3'', ys ++ [.bytes v t], oC₃, _, rfl, rfl, by omega, hlt, ?_, hoC₃, G', F₃.change hs₅ hDL (N₃ (s.heap.objs.size, LCg.lst ys) (by simp [wled])).2.2, ?_⟩
      · rw [show i + 1 - j = (i - j) + 1 by omega, List.take_add_one, List.getElem?_drop, show j + (i - j) = i by omega, hv]
        exact hys.append (.cons v t .nil)
      · exact news_repl (l₁ := wled w.params t1 t2 t3'' u1 u2 u3 u4 S d bf W dW q oct (ps (i + 1)) size []) (l₂ := (H2.objs.size, oC₃) :: rest) N₃ hs₅ (hD₅.trans (congrArg some (LCg.lst_snoc ys _))) (fun p hp => by
          simp only [wled, List.mem_cons, List.not_mem_nil, or_false] at hp
          rcases hp with h | h | h | h | h
          · exact (below _ (addr (ps (i + 1)) t3'' p (by simp only [wled, List.mem_cons]; exact .inl h))).2
          · exact (below _ (addr (ps (i + 1)) t3'' p (by simp only [wled, List.mem_cons]; exact .inr (.inl h)))).2
          · exact (below _ (addr (ps (i + 1)) t3'' p (by simp only [wled, List.mem_cons]; exact .inr (.inr (.inl h))))).2
          · exact (below _ (addr (ps (i + 1)) t3'' p (by simp only [wled, List.mem_cons]; exact .inr (.inr (.inr (.inl h)))))).2
          · exact (below _ (addr (ps (i + 1)) t3'' p (by simp only [wled, List.mem_cons]; exact .inr (.inr (.inr (.inr (.inl h))))))).2) (fun p hp => by
          rcases List.mem_cons.mp hp with rfl | hp
          · exact Ne.symm hDC
          · exact (below _ (addr (ps (i + 1)) t3'' p (by simp only [wled, List.mem_cons]; exact .inr (.inr (.inr (.inr (.inr hp))))))).2)
    · subst hend
      have mC : (H2.objs.size, oC) ∈ wled w.params t1 t2 t3' u1 u2 u3 u4 S d bf W dW q oct (ps ds.length) size ((s.heap.objs.size, LCg.lst ys) :: (H2.objs.size, oC) :: rest) := by simp [wled]
      refine ⟨m', hoC.ns (N₂ _ mC).1, fun h'' hs'' => ret _ g' h'' tk₂ t3' ys G₂ (F₂.change hs'' hCL (N₂ _ mC).2.2) (fun p hp => ?_) ?_ (addr _ _)⟩
      · have hne : p.1 ≠ H2.objs.size := by
          rcases List.mem_cons.mp hp with rfl | hp
          · exact hDC
          · exact (below _ (addr _ _ p hp)).1
        have hm : p ∈ wled w.params t1 t2 t3' u1 u2 u3 u4 S d bf W dW q oct (ps ds.length) size ((s.heap.objs.size, LCg.lst ys) :: (H2.objs.size, oC) :: rest) := by
          simp only [wled, List.mem_cons] at hp ⊢
          rcases hp with h | h | h | h | h | h | h
          · exact .inr (.inr (.inr (.inr (.inr (.inl h)))))
          · exact .inl h
          · exact .inr (.inl h)
          · exact .inr (.inr (.inl h))
          · exact .inr (.inr (.inr (.inl h)))
          · exact .inr (.inr (.inr (.inr (.inl h))))
          · exact .inr (.inr (.inr (.inr (.inr (.inr (.inr h))))))
        exact ⟨hs''.extBut _ _ hne (N₂ p hm).1, (N₂ p hm).2⟩
      · rw [List.take_of_length_le (by rw [List.length_drop]; omega)] at hys
        exact hys
  have F₁ : Fr h₀ L h₁ m := F.keeps old
  refine codeAny_compStart_list (loop _ h₁ _ oC₁ _ rfl hoC₁ F₁ N₁) ?_
  exact ktr_le (iter_spec G.B F₁ G.X N₁ G.T hk fun h' k F' N' => loop _ h' k oC₁ _ rfl hoC₁ F' N') hdp hun

end
section
def bound (v : Str) (xv : Option Value) (m : Str → Option Value) : Str → Option Value := fun y => if y = v then xv else m y
theorem bound_self (v : Str) (m : Str → Option Value) : bound v (m v) m = m := by
  funext y; unfold bound; split
  · next h => rw [h]
  · rfl
theorem bound_bound (v : Str) (x y : Option Value) (m : Str → Option Value) : (fun z => if z = v then y else bound v x m z) = bound v y m := by
  funext z; unfold bound; split <;> rfl
def TurnEnd (h₀ : Heap) (L : Addr) (m : Str → Option Value) (news : List (Addr × Obj)) (s : Shared) (fl : Flow) (f : Flow) (s' : Shared) : Prop :=
  ∃ h'' k, s' = { s with heap := h'', toks := k } ∧ f = fl ∧ Fr h₀ L h'' m ∧ News h₀ L h'' news
theorem take_loop {prog : Program} {w : World} {p : Program} {loose : List Str} {mean : ExcName → Option Value} {mg mb : Str → Option Value}
    {gd : Option (List Code)} {cn : Str} {cs : Scope} {a : Nat} {ccd : Value} {outer : List Env} {A₀ : Around} {base g₀ : Heap} {L : Addr} {m : Str → Option Value} {s : Shared} {Q : Flow → Shared → Prop} {E : Value → Shared → Prop}
    {S d bf W dW q l : Nat} {t1 t2 u1 u2 u3 u4 : Tok} {oct : Array UInt8} {size : Int} {rest : List (Addr × Obj)} {ds : List (Array UInt8)} {ps : Nat → Int} {dp un few : Nat} {v : Str} {body : List Stmt}
    (hdp : dp ≤ 310) (hun : un ≤ 40) (Z : Wst S d bf W dW oct size) (hr : ∀ p ∈ rest, p.1 ≠ d) (hl : l ≠ d) (C : Cut oct size ds ps) (hk : cs.kind = .function)
    (XB : (Mine.hd.heap_1 w.params).In base) (TB : Top p loose mean mg mb base) (hds : ds.length ≤ 20000)
    (hv : (envOf cn cs L a ccd).kindOf v = some .local)
    (bodyH : ∀ g h' tk ys i x t t3', Grd prog w p loose mean mg mb A₀ base outer g₀ g → Fr g L h' (bound v (some (.bytes x t)) m) → ys.length = i → i < few → i < 20000 →
      News g L h' (wled w.params t1 t2 t3' u1 u2 u3 u4 S d bf W dW q oct (ps (i + 1)) size ((l, LCg.lst ys) :: rest)) →
      wpAny (model prog w) (ktrTop dp un gd cn cs L a ccd [] outer) (execs body (envOf cn cs L a ccd))
        (TurnEnd g L (bound v (some (.bytes x t)) m) (wled w.params t1 t2 t3' u1 u2 u3 u4 S d bf W dW q oct (ps (i + 1)) size ((l, LCg.lst (ys ++ [.bytes x t])) :: rest)) { s with heap := h', toks := tk } (if i + 1 = few then .brk else .next)) E { s with heap := h', toks := tk })
    (out : ∀ g h' tk ys t3' xv, Grd prog w p loose mean mg mb A₀ base outer g₀ g → Fr g L h' (bound v xv m) →
      News g L h' (wled w.params t1 t2 t3' u1 u2 u3 u4 S d bf W dW q oct (ps (min few ds.length)) size ((l, LCg.lst ys) :: rest)) → BsAre ys (ds.take few) → Q .next { s with heap := h', toks := tk }) :
    ∀ (n i : Nat) (g h' : Heap) (tk : Nat) (ys : List Value) (t3' : Tok) (xv : Option Value), few - i < n → i < few → i ≤ ds.length → Grd prog w p loose mean mg mb A₀ base outer g₀ g → Fr g L h' (bound v xv m) → BsAre ys (ds.take i) →
      News g L h' (wled w.params t1 t2 t3' u1 u2 u3 u4 S d bf W dW q oct (ps i) size ((l, LCg.lst ys) :: rest)) →
      OwitRest prog w (ktrTop dp un gd cn cs L a ccd [] outer) E (envOf cn cs L a ccd) v body Q W n { s with heap := h', toks := tk } := by
  intro n
  induction n with
  | zero => intro i g h' tk ys t3' xv hn; exact absurd hn (Nat.not_lt_zero _)
  | succ n ih =>
    intro i g h' tk ys t3' xv hn hif hi G F hys N
    refine OwitRest.succ ?_
    have hr' : ∀ ys : List Value, ∀ p ∈ ((l, LCg.lst ys) :: rest : List (Addr × Obj)), p.1 ≠ d := fun ys p hp => by
      rcases List.mem_cons.mp hp with rfl | hp
      · exact hl
      · exact hr p hp
    refine next_cut hdp hun Z (hr' ys) C hi G F N hk XB TB (fun x hx t t3'' h₂ tk₂ F₂ N₂ => ?_) (fun hend g' h₂ tk₂ G₂ F₂ N₂ => ?_)
    · have hlt : i < ds.length := (List.getElem?_eq_some_iff.mp hx).1
      show wpAny _ _ (storeName _ _ _) _ _ _
      refine stN F₂ N₂ (fun h₃ F₃ N₃ => ?_) hk hv
      rw [bound_bound] at F₃
      have hyl : ys.length = i := by rw [hys.length, List.length_take]; omega
      refine wpAny_mono (bodyH g h₃ (tk₂ + 1) ys i x t t3'' G F₃ hyl hif (by omega) N₃) (fun f s₃ hf => ?_) fun _ _ z => z
      obtain ⟨h₄, k₄, rfl, rfl, F₄, N₄⟩ := hf
      have hys' : BsAre (ys ++ [.bytes x t]) (ds.take (i + 1)) := by
        rw [List.take_add_one, hx]; exact hys.append (.cons x t .nil)
      by_cases he : i + 1 = few
      · rw [if_pos he]
        show Q .next _
        subst he
        exact out g h₄ k₄ _ t3'' _ G F₄ (by rw [Nat.min_eq_left hlt]; exact N₄) hys'
      · rw [if_neg he]
        show OwitRest prog w _ E _ v body Q W n _
        exact ih (i + 1) g h₄ k₄ _ t3'' _ (by omega) (by omega) hlt G F₄ hys' N₄
    · subst hend
      show Q .next _
      exact out g' h₂ tk₂ ys t3' xv G₂ F₂ (by rw [Nat.min_eq_right (by omega)]; exact N₂) (by rw [List.take_of_length_le (by omega)]; rw [List.take_of_length_le (by omega)] at hys; exact hys)
theorem for_wrap {prog : Program} {w : World} {p : Program} {loose : List Str} {mean : ExcName → Option Value} {mg mb : Str → Option Value}
    {gd : Option (List Code)} {cn : Str} {cs : Scope} {a : Nat} {ccd : Value} {outer : List Env} {A₀ : Around} {base g₀ g : Heap} {L : Addr} {m : Str → Option Value} {s : Shared} {Q : Flow → Shared → Prop} {E : Value → Shared → Prop}
    {S d bf W dW q l : Nat} {t1 t2 t3 u1 u2 u3 u4 : Tok} {oct : Array UInt8} {size : Int} {rest : List (Addr × Obj)} {ds : List (Array UInt8)} {ps : Nat → Int} {dp un few : Nat} {v y : Str} {px py pos : Pos} {body : List Stmt}
    (hdp : dp ≤ 310) (hun : un ≤ 40) (Z : Wst S d bf W dW oct size) (hr : ∀ p ∈ rest, p.1 ≠ d) (hl : l ≠ d) (C : Cut oct size ds ps) (hk : cs.kind = .function)
    (XB : (Mine.hd.heap_1 w.params).In base) (TB : Top p loose mean mg mb base) (hds : ds.length ≤ 20000)
    (hf0 : 0 < few) (hf1 : few ≤ 60) (G : Grd prog w p loose mean mg mb A₀ base outer g₀ g) (F : Fr g L s.heap m)
    (N : News g L s.heap (wled w.params t1 t2 t3 u1 u2 u3 u4 S d bf W dW q oct (ps 0) size ((l, LCg.lst []) :: rest)))
    (hm : m y = some (.ref W)) (hv : (envOf cn cs L a ccd).kindOf v = some .local) (hy : (envOf cn cs L a ccd).kindOf y = some .local) (hyd : (y == ("__debug__" : Str)) = false)
    (bodyH : ∀ g h' tk ys i x t t3', Grd prog w p loose mean mg mb A₀ base outer g₀ g → Fr g L h' (bound v (some (.bytes x t)) m) → ys.length = i → i < few → i < 20000 →
      News g L h' (wled w.params t1 t2 t3' u1 u2 u3 u4 S d bf W dW q oct (ps (i + 1)) size ((l, LCg.lst ys) :: rest)) →
      wpAny (model prog w) (ktrTop dp un gd cn cs L a ccd [] outer) (execs body (envOf cn cs L a ccd))
        (TurnEnd g L (bound v (some (.bytes x t)) m) (wled w.params t1 t2 t3' u1 u2 u3 u4 S d bf W dW q oct (ps (i + 1)) size ((l, LCg.lst (ys ++ [.bytes x t])) :: rest)) { s with heap := h', toks := tk } (if i + 1 = few then .brk else .next)) E { s with heap := h', toks := tk })
    (out : ∀ g h' tk ys t3' xv, Grd prog w p loose mean mg mb A₀ base outer g₀ g → Fr g L h' (bound v xv m) →
      News g L h' (wled w.params t1 t2 t3' u1 u2 u3 u4 S d bf W dW q oct (ps (min few ds.length)) size ((l, LCg.lst ys) :: rest)) → BsAre ys (ds.take few) → Q .next { s with heap := h', toks := tk })
    (hs : ∀ x, foldedSetIterable (.Name y py) (envOf cn cs L a ccd) x = pure x := by intro _; rfl) (hE : PassesOwn (model prog w) (ktrTop dp un gd cn cs L a ccd [] outer) (envOf cn cs L a ccd) E := by passes_own) :
    wpAny (model prog w) (ktrTop dp un gd cn cs L a ccd [] outer) (exec (.For (.Name v px) (.Name y py) body [] pos) (envOf cn cs L a ccd)) Q E s := by
  refine owit_for ?_ hs hE
  refine wpAny_Name (wpAny_loadName_local hk hy F.ns hm ?_) hyd
  refine ktr_le (iter_spec G.B F G.X N G.T hk fun h' k F' N' => ?_) hdp hun
  refine OwitAt.intro ?_
  exact take_loop (s := s) hdp hun Z hr hl C hk XB TB hds hv bodyH out 64 0 g h' k [] t3 (m v) (by omega) hf0 (Nat.zero_le _) G (by rw [bound_self]; exact F') (by simp only [List.take_zero]; exact .nil) N'

end
section
theorem comp_eval {prog : Program} {w : World} {p : Program} {loose : List Str} {mean : ExcName → Option Value} {mg mb : Str → Option Value}
    {gd : Option (List Code)} {cn : Str} {cs : Scope} {a : Nat} {ccd : Value} {outer : List Env} {A₀ : Around} {base g₀ h₀ : Heap} {L : Addr} {m : Str → Option Value} {s : Shared} {Q : Value → Shared → Prop} {E : Value → Shared → Prop}
    {S d bf W dW q : Nat} {t1 t2 t3 u1 u2 u3 u4 : Tok} {oct : Array UInt8} {size : Int} {rest : List (Addr × Obj)} {ds : List (Array UInt8)} {ps : Nat → Int} {j dp un : Nat}
    {x y : Str} {pe px py : Pos} {scope : Scope} {cl : List (Str × Addr)} {pos : Pos}
    (hdp : dp ≤ 310) (hun : un ≤ 40) (Z : Wst S d bf W dW oct size) (hr : ∀ p ∈ rest, p.1 ≠ d) (C : Cut oct size ds ps) (hj : j ≤ ds.length)
    (G : Grd prog w p loose mean mg mb A₀ base outer g₀ h₀) (F : Fr h₀ L s.heap m)
    (N : News h₀ L s.heap (wled w.params t1 t2 t3 u1 u2 u3 u4 S d bf W dW q oct (ps j) size rest)) (hk : cs.kind = .function)
    (XB : (Mine.hd.heap_1 w.params).In base) (TB : Top p loose mean mg mb base)
    (hcell : ∀ y ∈ scope.names, y.2 ≠ .cell) (hkind : scope.kind = .function) (hx : scope.names.lookup x = some .local) (hdb : (x == ("__debug__" : Str)) = false)
    (hclos : closureFor scope (envOf cn cs L a ccd) = pure cl) (hnames : ∀ x ∈ scope.names, x.2 = .local → scope.names.lookup x.1 = some .local)
    (hds : ds.length ≤ 20000) (hm : m y = some (.ref W)) (hy : (envOf cn cs L a ccd).kindOf y = some .local) (hyd : (y == ("__debug__" : Str)) = false)
    (ret : ∀ D g' h' k t3' ys, Grd prog w p loose mean mg mb A₀ base outer g₀ g' → Fr g' L h' m → News g' L h' ((D, LCg.lst ys) :: wled w.params t1 t2 t3' u1 u2 u3 u4 S d bf W dW q oct (ps ds.length) size rest) →
      BsAre ys (ds.drop j) → (∀ p ∈ wled w.params t1 t2 t3' u1 u2 u3 u4 S d bf W dW q oct (ps ds.length) size rest, p.1 < D) → Q (.ref D) { s with heap := h', toks := k })
    (hs : ∀ x, foldedSetIterable (.Name y py) (envOf cn cs L a ccd) x = pure x := by intro _; rfl) :
    wpAny (model prog w) (ktrTop dp un gd cn cs L a ccd [] outer) (eval (.ListComp (.Name x pe) [⟨.Name x px, .Name y py, [], 0⟩] scope pos) (envOf cn cs L a ccd)) Q E s := by
  rw [eval_ListComp]
  refine wpAny_comprehension_free (use := none) rfl hs hclos hkind hnames ?_
  refine wpAny_Name (wpAny_loadName_local hk hy F.ns hm ?_) hyd
  refine ktr_le (iter_spec G.B F G.X N G.T hk fun h' k F' N' => ?_) hdp hun
  exact comp_wrap (s := { s with heap := h', toks := k }) hdp hun Z hr C hj G F' N' hk XB TB hcell hkind hx hdb hds ret

end
section
def posOf (oct : Array UInt8) (place size : Int) (j : Nat) : Int := min (place + (j : Int) * size) oct.size
def dueL (oct : Array UInt8) (place size : Int) : List (Array UInt8) := pieces (oct.extract place.toNat oct.size) size
theorem cnt_bounds {oct : Array UInt8} {size : Int} (h1 : 1 ≤ size) : (oct.size : Int) ≤ (cnt oct size : Int) * size ∧ ((cnt oct size : Int) - 1) * size < oct.size := by
  have hl := cnt_lo (oct := oct) h1
  unfold cnt
  rw [Int.toNat_of_nonneg hl]
  rw [Int.fdiv_eq_ediv_of_nonneg _ (by omega)]
  generalize hq : (-(oct.size : Int)) / size = q
  have a1 := Int.ediv_mul_le (-(oct.size : Int)) (b := size) (by omega)
  have a2 := Int.lt_ediv_add_one_mul_self (-(oct.size : Int)) (b := size) (by omega)
  rw [hq] at a1 a2
  rw [Int.neg_mul, Int.sub_mul, Int.neg_mul, Int.one_mul]
  rw [Int.add_mul, Int.one_mul] at a2
  constructor <;> omega
theorem pieces_length (oct : Array UInt8) (size : Int) : (pieces oct size).length = cnt oct size := by
  unfold pieces; rw [List.length_map, rangeKs_length]
theorem due_size {oct : Array UInt8} {place : Int} (h0 : 0 ≤ place) (h1 : place ≤ oct.size) : ((oct.extract place.toNat oct.size).size : Int) = oct.size - place := by
  rw [Array.size_extract]; omega
theorem cut_due {oct : Array UInt8} {place size : Int} (h0 : 0 ≤ place) (hp : place ≤ oct.size) (h1 : 1 ≤ size) : Cut oct size (dueL oct place size) (posOf oct place size) := by
  have hb := cnt_bounds (oct := oct.extract place.toNat oct.size) h1
  rw [due_size h0 hp] at hb
  have hlen : (dueL oct place size).length = cnt (oct.extract place.toNat oct.size) size := pieces_length _ _
  have mono : ∀ i j : Nat, i ≤ j → (i : Int) * size ≤ (j : Int) * size := fun i j h => Int.mul_le_mul_of_nonneg_right (by omega) (by omega)
  have pos : ∀ i : Nat, 0 ≤ (i : Int) * size := fun i => Int.mul_nonneg (by omega) (by omega)
  have lt : ∀ j, j < (dueL oct place size).length → place + (j : Int) * size < oct.size := fun j hj => by
    rw [hlen] at hj
    have : (j : Int) * size ≤ ((cnt (oct.extract place.toNat oct.size) size : Int) - 1) * size := Int.mul_le_mul_of_nonneg_right (by omega) (by omega)
    omega
  refine ⟨fun j => ?_, fun j => ?_, fun j hj => ?_, fun j hj => ?_, fun j => ?_, fun j hj => ?_⟩
  · unfold posOf; have := pos j; omega
  · unfold posOf; omega
  · unfold posOf
    rw [hlen] at hj
    have := mono _ _ hj
    omega
  · unfold posOf; have := lt j hj; omega
  · unfold posOf
    rw [show ((j + 1 : Nat) : Int) * size = (j : Int) * size + size by rw [Int.natCast_add, Int.add_mul]; simp]
    omega
  · have hj' := lt j hj
    rw [hlen] at hj
    have e1 : (dueL oct place size)[j]? = some (piece (oct.extract place.toNat oct.size) size (j : Int)) := by
      unfold dueL pieces
      rw [List.getElem?_map]
      simp [rangeKs, hj]
    rw [e1]
    have p1 := pos j
    have p2 := pos (j + 1)
    have e2 : ((j : Int) + 1) * size = ((j + 1 : Nat) : Int) * size := by simp
    unfold piece posOf
    rw [e2, Array.extract_extract]
    congr 1
    congr 1 <;> omega

end
section
def Halt (P : Prop) : Prop := P
theorem halt {P : Prop} (h : Halt P) : P := h
abbrev hled (P : Params) (t1 t2 t3 u1 u2 u3 u4 : Tok) (S d bf W dW q fl dl : Nat) (oct : Array UInt8) (pos size : Int) (xs ys : List Value) (news : List (Addr × Obj)) : List (Addr × Obj) :=
  wled P t1 t2 t3 u1 u2 u3 u4 S d bf W dW q oct pos size ((fl, LCg.lst xs) :: (dl, LCg.lst ys) :: (q, methodObj (.ref 181) (.ref S)) :: news)
theorem holds_names {P : Params} {g h : Heap} {L : Addr} {t1 t2 t3 u1 u2 u3 u4 : Tok} {S d bf W dW q q2 fl dl : Nat} {oct : Array UInt8} {pos size : Int} {ys : List Value} {news : List (Addr × Obj)}
    (N : News g L h ((fl, PySem.W.listOf #[] 0) :: (dl, LCg.lst ys) :: (q, methodObj (.ref 181) (.ref S)) :: (q2, methodObj (.ref 181) (.ref S)) :: (W, instObj 53 dW) :: (dW, dictOf (fwD P u1 u2 u3 u4 S q size) 3) :: (S, instObj 365 d) :: (d, dictOf (bioD P t1 t2 t3 (.ref bf) pos) 2) :: (bf, baObj oct) :: news)) :
    ∃ W' dW' q' fl' dl' ys' u1' u2' u3' u4', W' = W ∧ dW' = dW ∧ q' = q ∧ fl' = fl ∧ dl' = dl ∧ ys' = ys ∧ News g L h (hled P t1 t2 t3 u1' u2' u3' u4' S d bf W' dW' q' fl' dl' oct pos size [] ys' news) := by
  refine ⟨W, dW, q, fl, dl, ys, u1, u2, u3, u4, rfl, rfl, rfl, rfl, rfl, rfl, fun p hp => N p ?_⟩
  simp only [hled, wled, List.mem_cons] at hp ⊢
  rcases hp with h | h | h | h | h | h | h | h | h
  · exact .inr (.inr (.inr (.inr (.inr (.inr (.inl h))))))
  · exact .inr (.inr (.inr (.inr (.inr (.inr (.inr (.inl h)))))))
  · exact .inr (.inr (.inr (.inr (.inr (.inr (.inr (.inr (.inl h))))))))
  · exact .inr (.inr (.inr (.inr (.inl h))))
  · exact .inr (.inr (.inr (.inr (.inr (.inl h)))))
  · exact .inl h
  · exact .inr (.inl h)
  · exact .inr (.inr (.inl h))
  · exact .inr (.inr (.inr (.inr (.inr (.inr (.inr (.inr (.inr h))))))))
def HMid (prog : Program) (w : World) (p : Program) (loose : List Str) (mean : ExcName → Option Value) (mg mb : Str → Option Value) (A₀ : Around) (base : Heap) (outer : List Env) (g₀ : Heap) (L : Addr) (s : Shared)
    (t1 t2 u1 u2 u3 u4 : Tok) (S d bf W dW q fl dl : Nat) (oct : Array UInt8) (place size : Int) (few : Nat) (ys : List Value) (news : List (Addr × Obj)) (m : Str → Option Value) (f : Flow) (s' : Shared) : Prop :=
  f = .next ∧ ∃ g h' tk xs t3' xv, s' = { s with heap := h', toks := tk } ∧ Grd prog w p loose mean mg mb A₀ base outer g₀ g ∧ Fr g L h' (bound (Str.ofString "piece") xv m) ∧
    News g L h' (hled w.params t1 t2 t3' u1 u2 u3 u4 S d bf W dW q fl dl oct (posOf oct place size (min few (dueL oct place size).length)) size xs ys news) ∧ BsAre xs ((dueL oct place size).take few)
abbrev mOf {h₀ h : Heap} {L : Addr} {m : Str → Option Value} (_ : Fr h₀ L h m) : Str → Option Value := m
theorem pos_zero {oct : Array UInt8} {place size : Int} (hp : place ≤ oct.size) : posOf oct place size 0 = place := by unfold posOf; simp; omega
theorem pos_take {oct : Array UInt8} {place size : Int} {few : Nat} (h0 : 0 ≤ place) (hp : place ≤ oct.size) (h1 : 1 ≤ size) :
    posOf oct place size (min few (dueL oct place size).length) = min (oct.size : Int) (place + (few : Int) * size) := by
  have C := cut_due (size := size) h0 hp h1
  rcases Nat.le_total few (dueL oct place size).length with h | h
  · rw [Nat.min_eq_left h]; unfold posOf; omega
  · rw [Nat.min_eq_right h, C.fin _ (Nat.le_refl _)]
    have := C.fin few h
    unfold posOf at this
    omega
theorem due_le {oct : Array UInt8} {place size : Int} (h0 : 0 ≤ place) (hp : place ≤ oct.size) (h1 : 1 ≤ size) (h4 : oct.size ≤ 20000) : (dueL oct place size).length ≤ 20000 := by
  have e : (dueL oct place size).length = cnt (oct.extract place.toNat oct.size) size := pieces_length _ _
  have := cnt_hi (oct := oct.extract place.toNat oct.size) h1 (by rw [Array.size_extract]; omega)
  rw [e]; unfold cnt; omega

end
local macro_rules | `(tactic| walk_at "call builtin:hasattr") => `(tactic| (k_here; k_dflt (refine' Mine.hasattr_own ?k1 ?k2 ?k3 ?k4 ?k5 ?k6 ?k7 ?k8 ?k9 ?k10 ?k11 ?k12 ?k13 ?_; (case k4 => k_inst); (case k1 => k_asm); (case k2 => k_asm); (case k7 => k_is); (case k3 => k_asm); (case k5 => k_is); (case k6 => k_is); (case k8 => k_is); (case k9 => k_is); (case k10 => k_is); (case k11 => decide +kernel); (case k12 => k_get); (case k13 => k_is); k_whole); intro q' h' F' N' l1; (try k_lt l1); (try k_sweep)))
local macro_rules | `(tactic| walk_at "subscriptTail") => `(tactic| (k_here; (with_reducible show wpAny _ _ (subscriptTail _ (Expr.Slice _ none none _) (Value.bytes _ _) (Value.ref _)) _ _ _); (with_reducible rename Fr _ _ _ _ => F'); (with_reducible rename News _ _ _ _ => N'); k_dflt (refine' Mine.bslice1 (s := ⟨_, _, _, _, _⟩) F' N' ?z ?a ?_; (case z => omega); (case a => first | assumption | omega); k_whole); intro h' t' k' F' N'; (try k_sweep)))
local macro_rules | `(tactic| walk_at "call ref") => `(tactic| (k_here; (with_reducible show wpAny _ _ (call (Value.ref 633) _) _ _ _); k_dflt (refine' Mine.ktr_le (Mine.pieces_spec ?h4 ?hs1 ?hs2 ?B ?F ?X ?N ?T ?hk ?_) ?h1 ?h2; (case h4 => rw [Array.size_extract]; omega); (case hs1 => omega); (case hs2 => omega); (case B => k_asm); (case F => k_asm); (case X => k_asm); (case N => k_asm); (case T => k_asm); (case hk => first | exact rfl | assumption); (case h1 => exact Nat.le_of_ble_eq_true rfl); (case h2 => exact Nat.le_of_ble_eq_true rfl)); intro l' h' k' ys' F' N' hys' hoff'; (try simp only [LCg.Off1, and_true] at hoff'); (try k_sweep)))
local macro_rules | `(tactic| walk_at "call builtin:len") => `(tactic| (k_here; (with_reducible show wpAny _ _ (call (Value.builtin "len") [Value.ref _]) _ _ _); k_dflt (refine' call_len_list ?l ?z ?_; (case l => exact ⟨_, News.get (by k_asm) (by k_mem), rfl, _, rfl⟩); (case z => simp only [Array.size_push, List.size_toArray, List.length_append, List.length_cons, List.length_nil]; omega); k_whole)))
local macro_rules | `(tactic| walk_at "subscriptTail Name Slice ref ref") => `(tactic| (k_here; (with_reducible show wpAny _ _ (subscriptTail _ (Expr.Slice none _ none _) (Value.ref _) (Value.ref _)) _ _ _); (with_reducible rename Fr _ _ _ _ => F'); (with_reducible rename News _ _ _ _ => N'); k_dflt (refine' Mine.bs_slice_upto (s := ⟨_, _, _, _, _⟩) F' N' ?m ?b ?a ?z ?_; (case m => k_mem); (case b => with_reducible assumption); (case a => omega); (case z => with_reducible assumption); k_whole); intro D' ws' h' F' N' l1 hB'; (try simp only [Int.toNat_natCast, List.size_toArray] at hB'); (try k_lt l1); (try k_sweep)))
local macro_rules | `(tactic| walk_at "subscriptTail Name Slice ref ref") => `(tactic| (k_here; (with_reducible show wpAny _ _ (subscriptTail _ (Expr.Slice _ none none _) (Value.ref _) (Value.ref _)) _ _ _); (with_reducible rename Fr _ _ _ _ => F'); (with_reducible rename News _ _ _ _ => N'); k_dflt (refine' Mine.bs_slice_from (s := ⟨_, _, _, _, _⟩) F' N' ?m ?b ?a ?z ?_; (case m => k_mem); (case b => with_reducible assumption); (case a => omega); (case z => with_reducible assumption); k_whole); intro D' ws' h' F' N' l1 hB'; (try simp only [Int.toNat_natCast, List.size_toArray] at hB'); (try k_lt l1); (try k_sweep)))
local macro_rules | `(tactic| walk_at "compareOp NotEq ref ref") => `(tactic| (k_here; (with_reducible show wpAny _ _ (compareOp CmpOp.NotEq (Value.ref _) (Value.ref _)) _ _ _); k_dflt (refine' Mine.bs_ne_same ?a ?b ?x ?y ?u ?_; (case a => exact ⟨_, News.get (by k_asm) (by k_mem), rfl, _, rfl⟩); (case b => exact ⟨_, News.get (by k_asm) (by k_mem), rfl, _, rfl⟩); (case x => with_reducible assumption); (case y => with_reducible assumption); (case u => exact Nat.le_of_ble_eq_true rfl); k_whole)))
local macro_rules | `(tactic| walk_at "call builtin:iter") => `(tactic| (k_here; k_dflt (refine Mine.iter_call ?_)))
local macro_rules | `(tactic| walk_at "pyIter ref") => `(tactic| (k_here; k_dflt (refine' owit_iter ?F ?X ?I ?hs ?hf ?_; (case F => k_asm); (case X => k_asm); (case I => k_inst); (case hs => k_is); (case hf => k_is); k_whole)))
local macro_rules | `(tactic| walk_at "eval ListComp") => `(tactic| (k_here; (with_reducible show wpAny _ _ (eval (Expr.ListComp (Expr.Name _ _) _ _ _) _) _ _ _); refine Mine.halt ?_))
section
theorem offMK7 : True := by (w_top off; trivial)
theorem holds_spec {prog : Program} {w : World} {p : Program} {loose : List Str} {mean : ExcName → Option Value} {mg mb : Str → Option Value}
    {cn : Str} {cs : Scope} {a : Nat} {ccd : Value} {A₀ : Around} {base h₀ : Heap} {L : Addr} {m : Str → Option Value} {s : Shared} {Q : Value → Shared → Prop} {E : Value → Shared → Prop} {news : List (Addr × Obj)}
    {tt1 tt2 tt3 tt4 : Tok} {oct : Array UInt8} {place size : Int} {few : Nat}
    (h4 : oct.size ≤ 20000) (h0 : 0 < oct.size) (hp0 : 0 ≤ place) (hp1 : place ≤ oct.size) (hs1 : 1 ≤ size) (hs2 : size ≤ 20000) (hf : few ≤ 3)
    (B : Below A₀ base [] h₀) (F : Fr h₀ L s.heap m) (X : (Mine.hd.heap_1 w.params).In h₀)
    (N : News h₀ L s.heap news)
    (T : Top p loose mean mg mb h₀) (hk : cs.kind = .function)
    (XB : (Mine.hd.heap_1 w.params).In base) (TB : Top p loose mean mg mb base)
    (ret : ∀ h' k, Fr h₀ L h' m → News h₀ L h' news → Q (.bool true) { s with heap := h', toks := k }) :
    wpC (model prog w) (ktrTop 302 7 (some []) cn cs L a ccd [] []) (call (.ref 638) [.bytes oct tt1, .int place tt2, .int size tt3, .int few tt4]) Q E s := by
  refine wpC_call ?_
  k_dflt (refine' codeC_defS0 (cn := cn) (cs := cs) (L := L) (a := a) (ccd := ccd) ?k1 ?k2 ?k3 ?k4 ?k5 ?kA ?k6 ?k7 ?k8 ?k9 ?kB ?_ ?cK ?c2 ?c3 ?c4 ?c5; (case kA => exact rfl); (case cK => assumption); (case k1 => k_asm); (case k2 => k_asm); (case k3 => k_asm); (case k4 => k_asm); (case k5 => k_asm); (case k6 => k_is); (case k7 => k_is); (case k8 => first | k_room | ktr_room); (case k9 => first | exact BindsTo.of_eq rfl | exact binds_K (by k_in) rfl (by k_is) rfl rfl rfl); (case c5 => decide); (case kB => exact locs rfl); (case c2 => exact rfl); (case c3 => exact rfl); (case c4 => exact rfl); k_whole)
  intro g' L' h' FG' F' N' B' X' T' D'
  (try dsimp only)
  (try k_lift B')
  refine wpC_execs_cons (wpC_Assign_Name ?_)
  refine wpC_Call_Name ?_
  k_steps
  k_dflt (refine' callWithC_K2 (K := Mine.hd.heap_1 w.params) ?X ?k ?_; (case X => k_asm); (case k => k_is))
  refine wpC_any ?_
  k_steps
  refine wpC_any ?_
  k_steps
  (try simp only [List.nil_append])
  k_dflt (refine' ktrC_le (stream_spec h4 h0 hp0 hp1 ?B ?F ?X ?N ?T ?hk ?_) ?h1 ?h2; (case B => k_asm); (case F => k_asm); (case X => k_asm); (case N => k_asm); (case T => k_asm); (case hk => first | exact rfl | assumption); (case h1 => exact Nat.le_of_ble_eq_true rfl); (case h2 => exact Nat.le_of_ble_eq_true rfl))
  intro S d bf t1 t2 t3 h' k F' N' l1 l2 l3
  have q1 := fun q hq => allLt_mem l3 q hq
  have q2 := fun q hq => Nat.lt_trans (q1 q hq) l1
  have q3 := fun q hq => Nat.lt_trans (q2 q hq) l2
  have l4 := Nat.lt_trans l1 l2
  replace q2 := allLt_of q2; replace q3 := allLt_of q3; clear q1
  k_lt2 l1; k_lt2 l2; k_lt2 l4
  dsimp only
  refine wpC_any ?_
  k_steps
  dsimp only [FlowC]
  refine wpC_execs_any ?_
  k_steps
  dsimp only [FlowC]
  refine wpC_execs_any ?_
  k_steps
  dsimp only [FlowC]
  refine wpC_execs_any ?_
  k_steps
  dsimp only [FlowC]
  rename BsAre _ _ => hys
  rename News _ _ _ _ => NN
  obtain ⟨W, dW, q, fl, dl, ys, u1, u2, u3, u4, rfl, rfl, rfl, rfl, rfl, rfl, NN2⟩ := holds_names NN
  have hdue := due_le hp0 hp1 hs1 h4
  have C := cut_due hp0 hp1 hs1
  have G : Grd prog w p loose mean mg mb (ktrTop 302 7 (some []) cn cs L a ccd [] []) base [envOf cn cs L a ccd] g' g' := ⟨by assumption, by assumption, by assumption, by assumption, KtsTurn.refl⟩
  have Z : Wst S d bf W dW oct size := ⟨by omega, by omega, by omega, by omega, hs1, hs2, h4⟩
  have hnews : ∀ q ∈ news, q.1 ≠ d := fun q hq => Nat.ne_of_lt (allLt_mem l3 q hq)
  have hflq : fl ≠ d ∧ dl ≠ d ∧ q ≠ d ∧ fl ≠ dl ∧ fl ≠ q := ⟨by omega, by omega, by omega, by omega, by omega⟩
  rw [← pos_zero (size := size) hp1] at NN2
  clear NN
  have hr1 : ∀ q' ∈ ((dl, LCg.lst ys) :: (q, methodObj (.ref 181) (.ref S)) :: news : List (Addr × Obj)), q'.1 ≠ d := by
    intro q' hq'
    simp only [List.mem_cons] at hq'
    rcases hq' with rfl | rfl | hq'
    · exact hflq.2.1
    · exact hflq.2.2.1
    · exact hnews _ hq'
  rename Fr _ _ _ _ => FF
  refine' wpC_execs_cons (wpC_mono (Q := HMid prog w p loose mean mg mb (ktrTop 302 7 (some []) cn cs L a ccd [] []) base [envOf cn cs L a ccd] g' L' s t1 t2 u1 u2 u3 u4 S d bf W dW q fl dl oct place size few ys news (mOf FF)) ?aa ?bb (fun _ _ z => z))
  case aa =>
    refine wpC_If ?_
    refine wpC_any ?_
    k_steps
    · refine wpC_execs_cons (wpC_any ?_)
      k_dflt (refine' for_wrap (few := few) (ds := dueL oct place size) (ps := posOf oct place size) (rest := (dl, LCg.lst ys) :: (q, methodObj (.ref 181) (.ref S)) :: news) ?h1 ?h2 Z hr1 hflq.1 C ?hk XB TB hdue (by omega) (by omega) G FF NN2 ?hm ?hv ?hy ?hyd ?body ?out; (case h1 => exact Nat.le_of_ble_eq_true rfl); (case h2 => exact Nat.le_of_ble_eq_true rfl); (case hk => first | exact rfl | assumption); (case hm => exact rfl); (case hv => exact rfl); (case hy => exact rfl); (case hyd => decide))
      · intro g h' tk xs i x t t3' G F hxs hi hi2 N
        obtain ⟨B, X, T, D, T0⟩ := G
        k_steps
        all_goals (try dsimp only)
        · rename (_ : Int) = _ => he
          have he' : i + 1 = few := by
            simp only [Array.size_push, List.size_toArray] at he
            omega
          refine ⟨_, _, rfl, (if_pos he').symm, by assumption, ?_⟩
          rw [← LCg.lst_snoc]
          assumption
        · rename (_ : Int) ≠ _ => he
          have he' : i + 1 ≠ few := by
            simp only [Array.size_push, List.size_toArray] at he
            omega
          refine ⟨_, _, rfl, (if_neg he').symm, by assumption, ?_⟩
          rw [← LCg.lst_snoc]
          assumption
      · intro g h' tk xs t3' xv G F N hb
        dsimp only [FlowC]
        refine wpC_any (wpAny_execs_nil ?_)
        exact ⟨rfl, g, h', tk, xs, t3', xv, rfl, G, F, N, hb⟩
    · refine wpC_any (wpAny_execs_nil ?_)
      refine ⟨rfl, g', _, _, [], t3, _, rfl, G, by rw [bound_self]; exact FF, ?_, ?_⟩
      · rw [show min few (dueL oct place size).length = 0 by omega]; exact NN2
      · rw [show few = 0 by omega, List.take_zero]; exact .nil
  case bb =>
    rintro f s' ⟨rfl, g, h', tk, xs, t3', xv, rfl, G2, F, N, hb⟩
    dsimp only [FlowC]
    dsimp only [mOf] at F
    clear G NN2 FF
    obtain ⟨B2, X2, T2, D2, T02⟩ := G2
    have hcut : (dueL oct place size).length ≤ 16777216 := by omega
    replace hys : BsAre ys (dueL oct place size) := hys
    refine wpC_execs_any ?_
    k_steps
    all_goals (try (exfalso; rename (_ : Int) ≠ _ => he; apply he; rw [pos_take (few := few) hp0 hp1 hs1]; split <;> omega))
    dsimp only [FlowC]
    rename News _ _ _ _ => N5
    rename Fr _ _ _ _ => F5
    have hxl : min few (dueL oct place size).length = xs.length := by rw [hb.length, List.length_take]
    rw [hxl] at N5
    have N6 := cb_drop N5 (fun p hp => List.mem_cons_of_mem _ hp)
    clear N5
    have hr2 : ∀ q' ∈ ((fl, LCg.lst xs) :: (dl, LCg.lst ys) :: (q, methodObj (.ref 181) (.ref S)) :: news : List (Addr × Obj)), q'.1 ≠ d := by
      intro q' hq'
      rcases List.mem_cons.mp hq' with rfl | hq'
      · exact hflq.1
      · exact hr1 _ hq'
    refine wpC_execs_any ?_
    k_steps
    unfold Halt
    k_dflt (refine' comp_eval (ds := dueL oct place size) (ps := posOf oct place size) (j := xs.length) (rest := (fl, LCg.lst xs) :: (dl, LCg.lst ys) :: (q, methodObj (.ref 181) (.ref S)) :: news) ?h1 ?h2 Z hr2 C ?hj (⟨B2, X2, T2, D2, T02⟩ : Grd prog w p loose mean mg mb (ktrTop 302 7 (some []) cn cs L a ccd [] []) base [envOf cn cs L a ccd] g' g) F5 N6 ?hk XB TB ?hcell ?hkind ?hx ?hdb ?hclos ?hnames hdue ?hm ?hy ?hyd ?_; (case h1 => exact Nat.le_of_ble_eq_true rfl); (case h2 => exact Nat.le_of_ble_eq_true rfl); (case hj => rw [← hxl]; exact Nat.min_le_right _ _); (case hk => first | exact rfl | assumption); (case hcell => decide); (case hkind => rfl); (case hx => rfl); (case hdb => decide); (case hclos => rfl); (case hnames => decide); (case hm => exact rfl); (case hy => exact rfl); (case hyd => decide))
    intro D3 g3 h' k t3'' zs G3 F3 N3 hz hlt
    obtain ⟨B3, X3, T3, D3', T03⟩ := G3
    have hnil : BsAre [] ((dueL oct place size).drop (dueL oct place size).length) := by rw [List.drop_length]; exact .nil
    have q5 := fun p hp => hlt p hp
    replace q5 := allLt_of q5
    simp only [wled, AllLt] at q5
    k_steps
    unfold Halt
    rename News _ _ _ _ => N7
    rename Fr _ _ _ _ => F7
    have N8 := cb_drop N7 (fun p hp => List.mem_cons_of_mem _ (List.mem_cons_of_mem _ hp))
    clear N7
    k_dflt (refine' comp_eval (ds := dueL oct place size) (ps := posOf oct place size) (j := (dueL oct place size).length) (rest := (fl, LCg.lst xs) :: (dl, LCg.lst ys) :: (q, methodObj (.ref 181) (.ref S)) :: news) ?h1 ?h2 Z hr2 C ?hj (⟨B3, X3, T3, D3', T03⟩ : Grd prog w p loose mean mg mb (ktrTop 302 7 (some []) cn cs L a ccd [] []) base [envOf cn cs L a ccd] g' g3) F7 N8 ?hk XB TB ?hcell ?hkind ?hx ?hdb ?hclos ?hnames hdue ?hm ?hy ?hyd ?_; (case h1 => exact Nat.le_of_ble_eq_true rfl); (case h2 => exact Nat.le_of_ble_eq_true rfl); (case hj => exact Nat.le_refl _); (case hk => first | exact rfl | assumption); (case hcell => decide); (case hkind => rfl); (case hx => rfl); (case hdb => decide); (case hclos => rfl); (case hnames => decide); (case hm => exact rfl); (case hy => exact rfl); (case hyd => decide))
    intro D4 g4 h' k t4'' zs2 G4 F4 N4 hz2 hlt4
    obtain ⟨B4, X4, T4, D4', T04⟩ := G4
    k_steps
    dsimp only [FlowC]
    rename News _ _ _ _ => N9
    rename Fr _ _ _ _ => F9
    have N10 := cb_drop N9 (fun p hp => List.mem_cons_of_mem _ (List.mem_cons_of_mem _ hp))
    clear N9
    rw [C.fin _ (Nat.le_refl _)] at N10
    refine wpC_execs_any ?_
    k_steps
    all_goals (try (exfalso; omega))
    dsimp only [FlowC]
    refine wpC_any ?_
    k_steps
    refine ret _ _ (by assumption) ?_
    exact cb_drop (by assumption) fun p hp => by simp only [hled, wled, List.mem_cons, hp, or_true]

end
section
theorem offMK8 : True := by (w_top off; trivial)
theorem mem_d3 {α : Type} {x y z p : α} {l : List α} (h : p ∈ x :: y :: l) : p ∈ x :: y :: z :: l := by
  simp only [List.mem_cons] at h ⊢
  rcases h with h | h | h
  · exact .inl h
  · exact .inr (.inl h)
  · exact .inr (.inr (.inr h))
theorem holds_none {prog : Program} {w : World} {p : Program} {loose : List Str} {mean : ExcName → Option Value} {mg mb : Str → Option Value}
    {cn : Str} {cs : Scope} {a : Nat} {ccd : Value} {A₀ : Around} {base h₀ : Heap} {L : Addr} {m : Str → Option Value} {s : Shared} {Q : Value → Shared → Prop} {E : Value → Shared → Prop} {news : List (Addr × Obj)}
    {tt1 tt2 tt4 : Tok} {oct : Array UInt8} {place : Int} {few : Nat}
    (h4 : oct.size ≤ 20000) (h0 : 0 < oct.size) (hp0 : 0 ≤ place) (hp1 : place ≤ oct.size) (hf : few ≤ 3)
    (B : Below A₀ base [] h₀) (F : Fr h₀ L s.heap m) (X : (Mine.hd.heap_1 w.params).In h₀)
    (N : News h₀ L s.heap news)
    (T : Top p loose mean mg mb h₀) (hk : cs.kind = .function)
    (XB : (Mine.hd.heap_1 w.params).In base) (TB : Top p loose mean mg mb base)
    (ret : ∀ h' k, Fr h₀ L h' m → News h₀ L h' news → Q (.bool true) { s with heap := h', toks := k }) :
    wpC (model prog w) (ktrTop 302 7 (some []) cn cs L a ccd [] []) (call (.ref 638) [.bytes oct tt1, .int place tt2, .none, .int few tt4]) Q E s := by
  have hs1 : (1 : Int) ≤ 8192 := by decide
  have hs2 : (8192 : Int) ≤ 20000 := by decide
  refine wpC_call ?_
  k_dflt (refine' codeC_defS0 (cn := cn) (cs := cs) (L := L) (a := a) (ccd := ccd) ?k1 ?k2 ?k3 ?k4 ?k5 ?kA ?k6 ?k7 ?k8 ?k9 ?kB ?_ ?cK ?c2 ?c3 ?c4 ?c5; (case kA => exact rfl); (case cK => assumption); (case k1 => k_asm); (case k2 => k_asm); (case k3 => k_asm); (case k4 => k_asm); (case k5 => k_asm); (case k6 => k_is); (case k7 => k_is); (case k8 => first | k_room | ktr_room); (case k9 => first | exact BindsTo.of_eq rfl | exact binds_K (by k_in) rfl (by k_is) rfl rfl rfl); (case c5 => decide); (case kB => exact locs rfl); (case c2 => exact rfl); (case c3 => exact rfl); (case c4 => exact rfl); k_whole)
  intro g' L' h' FG' F' N' B' X' T' D'
  (try dsimp only)
  (try k_lift B')
  refine wpC_execs_cons (wpC_Assign_Name ?_)
  refine wpC_Call_Name ?_
  k_steps
  k_dflt (refine' callWithC_K2 (K := Mine.hd.heap_1 w.params) ?X ?k ?_; (case X => k_asm); (case k => k_is))
  refine wpC_any ?_
  k_steps
  refine wpC_any ?_
  k_steps
  (try simp only [List.nil_append])
  k_dflt (refine' ktrC_le (stream_spec h4 h0 hp0 hp1 ?B ?F ?X ?N ?T ?hk ?_) ?h1 ?h2; (case B => k_asm); (case F => k_asm); (case X => k_asm); (case N => k_asm); (case T => k_asm); (case hk => first | exact rfl | assumption); (case h1 => exact Nat.le_of_ble_eq_true rfl); (case h2 => exact Nat.le_of_ble_eq_true rfl))
  intro S d bf t1 t2 t3 h' k F' N' l1 l2 l3
  have q1 := fun q hq => allLt_mem l3 q hq
  have q2 := fun q hq => Nat.lt_trans (q1 q hq) l1
  have q3 := fun q hq => Nat.lt_trans (q2 q hq) l2
  have l4 := Nat.lt_trans l1 l2
  replace q2 := allLt_of q2; replace q3 := allLt_of q3; clear q1
  k_lt2 l1; k_lt2 l2; k_lt2 l4
  dsimp only
  refine wpC_any ?_
  k_steps
  dsimp only [FlowC]
  refine wpC_execs_any ?_
  k_steps
  dsimp only [FlowC]
  refine wpC_execs_any ?_
  k_steps
  dsimp only [FlowC]
  refine wpC_execs_any ?_
  k_steps
  dsimp only [FlowC]
  rename BsAre _ _ => hys
  rename News _ _ _ _ => NN
  obtain ⟨W, dW, q, fl, dl, ys, u1, u2, u3, u4, rfl, rfl, rfl, rfl, rfl, rfl, NN2⟩ := holds_names (cb_drop NN fun p hp => mem_d3 hp)
  have hdue := due_le hp0 hp1 hs1 h4
  have C := cut_due hp0 hp1 hs1
  have G : Grd prog w p loose mean mg mb (ktrTop 302 7 (some []) cn cs L a ccd [] []) base [envOf cn cs L a ccd] g' g' := ⟨by assumption, by assumption, by assumption, by assumption, KtsTurn.refl⟩
  have Z : Wst S d bf W dW oct (8192 : Int) := ⟨by omega, by omega, by omega, by omega, hs1, hs2, h4⟩
  have hnews : ∀ q ∈ news, q.1 ≠ d := fun q hq => Nat.ne_of_lt (allLt_mem l3 q hq)
  have hflq : fl ≠ d ∧ dl ≠ d ∧ q ≠ d ∧ fl ≠ dl ∧ fl ≠ q := ⟨by omega, by omega, by omega, by omega, by omega⟩
  rw [← pos_zero (size := (8192 : Int)) hp1] at NN2
  clear NN
  have hr1 : ∀ q' ∈ ((dl, LCg.lst ys) :: (q, methodObj (.ref 181) (.ref S)) :: news : List (Addr × Obj)), q'.1 ≠ d := by
    intro q' hq'
    simp only [List.mem_cons] at hq'
    rcases hq' with rfl | rfl | hq'
    · exact hflq.2.1
    · exact hflq.2.2.1
    · exact hnews _ hq'
  rename Fr _ _ _ _ => FF
  refine' wpC_execs_cons (wpC_mono (Q := HMid prog w p loose mean mg mb (ktrTop 302 7 (some []) cn cs L a ccd [] []) base [envOf cn cs L a ccd] g' L' s t1 t2 u1 u2 u3 u4 S d bf W dW q fl dl oct place (8192 : Int) few ys news (mOf FF)) ?aa ?bb (fun _ _ z => z))
  case aa =>
    refine wpC_If ?_
    refine wpC_any ?_
    k_steps
    · refine wpC_execs_cons (wpC_any ?_)
      k_dflt (refine' for_wrap (few := few) (ds := dueL oct place (8192 : Int)) (ps := posOf oct place (8192 : Int)) (rest := (dl, LCg.lst ys) :: (q, methodObj (.ref 181) (.ref S)) :: news) ?h1 ?h2 Z hr1 hflq.1 C ?hk XB TB hdue (by omega) (by omega) G FF NN2 ?hm ?hv ?hy ?hyd ?body ?out; (case h1 => exact Nat.le_of_ble_eq_true rfl); (case h2 => exact Nat.le_of_ble_eq_true rfl); (case hk => first | exact rfl | assumption); (case hm => exact rfl); (case hv => exact rfl); (case hy => exact rfl); (case hyd => decide))
      · intro g h' tk xs i x t t3' G F hxs hi hi2 N
        obtain ⟨B, X, T, D, T0⟩ := G
        k_steps
        all_goals (try dsimp only)
        · rename (_ : Int) = _ => he
          have he' : i + 1 = few := by
            simp only [Array.size_push, List.size_toArray] at he
            omega
          refine ⟨_, _, rfl, (if_pos he').symm, by assumption, ?_⟩
          rw [← LCg.lst_snoc]
          assumption
        · rename (_ : Int) ≠ _ => he
          have he' : i + 1 ≠ few := by
            simp only [Array.size_push, List.size_toArray] at he
            omega
          refine ⟨_, _, rfl, (if_neg he').symm, by assumption, ?_⟩
          rw [← LCg.lst_snoc]
          assumption
      · intro g h' tk xs t3' xv G F N hb
        dsimp only [FlowC]
        refine wpC_any (wpAny_execs_nil ?_)
        exact ⟨rfl, g, h', tk, xs, t3', xv, rfl, G, F, N, hb⟩
    · refine wpC_any (wpAny_execs_nil ?_)
      refine ⟨rfl, g', _, _, [], t3, _, rfl, G, by rw [bound_self]; exact FF, ?_, ?_⟩
      · rw [show min few (dueL oct place (8192 : Int)).length = 0 by omega]; exact NN2
      · rw [show few = 0 by omega, List.take_zero]; exact .nil
  case bb =>
    rintro f s' ⟨rfl, g, h', tk, xs, t3', xv, rfl, G2, F, N, hb⟩
    dsimp only [FlowC]
    dsimp only [mOf] at F
    clear G NN2 FF
    obtain ⟨B2, X2, T2, D2, T02⟩ := G2
    have hcut : (dueL oct place (8192 : Int)).length ≤ 16777216 := by omega
    replace hys : BsAre ys (dueL oct place (8192 : Int)) := hys
    refine wpC_execs_any ?_
    k_steps
    all_goals (try (exfalso; rename (_ : Int) ≠ _ => he; apply he; rw [pos_take (few := few) hp0 hp1 hs1]; split <;> omega))
    dsimp only [FlowC]
    rename News _ _ _ _ => N5
    rename Fr _ _ _ _ => F5
    have hxl : min few (dueL oct place (8192 : Int)).length = xs.length := by rw [hb.length, List.length_take]
    rw [hxl] at N5
    have N6 := cb_drop N5 (fun p hp => List.mem_cons_of_mem _ hp)
    clear N5
    have hr2 : ∀ q' ∈ ((fl, LCg.lst xs) :: (dl, LCg.lst ys) :: (q, methodObj (.ref 181) (.ref S)) :: news : List (Addr × Obj)), q'.1 ≠ d := by
      intro q' hq'
      rcases List.mem_cons.mp hq' with rfl | hq'
      · exact hflq.1
      · exact hr1 _ hq'
    refine wpC_execs_any ?_
    k_steps
    unfold Halt
    k_dflt (refine' comp_eval (ds := dueL oct place (8192 : Int)) (ps := posOf oct place (8192 : Int)) (j := xs.length) (rest := (fl, LCg.lst xs) :: (dl, LCg.lst ys) :: (q, methodObj (.ref 181) (.ref S)) :: news) ?h1 ?h2 Z hr2 C ?hj (⟨B2, X2, T2, D2, T02⟩ : Grd prog w p loose mean mg mb (ktrTop 302 7 (some []) cn cs L a ccd [] []) base [envOf cn cs L a ccd] g' g) F5 N6 ?hk XB TB ?hcell ?hkind ?hx ?hdb ?hclos ?hnames hdue ?hm ?hy ?hyd ?_; (case h1 => exact Nat.le_of_ble_eq_true rfl); (case h2 => exact Nat.le_of_ble_eq_true rfl); (case hj => rw [← hxl]; exact Nat.min_le_right _ _); (case hk => first | exact rfl | assumption); (case hcell => decide); (case hkind => rfl); (case hx => rfl); (case hdb => decide); (case hclos => rfl); (case hnames => decide); (case hm => exact rfl); (case hy => exact rfl); (case hyd => decide))
    intro D3 g3 h' k t3'' zs G3 F3 N3 hz hlt
    obtain ⟨B3, X3, T3, D3', T03⟩ := G3
    have hnil : BsAre [] ((dueL oct place (8192 : Int)).drop (dueL oct place (8192 : Int)).length) := by rw [List.drop_length]; exact .nil
    have q5 := fun p hp => hlt p hp
    replace q5 := allLt_of q5
    simp only [wled, AllLt] at q5
    k_steps
    unfold Halt
    rename News _ _ _ _ => N7
    rename Fr _ _ _ _ => F7
    have N8 := cb_drop N7 (fun p hp => List.mem_cons_of_mem _ (List.mem_cons_of_mem _ hp))
    clear N7
    k_dflt (refine' comp_eval (ds := dueL oct place (8192 : Int)) (ps := posOf oct place (8192 : Int)) (j := (dueL oct place (8192 : Int)).length) (rest := (fl, LCg.lst xs) :: (dl, LCg.lst ys) :: (q, methodObj (.ref 181) (.ref S)) :: news) ?h1 ?h2 Z hr2 C ?hj (⟨B3, X3, T3, D3', T03⟩ : Grd prog w p loose mean mg mb (ktrTop 302 7 (some []) cn cs L a ccd [] []) base [envOf cn cs L a ccd] g' g3) F7 N8 ?hk XB TB ?hcell ?hkind ?hx ?hdb ?hclos ?hnames hdue ?hm ?hy ?hyd ?_; (case h1 => exact Nat.le_of_ble_eq_true rfl); (case h2 => exact Nat.le_of_ble_eq_true rfl); (case hj => exact Nat.le_refl _); (case hk => first | exact rfl | assumption); (case hcell => decide); (case hkind => rfl); (case hx => rfl); (case hdb => decide); (case hclos => rfl); (case hnames => decide); (case hm => exact rfl); (case hy => exact rfl); (case hyd => decide))
    intro D4 g4 h' k t4'' zs2 G4 F4 N4 hz2 hlt4
    obtain ⟨B4, X4, T4, D4', T04⟩ := G4
    k_steps
    dsimp only [FlowC]
    rename News _ _ _ _ => N9
    rename Fr _ _ _ _ => F9
    have N10 := cb_drop N9 (fun p hp => List.mem_cons_of_mem _ (List.mem_cons_of_mem _ hp))
    clear N9
    rw [C.fin _ (Nat.le_refl _)] at N10
    refine wpC_execs_any ?_
    k_steps
    all_goals (try (exfalso; omega))
    dsimp only [FlowC]
    refine wpC_any ?_
    k_steps
    refine ret _ _ (by assumption) ?_
    exact cb_drop (by assumption) fun p hp => by simp only [hled, wled, List.mem_cons, hp, or_true]

end
section
local macro_rules | `(tactic| walk_at "getMethod bytes") => `(tactic| (k_here; k_dflt (refine Mine.join_method ?_)))
local macro_rules | `(tactic| walk_at "eval ListComp") => `(tactic| (k_here; (with_reducible show wpAny _ _ (eval (Expr.ListComp (Expr.BinOp _ _ _ _) _ _ _) _) _ _ _); refine Mine.halt ?_))
local macro_rules | `(tactic| walk_at "CompEnd") => `(tactic| (k_here; refine Mine.halt ?_))
local macro_rules | `(tactic| walk_at "CompSrc") => `(tactic| (k_here; refine Mine.halt ?_))
local macro_rules | `(tactic| walk_at "binaryOp Mult bytes int") => `(tactic| (k_here; k_dflt (refine Mine.mul_oct ?_); intro _ _))
local macro_rules | `(tactic| walk_at "subscriptTail") => `(tactic| (k_here; (with_reducible show wpAny _ _ (subscriptTail (Expr.Tuple _ _ _) _ (Value.ref _) (Value.int _ _)) _ _ _); k_dflt (refine' Mine.pick8 ?ht ?hi ?z1 ?z2 ?_; (case ht => exact News.isTup (by k_asm) (by k_mem)); (case hi => l_ints); (case z1 => omega); (case z2 => omega); k_whole); intro sz t hs1 hs2))
theorem fmod2_any {n : Int} {P : Int → Prop} (h : ∀ few : Nat, few ≤ 3 → P (few : Int)) : P (n.fmod 2) := by
  obtain ⟨few, hf, e⟩ := few2_eq n
  rw [e]; exact h few hf
theorem law_walk : PySem.Challenge.rw_io0036_01.Holds := by
  refine Mine.hd ⟨topC _ _, ?_⟩
  k_fill
  intro w s₀ s₁ mg mb G Y fa o pm cd doc dV kV ho hd hcd hD hmg hg args vals as hpre hlay hrd hwl hlo
  have KX := kIn_of Y
  have X := (Ground.X G).1
  have V := (Ground.X G).2
  refine Ground.open G ?_
  intro T B D TE TW
  try (refine guard_noD D (by decide +kernel) ?_; clear D)
  obtain ⟨_, _, M⟩ := bmod_of_top T
  have TA := at_of_top T
  try (obtain ⟨_, _, he, B0⟩ := based_of_top T rfl hmg ho hd; have he' : cd = _ := he; subst he'; clear he)
  clear hmg
  wrow_args hpre hlay hrd hwl hlo
  w_top on
  have K0 := below_caller (Top.heap T)
  have he := Dflts.none hD rfl; subst he
  refine enterC (by decide) ho hd (Top.nolimit T) hcd (BindsTo.of_eq rfl) (locs rfl) fun h₁ F => ?_
  w_binds F
  have N0 := (News.nil : News _ _ _ []).at F
  clear hd TA
  k_drop
  refine wpC_execs_any ?_
  k_steps
  dsimp only [FlowC]
  refine wpC_execs_any ?_
  k_steps
  unfold Halt
  k_dflt (refine LCg.ListComp_U (F₀ := by k_asm) (by with_unfolding_all rfl) (by decide) (by rfl) (by decide) (by rfl) ?_)
  k_steps
  unfold Halt
  k_dflt (refine LCg.CompSrc.ledger (by rfl) (by k_asm) (by k_asm) (by k_mem) (by kcf_size) ?_)
  intro g'
  k_dflt (refine' Mine.kbs_list Mine.oct1 (by first | assumption | l_ints) ?turn ?fin)
  case turn =>
    intro k t I oI C oC D m₂ ys h tk E' hk0 hC hx F' N' off ne
    have off0 := off
    simp only [LCg.Off3] at off
    k_steps
    unfold Halt
    rename News _ _ _ _ => NN
    have NN2 := cb_drop NN (fun p hp => List.mem_cons_of_mem _ hp)
    refine LCg.CompEnd.intro (by assumption) NN2 [_, _] (fun p hp => hp) off0 (by first | lcg_src | assumption) ⟨rfl, _, rfl⟩
  case fin =>
    intro ys hys
    k_steps
    simp only [List.cons_append, List.nil_append]
    k_dflt (refine Mine.join_octs (l := _) ⟨_, News.get (by k_asm) (by k_mem), rfl, _, rfl⟩ (by with_reducible assumption) (by omega) ?_)
    intro oct t' k ho1 ho2
    k_steps
    dsimp only [FlowC]
    refine wpC_execs_any ?_
    k_steps
    dsimp only [FlowC]
    rename Fr _ _ _ _ => F₀
    rename News _ _ _ _ => N₀
    rename IntsAre _ (_ ++ _) => hI₀
    refine wpC_execs_cons ?_
    refine forC (x := Str.ofString "x") (y := Str.ofString "size") ?hh ?hx ?hp F₀ N₀ (List.mem_cons_of_mem _ (List.mem_cons_self ..)) ?hlo hI₀ ?hev ?turn ?done ?hs
    case hh => rfl
    case hx => rfl
    case hp => rfl
    case hlo => exact fun h e => ⟨_, e, rfl, _, rfl⟩
    case hs => intro _; rfl
    case hev =>
      intro Q hq
      refine wpAny_Name ?_ (by decide)
      refine wpAny_loadName_local (by rfl) (by rfl) F₀.ns ?_ hq
      rfl
    case turn =>
      intro n t yv h tk I oI hn F N
      refine wpC_execs_any ?_
      k_steps
      dsimp only [FlowC]
      refine wpC_execs_cons (wpC_If (wpC_isTrue_Not (wpC_isTrue_Call (wpC_Call_Name ?_))))
      k_steps
      k_dflt (refine' callWithC_K4 (K := Mine.hd.heap_1 w.params) ?KX ?kp ?_; (case KX => k_asm); (case kp => k_is))
      k_steps
      obtain ⟨few, hfew, efew⟩ := few_eq n
      rw [efew]
      rename Fr _ _ _ _ => F1
      rename News _ _ _ _ => N1
      refine ktrC_le (holds_spec (by omega) ho1 (place_bounds _ _).1 (place_bounds _ _).2 (by with_reducible assumption) (by with_reducible assumption) hfew K0 F1 KX N1 T rfl KX T ?_) ?kh1 ?kh2
      case kh1 => exact Nat.le_of_ble_eq_true rfl
      case kh2 => exact Nat.le_of_ble_eq_true rfl
      intro h2 k2 F2 N2
      k_steps
      refine wpC_any (wpAny_execs_nil ?_)
      dsimp only [FlowC]
      refine wpC_any (wpAny_execs_nil ?_)
      exact ⟨rfl, h2, k2, _, _, rfl, swap_fr (by decide) F2, cb_drop N2 fun p hp => List.mem_cons_of_mem _ hp⟩
    case done =>
      intro xv yv h tk F N
      dsimp only [FlowC]
      refine wpC_execs_cons (wpC_Return_some (wpC_And2 (wpC_Call_Name ?_)))
      k_steps
      k_dflt (refine' callWithC_K4 (K := Mine.hd.heap_1 w.params) ?KX ?kp ?_; (case KX => k_asm); (case kp => k_is))
      k_steps
      rename Fr _ _ _ _ => F1
      rename News _ _ _ _ => N1
      refine fmod2_any (P := fun v => wpC _ _ (call _ [_, _, _, .int v _]) _ _ _) (fun few hfew => ?_)
      refine ktrC_le (holds_none (by omega) ho1 (by decide) (by omega) hfew K0 F1 KX N1 T rfl KX T ?_) ?kh1 ?kh2
      case kh1 => exact Nat.le_of_ble_eq_true rfl
      case kh2 => exact Nat.le_of_ble_eq_true rfl
      intro h2 k2 F2 N2
      k_steps
      refine wpC_Call_Name ?_
      k_steps
      k_dflt (refine' callWithC_K4 (K := Mine.hd.heap_1 w.params) ?KX ?kp ?_; (case KX => k_asm); (case kp => k_is))
      k_steps
      rename Fr _ _ _ _ => F3
      rename News _ _ _ _ => N3
      refine ktrC_le (holds_spec (few := 2) (by omega) ho1 (by decide) (by omega) (by decide) (by decide) (by decide) K0 F3 KX N3 T rfl KX T ?_) ?kh1 ?kh2
      case kh1 => exact Nat.le_of_ble_eq_true rfl
      case kh2 => exact Nat.le_of_ble_eq_true rfl
      intro h4 k4 F4 N4
      dsimp only [FlowC]
      k_steps
      refine GoodW.toG ?_
      wrow_close
  all_goals (try k_data)
  all_goals w_report

end
end Mine

theorem PySem.Challenge.cw_io0036_01_holds : PySem.Challenge.rw_io0036_01.Holds :=
  Mine.law_walk
