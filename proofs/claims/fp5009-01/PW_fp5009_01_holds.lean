import PyProof.Rows.All
import Wide.All
import OpenK.AllK
import Wide.FinOn
import Lean
import PySem.Challenge.RW_fp5009_01
set_option Elab.async false
set_option maxRecDepth 100000

section -- Calc
open PySem PySem.W PyProof.Rows
namespace Mine
open Sem (wp)

/-- the context has the claim's caller on its stack -/
def Cal (Γ : Ctx) : Prop := Γ.code.isCaller = true ∨ Γ.below.any (fun x => x.1.isCaller) = true
/-- `wpAny`, asked of the contexts under the claim's caller alone -/
def wpC {α : Type} (M : Model) (A : Around) (t : Sem α) (Q : α → Shared → Prop) (E : Value → Shared → Prop) (s : Shared) : Prop :=
  ∀ Γ p, Γ.In A → Cal Γ → wp M Γ t (fun a _ s' => Q a s') (fun e _ s' => E e s') p s
def codeC (M : Model) (A : Around) (c : Code) (R : Result → Shared → Prop) (s : Shared) : Prop :=
  ∀ Γ p, Γ.code = c → Γ.Below A → Γ.below.any (fun x => x.1.isCaller) = true → wpCode M Γ R p s

section
variable {α β : Type} {M : Model} {A : Around} {E : Value → Shared → Prop} {s : Shared}

theorem wpC_of_any {t : Sem α} {Q : α → Shared → Prop} (h : wpAny M A t Q E s) : wpC M A t Q E s := fun Γ p hΓ _ => h Γ p hΓ
theorem codeC_of_any {c : Code} {R : Result → Shared → Prop} (h : codeAny M A c R s) : codeC M A c R s := fun Γ p hc hΓ _ => h Γ p hc hΓ
theorem wpC_pure {a : α} {Q : α → Shared → Prop} (h : Q a s) : wpC M A (pure a) Q E s := fun _ _ _ _ => h
theorem wpC_throw {e : Value} {Q : α → Shared → Prop} (h : E e s) : wpC M A (throw e : Sem α) Q E s := fun _ _ _ _ => h
theorem wpC_mono {t : Sem α} {Q Q' : α → Shared → Prop} {E' : Value → Shared → Prop} (h : wpC M A t Q E s)
    (hQ : ∀ a s, Q a s → Q' a s) (hE : ∀ e s, E e s → E' e s) : wpC M A t Q' E' s :=
  fun Γ p hΓ hC => Sem.wp_mono M Γ t (fun a _ s => hQ a s) (fun e _ s => hE e s) p s (h Γ p hΓ hC)
theorem wpC_bind {m : Sem α} {f : α → Sem β} {Q : β → Shared → Prop} (h : wpC M A m (fun a s' => wpC M A (f a) Q E s') E s) :
    wpC M A (m >>= f) Q E s := fun Γ p hΓ hC => by
  rw [Sem.wp_bind']
  exact Sem.wp_mono M Γ m (fun a p' s' h' => h' Γ p' hΓ hC) (fun _ _ _ h' => h') p s (h Γ p hΓ hC)
/-- a step of the library's first, the rest under the caller -/
theorem wpC_bind_any {m : Sem α} {f : α → Sem β} {Q : β → Shared → Prop} (h : wpAny M A m (fun a s' => wpC M A (f a) Q E s') E s) :
    wpC M A (m >>= f) Q E s := wpC_bind (wpC_of_any h)
theorem wpC_onRaise {m : Sem α} {k : Value → Sem Unit} {Q : α → Shared → Prop}
    (h : wpC M A m Q (fun e s' => wpC M A (k e) (fun _ s'' => E e s'') E s') s) : wpC M A (m.onRaise k) Q E s := fun Γ p hΓ hC => by
  rw [Sem.wp_onRaise]
  exact Sem.wp_mono M Γ m (fun _ _ _ h' => h') (fun e p' s' h' => h' Γ p' hΓ hC) p s (h Γ p hΓ hC)
theorem wpC_tryCatch {m : Sem α} {k : Value → Sem α} {Q : α → Shared → Prop} (h : wpC M A m Q (fun e s' => wpC M A (k e) Q E s') s) :
    wpC M A (tryCatch m k) Q E s := fun Γ p hΓ hC => by
  rw [Sem.wp_tryCatch']
  exact Sem.wp_mono M Γ m (fun _ _ _ h' => h') (fun e p' s' h' => h' Γ p' hΓ hC) p s (h Γ p hΓ hC)
theorem wpC_attempt {m : Sem α} {Q : Except Value α → Shared → Prop} (h : wpC M A m (fun a => Q (.ok a)) (fun e => Q (.error e)) s) :
    wpC M A m.attempt Q E s := fun Γ p hΓ hC => by rw [Sem.wp_attempt]; exact h Γ p hΓ hC
theorem wpC_holding {vs : List Value} {m : Sem α} {Q : α → Shared → Prop} (h : wpC M A m Q E s) : wpC M A (holding vs m) Q E s :=
  fun Γ p hΓ hC => by rw [Sem.wp_holding]; exact h Γ p hΓ hC
theorem wpC_keep {vs : List Value} {m : Sem α} {Q : α → Shared → Prop} (h : wpC M A m Q E s) : wpC M A (m.keep vs) Q E s :=
  fun Γ p hΓ hC => by rw [Sem.wp_keep]; exact h Γ p hΓ hC
theorem wpC_operate {vs : List Value} {m : Sem Value} {Q : Value → Shared → Prop} (h : wpC M A m Q E s) : wpC M A (operate vs m) Q E s :=
  fun Γ p hΓ hC => by rw [Sem.wp_operate]; exact h Γ p hΓ hC
theorem wpC_standAt {pos : Pos} {Q : Unit → Shared → Prop} (h : Q () s) : wpC M A (standAt pos) Q E s := fun _ _ _ _ => h
theorem wpC_rule {tag : String} {Q : Unit → Shared → Prop} (h : Q () s) : wpC M A (rule tag) Q E s := fun _ _ _ _ => h
theorem wpC_point {Q : Unit → Shared → Prop} (h : Q () s) : wpC M A point Q E s := fun _ _ _ _ => h
theorem wpC_load {a : Addr} {o : Obj} {Q : Obj → Shared → Prop} (ho : s.heap.get? a = some o) (h : Q o s) : wpC M A (load a) Q E s := wpC_of_any (wpAny_load ho h)

theorem codeC_mono {c : Code} {R R' : Result → Shared → Prop} (h : codeC M A c R s) (hR : ∀ r s, R r s → R' r s) : codeC M A c R' s :=
  fun Γ p hc hΓ hC => wpCode_mono hR (h Γ p hc hΓ hC)
theorem cal_enter {Γ : Ctx} {c : Code} {h : Option Value} {p : Pos} (hC : Cal Γ) : (Γ.enter c h p).below.any (fun x => x.1.isCaller) = true := by
  show ((Γ.code, p) :: Γ.below).any _ = true
  rw [List.any_cons]
  rcases hC with h | h
  · simp only [h, Bool.true_or]
  · rw [h, Bool.or_true]
theorem wpC_run {c : Code} {h : Option Value} {Q : Flow → Shared → Prop}
    (hc : codeC M (A.mark h) c (fun r s' => match r with | .ok f => Q f s' | .error e => E e s') s) (hnb : h ≠ some byPass := by intro x; cases x) :
    wpC M A (run c h) Q E s := fun Γ p hΓ hC => by rw [Sem.wp_run]; exact hc _ p rfl (hΓ.enter c h p hnb) (cal_enter hC)
theorem wpC_call {f : Value} {pos : List Value} {kw : List (Str × Value)} {Q : Value → Shared → Prop}
    (hc : codeC M A (.call f ⟨pos, kw⟩) (fun r s' => match r with | .ok (.ret v) => Q v s' | .ok _ => False | .error e => E e s') s) :
    wpC M A (call f pos kw) Q E s := fun Γ p hΓ hC => by
  show wp M Γ (runValue (.call f ⟨pos, kw⟩)) _ _ p s
  rw [Sem.wp_runValue]; exact hc _ p rfl (hΓ.enter _ none p (by intro x; cases x)) (cal_enter hC)
theorem codeC_of_tree {c : Code} {R : Result → Shared → Prop}
    (h : wpC M (A.under c) (M.den c) (fun fin s' => match fin with | .done f => R (.ok f) s' | .again c' => c'.quiet = true ∧ codeC M A c' R s')
      (fun e s' => R (.error e) s') s) : codeC M A c R s := fun Γ p hc hΓ hC => by
  rw [wpCode_iff_wp, hc]
  refine Sem.wp_mono M Γ _ (fun fin p' s' h' => ?_) (fun _ _ _ h' => h') p s (h Γ p (hc ▸ hΓ.in) (Or.inr hC))
  cases fin with
  | done f => exact h'
  | again c' => exact ⟨h'.1, h'.2 (Γ.goto c') p' rfl (hΓ.goto c') hC⟩

theorem wpC_execs_nil {env : Env} {Q : Flow → Shared → Prop} (h : Q .next s) : wpC M A (execs [] env) Q E s := fun _ _ _ _ => h
theorem wpC_execs_cons {env : Env} {st rest} {Q : Flow → Shared → Prop}
    (h : wpC M A (exec st env) (fun f s' => match f with | .next => wpC M A (execs rest env) Q E s' | f => Q f s') E s) :
    wpC M A (execs (st :: rest) env) Q E s := by
  rw [execs_cons]
  refine wpC_bind (wpC_mono h (fun f s' h' => ?_) fun _ _ x => x)
  cases f <;> first | exact h' | exact wpC_pure h'
theorem wpC_If {env : Env} {test body orelse pos} {Q : Flow → Shared → Prop}
    (h : wpC M A (isTrue test env (eval test env)) (fun b s₂ => if b then wpC M A (execs body env) Q E s₂ else wpC M A (execs orelse env) Q E s₂) E s) :
    wpC M A (exec (.If test body orelse pos) env) Q E s := by
  rw [exec_If]
  refine wpC_bind (wpC_standAt (wpC_bind (wpC_mono h (fun b s' h' => ?_) fun _ _ x => x)))
  cases b <;> simpa using h'
theorem wpC_Return {env : Env} {e pos} {Q : Flow → Shared → Prop} (h : wpC M A (eval e env) (fun v => Q (.ret v)) E s) :
    wpC M A (exec (.Return (some e) pos) env) Q E s := by
  rw [exec_Return_some]
  exact wpC_bind (wpC_standAt (wpC_bind (wpC_mono h (fun v s' h' => wpC_pure h') fun _ _ x => x)))
theorem wpC_Assign_Name {env : Env} {x : Str} {pos' pos : Pos} {value : PySem.Expr} {Q : Flow → Shared → Prop} (hs : swapsWith value (some (.Name x pos')) pos.line env = pure false)
    (h : wpC M A (eval value env) (fun v s' => wpC M A (bindName env x v) (fun _ s'' => Q .next s'') E s') E s) : wpC M A (exec (.Assign [.Name x pos'] value pos) env) Q E s := by
  rw [exec_Assign_Name (hs := hs)]
  refine wpC_bind (wpC_standAt (wpC_bind (wpC_mono h (fun v s' h' => ?_) fun _ _ x => x)))
  exact wpC_bind (wpC_standAt (wpC_bind (wpC_mono h' (fun _ s'' h'' => wpC_pure h'') fun _ _ x => x)))
theorem wpC_isTrue_not {env : Env} {x pos whole} {Q : Bool → Shared → Prop} (h : wpC M A (isTrue x env (eval x env)) (fun c s' => Q (!c) s') E s) :
    wpC M A (isTrue (.UnaryOp .Not x pos) env whole) Q E s := by
  show wpC M A (do return !(← isTrue x env (eval x env))) Q E s
  exact wpC_bind (wpC_mono h (fun c s' h' => wpC_pure h') fun _ _ x => x)
theorem wpC_BinOp {env : Env} {l op r pos} {Q : Value → Shared → Prop}
    (h : wpC M A (eval l env) (fun a s₁ => wpC M A (eval r env) (fun b s₂ => wpC M A (binaryOp op a b) Q E s₂) E s₁) E s) :
    wpC M A (eval (.BinOp l op r pos) env) Q E s := by
  rw [eval_BinOp]
  refine wpC_bind (wpC_mono h (fun a s₁ h₁ => wpC_bind (wpC_holding (wpC_mono h₁ (fun b s₂ h₂ => ?_) fun _ _ x => x))) fun _ _ x => x)
  exact wpC_bind (wpC_standAt (wpC_operate h₂))
end
section
variable {prog : Program} {w : World} {A : Around} {E : Value → Shared → Prop} {s : Shared} {env : Env} {R : Result → Shared → Prop}
theorem wpC_Expr {e pos} {Q : Flow → Shared → Prop} (h : wpC (model prog w) A (eval e env) (fun _ => Q .next) E s)
    (hi : interactive env = false := by rfl) (hs : swapsWith e none pos.line env = pure false := by rfl) :
    wpC (model prog w) A (exec (.Expr e pos) env) Q E s := by
  rw [exec_Expr env e pos hi hs]
  exact wpC_bind (wpC_standAt (wpC_bind (wpC_mono h (fun v s' h' => wpC_of_any (wpAny_dropValue h')) fun _ _ x => x)))
theorem wpC_Try_except {body orelse : List Stmt} {h₀ : ExceptHandler} {hs : List ExceptHandler} {pos : Pos} {Q : Flow → Shared → Prop}
    (h : wpC (model prog w) A (execs body env) (fun f s₁ => match f with | .next => wpC (model prog w) A (execs orelse env) Q E s₁ | f => Q f s₁)
      (fun e s₁ => wpAny (model prog w) A (noteFrame e env) (fun _ s₂ => wpAny (model prog w) A (setFlight e none) (fun _ s₃ => wpAny (model prog w) A (handleBy e env (h₀ :: hs)) Q E s₃) E s₂) E s₁) s) :
    wpC (model prog w) A (exec (.Try body (h₀ :: hs) orelse [] pos) env) Q E s := by
  rw [arm_exec_Try]
  refine wpC_bind (wpC_standAt ?_)
  unfold tryStmt
  simp only [List.isEmpty_nil, if_true, List.isEmpty_cons, Bool.false_and, Bool.false_eq_true, if_false]
  refine wpC_bind (wpC_attempt (wpC_mono h (fun f s₁ h₁ => ?_) fun e s₁ h₁ => ?_))
  · cases f <;> first | exact h₁ | exact wpC_pure h₁
  · exact wpC_of_any (wpAny_bind (wpAny_mono h₁ (fun _ _ h₂ => wpAny_bind h₂) fun _ _ x => x))
theorem codeC_func {body env}
    (h : wpC (model prog w) (A.deeper env) (execs body env) (fun f s' => R (.ok (.ret (match f with | .ret v => v | _ => .none))) s')
      (fun e s' => wpC (model prog w) (A.deeper env) (leaving env e) (fun _ s'' => R (.error e) s'') (fun e' s'' => R (.error e') s'') s') s) :
    codeC (model prog w) A (.func body env) R s := by
  refine codeC_of_tree ?_
  show wpC _ (A.deeper env) (do point; match ← (execs body env).onRaise (leaving env) with | .ret v => ret v | _ => ret .none) _ _ s
  refine wpC_bind (wpC_point (wpC_bind (wpC_onRaise (wpC_mono h (fun f s' h' => ?_) fun _ _ h' => h'))))
  cases f <;> exact wpC_pure h'
theorem codeC_call_function {a : Addr} {args : Args} {o : Obj} {fd : FuncData} {body : List Stmt} (hroom : A.depth < recursionLimit)
    (ho : s.heap.get? a = some o)
    (hd' : o.data = .func fd) (hco : fd.scope.isCoroutine = false) (hgen : fd.scope.isGenerator = false) (hbody : fd.body = .stmts body) (hcd : s.heap.CodeRec fd.code fd.qualname)
    (h : wpAny (model prog w) A.in1 (bindArgs fd args) (fun binds s₁ =>
      wpAny (model prog w) A.in1 (newFunctionEnv fd.scope fd.globals fd.closure binds (fd.qualname ++ ".<locals>.") (some a) fd.code none fd.builtins)
        (fun env s₂ => s₂.heap.NoLimit ∧ codeC (model prog w) A (.func body env) R s₂) (fun e s' => R (.error e) s') s₁) (fun e s' => R (.error e) s') s) :
    codeC (model prog w) A (.call (.ref a) args) R s := by
  refine codeC_of_tree ?_
  show wpC _ A.in1 (callAny (.ref a) args) _ _ s
  simp only [callAny]
  refine wpC_bind_any (wpAny_load ho ?_)
  obtain ⟨c, oc, vs, tq, hc, hoc, hdc, hq⟩ := hcd
  simp only [hd', callFunction, hco, hgen, hbody, hc]
  rw [hc] at h
  refine wpC_bind_any (m := field (.ref c) 1) (wpAny_field hoc hdc hq (wpC_bind_any (wpAny_pure ?_)))
  exact wpC_bind_any (wpAny_mono h (fun binds s₁ h₁ => wpC_bind_any (wpAny_mono h₁ (fun env s₂ h₂ => wpC_bind_any (wpAny_enterFrame h₂.1 hroom
    (wpC_pure (And.intro rfl h₂.2)))) fun _ _ h' => h')) fun _ _ h' => h')
end

section
variable {prog : Program} {w : World} {A A₀ : Around} {s : Shared} {K : Frag} {L : Addr} {h₀ base : Heap} {m mg mb : Str → Option Value} {news : List (Addr × Obj)} {p : Program} {loose : List Str} {mean : ExcName → Option Value}
  {env : Env} {outer : List Env} {R : Result → Shared → Prop} {name qual : Str} {params : Arguments} {body : List Stmt} {scope : Scope} {dV kV doc pm cdv ct oc : Value} {an od : Option Addr} {osl : Array (Option Value)} {f : Addr} {args : Args} {binds : List (Str × Value)}

theorem codeC_enter (F : Fr h₀ L s.heap m) (X₀ : K.In h₀) (T : Top p loose mean mg mb h₀)
    (ho : K.lookup f = some ⟨oc, od, .func (fnOf name qual params body scope dV kV doc pm an cdv ct), osl⟩) (hcd : codeIn K cdv qual = true) (hroom : A.depth < recursionLimit)
    (hbind : BindsTo s (fnOf name qual params body scope dV kV doc pm an cdv ct) args binds) (hloc : ∀ y ∈ binds, scope.names.lookup y.1 = some .local)
    (h : ∀ h₁, h₁.Ns s.heap.objs.size (fun y => binds.reverse.lookup y) → (∀ b o, s.heap.get? b = some o → h₁.get? b = some o) →
      wpC (model prog w) (A.deeper (envOf qual scope s.heap.objs.size f cdv)) (execs body (envOf qual scope s.heap.objs.size f cdv))
        (fun fl s' => R (.ok (.ret (match fl with | .ret v => v | _ => .none))) s')
        (fun e s' => wpAny (model prog w) (A.deeper (envOf qual scope s.heap.objs.size f cdv)) (leaving (envOf qual scope s.heap.objs.size f cdv) e) (fun _ s'' => R (.error e) s'') (fun e' s'' => R (.error e') s'') s')
        { s with heap := h₁, toks := s.toks + binds.length })
    (hcell : ∀ x ∈ scope.names, x.2 ≠ .cell) (hco : scope.isCoroutine = false) (hgen : scope.isGenerator = false) (hk : scope.kind = .function) :
    codeC (model prog w) A (.call (.ref f) args) R s := by
  have X := X₀.keeps F.keep
  refine codeC_call_function (fd := fnOf name qual params body scope dV kV doc pm an cdv ct) hroom (X _ _ ho) rfl hco hgen rfl (codeRec_of X hcd) (hbind _ _ _ _ ?_)
  refine wpAny_newFunctionEnv hcell hloc (fun h₁ hns hsb => ⟨(T.nolimit.keeps F.keep).fresh _ hsb, codeC_func ?_⟩) hk
  exact wpC_mono (h h₁ hns fun b o e => hsb.extBut b o (Nat.ne_of_lt (Heap.lt_size e)) (Heap.get?_push_of_some _ e)) (fun _ _ x => x) fun _ _ x => wpC_of_any x

theorem codeC_def (B : Below A₀ base outer h₀) (F : Fr h₀ L s.heap m) (X₀ : K.In h₀) (N : News h₀ L s.heap news) (T : Top p loose mean mg mb h₀) (hA : A.frames = some (env :: outer)) (hf : env.frame = some L) (hke : env.scope.kind = .function)
    (ho : K.lookup f = some ⟨oc, od, .func (fnOf name qual params body scope dV kV doc pm an cdv ct), osl⟩) (hcd : codeIn K cdv qual = true) (hroom : A.depth < recursionLimit)
    (hbind : BindsTo s (fnOf name qual params body scope dV kV doc pm an cdv ct) args binds) (hloc : ∀ y ∈ binds, scope.names.lookup y.1 = some .local)
    (h : ∀ g L' h₁, Fr h₀ L g m → Fr g L' h₁ (fun y => binds.reverse.lookup y) → News g L' h₁ news → Below A base (env :: outer) g → K.In g → Top p loose mean mg mb g →
      wpC (model prog w) (A.deeper (envOf qual scope L' f cdv)) (execs body (envOf qual scope L' f cdv))
        (fun fl s' => LeaveK h₀ L m g R (match fl with | .ret v => v | _ => .none) s')
        (fun e s' => wpAny (model prog w) (A.deeper (envOf qual scope L' f cdv)) (leaving (envOf qual scope L' f cdv) e) (fun _ s'' => R (.error e) s'') (fun e' s'' => R (.error e') s'') s')
        { s with heap := h₁, toks := s.toks + binds.length })
    (hco : scope.isCoroutine = false) (hgen : scope.isGenerator = false) (hk : scope.kind = .function)
    (hcell : ∀ x ∈ scope.names, x.2 ≠ .cell) : codeC (model prog w) A (.call (.ref f) args) R s := by
  obtain ⟨FG, BG, st, lv⟩ := groundX (R := R) B F N hA hf hke
  refine codeC_enter F X₀ T ho hcd hroom hbind hloc (fun h₁ hns hk₁ => ?_) hcell hco hgen hk
  exact wpC_mono (h _ s.heap.objs.size h₁ FG ⟨hns, fun b o e => hk₁ b o (of_hideAll _ e), Nat.le_of_eq (hideAll_size _ _)⟩
    (fun p hp => ⟨hk₁ _ _ (N p hp).1, Nat.ne_of_lt (Heap.lt_size (N p hp).1), hideAll_none _ (List.mem_map_of_mem hp)⟩) BG (X₀.keeps st) (T.keeps st)) (fun fl s' hl => lv _ _ hl) fun _ _ y => y

/-- a helper that catches, called from the law's own frame -/
theorem codeC_defS (B : Below A₀ base [] h₀) (F : Fr h₀ L s.heap m) (X₀ : K.In h₀) (N : News h₀ L s.heap news) (T : Top p loose mean mg mb h₀) (hA : A.frames = some [env]) (hf : env.frame = some L) (hke : env.scope.kind = .function)
    (ho : K.lookup f = some ⟨oc, od, .func (fnOf name qual params body scope dV kV doc pm an cdv ct), osl⟩) (hcd : codeIn K cdv qual = true) (hroom : A.depth < recursionLimit)
    (hbind : BindsTo s (fnOf name qual params body scope dV kV doc pm an cdv ct) args binds) (hloc : ∀ y ∈ binds, scope.names.lookup y.1 = some .local)
    (h : ∀ g L' h₁, Fr h₀ L g m → Fr g L' h₁ (fun y => binds.reverse.lookup y) → News g L' h₁ news → Below A base [env] g → K.In g → Top p loose mean mg mb g → KtsDicts [L] g →
      wpC (model prog w) (A.deeper (envOf qual scope L' f cdv)) (execs body (envOf qual scope L' f cdv))
        (fun fl s' => LeaveS0 [L] h₀ L m g R (match fl with | .ret v => v | _ => .none) s')
        (fun e s' => wpAny (model prog w) (A.deeper (envOf qual scope L' f cdv)) (leaving (envOf qual scope L' f cdv) e) (fun _ s'' => R (.error e) s'') (fun e' s'' => R (.error e') s'') s')
        { s with heap := h₁, toks := s.toks + binds.length })
    (hco : scope.isCoroutine = false) (hgen : scope.isGenerator = false) (hk : scope.kind = .function)
    (hcell : ∀ x ∈ scope.names, x.2 ≠ .cell) : codeC (model prog w) A (.call (.ref f) args) R s := by
  obtain ⟨FG, BG, st, _⟩ := groundX (R := R) B F N hA hf hke
  refine codeC_enter F X₀ T ho hcd hroom hbind hloc (fun h₁ hns hk₁ => ?_) hcell hco hgen hk
  obtain ⟨oL, es, ep, hL, hLd, hLk, hLf⟩ := FG.ns
  refine wpC_mono (h _ s.heap.objs.size h₁ FG ⟨hns, fun b o e => hk₁ b o (of_hideAll _ e), Nat.le_of_eq (hideAll_size _ _)⟩
    (fun p hp => ⟨hk₁ _ _ (N p hp).1, Nat.ne_of_lt (Heap.lt_size (N p hp).1), hideAll_none _ (List.mem_map_of_mem hp)⟩) BG (X₀.keeps st) (T.keeps st)
    (fun b hb => by rw [List.mem_singleton.mp hb]; exact ⟨oL, es, ep, hL, hLd⟩)) (fun fl s' hl => ?_) fun _ _ y => y
  obtain ⟨g', L', m', news', T', F', N', k⟩ := hl
  have nL₀ : h₀.get? L = none := kts_self F
  obtain ⟨sl, hs⟩ := T'.up hL
  refine k ⟨⟨_, es, ep, F'.keep _ _ hs, hLd, hLk, hLf⟩, fun b o e => F'.keep b o (T'.other b o (st b o e) (fun q => by
    rw [List.mem_singleton.mp q, nL₀] at e; cases e)), F.above⟩ fun p hp => ⟨(N' p hp).1, fun q => ?_, ?_⟩
  · have := (N' p hp).2.2; rw [q, hs] at this; cases this
  · cases q : h₀.get? p.1 with
    | none => rfl
    | some o =>
      obtain ⟨sl', hs'⟩ := T'.up (st _ _ q)
      have := (N' p hp).2.2
      rw [hs'] at this
      cases this
end

section
variable {M : Model} {A : Around} {E : Value → Shared → Prop} {s : Shared} {env : Env} {K : Frag} {f : Value} {first : List Value} {pos : Pos} {Q : Value → Shared → Prop}
theorem wpC_Call {x : Str} {px : Pos} {args : List PySem.Expr}
    (h : wpAny M A (eval (.Name x px) env) (fun f s₁ => wpC M A (callWith pos f [] (backTo pos (starEach args env)) []) Q E s₁) E s) :
    wpC M A (eval (.Call (.Name x px) args [] pos) env) Q E s := by
  show wpC M A (eval (.Name x px) env >>= fun f => callWith pos f [] (backTo pos (starEach args env)) []) Q E s
  exact wpC_bind_any h
theorem wpC_callWith_of {P : Heap → Prop} {args : List (Bool × Sem Value)} (hplain : args.any (·.1) = false)
    (hk : ∀ h, P h → ∃ k, (k = Keeper.frame ∨ k = Keeper.machine ∨ k = Keeper.boundFrame) ∧ Looks M h (keeperOf f) k)
    (h : wpAny M A (evalArgs f true args []) (fun a s₁ => P s₁.heap ∧ wpC M A (call f (first ++ a.pos) a.kw) Q E s₁) E s) : wpC M A (callWith pos f first args []) Q E s := by
  unfold callWith
  refine wpC_bind_any (wpAny_holding (wpAny_mono h (fun a s₁ h₁ => wpC_bind (wpC_standAt ?_)) fun _ _ x => x))
  obtain ⟨k, hk', L⟩ := hk _ h₁.1
  simp only [hplain, List.any_nil, Bool.or_false]
  refine wpC_bind_any (L.here ?_)
  have tail : ∀ {t : Sem Value}, wpC M A t Q E s₁ → wpC M A (t >>= fun r => holding [r] point >>= fun _ => pure r) Q E s₁ :=
    fun ht => wpC_bind (wpC_mono ht (fun r s₂ hr => wpC_bind (wpC_holding (wpC_point (wpC_pure hr)))) fun _ _ x => x)
  have marked (mk : Value) : wpC M A (callMarked mk f (first ++ a.pos) a.kw) Q E s₁ := by unfold callMarked; exact wpC_keep h₁.2
  rcases hk' with rfl | rfl | rfl <;> dsimp only <;> first | exact tail h₁.2 | (split <;> first | exact tail h₁.2 | exact tail (marked _))
theorem wpC_callWith_K {h₀ : Heap} {e : PySem.Expr} {rest : List PySem.Expr} (_X : K.In h₀) (hk : keepIn K f = true)
    (h : wpAny M A (spliced (backTo pos (starEach (e :: rest) env))) (fun vs s₁ => K.In s₁.heap ∧ wpC M A (call f (first ++ vs)) Q E s₁) E s)
    (he : starEach (e :: rest) env = (false, eval e env) :: starEach rest env := by rfl) (hplain : (backTo pos (starEach rest env)).any (·.1) = false := by rfl) :
    wpC M A (callWith pos f first (backTo pos (starEach (e :: rest) env)) []) Q E s := by
  rw [he] at h ⊢
  exact wpC_callWith_of (by show (false || (backTo pos (starEach rest env)).any (·.1)) = false; rw [hplain]; rfl) (keeps_K hk) (Calls.evalArgs_plain h)
theorem wpC_callWith_type {T : String} {e : PySem.Expr} {rest : List PySem.Expr}
    (h : wpAny M A (spliced (backTo pos (starEach (e :: rest) env))) (fun vs s₁ => wpC M A (call (.type T) (first ++ vs)) Q E s₁) E s)
    (he : starEach (e :: rest) env = (false, eval e env) :: starEach rest env := by rfl) (hplain : (backTo pos (starEach rest env)).any (·.1) = false := by rfl) :
    wpC M A (callWith pos (.type T) first (backTo pos (starEach (e :: rest) env)) []) Q E s := by
  rw [he] at h ⊢
  exact wpC_callWith_of (P := fun _ => True) (by show (false || (backTo pos (starEach rest env)).any (·.1)) = false; rw [hplain]; rfl) (fun _ _ => ⟨_, .inr (.inl rfl), Looks.of_pure rfl⟩)
    (Calls.evalArgs_plain (wpAny_mono h (fun _ _ x => ⟨trivial, x⟩) fun _ _ x => x))
end
end Mine
end

section -- HeadC
open PySem PySem.W PyProof.Rows PySem.Calls
namespace Mine
open Sem (wp)

theorem cal_caller : Cal (⟨.builtin "claim.caller" {}, none, none, [], none⟩ : Ctx) := Or.inl rfl

theorem thread_endsC {prog : Program} {w : World} {t : Sem Fin} {s : Shared} {R : Result → Shared → Prop} (hreg : s.asleep)
    (h : wpC (model prog w) callerA t (fun fin s' => ∃ f, fin = .done f ∧ (R (.ok f) s' ∧ leftWithCleanup s'.gens = false)) (fun e s' => R (.error e) s' ∧ leftWithCleanup s'.gens = false) s) :
    ∃ n r s' s'', runN (denote table) prog w n s ⟨t, .builtin "claim.caller" {}, default, []⟩ = .halted (outcomeOf r) s' ∧
      schedN (denote table) prog w n (.single s ⟨t, .builtin "claim.caller" {}, default, []⟩) = .halted (outcomeOf r) s' ∧ s'.forget = s''.forget ∧ R r s'' := by
  have z : wp (model prog w) (⟨.builtin "claim.caller" {}, none, none, [], none⟩ : Ctx) t (Sem.finPost (model prog w) ⟨.builtin "claim.caller" {}, none, none, [], none⟩ fun r s' => R r s' ∧ leftWithCleanup s'.gens = false) (fun e _ s' => R (.error e) s' ∧ leftWithCleanup s'.gens = false) default s := by
    refine Sem.wp_mono _ _ t (fun fin p' s' h' => ?_) (fun _ _ _ h' => h') default s (h _ default caller_in cal_caller)
    obtain ⟨f, rfl, hf⟩ := h'
    exact hf
  obtain ⟨n, r, s₁, s₂, hs, hn, hfo, hR⟩ := wp_halts_full (M := model prog w) (R := R) hreg z
  exact ⟨n, r, s₂, s₁, hn, hs, hfo, hR⟩

theorem callFromC {c : ClaimW} {tree : List Value → Sem Fin} {w : World} {s : Shared} {free : Addr → Prop} {gens : Prop} {kept : Heap → Prop} (hz : s.asleep) (hgens : s.gens = #[])
    (hspec : ∀ args, c.pre args = true → WData.layableAll args = true →
      ∀ ord : List DictEntry → List DictEntry, (∀ l, (ord l).Perm l) →
      ∃ vs s₁, layAllW c.records (classAt s.heap) w.params ord args s = some (vs, s₁) ∧
        wpC (model c.prog w) callerA (tree vs) (fun fin s' => ∃ f, fin = .done f ∧ (c.Ends s args vs s₁ (.ok f) s' ∧ s'.os = s.os ∧ AllBare s'.gens ∧ kept s'.heap))
          (fun e s' => c.Ends s args vs s₁ (.error e) s' ∧ s'.os = s.os ∧ AllBare s'.gens ∧ kept s'.heap) s₁) :
    c.CallFrom (fun vs => ⟨tree vs, .builtin "claim.caller" {}, default, []⟩) w free gens kept s := by
  intro args hpre hlay ord hord
  obtain ⟨vs, s₁, hlaid, hcode⟩ := hspec args hpre hlay ord hord
  have hal := layAllW_rest _ _ _ hlaid
  obtain ⟨k, r, s', s'', hrun, hsched, hfo, hcase, hos, hkp⟩ := thread_endsC (prog := c.prog) (w := w) (t := tree vs) (s := s₁)
    (R := fun r s' => c.Ends s args vs s₁ r s' ∧ s'.os = s.os ∧ kept s'.heap)
    (Shared.asleep_of_life hal.2.2.2 hz)
    (wpC_mono hcode (by
      rintro fin s' ⟨f, e, h1, h2, h3, h4⟩
      exact ⟨f, e, ⟨h1, h2, h4⟩, leftWithCleanup_false_of_bare h3⟩) (by
      rintro e s' ⟨h1, h2, h3, h4⟩
      exact ⟨⟨h1, h2, h4⟩, leftWithCleanup_false_of_bare h3⟩))
  obtain ⟨eh, _, _, eo, _⟩ := Shared.forget_eq hfo
  have hcase := hcase.congr eh
  have hkp : kept s'.heap := by first | exact eh ▸ hkp | (rw [eh] at hkp; exact hkp) | (rw [← eh] at hkp; exact hkp)
  rw [← eo] at hos
  have hlife : s'.heap.life = s.heap.life := (runN_life _ _ _ hrun).trans hal.2.2.2
  refine ⟨vs, s₁, hlaid, k, _, s', hsched, ?_, (fun _ i x hx => by rw [hgens] at hx; simp at hx), hkp, by rw [hlife], Shared.rest_eq hos⟩
  rcases hcase with ⟨v, rfl, d1, d2, d3, d4, d5⟩ | ⟨e, ob, cls, rfl, d1, d2, d3, d4, d5⟩
  · exact .inl ⟨v, rfl, d1, d2, d3, fun b o y _ => d4 b o y, d5⟩
  · exact .inr ⟨e, ob, cls, rfl, d1, d2, d3, d4, fun b o y _ => d5 b o y⟩

theorem open_anyC {r : RowW} {run : Value → List Value → Sem Value} {tree : List Value → Sem Fin} {q : Program} {loose defs kps : List Str} {writes : Bool} {Xt : Shared → Bool} {XP : (Str → Option Value) → Heap → Prop} {α : Type} {Yf : Shared → α} {Ya : World → α} {YP : World → Heap → Prop} {N : Nat}
    (left : LeftO r.prog q loose Xt Yf Ya N) (hY : ∀ w s, Yf s = Ya w → YP w s.heap) (hYk : ∀ w h h', YP w h → (∀ b o, h.get? b = some o → h'.get? b = some o) → YP w h') (hX : ∀ s, Xt s = true → XP (s.heap.nsMap mainGlobals) s.heap) (hXk : ∀ mg h h', XP mg h → (∀ b o, h.get? b = some o → h'.get? b = some o) → XP mg h')
    (hRf : ∀ s, Xt s = true → RecFacts r.records s.heap) (hwr : (!writes || r.records.isEmpty) = true) (ok : (chainsOk q && opensWell r.prog && (frees r && r.within.isEmpty)) = true) (hb : r.prog.bare) (hw : r.promised)
    (ht : ∀ vs (w : World) (s : Shared) mg f (Q : Fin → Shared → Prop) (E : Value → Shared → Prop), s.heap.Ns mainGlobals mg → mg r.name = some f → wpC (model r.prog w) callerA (run f vs) (fun v s' => Q (.done (.ret v)) s') E s → wpC (model r.prog w) callerA (tree vs) Q E s)
    (pin : ∀ w s, s.heap.isNs mainGlobals = true → Ground q loose [] XP w s (s.heap.nsMap mainGlobals) (s.heap.nsMap builtinsNs) s.heap → ∀ n ∈ defs, isTheDefsW r.prog s.heap n)
    (call : ∀ (w : World) (s₀ s₁ : Shared) (mg mb : Str → Option Value), Ground q loose r.records XP w s₀ mg mb s₁.heap → YP w s₁.heap → ∀ (args : List WData) (vs : List Value) (as : List Addr),
      r.claim.pre args = true → WData.layableAll args = true → Laid r.records w s₀ s₁ args vs as → sysModules < s₀.heap.objs.size → ∃ f, mg r.name = some f ∧
        wpC (model r.prog w) callerA (run f vs) (fun v s' => GoodWG r.claim (classAt s₀.heap) (ExcName.means s₀.heap) args s₁ (.ok (.ret v)) s')
          (fun e s' => GoodWG r.claim (classAt s₀.heap) (ExcName.means s₀.heap) args s₁ (.error e) s') s₁) : r.claim.HoldsOpenBy (fun vs => ⟨tree vs, .builtin "claim.caller" {}, default, []⟩) defs kps writes := by
  obtain ⟨ok, k5⟩ := Bool.and_eq_true_iff.mp ok
  obtain ⟨hch, o1⟩ := Bool.and_eq_true_iff.mp ok
  obtain ⟨k5, k6⟩ := Bool.and_eq_true_iff.mp k5
  obtain ⟨hsame, hu, ha, hap, hm⟩ := frees_parts k5
  refine ⟨⟨hb, o1, by show r.makers.map _ = []; rw [hm]; rfl⟩, hw.witness, fun w => ⟨(left.behind hX hch w).1, fun s' hs' => ?_⟩⟩
  obtain ⟨s₀, hf, hg0, s, hT, hz, hgens, hg, G00, y⟩ := (left.behind (XP := fun mg h => XP mg h ∧ RecFacts r.records h) (fun s hs => ⟨hX s hs, hRf s hs⟩) hch w).2 s' hs'
  have G0 : Ground q loose [] XP w s (s.heap.nsMap mainGlobals) (s.heap.nsMap builtinsNs) s.heap := ⟨G00.T, G00.B, G00.D, G00.TE, G00.TD, G00.W, G00.X.1, G00.cls, G00.has, G00.apart, G00.once, G00.K⟩
  have RF := G00.X.2
  have hT' := hT
  refine ⟨s₀, hf, hg0, s, hT, pin w s hg G0, RF.1, RF.2.1, ?_⟩
  have hgens : s.gens = #[] := Array.eq_empty_of_size_eq_zero (beq_iff_eq.mp hgens)
  have G : Ground q loose r.records XP w s _ _ s.heap := RF.ground G0
  refine callFromC (c := r.claim) hz hgens fun args hpre hlay ord hord => ?_
  obtain ⟨⟨vs, s₁⟩, hlaid⟩ := Option.isSome_iff_exists.mp (layAllW_isSome (P := w.params) (ord := ord) G.has args r.args s (pre_splitW hpre).1)
  have keeps := layAllW_keeps _ _ _ hlaid
  have hal := layAllW_rest _ _ _ hlaid
  obtain ⟨as, hrd, hin, hold⟩ := reads_layAllW hord _ _ _ hlaid hlay s₁.heap (fun _ _ e => e)
  have L : Laid r.records w s s₁ args vs as := ⟨⟨ord, hord, hlaid⟩, hrd, hin, hold, keeps, hal.1.trans hgens, hal.2.2.1⟩
  have G₁ := G.keeps hXk keeps
  obtain ⟨f, hf, h⟩ := call w s s₁ _ _ G₁ (hYk _ _ _ (hY w s y) keeps) args vs as hpre hlay L G.low
  have hi := ident_freeW hu ha hap
  have hwi : r.claim.within = [] := List.isEmpty_iff.mp k6
  exact ⟨vs, s₁, hlaid, ht vs w s₁ _ f _ _ G₁.T.g hf (wpC_mono h (fun v s' g => ⟨_, rfl, have z := g.laid (c := r.claim) hsame hwi hi L; ⟨z.1, z.2.1, z.2.2, fun q => ⟨namesKept_of hT' hg kps keeps g.2.1.old, noTable hwr q⟩⟩⟩) fun e s' g => have z := g.laid (c := r.claim) hsame hwi hi L; ⟨z.1, z.2.1, z.2.2, fun q => ⟨namesKept_of hT' hg kps keeps g.2.1.old, noTable hwr q⟩⟩)⟩

abbrev WalkC (q : Program) (loose : List Str) (XP : (Str → Option Value) → Heap → Prop) (YP : World → Heap → Prop) (r : RowW) (d : DefRec) (kwd : List (Str × PySem.Expr)) (run : Value → List Value → Sem Value) : Prop :=
  ∀ (w : World) (s₀ s₁ : Shared) (mg mb : Str → Option Value), Ground q loose r.records XP w s₀ mg mb s₁.heap → YP w s₁.heap → ∀ (a : Addr) (o : Obj) (pm cd doc dV kV : Value), s₁.heap.get? a = some o →
    o.data = .func { docDef d.name d.params d.body d.scope pm cd doc with defaults := dV, kwdefaults := kV } → s₁.heap.CodeRec cd d.name → Dflts mg s₁.heap d.params kwd dV kV → mg d.name = some (.ref a) → s₁.gens = #[] →
    ∀ (args : List WData) (vals : List Value) (as : List Addr), r.claim.pre args = true → WData.layableAll args = true → ReadsAllW r.records (classAt s₀.heap) s₁.heap vals args as → WellAll w.params s₁.heap vals args → (∀ a ∈ as, (a == sysModules) = false) →
      wpC (model r.prog w) callerA (run (.ref a) vals) (fun v s' => GoodWG r.claim (classAt s₀.heap) (ExcName.means s₀.heap) args s₁ (.ok (.ret v)) s')
        (fun e s' => GoodWG r.claim (classAt s₀.heap) (ExcName.means s₀.heap) args s₁ (.error e) s') s₁

/-- the library's head, the walk asked of the contexts under the claim's caller alone -/
theorem PySem.W.holds_open {r : OpenRow} {q : Program} {loose : List Str} {Xt : Shared → Bool} {XP : (Str → Option Value) → Heap → Prop} {α : Type} {Yf : Shared → α} {Ya : World → α} {YP : World → Heap → Prop} {d : DefRec} {kwd : List (Str × PySem.Expr)} {N : Nat}
    (left : LeftO r.prog q loose Xt Yf Ya N) (hY : ∀ w s, Yf s = Ya w → YP w s.heap) (hYk : ∀ w h h', YP w h → (∀ b o, h.get? b = some o → h'.get? b = some o) → YP w h')
    (hX : ∀ s, Xt s = true → XP (s.heap.nsMap mainGlobals) s.heap) (hXk : ∀ mg h h', XP mg h → (∀ b o, h.get? b = some o → h'.get? b = some o) → XP mg h')
    (hdef : defOf q r.name = some (d, kwd)) (hp : r.prog.theDef r.name = some (d.params, d.body, d.scope)) (hk : kwWritten? d.params.kwonlyargs d.params.kw_defaults = some kwd) (hRf : ∀ s, Xt s = true → RecFacts r.records s.heap) (hwr : (!r.writes || r.records.isEmpty) = true)
    (k1 : r.wellSaid = true) (ok : (chainsOk q && opensWell r.prog && (frees r.toRowW && r.within.isEmpty)) = true) (hb : r.prog.bare) (hw : r.toRowW.promised)
    (call : WalkC q loose XP YP r.toRowW d kwd fun f vs => _root_.PySem.call f vs) : r.Holds := by
  refine ⟨k1, hw, open_anyC (r := r.toRowW) (run := fun f vs => _root_.PySem.call f vs) (tree := fun vs => do match ← nsGet mainNs r.name with
      | some f => do ret (← _root_.PySem.call f vs)
      | none => unsupported "claim.caller:no-such-global") left hY hYk hX hXk hRf hwr ok hb hw
    (fun vs w s mg f Q E hg hf h => wpC_bind_any (wpAny_nsGet hg (by rw [hf]; exact wpC_bind (wpC_mono h (fun _ _ x => wpC_pure x) fun _ _ x => x))))
    (fun w s hg G n hn => ?_) fun w s₀ s₁ mg mb G Y args vs as hpre hlay L low => ?_⟩
  · obtain rfl : n = r.name := by split at hn <;> simp_all
    exact pinned_of_view hg G hdef hp hk
  · obtain ⟨a, o, pm, cd, doc, dV, kV, h1, h2, h3, h4, h5⟩ := G.fn hdef
    exact ⟨.ref a, h1, call w s₀ s₁ mg mb G Y a o pm cd doc dV kV h2 h3 h4 h5 (defOf_name hdef ▸ h1) L.gens args vs as hpre hlay L.reads L.well (L.low low)⟩
end Mine
end

section -- Top
open PySem PySem.W PyProof.Rows
set_option maxHeartbeats 8000000
namespace Mine
local macro_rules | `(tactic| walk_at "idle 0") => `(tactic| skip)
local macro_rules | `(tactic| walk_at "idle 1") => `(tactic| skip)
local macro_rules | `(tactic| walk_at "idle 2") => `(tactic| skip)
local macro_rules | `(tactic| walk_at "idle 3") => `(tactic| skip)
local macro_rules | `(tactic| walk_at "idle 4") => `(tactic| skip)
local macro_rules | `(tactic| walk_at "idle 5") => `(tactic| skip)
local macro_rules | `(tactic| walk_at "idle 6") => `(tactic| skip)
local macro_rules | `(tactic| walk_at "idle 7") => `(tactic| skip)
local macro_rules | `(tactic| walk_at "idle 8") => `(tactic| skip)
local macro_rules | `(tactic| walk_at "idle 9") => `(tactic| skip)
local macro_rules | `(tactic| walk_at "idle 10") => `(tactic| skip)
local macro_rules | `(tactic| walk_at "idle 11") => `(tactic| skip)
local macro_rules | `(tactic| walk_at "idle 12") => `(tactic| skip)
local macro_rules | `(tactic| walk_at "idle 13") => `(tactic| skip)
local macro_rules | `(tactic| walk_at "idle 14") => `(tactic| skip)
local macro_rules | `(tactic| walk_at "idle 15") => `(tactic| skip)
theorem reset_Top : True := by
  w_top off
  exact trivial
open_top hd for PySem.Challenge.rw_fp5009_01
end Mine
end

section -- S0
open PySem PySem.W PyProof.Rows
set_option maxHeartbeats 1000000
namespace Mine
def lawDef0 : List Stmt × Scope := match PySem.Challenge.rw_fp5009_01.row.prog.theDef (PySem.Str.ofString "law") with | some (_, b, s) => (b, s) | none => ([], { kind := .module, names := [], isGenerator := false, isCoroutine := false })
def lawScopeS : { s : Scope // s = lawDef0.2 } := ⟨_, by (conv => rhs; whnf); (try dsimp only); (try exact rfl)⟩
def lawBodyS : { b : List Stmt // b = lawDef0.1 } := ⟨_, by (conv => rhs; whnf); (try dsimp only); (try exact rfl)⟩

abbrev lawScope : Scope := lawScopeS.1
abbrev lawBody : List Stmt := lawBodyS.1
end Mine
end

section -- IntBad
open PySem PySem.W PyProof.Rows
namespace Mine
open Sem (wp)
open PySem.NumText
theorem wpC_ite_true {α : Type} {M : Model} {A : Around} {E : Value → Shared → Prop} {s : Shared} {c : Prop} [Decidable c] {a b : Sem α} {Q : α → Shared → Prop} (hc : c) (h : wpC M A a Q E s) : wpC M A (if c then a else b) Q E s := by rw [if_pos hc]; exact h
theorem wpC_ite_false {α : Type} {M : Model} {A : Around} {E : Value → Shared → Prop} {s : Shared} {c : Prop} [Decidable c] {a b : Sem α} {Q : α → Shared → Prop} (hc : ¬ c) (h : wpC M A b Q E s) : wpC M A (if c then a else b) Q E s := by rw [if_neg hc]; exact h

theorem no_python_call {own : List String} {Γ : Ctx} {p : Pos} (hC : Cal Γ) : pythonCodeMadeTheCall own (((Γ.code, p) :: Γ.below).map (·.1)) = false := by
  have h : ((((Γ.code, p) :: Γ.below).map (·.1)).any Code.isCaller) = true := by
    rw [List.map_cons, List.any_cons, List.any_map]
    rcases hC with h | h
    · rw [show Code.isCaller Γ.code = true from h, Bool.true_or]
    · rw [show (Γ.below.any (Code.isCaller ∘ fun x => x.1)) = true from h, Bool.or_true]
  unfold pythonCodeMadeTheCall
  exact Bool.and_eq_false_iff.mpr (Or.inl (Bool.and_eq_false_iff.mpr (Or.inl (congrArg not h))))
theorem wpC_mark {M : Model} {A : Around} {E : Value → Shared → Prop} {s : Shared} {own : List String} {e : Value} {Q : Unit → Shared → Prop} (h : Q () s) : wpC M A (markTheRefusal own e) Q E s := by
  intro Γ p hΓ hC
  show wp M Γ (if pythonCodeMadeTheCall own (((Γ.code, p) :: Γ.below).map (·.1)) = true then _ else _) _ _ p s
  rw [if_neg (by rw [no_python_call hC]; decide)]
  exact h
theorem wpC_newVE {M : Model} {A : Around} {E : Value → Shared → Prop} {s : Shared} {own : List String} {m : Value} {Q : Value → Shared → Prop} (hh : A.handled = none)
    (hE : ∀ h' tk e, Heap.NewExc s.heap h' e "ValueError" → E (.ref e) { s with heap := h', toks := tk }) :
    wpC M A (newExc (.type "ValueError") [m] >>= fun r => markTheRefusal own r >>= fun _ => raiseNew r) Q E s := by
  refine wpC_bind_any ?_
  unfold newExc newTuple
  refine wpAny_bind (wpAny_newObj_type ?_)
  refine wpAny_bind (m := firstArgMember _ _) (wpAny_of_eq (a := Value.none) (by simp only [firstArgMember, plainExc_ValueError.first]; rfl) ?_)
  rw [plainExc_ValueError.own]
  refine wpAny_newObj_type ?_
  refine wpC_bind (wpC_mark ?_)
  unfold raiseNew
  refine wpC_bind_any (wpAny_handled ?_)
  rw [hh]
  refine wpC_throw ?_
  exact hE _ _ _ ⟨fun b o hb => Heap.get?_push_of_some _ (Heap.get?_push_of_some _ hb), Heap.get?_none_of_le (by simp), _, .ref s.heap.objs.size, Heap.get?_push_size _ rfl, rfl, by simp⟩

theorem ift_bad {prog : Program} {w : World} {A : Around} {E : Value → Shared → Prop} {s : Shared} {Q : Value → Shared → Prop} {x : PySem.Str} {u : Tok} {text : List Nat}
   (hh : A.handled = none) (hs : (text.takeWhile (· != 0)).length ≤ 640)
   (hr : (int_private% "readNumeral") 0 10 (text.takeWhile (· != 0)) = int_private% "Numeral.invalid")
   (hx : (reprText x).length ≤ sizeLine)
   (hE : ∀ h' tk e, Heap.NewExc s.heap h' e "ValueError" → E (.ref e) { s with heap := h', toks := tk }) :
   wpC (model prog w) A ((int_private% "intFromText") (.str x u) text 10) Q E s := by
  refine wpC_ite_true hs ?_
  refine wpC_bind_any (wpAny_pure ?_)
  try dsimp only
  rw [hr]
  try dsimp only
  refine wpC_bind_any (wpAny_pure ?_)
  try dsimp only
  refine wpC_ite_false (by simp) ?_
  refine wpC_bind_any (wpAny_rule ?_)
  refine wpC_bind_any (wpAny_pure ?_)
  try dsimp only
  refine wpC_bind_any (wpAny_pyRepr_str ?_ hx)
  refine wpC_bind_any (wpAny_mkStr ?_ ?hsz)
  case hsz =>
    have h1 : (PySem.Str.ofString (toString "invalid literal for int() with base " ++ toString 10 ++ toString ": ")).length ≤ 100 := by decide +kernel
    have h2 : (PySem.Str.mk ((reprText x).cps.extract 0 200)).length ≤ 200 := by
      show ((reprText x).cps.extract 0 200).size ≤ 200
      rw [Array.size_extract]; omega
    rw [Str.length_append, sizeLine_eq]
    omega
  exact wpC_newVE hh hE

theorem int_new_bad {prog : Program} {w : World} {A : Around} {E : Value → Shared → Prop} {s : Shared} {Q : Fin → Shared → Prop} {x : PySem.Str} {u : Tok}
   (hh : A.handled = none) (hl : x.length ≤ 640) (hn : PySem.intText? x = none) (hz : (numSeenOf x).length = (numTextOf x).length)
   (hx : (reprText x).length ≤ sizeLine)
   (hE : ∀ h' tk e, Heap.NewExc s.heap h' e "ValueError" → E (.ref e) { s with heap := h', toks := tk }) :
   wpC (model prog w) A (Builtin.«int.__new__» ⟨[.type "int", .str x u], []⟩) Q E s := by
  have hs : (numSeenOf x).length ≤ 640 := Nat.le_trans (seen_length x) hl
  have hr : (int_private% "readNumeral") 0 10 (numSeenOf x) = int_private% "Numeral.invalid" := by
    rcases read0 x hs with ⟨n, h1, _⟩ | ⟨_, h | ⟨i, _, h⟩⟩
    · rw [hn] at h1; cases h1
    · exact h
    · rw [hz] at h; simp at h
  have f1 := F.conv_sub_int
  have f2 := F.madeHere_int
  have f3 := KIN.str_int
  have f4 := KIN.str_idx
  have f5 := KIN.str_trunc
  unfold Builtin.«int.__new__»
  refine wpC_bind_any ?_
  repeat (any_goals (first | assumption | wp_step))
  refine wpC_ite_false (by decide) ?_
  refine wpC_bind_any (wpAny_of_eq f1 ?_)
  refine wpC_ite_false (by decide) ?_
  refine wpC_bind_any (wpAny_of_eq f2 ?_)
  refine wpC_ite_false (by simp) ?_
  refine wpC_ite_false (by simp) ?_
  refine wpC_bind_any ?_
  repeat (any_goals (first | assumption | wp_step))
  refine wpC_bind (wpC_mono ?_ (Q := fun _ _ => False) (fun _ _ f => f.elim) fun _ _ e => e)
  have f6 : typeOf (.str x u) = pure (.type "str") := rfl
  refine wpC_bind_any ?_
  repeat (any_goals (first | assumption | wp_step))
  dsimp only
  refine wpC_bind_any ?_
  repeat (any_goals (first | assumption | wp_step))
  refine wpC_ite_false (by simp) ?_
  refine wpC_bind_any ?_
  repeat (any_goals (first | assumption | wp_step))
  dsimp only
  refine wpC_bind_any ?_
  repeat (any_goals (first | assumption | wp_step))
  dsimp only
  exact ift_bad hh hs hr hx hE

section
variable {prog : Program} {w : World} {A : Around} {s : Shared} {R : Result → Shared → Prop}
theorem codeC_builtin {id : String} {args : Args} {b : Builtin} (hb : entryFor table id = some b)
    (h : wpC (model prog w) (A.under (.builtin id args)) (b args)
      (fun fin s' => match fin with | .done f => R (.ok f) s' | .again c' => c'.quiet = true ∧ codeC (model prog w) A c' R s') (fun e s' => R (.error e) s') s) :
    codeC (model prog w) A (.builtin id args) R s := by
  refine codeC_of_tree ?_
  show wpC _ _ (match entryFor table id with | some b => b args | none => unsupported ((withoutEnding? id "#data").getD id)) _ _ s
  rw [hb]; exact h
theorem codeC_call_builtin {id : String} {args : Args} {b : Builtin} (hq : plainId id = true) (hb : entryFor table id = some b) (hc : checkBuiltinCall id args = pure ())
    (h : wpC (model prog w) A.in1 (b args) (fun fin s' => match fin with | .done f => R (.ok f) s' | .again c' => c'.quiet = true ∧ codeC (model prog w) A c' R s') (fun e s' => R (.error e) s') s) :
    codeC (model prog w) A (.call (.builtin id) args) R s := by
  refine codeC_of_tree ?_
  show wpC _ A.in1 (do checkBuiltinCall id args; again (.builtin id args)) _ _ s
  rw [hc]
  refine wpC_bind (wpC_pure (wpC_pure ⟨plainId_quiet hq args, codeC_builtin hb ?_⟩))
  rw [Around.under_plainId hq args]
  exact h
end

theorem int_bad {prog : Program} {w : World} {A : Around} {E : Value → Shared → Prop} {s : Shared} {Q : Value → Shared → Prop} {x : PySem.Str} {u : Tok}
   (hh : A.handled = none) (hl : x.length ≤ 640) (hn : PySem.intText? x = none) (hz : (numSeenOf x).length = (numTextOf x).length)
   (hx : (reprText x).length ≤ sizeLine)
   (hE : ∀ h' tk e, Heap.NewExc s.heap h' e "ValueError" → E (.ref e) { s with heap := h', toks := tk }) :
   wpC (model prog w) A (call (.type "int") [.str x u]) Q E s := by
  have ft := F.called_int
  obtain ⟨c, tl, hmro⟩ := ft.mro
  have hmade := ft.made
  have hct := F.typeCall_int_1 (.str x u)
  have hcn := F.newCall_int_1 (.str x u)
  refine wpC_call (codeC_of_tree ?_)
  show wpC _ _ (callAny (.type "int") _) _ _ _
  refine wpC_pure ⟨Code.quiet_builtin _ (by decide +kernel), codeC_builtin F.entry_type_call ?_⟩
  rw [Around.under_plain (weight_type_call_type "int" [.str x u] []) (units_type_call_type "int" [.str x u] [])]
  have h1 := ft.notType
  have h2 := ft.canCreate
  unfold Builtin.«type.__call__»
  dsimp only
  refine wpC_ite_false (by decide) ?_
  refine wpC_ite_false (by simp [h2]) ?_
  refine wpC_bind_any (wpAny_of_eq hct ?_)
  refine wpC_bind_any (wpAny_of_eq hmro ?_)
  refine wpC_ite_false (by simp) ?_
  refine wpC_bind_any (wpAny_of_eq hmade ?_)
  refine wpC_bind_any (wpAny_pure ?_)
  refine wpC_bind (wpC_holding (wpC_call (codeC_call_builtin ft.plain F.entry_int_new hcn ?_)))
  exact int_new_bad hh hl hn hz hx hE
end Mine
end

section -- Txl
open PySem PySem.W PyProof.Rows
namespace Mine
open PySem.NumText

/-- a text of signs 1 .. 127 -/
def Plain (x : PySem.Str) : Prop := ∀ c ∈ x.cps.toList, 0 < c ∧ c < 128

theorem plain_num {x : PySem.Str} (h : Plain x) : numTextOf x = x.cps.toList ∧ numSeenOf x = x.cps.toList := by
  have e1 : numTextOf x = x.cps.toList := by
    refine if_pos ?_
    rw [← Array.all_toList, List.all_eq_true]
    exact fun c hc => decide_eq_true (h c hc).2
  refine ⟨e1, ?_⟩
  show (numTextOf x).takeWhile _ = _
  rw [e1]
  refine takeWhile_all fun c hc => ?_
  have := (h c hc).1
  simp; omega
theorem plain_len {x : PySem.Str} (h : Plain x) : (numSeenOf x).length = (numTextOf x).length := by rw [(plain_num h).1, (plain_num h).2]
theorem plain_repr {x : PySem.Str} (h : Plain x) (hl : x.length ≤ 640) : (reprText x).length ≤ sizeLine := by
  have := StrLaws.reprText_len x fun c hc => Nat.lt_trans (h c hc).2 (by decide)
  rw [sizeLine_eq]
  omega
theorem len_toList (x : PySem.Str) : x.cps.toList.length = x.length := Array.length_toList
theorem slice_text (x : PySem.Str) (l u : Option Int) : Txt.slice x l u = StrLaws.sliceText x l u := by
  unfold Txt.slice StrLaws.sliceText
  first | rfl | simp
theorem slice_init {x : PySem.Str} (h : 0 < x.length) : (Txt.slice x none (some (-1))).cps.toList = x.cps.toList.dropLast := by
  rw [slice_text, StrLaws.sliceText_to_neg (by decide) (by omega)]
  show ((x.cps.toList.drop 0).take _).toArray.toList = _
  rw [List.drop_zero, List.dropLast_eq_take, len_toList]
  show List.take _ _ = _
  congr 1
  omega
theorem plain_init {x : PySem.Str} (h : Plain x) (h0 : 0 < x.length) : Plain (Txt.slice x none (some (-1))) := fun c hc => by
  rw [slice_init h0] at hc
  exact h c (List.dropLast_subset _ hc)
end Mine
end

section -- C2
open PySem PySem.W PyProof.Rows
set_option maxHeartbeats 8000000
namespace Mine
local macro_rules | `(tactic| walk_at "idle 0") => `(tactic| skip)
local macro_rules | `(tactic| walk_at "idle 1") => `(tactic| skip)
local macro_rules | `(tactic| walk_at "idle 2") => `(tactic| skip)
local macro_rules | `(tactic| walk_at "idle 3") => `(tactic| skip)
local macro_rules | `(tactic| walk_at "idle 4") => `(tactic| skip)
local macro_rules | `(tactic| walk_at "idle 5") => `(tactic| skip)
local macro_rules | `(tactic| walk_at "idle 6") => `(tactic| skip)
local macro_rules | `(tactic| walk_at "idle 7") => `(tactic| skip)
local macro_rules | `(tactic| walk_at "idle 8") => `(tactic| skip)
local macro_rules | `(tactic| walk_at "idle 9") => `(tactic| skip)
local macro_rules | `(tactic| walk_at "idle 10") => `(tactic| skip)
local macro_rules | `(tactic| walk_at "idle 11") => `(tactic| skip)
local macro_rules | `(tactic| walk_at "idle 12") => `(tactic| skip)
local macro_rules | `(tactic| walk_at "idle 13") => `(tactic| skip)
local macro_rules | `(tactic| walk_at "idle 14") => `(tactic| skip)
local macro_rules | `(tactic| walk_at "idle 15") => `(tactic| skip)
local macro_rules | `(tactic| walk_at "idle 16") => `(tactic| skip)
local macro_rules | `(tactic| walk_at "idle 17") => `(tactic| skip)
local macro_rules | `(tactic| walk_at "idle 18") => `(tactic| skip)
local macro_rules | `(tactic| walk_at "idle 19") => `(tactic| skip)
local macro_rules | `(tactic| walk_at "idle 20") => `(tactic| skip)
local macro_rules | `(tactic| walk_at "idle 21") => `(tactic| skip)
local macro_rules | `(tactic| walk_at "idle 22") => `(tactic| skip)
local macro_rules | `(tactic| walk_at "idle 23") => `(tactic| skip)
local macro_rules | `(tactic| walk_at "idle 24") => `(tactic| skip)
local macro_rules | `(tactic| walk_at "idle 25") => `(tactic| skip)
local macro_rules | `(tactic| walk_at "idle 26") => `(tactic| skip)
local macro_rules | `(tactic| walk_at "idle 27") => `(tactic| skip)
local macro_rules | `(tactic| walk_at "idle 28") => `(tactic| skip)
local macro_rules | `(tactic| walk_at "idle 29") => `(tactic| skip)
local macro_rules | `(tactic| walk_at "idle 30") => `(tactic| skip)
local macro_rules | `(tactic| walk_at "idle 31") => `(tactic| skip)
theorem reset_C2 : True := by
  w_top off
  exact trivial
theorem fill : (PySem.Challenge.rw_fp5009_01, hd.heap_39) = (PySem.Challenge.rw_fp5009_01, hd.heap_39) := by
  k_fill
  rfl


local macro_rules | `(tactic| walk_at "subscriptTail") => `(tactic| (k_here; (with_reducible show wpAny _ _ (subscriptTail _ _ (Value.str _ _) (Value.int _ _)) _ _ _); (refine item_str (by decide) (by omega) (by omega) ?_); intro kxiE))


def isMark (x : PySem.Str) : Bool := false || decide (Txt.item x (-1) = PySem.Str.ofString "h") || decide (Txt.item x (-1) = PySem.Str.ofString "H") || decide (Txt.item x (-1) = PySem.Str.ofString "'")
/-- the item's reading, of a text that is not empty -/
def derItem (x : PySem.Str) : Option Int := if isMark x then (PySem.intText? (Txt.slice x none (some (-1)))).map (· + 2147483648) else PySem.intText? x

theorem item_ok {prog : Program} {w : World} {p : Program} {loose : List Str} {mean : ExcName → Option Value} {mg mb : Str → Option Value}
    {dp un : Nat} {gd : Option (List Code)} {cn : Str} {cs : Scope} {a : Addr} {ccd : Value} {cl : List (Str × Addr)} {outer : List Env} {A₀ : Around} {base h₀ : Heap} {L : Addr} {m : Str → Option Value} {s : Shared} {Q E : Value → Shared → Prop}
    {news : List (Addr × Obj)} {x : Str} {t : Tok} {n : Int}
    (B : Below A₀ base outer h₀) (F : Fr h₀ L s.heap m) (X : (hd.heap_39 w.params).In h₀) (N : News h₀ L s.heap news) (T : Top p loose mean mg mb h₀) (hk : cs.kind = .function)
    (hd' : dp + 2 < recursionLimit) (hu : un + 16 < cLine) (hx0 : 0 < x.length) (hx1 : x.length ≤ 640) (hn : derItem x = some n)
    (hret : ∀ (t : Tok) (h' : Heap) (tk' : Nat), Fr h₀ L h' m → News h₀ L h' news → Q (.int n t) { s with heap := h', toks := tk' }) :
    wpAny (model prog w) (ktrTop dp un gd cn cs L a ccd cl outer) (call (.ref 31) [.str x t]) Q E s := by
  cases hm : isMark x with
  | true =>
    have hn' : ∃ k, PySem.intText? (Txt.slice x none (some (-1))) = some k ∧ n = k + 2147483648 := by
      unfold derItem at hn
      rw [hm, if_pos rfl] at hn
      obtain ⟨k, h1, h2⟩ := Option.map_eq_some_iff.mp hn
      exact ⟨k, h1, h2.symm⟩
    obtain ⟨k, hk1, hk2⟩ := hn'
    subst hk2
    unfold isMark at hm
    refine wpAny_call ?_
    k_dflt cell_enter
    k_steps
    all_goals first
      | exact hret _ _ _ (by k_asm) (cb_drop (by assumption) (fun _ h => List.mem_cons_of_mem _ h))
      | exact absurd (hm.symm.trans (by assumption)) (by decide)
  | false =>
    have hn' : PySem.intText? x = some n := by
      unfold derItem at hn
      rw [hm, if_neg (by decide)] at hn
      exact hn
    unfold isMark at hm
    refine wpAny_call ?_
    k_dflt cell_enter
    k_steps
    all_goals first
      | exact hret _ _ _ (by k_asm) (cb_drop (by assumption) (fun _ h => List.mem_cons_of_mem _ h))
      | exact absurd (hm.symm.trans (by assumption)) (by decide)
      | trace_state

abbrev RaiseOut (base h₀ : Heap) (L : Addr) (m : Str → Option Value) (l : List Env) (news : List (Addr × Obj)) (cls : String) (s : Shared) (E : Value → Shared → Prop) : Prop :=
  ∀ (e : Addr) (g h' : Heap) (tk' : Nat), Fr h₀ L g m → RaisedSN base g l e (.type cls) news h' → g.UpToSlots h' → E (.ref e) { s with heap := h', toks := tk' }

theorem str_item_out {prog : Program} {w : World} {A : Around} {E : Value → Shared → Prop} {s : Shared} {value slice : PySem.Expr} {x : PySem.Str} {t u : Tok} {Q : Value → Shared → Prop} (hA : A.handled = none) (hx : x.length = 0)
    (hE : ∀ h' tk e, Heap.NewExc s.heap h' e "IndexError" → E (.ref e) { s with heap := h', toks := tk })
    (hs : subscripted slice false (.str x t) (.int (-1) u) = operate [.str x t, .int (-1) u] (getItem (.str x t) (.int (-1) u)) := by with_unfolding_all rfl)
    (ht : ∀ r, letTemporaryGo value (.str x t) r = pure () := by intro _; with_unfolding_all rfl) :
    wpAny (model prog w) A (subscriptTail value slice (.str x t) (.int (-1) u)) Q E s :=
  tail_of_ItemOn ⟨"str", _, F.slot_str_getitem.lookup, typeIs_str _ _ _, getItem_meets (typeIs_str _ _ _) (by decide) F.slot_str_getitem F.entry_str_getitem (F.args_str_getitem_2 _ _)
    (raises_str_getitem x (-1) t u (by decide) (by rw [hx]; rfl)) ⟨hA, hE⟩⟩ hs ht

local macro_rules | `(tactic| walk_at "leaving ref") => `(tactic| (k_here; (refine' leave_newS ?k1 ?k0 ?k2 ?k3 ?_; (case k0 => assumption); (case k2 => assumption); (case k1 => assumption); (case k3 => k_asm); k_whole; intro h' S' R' U')))
local macro_rules | `(tactic| walk_at "subscriptTail") => `(tactic| (k_here; (with_reducible show wpAny _ _ (subscriptTail _ _ (Value.str _ _) (Value.int _ _)) _ _ _); (refine str_item_out rfl (by assumption) ?_); intro h' tk' e' kxiE))

theorem item_ierr {prog : Program} {w : World} {p : Program} {loose : List Str} {mean : ExcName → Option Value} {mg mb : Str → Option Value}
    {dp un : Nat} {gd : Option (List Code)} {cn : Str} {cs : Scope} {a : Addr} {ccd : Value} {cl : List (Str × Addr)} {outer : List Env} {A₀ : Around} {base h₀ : Heap} {L : Addr} {m : Str → Option Value} {s : Shared} {Q E : Value → Shared → Prop}
    {news : List (Addr × Obj)} {x : Str} {t : Tok}
    (B : Below A₀ base outer h₀) (F : Fr h₀ L s.heap m) (X : (hd.heap_39 w.params).In h₀) (N : News h₀ L s.heap news) (T : Top p loose mean mg mb h₀) (hk : cs.kind = .function)
    (hd' : dp + 2 < recursionLimit) (hu : un + 16 < cLine) (hx0 : x.length = 0)
    (hE : RaiseOut base h₀ L m (envX cn cs L a ccd cl :: outer) news "IndexError" s E) :
    wpAny (model prog w) (ktrTop dp un gd cn cs L a ccd cl outer) (call (.ref 31) [.str x t]) Q E s := by
  refine wpAny_call ?_
  k_dflt cell_enter
  k_steps
  exact hE _ _ _ _ (by assumption) (by assumption) (by assumption)

-- «ktr_unf»: a def is entered, under the claim's caller
local macro_rules | `(tactic| ktr_unf) => `(tactic| (refine' codeC_def ?k1 ?k2 ?k3 ?k4 ?k5 ?kA ?kF ?kK ?k6 ?k7 ?k8 ?k9 ?kB ?_ ?c2 ?c3 ?c4 ?c5; (case kA => exact rfl); (case kF => exact rfl); (case kK => first | assumption | exact rfl); (case k1 => k_asm); (case k2 => k_asm); (case k3 => k_asm); (case k4 => k_asm); (case k5 => k_asm); (case k6 => k_is); (case k7 => k_is); (case k8 => ktr_room); (case k9 => exact BindsTo.of_eq rfl); (case c5 => decide); (case kB => exact locs rfl); (case c2 => exact rfl); (case c3 => exact rfl); (case c4 => exact rfl); k_whole; intro g' L' h' FG' F' N' B' X' T'; (try dsimp only); (try k_lift B')))

theorem item_verr {prog : Program} {w : World} {p : Program} {loose : List Str} {mean : ExcName → Option Value} {mg mb : Str → Option Value}
    {dp un : Nat} {gd : Option (List Code)} {cn : Str} {cs : Scope} {a : Addr} {ccd : Value} {cl : List (Str × Addr)} {outer : List Env} {A₀ : Around} {base h₀ : Heap} {L : Addr} {m : Str → Option Value} {s : Shared} {Q E : Value → Shared → Prop}
    {news : List (Addr × Obj)} {x : Str} {t : Tok}
    (B : Below A₀ base outer h₀) (F : Fr h₀ L s.heap m) (X : (hd.heap_39 w.params).In h₀) (N : News h₀ L s.heap news) (T : Top p loose mean mg mb h₀) (hk : cs.kind = .function)
    (hd' : dp + 2 < recursionLimit) (hu : un + 16 < cLine) (hx0 : 0 < x.length) (hx1 : x.length ≤ 640) (hp : Plain x) (hn : derItem x = none)
    (hE : RaiseOut base h₀ L m (envX cn cs L a ccd cl :: outer) news "ValueError" s E) :
    wpC (model prog w) (ktrTop dp un gd cn cs L a ccd cl outer) (call (.ref 31) [.str x t]) Q E s := by
  refine wpC_call ?_
  k_dflt ktr_unf
  refine wpC_execs_cons (wpC_If (wpC_of_any ?_))
  k_steps
  all_goals refine wpC_execs_cons (wpC_Return ?_)
  · refine wpC_BinOp (wpC_Call ?_)
    k_steps
    refine wpC_callWith_type ?_
    k_steps
    have hm : isMark x = true := by unfold isMark; assumption
    have hn' : PySem.intText? (Txt.slice x none (some (-1))) = none := by
      unfold derItem at hn
      rw [hm, if_pos rfl] at hn
      exact Option.map_eq_none_iff.mp hn
    refine int_bad rfl (Nat.le_trans (Txt.slice_le _ _ _) hx1) hn' (plain_len (plain_init hp hx0)) (plain_repr (plain_init hp hx0) (Nat.le_trans (Txt.slice_le _ _ _) hx1)) ?_
    intro h9 tk9 e9 x9
    refine leave_newS (news := news) (by assumption) x9 (by assumption) (cb_drop (by assumption) fun _ h => List.mem_cons_of_mem _ h) ?_
    intro h' S' R' U'
    exact hE _ _ _ _ (by assumption) (by assumption) (by assumption)
  · refine wpC_Call ?_
    k_steps
    refine wpC_callWith_type ?_
    k_steps
    have hm : isMark x = false := by unfold isMark; assumption
    have hn' : PySem.intText? x = none := by
      unfold derItem at hn
      rw [hm, if_neg (by decide)] at hn
      exact hn
    refine int_bad rfl hx1 hn' (plain_len hp) (plain_repr hp hx1) ?_
    intro h9 tk9 e9 x9
    refine leave_newS (news := news) (by assumption) x9 (by assumption) (cb_drop (by assumption) fun _ h => List.mem_cons_of_mem _ h) ?_
    intro h' S' R' U'
    exact hE _ _ _ _ (by assumption) (by assumption) (by assumption)
end Mine
end

section -- Comp
open PySem PySem.W PyProof.Rows
namespace Mine
section
variable {prog : Program} {w : World} {A : Around} {h₀ : Heap} {L : Addr} {m : Str → Option Value} {env : Env} {elt : PySem.Expr} {x : PySem.Str} {scope : Scope} {cl : List (Str × Addr)} {s : Shared} {S : List (Addr × Obj) → Prop} {P : Nat → Value → Prop} {Fin : List Value → List (Addr × Obj) → Prop} {news : List (Addr × Obj)}

/-- a list comprehension by what holds of the values so far; no element raises, none leaves an object -/
theorem comp_acc {n : Nat} (Acc : Nat → List Value → Prop)
    (turn : ∀ i v ys I oI C oC D m₂ h tk (E' : Value → Shared → Prop), i < n → Acc i ys → P i v → LCg.NsObj oC m₂ → m₂ x = some v → Fr h₀ L h m → News h₀ L h ((I, oI) :: (C, oC) :: (D, LCg.lst ys) :: news) → LCg.Off3 I C D news → ((@Ne Nat I C) ∧ (@Ne Nat I D) ∧ (@Ne Nat C D)) →
      wpAny (model prog w) A (eval elt (compEnvC scope cl C env)) (LCg.CompEnd h₀ L m { s with heap := h, toks := tk } I oI C oC D (LCg.lst ys) S (fun y news' => news' = news ∧ Acc (i + 1) (ys ++ [y]))) E' { s with heap := h, toks := tk })
    (h0 : Acc 0 []) (fin : ∀ ys, Acc n ys → Fin ys news) : LCg.CompRest prog w A h₀ L m env elt x scope cl s S P Fin n 0 [] news := by
  have key : ∀ (j i : Nat) (ys : List Value), i + j = n → Acc i ys → LCg.CompRest prog w A h₀ L m env elt x scope cl s S P Fin j i ys news := by
    intro j
    induction j with
    | zero =>
      intro i ys hi hy
      have e : i = n := by omega
      subst e
      exact LCg.CompRest.zero (fin ys hy)
    | succ j ih =>
      intro i ys hi hy
      refine LCg.CompRest.succ ?_
      intro v I oI C oC D m₂ h tk E' hv hC hx F N off ne
      refine wpAny_mono (turn i v ys I oI C oC D m₂ h tk E' (by omega) hy hv hC hx F N off ne) (fun y s₂ hq => ?_) fun _ _ e => e
      obtain ⟨h', tk', nw, e, F', N', off', hS, hn, hA⟩ := hq
      subst hn
      exact ⟨h', tk', nw, e, F', N', off', hS, ih (i + 1) _ (by omega) hA⟩
  exact key n 0 [] (by omega) h0

theorem comp_ints {n : Nat} (ns : List Int) (hn : ns.length = n)
    (turn : ∀ i k v ys I oI C oC D m₂ h tk (E' : Value → Shared → Prop), ns[i]? = some k → P i v → LCg.NsObj oC m₂ → m₂ x = some v → Fr h₀ L h m → News h₀ L h ((I, oI) :: (C, oC) :: (D, LCg.lst ys) :: news) → LCg.Off3 I C D news → ((@Ne Nat I C) ∧ (@Ne Nat I D) ∧ (@Ne Nat C D)) →
      wpAny (model prog w) A (eval elt (compEnvC scope cl C env)) (LCg.CompEnd h₀ L m { s with heap := h, toks := tk } I oI C oC D (LCg.lst ys) S (fun y news' => news' = news ∧ ∃ t, y = .int k t)) E' { s with heap := h, toks := tk })
    (fin : ∀ ys, IntsAre ys ns → Fin ys news) : LCg.CompRest prog w A h₀ L m env elt x scope cl s S P Fin n 0 [] news := by
  refine comp_acc (fun i ys => IntsAre ys (ns.take i)) ?_ (by simpa using IntsAre.nil) fun ys h => fin ys (by rw [← hn, List.take_length] at h; exact h)
  intro i v ys I oI C oC D m₂ h tk E' hi hy hv hC hx F N off ne
  obtain ⟨k, hk⟩ : ∃ k, ns[i]? = some k := ⟨ns[i], List.getElem?_eq_getElem (by omega)⟩
  refine wpAny_mono (turn i k v ys I oI C oC D m₂ h tk E' hk hv hC hx F N off ne) (fun y s₂ hq => ?_) fun _ _ e => e
  obtain ⟨h', tk', nw, e, F', N', off', hS, hn', t, ht⟩ := hq
  refine ⟨h', tk', nw, e, F', N', off', hS, hn', ?_⟩
  subst ht
  rw [List.take_add_one, hk]
  exact IntsAre.append hy (.cons k t .nil)

theorem comp_strs {n : Nat} (ns : List PySem.Str) (hn : ns.length = n)
    (turn : ∀ i k v ys I oI C oC D m₂ h tk (E' : Value → Shared → Prop), ns[i]? = some k → P i v → LCg.NsObj oC m₂ → m₂ x = some v → Fr h₀ L h m → News h₀ L h ((I, oI) :: (C, oC) :: (D, LCg.lst ys) :: news) → LCg.Off3 I C D news → ((@Ne Nat I C) ∧ (@Ne Nat I D) ∧ (@Ne Nat C D)) →
      wpAny (model prog w) A (eval elt (compEnvC scope cl C env)) (LCg.CompEnd h₀ L m { s with heap := h, toks := tk } I oI C oC D (LCg.lst ys) S (fun y news' => news' = news ∧ ∃ t, y = .str k t)) E' { s with heap := h, toks := tk })
    (fin : ∀ ys, StrsAre ys ns → Fin ys news) : LCg.CompRest prog w A h₀ L m env elt x scope cl s S P Fin n 0 [] news := by
  refine comp_acc (fun i ys => StrsAre ys (ns.take i)) ?_ (by simpa using StrsAre.nil) fun ys h => fin ys (by rw [← hn, List.take_length] at h; exact h)
  intro i v ys I oI C oC D m₂ h tk E' hi hy hv hC hx F N off ne
  obtain ⟨k, hk⟩ : ∃ k, ns[i]? = some k := ⟨ns[i], List.getElem?_eq_getElem (by omega)⟩
  refine wpAny_mono (turn i k v ys I oI C oC D m₂ h tk E' hk hv hC hx F N off ne) (fun y s₂ hq => ?_) fun _ _ e => e
  obtain ⟨h', tk', nw, e, F', N', off', hS, hn', t, ht⟩ := hq
  refine ⟨h', tk', nw, e, F', N', off', hS, hn', ?_⟩
  subst ht
  rw [List.take_add_one, hk]
  exact StrsAre.append' hy (.cons k t .nil)
end
end Mine
end

section -- C3
open PySem PySem.W PyProof.Rows
set_option maxHeartbeats 8000000
namespace Mine
theorem reset_C3 : True := by
  w_top off
  exact trivial
theorem fill3 : (PySem.Challenge.rw_fp5009_01, hd.heap_39) = (PySem.Challenge.rw_fp5009_01, hd.heap_39) := by
  k_fill
  rfl

theorem split_room {x y : PySem.Str} (h : x.length ≤ 640) : (Txt.rstripChars x y).length + 2 ≤ sizeLine := by
  have := len_rstripChars x y
  rw [sizeLine_eq]
  omega
theorem pick_tail (v : Value) (l : List Value) : kms_pick (v :: l) (some 1) none = l := by
  unfold kms_pick kms_lo kms_hi
  simp
theorem strs_room {v : Value} {vs : List Value} {r : List PySem.Str} (h : StrsAre vs r) (hr : r.length ≤ 640) : (v :: vs).toArray.size ≤ sizeLine := by
  rw [List.size_toArray, List.length_cons, h.length, sizeLine_eq]
  omega
theorem strs_fit {vs : List Value} {r : List PySem.Str} (h : StrsAre vs r) (hr : r.length ≤ 640) : ((vs.toArray.size : Nat) : Int) < 2 ^ 63 := by
  rw [List.size_toArray, h.length]
  omega
theorem strs_fit' {v : Value} {vs : List Value} {r : List PySem.Str} (h : StrsAre vs r) (hr : r.length ≤ 640) : (((v :: vs).toArray.size : Nat) : Int) < 2 ^ 63 := by
  rw [List.size_toArray, List.length_cons, h.length]
  omega
theorem keep1 {α : Type} {a b : α} {l : List α} : ∀ p ∈ a :: l, p ∈ a :: b :: l := fun p h => by
  rcases List.mem_cons.mp h with h | h
  · exact h ▸ List.mem_cons_self
  · exact List.mem_cons_of_mem _ (List.mem_cons_of_mem _ h)
theorem keep2 {α : Type} {a b c : α} {l : List α} : ∀ p ∈ a :: l, p ∈ a :: b :: c :: l := fun p h => by
  rcases List.mem_cons.mp h with h | h
  · exact h ▸ List.mem_cons_self
  · exact List.mem_cons_of_mem _ (List.mem_cons_of_mem _ (List.mem_cons_of_mem _ h))
/-- the items' readings, of a list of texts -/
def ReadsAs (qs : List PySem.Str) (ns : List Int) : Prop := qs.length = ns.length ∧ ∀ (i : Nat) (q : PySem.Str), qs[i]? = some q → 0 < q.length ∧ q.length ≤ 640 ∧ ∃ k, ns[i]? = some k ∧ derItem q = some k

local macro_rules | `(tactic| walk_at "call builtin:str.rstrip") => `(tactic| (k_here; (with_reducible show wpAny _ _ (call (Value.builtin "str.rstrip") [Value.str _ _, Value.str _ _]) _ _ _); (refine SC.rstripChars ?_ (by size_fits)); intro t' k'))
local macro_rules | `(tactic| walk_at "call builtin:str.split") => `(tactic| (k_here; (with_reducible show wpAny _ _ (call (Value.builtin "str.split") _) _ _ _); (refine KSpl.split1 (by k_asm) (by k_asm) (by decide) ?_ (split_room (by assumption))); intro D' l' h' k' e' a' F' N' l1; rw [e'.trans (by assumption)] at a'; obtain ⟨t9, vs9, hv9, a9⟩ := StrsAre.cons_inv a'; rw [hv9] at N'; clear a' e' hv9))
local macro_rules | `(tactic| walk_at "subscriptTail Name Slice ref ref") => `(tactic| (k_here; (with_reducible show wpAny _ _ (subscriptTail _ (PySem.Expr.Slice _ _ none _) (Value.ref _) (Value.ref _)) _ _ _); k_dflt (refine' kms_slice_lit ?F ?N ?l ?p ?q (pick_tail _ _) ?_ ?s ?t ?z; (case F => k_asm); (case N => k_asm); (case l => kmk_list); (case p => kmk_part); (case q => kmk_part); (case s => with_unfolding_all rfl); (case t => kmk_pure); (case z => exact strs_room (by assumption) (by assumption))); intro D' h' F' N' l1))
local macro_rules | `(tactic| walk_at "call builtin:len") => `(tactic| (k_here; (with_reducible show wpAny _ _ (call (Value.builtin "len") [Value.ref _]) _ _ _); (refine' len_list ?l ?f ?_; (case l => is_list); (case f => first | exact strs_fit (by assumption) (by assumption) | exact strs_fit' (by assumption) (by assumption)))))
local macro_rules | `(tactic| walk_at "eval ListComp") => `(tactic| (k_here; k_dflt (refine LCg.ListComp_U (F₀ := by k_asm) (by rfl) (by decide) (by rfl) (by decide) (by rfl) ?_)))
local macro_rules | `(tactic| walk_at "CompSrc") => `(tactic| (k_here; k_dflt (refine LCg.CompSrc.ledger (by rfl) (by k_asm) (by k_asm) (by k_mem) (by first | exact Nat.le_of_succ_le (strs_room (v := .none) (by assumption) (by assumption)) | exact strs_room (by assumption) (by assumption)) ?_; intro g')))

local macro_rules | `(tactic| walk_at "call ref") => `(tactic| (k_here; k_dflt (refine' item_ok ?k1 ?k2 ?k3 ?k4 ?k5 ?kK ?kd ?ku ?kz ?kx ?kn ?_; (case k1 => k_asm); (case k2 => k_asm); (case k3 => k_asm); (case k4 => k_asm); (case k5 => k_asm); (case kK => first | assumption | exact rfl); (case kd => ktr_room); (case ku => ktr_units); (case kz => assumption); (case kx => assumption); (case kn => assumption); intro t9 h9 tk9 F9 N9; (try dsimp only))))

theorem parse_ok {prog : Program} {w : World} {p : Program} {loose : List Str} {mean : ExcName → Option Value} {mg mb : Str → Option Value}
    {dp un : Nat} {gd : Option (List Code)} {cn : Str} {cs : Scope} {a : Addr} {ccd : Value} {cl : List (Str × Addr)} {outer : List Env} {A₀ : Around} {base h₀ : Heap} {L : Addr} {m : Str → Option Value} {s : Shared} {Q E : Value → Shared → Prop}
    {news : List (Addr × Obj)} {x : Str} {t : Tok} {q : PySem.Str} {r : List PySem.Str} {ns : List Int}
    (B : Below A₀ base outer h₀) (F : Fr h₀ L s.heap m) (X : (hd.heap_39 w.params).In h₀) (N : News h₀ L s.heap news) (T : Top p loose mean mg mb h₀) (hk : cs.kind = .function)
    (hd' : dp + 3 < recursionLimit) (hu : un + 24 < cLine) (hx1 : x.length ≤ 640) (hsp : Txt.split (Txt.rstripChars x (PySem.Str.ofString "/")) (PySem.Str.ofString "/") = q :: r)
    (hr : r.length ≤ 640) (hrd : ReadsAs (if q = PySem.Str.ofString "m" then r else q :: r) ns)
    (hret : ∀ (l : Addr) (vs : List Value) (n : Nat) (h' : Heap) (tk' : Nat), Fr h₀ L h' m → News h₀ L h' ((l, listOf vs.toArray n) :: news) → IntsAre vs ns → Q (.ref l) { s with heap := h', toks := tk' }) :
    wpAny (model prog w) (ktrTop dp un gd cn cs L a ccd cl outer) (call (.ref 36) [.str x t]) Q E s := by
  refine wpAny_call ?_
  k_dflt cell_enter
  k_steps
  · have hq : q = PySem.Str.ofString "m" := by rename (q == PySem.Str.ofString "m") = true => hq; simpa using hq
    rename StrsAre _ r => a9
    rename (((_ : Nat) : Int) = 0) => hz
    rw [if_pos hq] at hrd
    have hr0 : r.length = 0 := by rw [List.size_toArray, a9.length] at hz; omega
    have hns : ns = [] := List.length_eq_zero_iff.mp (by rw [← hrd.1, hr0])
    subst hns
    exact hret _ [] 0 _ _ (by k_asm) (cb_drop (by assumption) keep2) .nil
  · have hq : q = PySem.Str.ofString "m" := by rename (q == PySem.Str.ofString "m") = true => hq; simpa using hq
    rename StrsAre _ r => a9
    rw [if_pos hq] at hrd
    refine comp_ints ns (by rw [← hrd.1, List.size_toArray, a9.length]) ?_ ?_
    · intro i k v ys I oI C oC D m₂ h tk E' hk9 hv9 hC9 hx9 F9 N9 off9 ne9
      obtain ⟨y, t9, rfl, hy⟩ := StrsAre.item a9 i v (by simpa using hv9)
      obtain ⟨z0, z1, k', hk', hd9⟩ := hrd.2 i y hy
      obtain rfl : k' = k := Option.some.inj (hk'.symm.trans hk9)
      k_steps
      exact LCg.CompEnd.intro (by assumption) (by assumption) _ (fun _ h => h) (by assumption) (Or.inr ⟨_, by k_mem, rfl, _, rfl⟩) ⟨rfl, _, rfl⟩
    · intro ys hys
      k_steps
      exact hret _ ys _ _ _ (by k_asm) (cb_drop (by assumption) keep2) hys
  · rename (((_ : Nat) : Int) = 0) => hz
    rw [List.size_toArray, List.length_cons] at hz
    omega
  · have hq : ¬ q = PySem.Str.ofString "m" := by rename (q == PySem.Str.ofString "m") = false => hq; simpa using hq
    rename StrsAre _ r => a9
    rw [if_neg hq] at hrd
    refine comp_ints ns (by rw [← hrd.1, List.size_toArray, List.length_cons, List.length_cons, a9.length]) ?_ ?_
    · intro i k v ys I oI C oC D m₂ h tk E' hk9 hv9 hC9 hx9 F9 N9 off9 ne9
      obtain ⟨y, t9, rfl, hy⟩ := StrsAre.item (StrsAre.cons q _ a9) i v (by simpa using hv9)
      obtain ⟨z0, z1, k', hk', hd9⟩ := hrd.2 i y hy
      obtain rfl : k' = k := Option.some.inj (hk'.symm.trans hk9)
      k_steps
      exact LCg.CompEnd.intro (by assumption) (by assumption) _ (fun _ h => h) (by assumption) (Or.inr ⟨_, by k_mem, rfl, _, rfl⟩) ⟨rfl, _, rfl⟩
    · intro ys hys
      k_steps
      exact hret _ ys _ _ _ (by k_asm) (cb_drop (by assumption) keep1) hys
end Mine
end

section -- R1
open PySem PySem.W PyProof.Rows
namespace Mine

theorem noteFrame_congr {x : Value} {c env : Env} (h : c.frame = env.frame) : noteFrame x c = noteFrame x env := by
  unfold noteFrame PySem.frameOf
  rw [h]

/-- an exception noted in the frame L of the function over g -/
def HeldG (base g : Heap) (outer : List Env) (env : Env) (e : Addr) (cls : Value) (news : List (Addr × Obj)) (L : Addr) (h : Heap) : Prop :=
  ∃ B a0, base.StaysIn B ∧ (∀ b o, g.get? b = some o → b ∉ outer.filterMap (·.frame) → B.get? b = some o) ∧ (∀ q ∈ news, B.get? q.1 = some q.2 ∧ g.get? q.1 = none ∧ base.get? q.1 = none) ∧
    Heap.HeldW B (env :: outer) e cls a0 L h ∧ g.UpToSlots h

section
variable {M : Model} {A : Around} {E : Value → Shared → Prop} {s' : Shared} {base g G h : Heap} {outer : List Env} {L a e : Addr} {m : Str → Option Value} {name : Str} {scope : Scope} {cd cls : Value} {Q : Unit → Shared → Prop} {news : List (Addr × Obj)} {cenv : Env}

theorem held_of_raised (K : Below A base outer g) (F : Fr g L G m) (R : RaisedSN base G (envOf name scope L a cd :: outer) e cls news s'.heap) (hsm : G.UpToSlots s'.heap) (hf : cenv.frame = some L)
    (hQ : ∀ h', HeldG base g outer (envOf name scope L a cd) e cls news L h' → Q () { s' with heap := h' }) :
    wpAny M (A.deeper (envOf name scope L a cd)) (noteFrame (.ref e) cenv) Q E s' := by
  rw [noteFrame_congr (c := cenv) (env := envOf name scope L a cd) hf]
  obtain ⟨B, a0, hB, hBG, hl, hfl⟩ := R
  refine wpAny_looks_onW (Around.frames_deeper K.stack) rfl hfl fun h' x1 x2 => hQ h' ⟨B, a0, hB, fun b o q nm => hBG b o (F.keep b o q) (fun hm => ?_), fun q hq => ⟨(hl q hq).1, kts_none F.keep (hl q hq).2.1, (hl q hq).2.2⟩, x1, (Heap.UpToSlots.of_keeps F.keep).trans (hsm.trans x2)⟩
  rcases kts_mem hm with z | z
  · rw [z, kts_self F] at q
    cases q
  · exact nm z

theorem held_of_new {cls : String} (K : Below A base outer g) (hx : Heap.NewExc h s'.heap e cls) (F : Fr g L h m) (N : News g L h news) (hf : cenv.frame = some L)
    (hQ : ∀ h', HeldG base g outer (envOf name scope L a cd) e (.type cls) news L h' → Q () { s' with heap := h' }) (hk : scope.kind = .function := by rfl) :
    wpAny M (A.deeper (envOf name scope L a cd)) (noteFrame (.ref e) cenv) Q E s' := by
  rw [noteFrame_congr (c := cenv) (env := envOf name scope L a cd) hf]
  have K' := K.push (name := name) (a := a) (cd := cd) F hk
  have hin : ∀ env ∈ (envOf name scope L a cd :: outer), ∀ b, env.frame = some b → b ∈ (envOf name scope L a cd :: outer).filterMap (·.frame) := fun env he b hb => List.mem_filterMap.mpr ⟨env, he, hb⟩
  have st : base.StaysIn (hideAll h ((envOf name scope L a cd :: outer).filterMap (·.frame))) := fun b o q => hideAll_get _ (K'.stays b o q) fun hm => by
    rw [(K'.frames.mem hm).1] at q; cases q
  have sg : ∀ b o, g.get? b = some o → b ∉ outer.filterMap (·.frame) → (hideAll h ((envOf name scope L a cd :: outer).filterMap (·.frame))).get? b = some o := fun b o q nm => hideAll_get _ (F.keep b o q) fun hm => by
    rcases kts_mem hm with z | z
    · rw [z, kts_self F] at q
      cases q
    · exact nm z
  have hl : ∀ q ∈ news, (hideAll h ((envOf name scope L a cd :: outer).filterMap (·.frame))).get? q.1 = some q.2 ∧ g.get? q.1 = none ∧ base.get? q.1 = none := fun q hq => by
    refine ⟨hideAll_get _ (N q hq).1 fun hm => ?_, (N q hq).2.2, fresh_of_stays K.stays (N q hq).2.2⟩
    obtain ⟨env, he, hf⟩ := List.mem_filterMap.mp hm
    rcases List.mem_cons.mp he with rfl | he
    · exact (N q hq).2.1 (Option.some.inj hf).symm
    · obtain ⟨o, ho, _⟩ := (K.frames.mem (List.mem_filterMap.mpr ⟨env, he, hf⟩)).2
      rw [(N q hq).2.2] at ho; cases ho
  obtain ⟨ob, tp, he, hcls, hd⟩ := hx.there
  have hen : (hideAll h ((envOf name scope L a cd :: outer).filterMap (·.frame))).get? e = none := by
    cases q : (hideAll h ((envOf name scope L a cd :: outer).filterMap (·.frame))).get? e with
    | none => rfl
    | some o => have := of_hideAll _ q; rw [hx.new] at this; cases this
  unfold noteFrame
  simp only [show (envOf name scope L a cd).frame = some L from rfl]
  refine wpAny_bind (wpAny_field he hd (x := .none) rfl ?_)
  rw [if_neg (by decide)]
  refine wpAny_entryW (a0 := tp) K'.stack ((funFrames_hide K'.frames hin).of_keeps fun b o hb _ => ⟨o, hx.keeps b o hb, rfl⟩) rfl he (fun b o hb => hx.keeps b o (of_hideAll _ hb)) hen hd (by simp) rfl fun h' hL => ?_
  obtain ⟨k1, k2, k3, k4⟩ := hL
  exact hQ h' ⟨_, tp, st, sg, hl, ⟨k1, hen, k2, by rw [← hcls]; exact k3⟩, ((Heap.UpToSlots.of_keeps F.keep).trans (Heap.UpToSlots.of_keeps hx.keeps)).trans k4⟩

theorem funFrames_but {B h h' : Heap} {C : Addr} {oC : Obj} (hC : B.get? C = some oC) (hs : ∀ b o, b ≠ C → h.get? b = some o → h'.get? b = some o) : ∀ {l : List Env}, h.FunFrames B l → h'.FunFrames (hideAll B [C]) l
  | [], _ => trivial
  | _ :: _, ⟨hk, ⟨L, o, hf, hn, ho, hd⟩, hr⟩ => ⟨hk, ⟨L, o, hf, (by
      cases q : (hideAll B [C]).get? L with
      | none => rfl
      | some o => have := of_hideAll _ q; rw [hn] at this; cases this), hs _ _ (fun q => by rw [q, hC] at hn; cases hn) ho, hd⟩, funFrames_but hC hs hr⟩

theorem held_letgo {env : Env} {cls : Value} {news' : List (Addr × Obj)} {C : Addr} {oC : Obj} {h' : Heap} (H : HeldG base g outer env e cls news L h) (hC : (C, oC) ∈ news) (hs : Heap.SameBut C h h') (sub : ∀ q ∈ news', q ∈ news ∧ q.1 ≠ C) :
    HeldG base g outer env e cls news' L h' := by
  obtain ⟨B, a0, hB, hBg, hl, ⟨f1, f2, f3, f4⟩, up⟩ := H
  obtain ⟨c1, c2, c3⟩ := hl _ hC
  have hne : ∀ b o, b ≠ C → h.get? b = some o → h'.get? b = some o := fun b o n q => (hs.2 b n).trans q
  have hidn : ∀ b, B.get? b = none → (hideAll B [C]).get? b = none := fun b hb => by
    cases q : (hideAll B [C]).get? b with
    | none => rfl
    | some o => have := of_hideAll _ q; rw [hb] at this; cases this
  have keepB : ∀ b o, b ≠ C → B.get? b = some o → (hideAll B [C]).get? b = some o := fun b o n q => hideAll_get _ q (by simpa using n)
  have notC : ∀ b, B.get? b = none → b ≠ C := fun b hb q => by rw [q, c1] at hb; cases hb
  refine ⟨hideAll B [C], a0, fun b o q => keepB b o (fun z => by rw [z, c3] at q; cases q) (hB b o q), fun b o q nm => keepB b o (fun z => by rw [z, c2] at q; cases q) (hBg b o q nm),
    fun q hq => ⟨keepB _ _ (sub q hq).2 (hl q (sub q hq).1).1, (hl q (sub q hq).1).2⟩, ⟨fun b o q => ?_, hidn _ f2, funFrames_but c1 hne f3, ?_⟩, fun b o q hn => ?_⟩
  · have hb : b ≠ C := fun z => by rw [z, hideAll_none [C] (List.mem_singleton.mpr rfl)] at q; cases q
    exact hne b o hb (f1 b o (of_hideAll _ q))
  · obtain ⟨oe, vs, T, oT, ts, he, hc, hd, h1, hnT, hTe, hT, hdT, h3⟩ := f4
    exact ⟨oe, vs, T, oT, ts, hne _ _ (notC _ f2) he, hc, hd, h1, hidn _ hnT, hTe, hne _ _ (notC _ hnT) hT, hdT, h3⟩
  · obtain ⟨sl, hsl⟩ := up b o q hn
    exact ⟨sl, hne b _ (fun z => by rw [z, c2] at q; cases q) hsl⟩

theorem held_pass {α : Type} {env : Env} {cls : Value} {what : String} {P : α → Shared → Prop} (H : HeldG base g outer env e cls news L s'.heap) (hf : cenv.frame = some L)
    (hE : ∀ h', HeldG base g outer env e cls news L h' → E (.ref e) { s' with heap := h' }) : wpAny M A (passOn what (.ref e) cenv : Sem α) P E s' := by
  obtain ⟨B, a0, hB, hBg, hl, ⟨f1, f2, f3, f4⟩, up⟩ := H
  obtain ⟨oe, vs, T, oT, ts, he, hc, hd, h1, hnT, hTe, hT, hdT, h3⟩ := f4
  unfold PySem.passOn
  refine wpAny_bind (wpAny_field he hd h1 ?_)
  rw [if_neg (by simp)]
  refine wpAny_bind ?_
  unfold setFlight
  refine wpAny_bind (wpAny_field he hd h1 ?_)
  rw [if_pos (show (Value.ref T != Value.none) = true from by simp), hf]
  refine wpAny_setField hT hdT (Array.getElem?_eq_some_iff.mp h3).1 ?_
  refine wpAny_throw (hE _ ?_)
  have other : ∀ b, b ≠ T → (s'.heap.update T (Obj.mapFields (·.setIfInBounds 3 (rawInt L)))).get? b = s'.heap.get? b := fun b hb => Heap.get?_update_other _ _ (Ne.symm hb)
  have noRecord : ∀ b o, s'.heap.get? b = some o → (∀ vs, o.data ≠ .fields vs) → b ≠ T := fun b o hb hnf q => by
    rw [q, hT] at hb; injection hb with hb; subst hb; exact hnf ts hdT
  refine ⟨B, a0, hB, hBg, hl, ⟨fun b o q => (other b fun z => by rw [z, hnT] at q; cases q).trans (f1 b o q), f2, f3.of_keeps fun b o hb hnf => ⟨o, (other b (noRecord b o hb hnf)).trans hb, rfl⟩, ?_⟩, fun b o q hn => ?_⟩
  · exact ⟨oe, vs, T, _, _, (other e (Ne.symm hTe)).trans he, hc, hd, h1, hnT, hTe, Heap.get?_update_self _ hT (Obj.isFreed_of_fields (Obj.data_mapFields hdT _)), Obj.data_mapFields hdT _, by simp [(Array.getElem?_eq_some_iff.mp h3).1]⟩
  · obtain ⟨sl, hsl⟩ := up b o q hn
    exact ⟨sl, (other b (noRecord b _ hsl hn)).trans hsl⟩

theorem held_leave {cls : Value} (H : HeldG base g outer (envOf name scope L a cd) e cls news L s'.heap)
    (hQ : ∀ h', RaisedSN base g outer e cls news h' → g.UpToSlots h' → Q () { s' with heap := h' }) : wpAny M A (leaving (envOf name scope L a cd) (.ref e)) Q E s' := by
  obtain ⟨B, a0, hB, hBg, hl, hh, up⟩ := H
  unfold leaving
  refine wpAny_bind (wpAny_noteFrame_againW rfl hh.2.2.2 ?_)
  refine wpAny_landsW hh fun h' hfl hsm => ?_
  obtain ⟨k1, k2, ⟨_, _, k3⟩, k4⟩ := hfl
  exact hQ h' ⟨B, a0, hB, hBg, hl, k1, k2, k3, k4⟩ (up.trans hsm)
end
end Mine
end

section -- R2
open PySem PySem.W PyProof.Rows
namespace Mine
open PySem.Calls

def compPostR (M : Model) (A : Around) (E : Value → Shared → Prop) (cenv : Env) (r : Result) (s' : Shared) : Prop :=
  match r with
  | .ok _ => False
  | .error x => ∃ m, s'.heap.Ns cenv.locals m ∧ ∀ h', Heap.SameBut cenv.locals s'.heap h' → wpAny M A (PySem.passOn "comprehension.variables-let-go" x cenv : Sem Value) (fun _ _ => False) E { s' with heap := h' }

section
variable {M : Model} {A : Around} {E : Value → Shared → Prop} {s : Shared} {env : Env}
theorem wpC_comprehension_R {e : PySem.Expr} {scope : Scope} {pos : Pos} {newAcc first : Sem Value} {g : Comprehension} {gs : List Comprehension} {cl : List (Str × Addr)} {Q : Value → Shared → Prop}
    (hcl : clausesOf e = g :: gs) (hs : ∀ x, foldedSetIterable g.iter env x = pure x) (hclos : closureFor scope env = pure cl)
    (hkind : scope.kind = .function) (hnames : ∀ x ∈ scope.names, x.2 = .local → scope.names.lookup x.1 = some .local)
    (h : wpAny M A first (fun x s₁ => wpAny M A (pyIter x) (fun it s₂ => wpAny M A newAcc (fun acc s₃ =>
      wpAny M A (newFunctionEnv scope env.globals cl [] env.qual none .none (some env)) (fun cenv s₄ =>
        codeC M A (.compStart e 0 it acc { cenv with scope := relabel scope env }) (compPostR M A E { cenv with scope := relabel scope env }) s₄) E s₃) E s₂) E s₁) E s) :
    wpC M A (comprehension e scope env pos newAcc false first none) Q E s := by
  unfold comprehension
  rw [hclos, hcl]
  refine wpC_bind_any (wpAny_mono h (fun x s₁ h₁ => wpC_bind_any (wpAny_standAt (wpC_bind_any (wpAny_of_eq (hs x) (wpC_bind_any (wpAny_holding (wpAny_mono h₁ (fun it s₂ h₂ => ?_)
      fun _ _ h' => h'))))))) fun _ _ h' => h')
  simp only [Option.isSome_none, Bool.false_eq_true, if_false]
  refine wpC_bind_any (wpAny_mono h₂ (fun acc s₃ h₃ => wpC_bind_any (wpAny_pure (wpC_bind_any (wpAny_mono h₃ (fun cenv s₄ h₄ => ?_) fun _ _ h' => h')))) fun _ _ h' => h')
  try dsimp only
  have hv : ∀ x ∈ (scope.names.filter fun x => (x.2 == .local || x.2 == .cell) && x.1 != (".0" : Str)).reverse, x.2 = .local →
      Env.kindOf { cenv with scope := relabel scope env } x.1 = some .local := fun x hx hl => lookup_relabel_local (hnames x (List.mem_filter.mp (List.mem_reverse.mp hx)).1 hl)
  refine wpC_holding (wpC_bind (wpC_attempt (wpC_holding (wpC_run (codeC_mono h₄ fun r s' hr => ?_)))))
  cases r with
  | ok f => exact hr.elim
  | error x =>
    obtain ⟨m, hn, hr⟩ := hr
    exact wpC_of_any (wpAny_bind (wpAny_holding (wpAny_comp_letGo (cenv := { cenv with scope := relabel scope env }) hkind _ s' m hv hn fun h' m' _ hs' => wpAny_mono (hr h' hs') (fun _ _ f => f.elim) fun _ _ y => y)))
end

section
variable {prog : Program} {w : World} {A : Around} {E : Value → Shared → Prop} {R : Result → Shared → Prop} {s : Shared}
theorem codeC_compStart_list {elt target iter : PySem.Expr} {scope : Scope} {pos : Pos} {it acc : Value} {env : Env}
    (h0 : codeC (model prog w) A (.compLoop (.ListComp elt [⟨target, iter, [], 0⟩] scope pos) 0 it acc env) R s)
    (h : wpAny (model prog w) A (pyIter it) (fun it' s' => codeC (model prog w) A (.compLoop (.ListComp elt [⟨target, iter, [], 0⟩] scope pos) 0 it' acc env) R s')
      (notedBy (model prog w) A env fun x s' => R (.error x) s') s) :
    codeC (model prog w) A (.compStart (.ListComp elt [⟨target, iter, [], 0⟩] scope pos) 0 it acc env) R s := by
  refine codeC_of_tree (wpC_of_any ?_)
  show wpAny _ A ((compStart (.ListComp elt [⟨target, iter, [], 0⟩] scope pos) 0 it acc env).onRaise (fun x => do noteFrame x env; standAt theWindowsPlace)) _ _ s
  refine wpAny_notedAt ?_
  unfold compStart
  show wpAny _ _ (ask >>= _) _ _ s
  refine wpAny_bind (wpAny_askSetting (wpAny_ite ?_))
  split
  · first
      | exact wpAny_bind (wpAny_pure (wpAny_pure (And.intro rfl h0)))
      | exact wpAny_pure (And.intro rfl h0)
  · first
      | exact wpAny_bind (wpAny_rule (wpAny_bind (wpAny_standAt (wpAny_bind (wpAny_mono h (fun it' s' h' => wpAny_pure (And.intro rfl h')) fun _ _ x => x)))))
      | (refine wpAny_bind (wpAny_rule ?_); show wpAny _ _ (standAt iter.pos >>= _) _ _ s; exact wpAny_bind (wpAny_standAt (wpAny_bind (wpAny_mono h (fun it' s' h' => wpAny_pure (And.intro rfl h')) fun _ _ x => x))))

theorem codeC_compLoop_step {elt target iter : PySem.Expr} {scope : Scope} {pos : Pos} {it acc : Value} {env : Env}
    (h : wpC (model prog w) A (pyNext it) (fun r s₁ => match r with
      | none => R (.ok .next) s₁
      | some v => wpC (model prog w) A (assign target env v) (fun _ s₂ => wpC (model prog w) A (eval elt env) (fun x s₃ =>
          wpC (model prog w) A (call (.builtin "list.append") [acc, x]) (fun _ s₄ => codeC (model prog w) A (.compLoop (.ListComp elt [⟨target, iter, [], 0⟩] scope pos) 0 it acc env) R s₄) (notedBy (model prog w) A env fun e s' => R (.error e) s') s₃)
          (notedBy (model prog w) A env fun e s' => R (.error e) s') s₂) (notedBy (model prog w) A env fun e s' => R (.error e) s') s₁) (notedBy (model prog w) A env fun e s' => R (.error e) s') s)
    (ht : ∀ v, letOwnedTupleGo target it v = pure () := by intro _; rfl) :
    codeC (model prog w) A (.compLoop (.ListComp elt [⟨target, iter, [], 0⟩] scope pos) 0 it acc env) R s := by
  refine codeC_of_tree ?_
  show wpC _ A ((compTurn (.ListComp elt [⟨target, iter, [], 0⟩] scope pos) 0 it acc env).onRaise (fun x => do noteFrame x env; theTreesLotGoes x)) _ _ s
  refine wpC_onRaise (wpC_mono (Q := fun fin s' => match fin with | .done f => R (.ok f) s' | .again c' => c'.quiet = true ∧ codeC (model prog w) A c' R s') (E := notedBy (model prog w) A env fun e s' => R (.error e) s') ?_ (fun _ _ q => q) fun _ _ hx => wpC_of_any (wpAny_bind (wpAny_mono hx (fun _ _ e => wpAny_theTreesLotGoes e) fun _ _ e => e)))
  rw [compTurn_list1]
  refine wpC_bind (wpC_standAt (wpC_bind (wpC_mono h (fun r s₁ h₁ => ?_) fun _ _ h' => h')))
  cases r with
  | none => exact wpC_pure h₁
  | some v =>
    refine wpC_bind_any (wpAny_of_eq (ht v) ?_)
    exact wpC_bind (wpC_mono h₁ (fun _ s₂ h₂ => wpC_bind (wpC_bind (wpC_mono h₂ (fun x s₃ h₃ => wpC_bind (wpC_mono h₃
      (fun _ s₄ h₄ => wpC_pure (wpC_pure ⟨rfl, h₄⟩)) fun _ _ h' => h')) fun _ _ h' => h'))) fun _ _ h' => h')
end

section
variable {prog : Program} {w : World} {A : Around} {E : Value → Shared → Prop} {s : Shared} {base h₀ : Heap} {outer : List Env} {L : Addr} {m : Str → Option Value} {env : Env}

def ElRaise (base h₀ : Heap) (outer : List Env) (L : Addr) (env : Env) (s : Shared) (cls : String) (out : List (Addr × Obj)) (C : Addr) (x : Value) (s' : Shared) : Prop :=
  ∃ e oC m₂ news', x = .ref e ∧ (∃ h' tk', s' = { s with heap := h', toks := tk' }) ∧ LCg.NsObj oC m₂ ∧ (C, oC) ∈ news' ∧ (∀ q ∈ out, q ∈ news' ∧ q.1 ≠ C) ∧ HeldG base h₀ outer env e (.type cls) news' L s'.heap

/-- the rest of a comprehension, of which the element k turns on raises -/
def RestR (prog : Program) (w : World) (A : Around) (base h₀ : Heap) (outer : List Env) (L : Addr) (m : Str → Option Value) (env : Env) (elt : PySem.Expr) (x : Str) (scope : Scope) (cl : List (Str × Addr)) (s : Shared) (S : List (Addr × Obj) → Prop) (P : Nat → Value → Prop)
    (cls : String) (out : List (Addr × Obj)) : Nat → Nat → List Value → List (Addr × Obj) → Prop
  | 0, i, ys, news => ∀ v I oI C oC D m₂ h tk, P i v → LCg.NsObj oC m₂ → m₂ x = some v → Fr h₀ L h m → News h₀ L h ((I, oI) :: (C, oC) :: (D, LCg.lst ys) :: news) → LCg.Off3 I C D news → ((@Ne Nat I C) ∧ (@Ne Nat I D) ∧ (@Ne Nat C D)) →
      wpC (model prog w) A (eval elt (compEnvC scope cl C env)) (fun _ _ => False) (notedBy (model prog w) A (compEnvC scope cl C env) (ElRaise base h₀ outer L env s cls out C)) { s with heap := h, toks := tk }
  | k + 1, i, ys, news => ∀ v I oI C oC D m₂ h tk (E' : Value → Shared → Prop), P i v → LCg.NsObj oC m₂ → m₂ x = some v → Fr h₀ L h m → News h₀ L h ((I, oI) :: (C, oC) :: (D, LCg.lst ys) :: news) → LCg.Off3 I C D news → ((@Ne Nat I C) ∧ (@Ne Nat I D) ∧ (@Ne Nat C D)) →
      wpAny (model prog w) A (eval elt (compEnvC scope cl C env)) (LCg.CompEnd h₀ L m { s with heap := h, toks := tk } I oI C oC D (LCg.lst ys) S (fun y news' => RestR prog w A base h₀ outer L m env elt x scope cl s S P cls out k (i + 1) (ys ++ [y]) news')) E' { s with heap := h, toks := tk }

theorem block_R {elt iter : PySem.Expr} {x : Str} {px : Pos} {scope : Scope} {cl : List (Str × Addr)} {pos : Pos} {s₂ : Shared} {I : Addr} {fp : List Addr} {n : Nat} {P : Nat → Value → Prop} {St : Nat → Heap → Prop} {S : List (Addr × Obj) → Prop} {news out : List (Addr × Obj)} {cls : String} {k : Nat}
    {RR : Env → Result → Shared → Prop} (hf : env.frame = some L)
    (W : Walks prog w A I fp [I] n P St) (hsz : n ≤ sizeLine) (hIo : ∀ i h, St i h → ∃ o, h.get? I = some o)
    (hSt : ∀ i h h' o nw, St i h → h.get? I = some o → h'.get? I = some o → (∀ b o, h₀.get? b = some o → h'.get? b = some o) → News h₀ L h' nw → S nw → St i h')
    (hcell : ∀ y ∈ scope.names, y.2 ≠ .cell) (hkind : scope.kind = .function) (hx : scope.names.lookup x = some .local) (hst : St 0 s₂.heap) (hfp : ∀ b ∈ fp, b < s₂.heap.objs.size)
    (F : Fr h₀ L s₂.heap m) (N : News h₀ L s₂.heap news) (hIL : L ≠ I) (hI₀ : h₀.get? I = none) (off : ∀ p ∈ news, p.1 ≠ I) (hS : S news)
    (hk : k < n) (R : RestR prog w A base h₀ outer L m env elt x scope cl s₂ S P cls out k 0 [] news)
    (hRR : ∀ cenv : Env, cenv.frame = env.frame → ∀ x s', ElRaise base h₀ outer L env s₂ cls out cenv.locals x s' → RR cenv (.error x) s') :
    wpAny (model prog w) A (newList []) (fun acc s₃ => wpAny (model prog w) A (newFunctionEnv scope env.globals cl [] env.qual none .none (some env)) (fun cenv s₄ =>
      codeC (model prog w) A (.compStart (.ListComp elt [⟨.Name x px, iter, [], 0⟩] scope pos) 0 (.ref I) acc { cenv with scope := relabel scope env }) (RR { cenv with scope := relabel scope env }) s₄) E s₃) E s₂ := by
  refine wpAny_newObj_type (wpAny_newFunctionEnv hcell (by intro y hy; simp at hy) (fun h₁ hns₁ hsb₁ => ?_) hkind)
  dsimp only at hns₁ hsb₁ ⊢
  generalize hH2 : s₂.heap.push { cls := .type "list", dict := none, data := .seq ([] : List Value).toArray } = H2 at hns₁ hsb₁ ⊢
  have hC : H2.objs.size = s₂.heap.objs.size + 1 := by rw [← hH2, Heap.size_push]
  have hDC : s₂.heap.objs.size ≠ H2.objs.size := by rw [hC]; exact Nat.ne_of_lt (Nat.lt_succ_self _)
  have below : ∀ b, b < s₂.heap.objs.size → b ≠ H2.objs.size ∧ b ≠ s₂.heap.objs.size := fun b hb => ⟨by rw [hC]; exact Nat.ne_of_lt (Nat.lt_succ_of_lt hb), Nat.ne_of_lt hb⟩
  have hDf : s₂.heap.objs.size ∉ fp := fun hm => Nat.lt_irrefl _ (hfp _ hm)
  have hCf : H2.objs.size ∉ fp := fun hm => by have := hfp _ hm; rw [hC] at this; exact Nat.lt_irrefl _ (Nat.lt_of_succ_lt this)
  have hIf : I ∈ fp := W.sub I (List.mem_singleton.mpr rfl)
  have hIlt : I < s₂.heap.objs.size := hfp I hIf
  have old : ∀ b o, s₂.heap.get? b = some o → h₁.get? b = some o := fun b o e => hsb₁.extBut b o (below b (Heap.lt_size e)).1 (Heap.get?_push_of_some _ (hH2 ▸ Heap.get?_push_of_some _ e))
  have hacc : h₁.get? s₂.heap.objs.size = some (LCg.lst []) := hsb₁.extBut _ _ hDC (Heap.get?_push_of_some _ (hH2 ▸ Heap.get?_push_size _ rfl))
  have hst₁ : St 0 h₁ := W.frame _ _ _ hst fun b _ o e => old b o e
  have fresh : ∀ a, s₂.heap.objs.size ≤ a → s₂.heap.get? a = none := fun a ha => by
    cases e : s₂.heap.get? a with
    | none => rfl
    | some o' => exact absurd (Heap.lt_size e) (Nat.not_lt.mpr ha)
  have fresh₀ : ∀ a, s₂.heap.objs.size ≤ a → h₀.get? a = none := fun a ha => by
    cases e : h₀.get? a with
    | none => rfl
    | some o' => have := F.keep a o' e; rw [fresh a ha] at this; cases this
  have hD₀ : h₀.get? s₂.heap.objs.size = none := fresh₀ _ (Nat.le_refl _)
  have hC₀ : h₀.get? H2.objs.size = none := fresh₀ _ (by rw [hC]; exact Nat.le_succ _)
  have hLlt : L < s₂.heap.objs.size := F.ns.lt
  have hDL : s₂.heap.objs.size ≠ L := Ne.symm (below L hLlt).2
  have hCL : H2.objs.size ≠ L := Ne.symm (below L hLlt).1
  have hCI : I ≠ H2.objs.size := (below I hIlt).1
  have hDI : I ≠ s₂.heap.objs.size := (below I hIlt).2
  have off₀ : LCg.Off3 I H2.objs.size s₂.heap.objs.size news := LCg.Off3.of fun p hp => ⟨off p hp, (below _ (Heap.lt_size (N p hp).1)).1, (below _ (Heap.lt_size (N p hp).1)).2⟩
  have key : ∀ (k i : Nat) (ys : List Value) (news' : List (Addr × Obj)) (h' : Heap) (tk : Nat) (m' : Str → Option Value), i + k < n → ys.length = i → St i h' → Fr h₀ L h' m → h'.Ns H2.objs.size m' → News h₀ L h' ((s₂.heap.objs.size, LCg.lst ys) :: news') →
      LCg.Off3 I H2.objs.size s₂.heap.objs.size news' → S news' → RestR prog w A base h₀ outer L m env elt x scope cl s₂ S P cls out k i ys news' →
      codeC (model prog w) A (.compLoop (.ListComp elt [⟨.Name x px, iter, [], 0⟩] scope pos) 0 (.ref I) (.ref s₂.heap.objs.size) (compEnvC scope cl H2.objs.size env))
        (RR (compEnvC scope cl H2.objs.size env)) { s₂ with heap := h', toks := tk } := by
    intro k
    induction k with
    | zero =>
      intro i ys news' h' tk m' hi hyl hst' F' hn' N' off' hS' R'
      refine codeC_compLoop_step (wpC_of_any (W.item i _ _ _ (by omega) hst' fun v h₂ tk₂ hPv hst₂ hk₂ => ?_))
      refine wpC_of_any (wpAny_assign_Name (wpAny_storeName_local (lookup_relabel_local hx) (hn'.at' fun o e => hk₂ _ o (by simpa using Ne.symm hCI) e) (fun h₃ hn₃ hs₃ => ?_) (by simp [compEnvC, relabel, hkind])))
      have hst₃ : St (i + 1) h₃ := W.frame _ _ _ hst₂ fun b hb o e => hs₃.extBut b o (fun q => hCf (by have q' : b = H2.objs.size := q; rw [← q']; exact hb)) e
      obtain ⟨oI, heI⟩ := hIo _ _ hst₃
      obtain ⟨oC, heC, hoC⟩ := LCg.ns_obj hn₃
      have F₃ : Fr h₀ L h₃ m := (LCg.fr_but F' hk₂ hIL hI₀).change hs₃ hCL hC₀
      have off3 := off'.mem
      have N₂ : News h₀ L h₂ ((s₂.heap.objs.size, LCg.lst ys) :: news') := LCg.news_but N' hk₂ fun p hp => by
        rcases List.mem_cons.mp hp with rfl | hp
        · exact Ne.symm hDI
        · exact (off3 p hp).1
      have N₃ : News h₀ L h₃ ((I, oI) :: (H2.objs.size, oC) :: (s₂.heap.objs.size, LCg.lst ys) :: news') := fun p hp => by
        rcases List.mem_cons.mp hp with rfl | hp
        · exact ⟨heI, Ne.symm hIL, hI₀⟩
        · rcases List.mem_cons.mp hp with rfl | hp
          · exact ⟨heC, hCL, hC₀⟩
          · have z := N₂ p hp
            refine ⟨hs₃.extBut _ _ ?_ z.1, z.2⟩
            rcases List.mem_cons.mp hp with rfl | hp
            · exact hDC
            · exact (off3 p hp).2.1
      refine wpC_mono (R' v I oI H2.objs.size oC s₂.heap.objs.size _ h₃ _ hPv hoC (by simp) F₃ N₃ off' ⟨hCI, hDI, Ne.symm hDC⟩) (fun y s₄ h₄ => h₄.elim) fun x s₄ h₄ => ?_
      exact wpAny_mono h₄ (fun _ s₅ h₅ => hRR (compEnvC scope cl H2.objs.size env) rfl _ _ h₅) fun x s₅ h₅ => hRR (compEnvC scope cl H2.objs.size env) rfl _ _ h₅
    | succ k ih =>
      intro i ys news' h' tk m' hi hyl hst' F' hn' N' off' hS' R'
      refine codeC_compLoop_step (wpC_of_any (W.item i _ _ _ (by omega) hst' fun v h₂ tk₂ hPv hst₂ hk₂ => ?_))
      refine wpC_of_any (wpAny_assign_Name (wpAny_storeName_local (lookup_relabel_local hx) (hn'.at' fun o e => hk₂ _ o (by simpa using Ne.symm hCI) e) (fun h₃ hn₃ hs₃ => ?_) (by simp [compEnvC, relabel, hkind])))
      have hst₃ : St (i + 1) h₃ := W.frame _ _ _ hst₂ fun b hb o e => hs₃.extBut b o (fun q => hCf (by have q' : b = H2.objs.size := q; rw [← q']; exact hb)) e
      obtain ⟨oI, heI⟩ := hIo _ _ hst₃
      obtain ⟨oC, heC, hoC⟩ := LCg.ns_obj hn₃
      have F₃ : Fr h₀ L h₃ m := (LCg.fr_but F' hk₂ hIL hI₀).change hs₃ hCL hC₀
      have off3 := off'.mem
      have N₂ : News h₀ L h₂ ((s₂.heap.objs.size, LCg.lst ys) :: news') := LCg.news_but N' hk₂ fun p hp => by
        rcases List.mem_cons.mp hp with rfl | hp
        · exact Ne.symm hDI
        · exact (off3 p hp).1
      have N₃ : News h₀ L h₃ ((I, oI) :: (H2.objs.size, oC) :: (s₂.heap.objs.size, LCg.lst ys) :: news') := fun p hp => by
        rcases List.mem_cons.mp hp with rfl | hp
        · exact ⟨heI, Ne.symm hIL, hI₀⟩
        · rcases List.mem_cons.mp hp with rfl | hp
          · exact ⟨heC, hCL, hC₀⟩
          · have z := N₂ p hp
            refine ⟨hs₃.extBut _ _ ?_ z.1, z.2⟩
            rcases List.mem_cons.mp hp with rfl | hp
            · exact hDC
            · exact (off3 p hp).2.1
      refine wpC_of_any (wpAny_mono (R' v I oI H2.objs.size oC s₂.heap.objs.size _ h₃ _ _ hPv hoC (by simp) F₃ N₃ off' ⟨hCI, hDI, Ne.symm hDC⟩) (fun y s₄ h₄ => ?_) fun _ _ e => e)
      obtain ⟨h₄, tk₄, news₄, rfl, F₄, N₄, off₄, hS₄, R₄⟩ := h₄
      have zI := (N₄ (I, oI) List.mem_cons_self).1
      have zC := (N₄ (H2.objs.size, oC) (List.mem_cons_of_mem _ List.mem_cons_self)).1
      have zD := (N₄ (s₂.heap.objs.size, LCg.lst ys) (List.mem_cons_of_mem _ (List.mem_cons_of_mem _ List.mem_cons_self))).1
      have N₄' : News h₀ L h₄ news₄ := fun p hp => N₄ p (List.mem_cons_of_mem _ (List.mem_cons_of_mem _ (List.mem_cons_of_mem _ hp)))
      have hst₄ : St (i + 1) h₄ := hSt _ _ _ _ _ hst₃ heI zI F₄.keep N₄' hS₄
      refine wpC_of_any (append_at (hsz := by show ys.toArray.size ≤ sizeLine; rw [List.size_toArray, hyl]; omega) zD fun h₅ hs₅ hD₅ => ?_)
      have off4 := off₄.mem
      refine ih (i + 1) (ys ++ [y]) news₄ h₅ tk₄ _ (by omega) (by rw [List.length_append, List.length_singleton, hyl]) (W.frame _ _ _ hst₄ fun b hb o e => hs₅.extBut b o (fun q => hDf (q ▸ hb)) e) (F₄.change hs₅ hDL hD₀)
          ((hoC.ns zC).sameBut hs₅ (Ne.symm hDC)) (fun p hp => ?_) off₄ hS₄ R₄
      rcases List.mem_cons.mp hp with rfl | hp
      · exact ⟨hD₅.trans (congrArg some (LCg.lst_snoc ys y)), hDL, hD₀⟩
      · exact ⟨hs₅.extBut _ _ (off4 p hp).2.2 (N₄' p hp).1, (N₄' p hp).2⟩
  have N₁ : News h₀ L h₁ ((s₂.heap.objs.size, LCg.lst []) :: news) := fun p hp => by
    rcases List.mem_cons.mp hp with rfl | hp
    · exact ⟨hacc, hDL, hD₀⟩
    · exact ⟨old _ _ (N p hp).1, (N p hp).2⟩
  have z := key k 0 [] news h₁ (s₂.toks + ([] : List (Str × Value)).length) _ (by omega) rfl hst₁ (F.keeps old) hns₁ N₁ off₀ hS R
  exact codeC_compStart_list z (W.self 0 _ _ _ hst₁ z)

def RSrc (prog : Program) (w : World) (A : Around) (base h₀ : Heap) (outer : List Env) (L : Addr) (m : Str → Option Value) (env : Env) (elt : PySem.Expr) (x : Str) (scope : Scope) (cl : List (Str × Addr)) (cls : String) (out : List (Addr × Obj)) (E : Value → Shared → Prop) (xv : Value) (s₁ : Shared) : Prop :=
  ∃ ax its news k, xv = .ref ax ∧ A.handled = none ∧ Fr h₀ L s₁.heap m ∧ News h₀ L s₁.heap news ∧ LCg.SrcAt h₀ ax its news ∧ its.size ≤ sizeLine ∧ k < its.size ∧
      (∀ s₂ : Shared, (∃ h, s₂ = { s₁ with heap := h }) → RestR prog w A base h₀ outer L m env elt x scope cl s₂ (LCg.SrcAt h₀ ax its) (fun i v => its[i]? = some v) cls out k 0 [] news) ∧
      (∀ (e : Addr) (h' : Heap) (tk' : Nat), HeldG base h₀ outer env e (.type cls) out L h' → E (.ref e) { s₁ with heap := h', toks := tk' })
theorem RSrc.ledger {elt : PySem.Expr} {x : Str} {scope : Scope} {cl : List (Str × Addr)} {cls : String} {out news : List (Addr × Obj)} {ax : Addr} {its : Array Value} {n k : Nat} {s₁ : Shared}
    (hh : A.handled = none) (F : Fr h₀ L s₁.heap m) (N : News h₀ L s₁.heap news) (hm : (ax, ({ cls := .type "list", data := .seq its n } : Obj)) ∈ news) (hsz : its.size ≤ sizeLine) (hk : k < its.size)
    (h : ∀ g, RestR prog w A base h₀ outer L m env elt x scope cl { s₁ with heap := g } (LCg.SrcAt h₀ ax its) (fun i v => its[i]? = some v) cls out k 0 [] news)
    (hE : ∀ (e : Addr) (h' : Heap) (tk' : Nat), HeldG base h₀ outer env e (.type cls) out L h' → E (.ref e) { s₁ with heap := h', toks := tk' }) :
    RSrc prog w A base h₀ outer L m env elt x scope cl cls out E (.ref ax) s₁ :=
  ⟨ax, its, news, k, rfl, hh, F, N, .inr ⟨_, hm, rfl, _, rfl⟩, hsz, hk, fun _ ⟨g, e⟩ => e ▸ h g, hE⟩

/-- a list comprehension over a list of the ledger, of which one element raises -/
theorem ListComp_R {elt iter : PySem.Expr} {x : Str} {px : Pos} {scope sc : Scope} {cl : List (Str × Addr)} {pos : Pos} {Q : Value → Shared → Prop} {name : Str} {a : Addr} {cd : Value} {cls : String} {out : List (Addr × Obj)} {A₀ : Around}
    (_K : Below A₀ base outer h₀) (_F : Fr h₀ L s.heap m) (hclos : closureFor scope (envOf name sc L a cd) = pure cl) (hcell : ∀ y ∈ scope.names, y.2 ≠ .cell) (hkind : scope.kind = .function)
    (hnames : ∀ y ∈ scope.names, y.2 = .local → scope.names.lookup y.1 = some .local) (hx : scope.names.lookup x = some .local)
    (h : wpAny (model prog w) A (eval iter (envOf name sc L a cd)) (RSrc prog w A base h₀ outer L m (envOf name sc L a cd) elt x scope cl cls out E) E s)
    (hs : ∀ x, foldedSetIterable iter (envOf name sc L a cd) x = pure x := by intro _; rfl) :
    wpC (model prog w) A (eval (.ListComp elt [⟨.Name x px, iter, [], 0⟩] scope pos) (envOf name sc L a cd)) Q E s := by
  rw [eval_ListComp]
  refine wpC_comprehension_R rfl hs hclos hkind hnames (wpAny_mono h (fun xv s₁ h₁ => ?_) fun _ _ e => e)
  obtain ⟨ax, its, news, k, rfl, hh, F, N, S, hsz, hk, R, hE⟩ := h₁
  have hl := S.list F.keep N
  have hlt : ax < s₁.heap.objs.size := by obtain ⟨_, e, _⟩ := hl; exact Heap.lt_size e
  refine wpAny_pyIter_list hl ?_
  have up : ∀ b o, s₁.heap.get? b = some o → (s₁.heap.push { cls := .type "list_iterator", data := .fields #[.ref ax, .int 0 0] }).get? b = some o := fun b o e => Heap.get?_push_of_some _ e
  refine block_R (RR := fun cenv => compPostR (model prog w) A E cenv) (cls := cls) (out := out) (base := base) (outer := outer) rfl (Walks.list hh s₁.heap.objs.size ax (Nat.ne_of_lt hlt) its) hsz (fun i h st => by obtain ⟨o, e, _⟩ := st.1; exact ⟨o, e⟩) LCg.list_st hcell hkind hx ⟨⟨_, Heap.get?_push_size _ rfl, rfl, rfl⟩, hl.push _⟩ (fun b hb => ?_)
    (F.keeps up) (N.grown up) (Nat.ne_of_lt F.ns.lt) (next_is_new F) (fun p hp => Nat.ne_of_lt (Heap.lt_size (N p hp).1)) S hk (R _ ⟨_, rfl⟩) ?_
  · show b < (s₁.heap.push _).objs.size
    rw [Heap.size_push]
    rcases List.mem_cons.mp hb with rfl | hb
    · exact Nat.lt_succ_self _
    · rw [List.mem_singleton.mp hb]; exact Nat.lt_succ_of_lt hlt
  · rintro cenv hcf x s' ⟨e, oC, m₂, news', rfl, ⟨h', tk', rfl⟩, hoC, hmC, sub, H⟩
    have zC : h'.get? cenv.locals = some oC := by
      obtain ⟨B, a0, hB, hBg, hl, ⟨f1, f2, f3, f4⟩, up⟩ := H
      exact f1 _ _ (hl _ hmC).1
    refine ⟨m₂, hoC.ns zC, fun h'' hs'' => ?_⟩
    refine held_pass (held_letgo H hmC hs'' sub) hcf fun h₃ H₃ => hE e h₃ tk' H₃
end
end Mine
end

section -- C4
open PySem PySem.W PyProof.Rows
set_option maxHeartbeats 8000000
namespace Mine
local macro_rules | `(tactic| walk_at "idle 0") => `(tactic| skip)
local macro_rules | `(tactic| walk_at "idle 1") => `(tactic| skip)
local macro_rules | `(tactic| walk_at "idle 2") => `(tactic| skip)
local macro_rules | `(tactic| walk_at "idle 3") => `(tactic| skip)
local macro_rules | `(tactic| walk_at "idle 4") => `(tactic| skip)
local macro_rules | `(tactic| walk_at "idle 5") => `(tactic| skip)
local macro_rules | `(tactic| walk_at "idle 6") => `(tactic| skip)
local macro_rules | `(tactic| walk_at "idle 7") => `(tactic| skip)
local macro_rules | `(tactic| walk_at "idle 8") => `(tactic| skip)
local macro_rules | `(tactic| walk_at "idle 9") => `(tactic| skip)
local macro_rules | `(tactic| walk_at "idle 10") => `(tactic| skip)
local macro_rules | `(tactic| walk_at "idle 11") => `(tactic| skip)
local macro_rules | `(tactic| walk_at "idle 12") => `(tactic| skip)
local macro_rules | `(tactic| walk_at "idle 13") => `(tactic| skip)
local macro_rules | `(tactic| walk_at "idle 14") => `(tactic| skip)
local macro_rules | `(tactic| walk_at "idle 15") => `(tactic| skip)
theorem reset_C4 : True := by
  w_top off
  exact trivial
theorem fill4 : (PySem.Challenge.rw_fp5009_01, hd.heap_39) = (PySem.Challenge.rw_fp5009_01, hd.heap_39) := by
  k_fill
  rfl

section
variable {prog : Program} {w : World} {A : Around} {s : Shared} {base h₀ : Heap} {outer : List Env} {L : Addr} {m : Str → Option Value} {env : Env} {elt : PySem.Expr} {x : Str} {scope : Scope} {cl : List (Str × Addr)} {S : List (Addr × Obj) → Prop} {P : Nat → Value → Prop} {cls : String} {out news : List (Addr × Obj)}
theorem restR_of {k : Nat}
    (turn : ∀ i v ys I oI C oC D m₂ h tk (E' : Value → Shared → Prop), i < k → P i v → LCg.NsObj oC m₂ → m₂ x = some v → Fr h₀ L h m → News h₀ L h ((I, oI) :: (C, oC) :: (D, LCg.lst ys) :: news) → LCg.Off3 I C D news → ((@Ne Nat I C) ∧ (@Ne Nat I D) ∧ (@Ne Nat C D)) →
      wpAny (model prog w) A (eval elt (compEnvC scope cl C env)) (LCg.CompEnd h₀ L m { s with heap := h, toks := tk } I oI C oC D (LCg.lst ys) S (fun _ news' => news' = news)) E' { s with heap := h, toks := tk })
    (bad : ∀ v ys I oI C oC D m₂ h tk, P k v → LCg.NsObj oC m₂ → m₂ x = some v → Fr h₀ L h m → News h₀ L h ((I, oI) :: (C, oC) :: (D, LCg.lst ys) :: news) → LCg.Off3 I C D news → ((@Ne Nat I C) ∧ (@Ne Nat I D) ∧ (@Ne Nat C D)) →
      wpC (model prog w) A (eval elt (compEnvC scope cl C env)) (fun _ _ => False) (notedBy (model prog w) A (compEnvC scope cl C env) (ElRaise base h₀ outer L env s cls out C)) { s with heap := h, toks := tk }) :
    RestR prog w A base h₀ outer L m env elt x scope cl s S P cls out k 0 [] news := by
  have key : ∀ (j i : Nat) (ys : List Value), i + j = k → RestR prog w A base h₀ outer L m env elt x scope cl s S P cls out j i ys news := by
    intro j
    induction j with
    | zero =>
      intro i ys hi v I oI C oC D m₂ h tk hv hC hx F N off ne
      obtain rfl : i = k := by omega
      exact bad v ys I oI C oC D m₂ h tk hv hC hx F N off ne
    | succ j ih =>
      intro i ys hi v I oI C oC D m₂ h tk E' hv hC hx F N off ne
      refine wpAny_mono (turn i v ys I oI C oC D m₂ h tk E' (by omega) hv hC hx F N off ne) (fun y s₂ hq => ?_) fun _ _ e => e
      obtain ⟨h', tk', nw, e, F', N', off', hS, hn⟩ := hq
      subst hn
      exact ⟨h', tk', nw, e, F', N', off', hS, ih (i + 1) _ (by omega)⟩
  exact key k 0 [] (by omega)
end

/-- the first bad word of a list -/
def BadAt (qs : List PySem.Str) (k : Nat) (cls : String) : Prop :=
  (∀ (i : Nat) (y : PySem.Str), i < k → qs[i]? = some y → 0 < y.length ∧ y.length ≤ 640 ∧ ∃ n, derItem y = some n) ∧
  ∃ x, qs[k]? = some x ∧ ((x.length = 0 ∧ cls = "IndexError") ∨ (0 < x.length ∧ x.length ≤ 640 ∧ Plain x ∧ derItem x = none ∧ cls = "ValueError"))

local macro_rules | `(tactic| ktr_unf) => `(tactic| (refine' codeC_def ?k1 ?k2 ?k3 ?k4 ?k5 ?kA ?kF ?kK ?k6 ?k7 ?k8 ?k9 ?kB ?_ ?c2 ?c3 ?c4 ?c5; (case kA => exact rfl); (case kF => exact rfl); (case kK => first | assumption | exact rfl); (case k1 => k_asm); (case k2 => k_asm); (case k3 => k_asm); (case k4 => k_asm); (case k5 => k_asm); (case k6 => k_is); (case k7 => k_is); (case k8 => ktr_room); (case k9 => exact BindsTo.of_eq rfl); (case c5 => decide); (case kB => exact locs rfl); (case c2 => exact rfl); (case c3 => exact rfl); (case c4 => exact rfl); k_whole; intro g' L' h' FG' F' N' B' X' T'; (try dsimp only); (try k_lift B')))
local macro_rules | `(tactic| walk_at "call builtin:str.rstrip") => `(tactic| (k_here; (with_reducible show wpAny _ _ (call (Value.builtin "str.rstrip") [Value.str _ _, Value.str _ _]) _ _ _); (refine SC.rstripChars ?_ (by size_fits)); intro t' k'))
local macro_rules | `(tactic| walk_at "call builtin:str.split") => `(tactic| (k_here; (with_reducible show wpAny _ _ (call (Value.builtin "str.split") _) _ _ _); (refine KSpl.split1 (by k_asm) (by k_asm) (by decide) ?_ (split_room (by assumption))); intro D' l' h' k' e' a' F' N' l1; rw [e'.trans (by assumption)] at a'; obtain ⟨t9, vs9, hv9, a9⟩ := StrsAre.cons_inv a'; rw [hv9] at N'; clear a' e' hv9))
local macro_rules | `(tactic| walk_at "subscriptTail Name Slice ref ref") => `(tactic| (k_here; (with_reducible show wpAny _ _ (subscriptTail _ (PySem.Expr.Slice _ _ none _) (Value.ref _) (Value.ref _)) _ _ _); k_dflt (refine' kms_slice_lit ?F ?N ?l ?p ?q (pick_tail _ _) ?_ ?s ?t ?z; (case F => k_asm); (case N => k_asm); (case l => kmk_list); (case p => kmk_part); (case q => kmk_part); (case s => with_unfolding_all rfl); (case t => kmk_pure); (case z => exact strs_room (by assumption) (by assumption))); intro D' h' F' N' l1))
local macro_rules | `(tactic| walk_at "call builtin:len") => `(tactic| (k_here; (with_reducible show wpAny _ _ (call (Value.builtin "len") [Value.ref _]) _ _ _); (refine' len_list ?l ?f ?_; (case l => is_list); (case f => first | exact strs_fit (by assumption) (by assumption) | exact strs_fit' (by assumption) (by assumption)))))
local macro_rules | `(tactic| walk_at "call ref") => `(tactic| (k_here; k_dflt (refine' item_ok ?k1 ?k2 ?k3 ?k4 ?k5 ?kK ?kd ?ku ?kz ?kx ?kn ?_; (case k1 => k_asm); (case k2 => k_asm); (case k3 => k_asm); (case k4 => k_asm); (case k5 => k_asm); (case kK => first | assumption | exact rfl); (case kd => ktr_room); (case ku => ktr_units); (case kz => assumption); (case kx => assumption); (case kn => assumption); intro t9 h9 tk9 F9 N9; (try dsimp only))))

theorem parse_bad {prog : Program} {w : World} {p : Program} {loose : List Str} {mean : ExcName → Option Value} {mg mb : Str → Option Value}
    {dp un : Nat} {gd : Option (List Code)} {cn : Str} {cs : Scope} {a : Addr} {ccd : Value} {cl : List (Str × Addr)} {outer : List Env} {A₀ : Around} {base h₀ : Heap} {L : Addr} {m : Str → Option Value} {s : Shared} {Q E : Value → Shared → Prop}
    {news : List (Addr × Obj)} {x : Str} {t : Tok} {q : PySem.Str} {r : List PySem.Str} {k : Nat} {cls : String}
    (B : Below A₀ base outer h₀) (F : Fr h₀ L s.heap m) (X : (hd.heap_39 w.params).In h₀) (N : News h₀ L s.heap news) (T : Top p loose mean mg mb h₀) (hk : cs.kind = .function)
    (hd' : dp + 3 < recursionLimit) (hu : un + 24 < cLine) (hx1 : x.length ≤ 640) (hsp : Txt.split (Txt.rstripChars x (PySem.Str.ofString "/")) (PySem.Str.ofString "/") = q :: r)
    (hr : r.length ≤ 640) (hbad : BadAt (if q = PySem.Str.ofString "m" then r else q :: r) k cls)
    (hE : RaiseOut base h₀ L m (envX cn cs L a ccd cl :: outer) news cls s E) :
    wpC (model prog w) (ktrTop dp un gd cn cs L a ccd cl outer) (call (.ref 36) [.str x t]) Q E s := by
  refine wpC_call ?_
  k_dflt ktr_unf
  refine wpC_execs_cons (wpC_of_any ?_)
  k_steps
  refine wpC_execs_cons (wpC_of_any ?_)
  k_steps
  all_goals refine wpC_execs_cons (wpC_of_any ?_)
  all_goals k_steps
  · exfalso
    have hq : q = PySem.Str.ofString "m" := by rename (q == PySem.Str.ofString "m") = true => hq; simpa using hq
    rename StrsAre _ r => a9
    rename (((_ : Nat) : Int) = 0) => hz
    rw [if_pos hq] at hbad
    have hr0 : r.length = 0 := by rw [List.size_toArray, a9.length] at hz; omega
    obtain ⟨_, x9, hx9, _⟩ := hbad
    rw [List.length_eq_zero_iff.mp hr0] at hx9
    cases hx9
  · have hq : q = PySem.Str.ofString "m" := by rename (q == PySem.Str.ofString "m") = true => hq; simpa using hq
    rename StrsAre _ r => a9
    rw [if_pos hq] at hbad
    refine wpC_execs_cons (wpC_Return ?_)
    refine ListComp_R (base := base) (out := news) (cls := cls) (by k_asm) (by k_asm) (by rfl) (by decide) (by rfl) (by decide) (by rfl) ?_
    k_steps
    refine RSrc.ledger (k := k) (by rfl) (by k_asm) (by k_asm) (by k_mem) (Nat.le_of_succ_le (strs_room (v := .none) (by assumption) (by assumption))) (by rw [List.size_toArray, a9.length]; exact (List.getElem?_eq_some_iff.mp hbad.2.choose_spec.1).1) ?_ ?_
    · intro g
      refine restR_of ?_ ?_
      · intro i v ys I oI C oC D m₂ h tk E' hi9 hv9 hC9 hx9 F9 N9 off9 ne9
        obtain ⟨y, t9, rfl, hy⟩ := StrsAre.item a9 i v (by simpa using hv9)
        obtain ⟨z0, z1, k', hd9⟩ := hbad.1 i y hi9 hy
        k_steps
        exact LCg.CompEnd.intro (by assumption) (by assumption) _ (fun _ h => h) (by assumption) (Or.inr ⟨_, by k_mem, rfl, _, rfl⟩) rfl
      · intro v ys I oI C oC D m₂ h tk hv9 hC9 hx9 F9 N9 off9 ne9
        obtain ⟨y, t9, rfl, hy⟩ := StrsAre.item a9 k v (by simpa using hv9)
        obtain ⟨x9, hx8, hb⟩ := hbad.2
        obtain rfl : x9 = y := Option.some.inj (hx8.symm.trans hy)
        refine wpC_Call ?_
        k_steps
        refine wpC_callWith_K (K := hd.heap_39 w.params) (by k_asm) (by rfl) ?_
        k_steps
        rcases hb with ⟨z0, rfl⟩ | ⟨z0, z1, zp, zd, rfl⟩
        · refine wpC_of_any (item_ierr (by k_asm) (by k_asm) (by k_asm) (by k_asm) (by k_asm) (by exact rfl) (by ktr_room) (by ktr_units) z0 ?_)
          intro e9 g9 h9 tk9 f9 r9 u9
          refine held_of_raised (by k_asm) f9 r9 u9 rfl fun h8 H8 => ?_
          exact ⟨e9, oC, m₂, _, rfl, ⟨h8, tk9, rfl⟩, hC9, by simp, fun q hq => ⟨by simp [hq], (off9.mem q (by simp [hq])).2.1⟩, H8⟩
        · refine item_verr (by k_asm) (by k_asm) (by k_asm) (by k_asm) (by k_asm) (by exact rfl) (by ktr_room) (by ktr_units) z0 z1 zp zd ?_
          intro e9 g9 h9 tk9 f9 r9 u9
          refine held_of_raised (by k_asm) f9 r9 u9 rfl fun h8 H8 => ?_
          exact ⟨e9, oC, m₂, _, rfl, ⟨h8, tk9, rfl⟩, hC9, by simp, fun q hq => ⟨by simp [hq], (off9.mem q (by simp [hq])).2.1⟩, H8⟩
    · intro e9 h9 tk9 H9
      refine held_leave H9 ?_
      intro h8 R8 U8
      exact hE _ _ _ _ (by assumption) R8 U8
  · exfalso
    rename (((_ : Nat) : Int) = 0) => hz
    rw [List.size_toArray, List.length_cons] at hz
    omega
  · have hq : ¬ q = PySem.Str.ofString "m" := by rename (q == PySem.Str.ofString "m") = false => hq; simpa using hq
    rename StrsAre _ r => a9
    rw [if_neg hq] at hbad
    refine wpC_execs_cons (wpC_Return ?_)
    refine ListComp_R (base := base) (out := news) (cls := cls) (by k_asm) (by k_asm) (by rfl) (by decide) (by rfl) (by decide) (by rfl) ?_
    k_steps
    refine RSrc.ledger (k := k) (by rfl) (by k_asm) (by k_asm) (by k_mem) (strs_room (by assumption) (by assumption)) (by rw [List.size_toArray, List.length_cons, a9.length]; exact (List.getElem?_eq_some_iff.mp hbad.2.choose_spec.1).1) ?_ ?_
    · intro g
      refine restR_of ?_ ?_
      · intro i v ys I oI C oC D m₂ h tk E' hi9 hv9 hC9 hx9 F9 N9 off9 ne9
        obtain ⟨y, t9, rfl, hy⟩ := StrsAre.item (StrsAre.cons q _ a9) i v (by simpa using hv9)
        obtain ⟨z0, z1, k', hd9⟩ := hbad.1 i y hi9 hy
        k_steps
        exact LCg.CompEnd.intro (by assumption) (by assumption) _ (fun _ h => h) (by assumption) (Or.inr ⟨_, by k_mem, rfl, _, rfl⟩) rfl
      · intro v ys I oI C oC D m₂ h tk hv9 hC9 hx9 F9 N9 off9 ne9
        obtain ⟨y, t9, rfl, hy⟩ := StrsAre.item (StrsAre.cons q _ a9) k v (by simpa using hv9)
        obtain ⟨x9, hx8, hb⟩ := hbad.2
        obtain rfl : x9 = y := Option.some.inj (hx8.symm.trans hy)
        refine wpC_Call ?_
        k_steps
        refine wpC_callWith_K (K := hd.heap_39 w.params) (by k_asm) (by rfl) ?_
        k_steps
        rcases hb with ⟨z0, rfl⟩ | ⟨z0, z1, zp, zd, rfl⟩
        · refine wpC_of_any (item_ierr (by k_asm) (by k_asm) (by k_asm) (by k_asm) (by k_asm) (by exact rfl) (by ktr_room) (by ktr_units) z0 ?_)
          intro e9 g9 h9 tk9 f9 r9 u9
          refine held_of_raised (by k_asm) f9 r9 u9 rfl fun h8 H8 => ?_
          exact ⟨e9, oC, m₂, _, rfl, ⟨h8, tk9, rfl⟩, hC9, by simp, fun q hq => ⟨by simp [hq], (off9.mem q (by simp [hq])).2.1⟩, H8⟩
        · refine item_verr (by k_asm) (by k_asm) (by k_asm) (by k_asm) (by k_asm) (by exact rfl) (by ktr_room) (by ktr_units) z0 z1 zp zd ?_
          intro e9 g9 h9 tk9 f9 r9 u9
          refine held_of_raised (by k_asm) f9 r9 u9 rfl fun h8 H8 => ?_
          exact ⟨e9, oC, m₂, _, rfl, ⟨h8, tk9, rfl⟩, hC9, by simp, fun q hq => ⟨by simp [hq], (off9.mem q (by simp [hq])).2.1⟩, H8⟩
    · intro e9 h9 tk9 H9
      refine held_leave H9 ?_
      intro h8 R8 U8
      exact hE _ _ _ _ (by assumption) R8 U8
end Mine
end

section -- C5
open PySem PySem.W PyProof.Rows
set_option maxHeartbeats 8000000
namespace Mine
local macro_rules | `(tactic| walk_at "idle 0") => `(tactic| skip)
local macro_rules | `(tactic| walk_at "idle 1") => `(tactic| skip)
local macro_rules | `(tactic| walk_at "idle 2") => `(tactic| skip)
local macro_rules | `(tactic| walk_at "idle 3") => `(tactic| skip)
local macro_rules | `(tactic| walk_at "idle 4") => `(tactic| skip)
local macro_rules | `(tactic| walk_at "idle 5") => `(tactic| skip)
local macro_rules | `(tactic| walk_at "idle 6") => `(tactic| skip)
local macro_rules | `(tactic| walk_at "idle 7") => `(tactic| skip)
local macro_rules | `(tactic| walk_at "idle 8") => `(tactic| skip)
local macro_rules | `(tactic| walk_at "idle 9") => `(tactic| skip)
local macro_rules | `(tactic| walk_at "idle 10") => `(tactic| skip)
local macro_rules | `(tactic| walk_at "idle 11") => `(tactic| skip)
local macro_rules | `(tactic| walk_at "idle 12") => `(tactic| skip)
local macro_rules | `(tactic| walk_at "idle 13") => `(tactic| skip)
local macro_rules | `(tactic| walk_at "idle 14") => `(tactic| skip)
local macro_rules | `(tactic| walk_at "idle 15") => `(tactic| skip)
local macro_rules | `(tactic| walk_at "idle 16") => `(tactic| skip)
local macro_rules | `(tactic| walk_at "idle 17") => `(tactic| skip)
local macro_rules | `(tactic| walk_at "idle 18") => `(tactic| skip)
local macro_rules | `(tactic| walk_at "idle 19") => `(tactic| skip)
local macro_rules | `(tactic| walk_at "idle 20") => `(tactic| skip)
local macro_rules | `(tactic| walk_at "idle 21") => `(tactic| skip)
local macro_rules | `(tactic| walk_at "idle 22") => `(tactic| skip)
local macro_rules | `(tactic| walk_at "idle 23") => `(tactic| skip)
local macro_rules | `(tactic| walk_at "idle 24") => `(tactic| skip)
local macro_rules | `(tactic| walk_at "idle 25") => `(tactic| skip)
local macro_rules | `(tactic| walk_at "idle 26") => `(tactic| skip)
local macro_rules | `(tactic| walk_at "idle 27") => `(tactic| skip)
local macro_rules | `(tactic| walk_at "idle 28") => `(tactic| skip)
local macro_rules | `(tactic| walk_at "idle 29") => `(tactic| skip)
local macro_rules | `(tactic| walk_at "idle 30") => `(tactic| skip)
local macro_rules | `(tactic| walk_at "idle 31") => `(tactic| skip)
theorem reset_C5 : True := by
  w_top off
  exact trivial
theorem fill5 : (PySem.Challenge.rw_fp5009_01, hd.heap_39) = (PySem.Challenge.rw_fp5009_01, hd.heap_39) := by
  k_fill
  rfl
-- «ktr_unf»: a catching helper is entered from the law's own frame, under the claim's caller
local macro_rules | `(tactic| ktr_unf) => `(tactic| (refine' codeC_defS ?k1 ?k2 ?k3 ?k4 ?k5 ?kA ?kF ?kK ?k6 ?k7 ?k8 ?k9 ?kB ?_ ?c2 ?c3 ?c4 ?c5; (case kA => exact rfl); (case kF => exact rfl); (case kK => first | assumption | exact rfl); (case k1 => k_asm); (case k2 => k_asm); (case k3 => k_asm); (case k4 => k_asm); (case k5 => k_asm); (case k6 => k_is); (case k7 => k_is); (case k8 => ktr_room); (case k9 => exact BindsTo.of_eq rfl); (case c5 => decide); (case kB => exact locs rfl); (case c2 => exact rfl); (case c3 => exact rfl); (case c4 => exact rfl); k_whole; intro g' L' h' FG' F' N' B' X' T' D'; (try dsimp only); (try k_lift B')))

theorem refused_true {prog : Program} {w : World} {p : Program} {loose : List Str} {mean : ExcName → Option Value} {mg mb : Str → Option Value}
    {dp un : Nat} {gd : Option (List Code)} {cn : Str} {cs : Scope} {a : Addr} {ccd : Value} {cl : List (Str × Addr)} {A₀ : Around} {base h₀ : Heap} {L : Addr} {m : Str → Option Value} {s : Shared} {Q E : Value → Shared → Prop}
    {news : List (Addr × Obj)} {x : Str} {t : Tok} {q : PySem.Str} {r : List PySem.Str} {k : Nat} {cls : String}
    (XB : (hd.heap_39 w.params).In base) (TB : Top p loose mean mg mb base)
    (B : Below A₀ base [] h₀) (F : Fr h₀ L s.heap m) (X : (hd.heap_39 w.params).In h₀) (N : News h₀ L s.heap news) (T : Top p loose mean mg mb h₀) (hk : cs.kind = .function)
    (hd' : dp + 5 < recursionLimit) (hu : un + 40 < cLine) (hx1 : x.length ≤ 640) (hsp : Txt.split (Txt.rstripChars x (PySem.Str.ofString "/")) (PySem.Str.ofString "/") = q :: r)
    (hr : r.length ≤ 640) (hbad : BadAt (if q = PySem.Str.ofString "m" then r else q :: r) k cls)
    (hret : ∀ (h' : Heap) (tk' : Nat), Fr h₀ L h' m → News h₀ L h' news → Q (.bool true) { s with heap := h', toks := tk' }) :
    wpC (model prog w) (ktrTop dp un gd cn cs L a ccd cl []) (call (.ref 103) [.str x t]) Q E s := by
  refine wpC_call ?_
  k_dflt ktr_unf
  refine wpC_execs_cons (wpC_Try_except ?_)
  refine wpC_execs_cons (wpC_Expr (wpC_Call ?_))
  k_steps
  refine wpC_callWith_K (K := hd.heap_39 w.params) (by k_asm) (by rfl) ?_
  k_steps
  refine parse_bad (by k_asm) (by k_asm) (by k_asm) (by k_asm) (by k_asm) (by exact rfl) (by ktr_room) (by ktr_units) hx1 hsp hr hbad ?_
  intro e9 g9 h9 tk9 f9 r9 u9
  obtain ⟨_, x9, _, hb⟩ := hbad
  rcases hb with ⟨_, rfl⟩ | ⟨_, _, _, _, rfl⟩
  · dsimp only
    k_steps
    exact hret _ _ (by k_asm) (by first | assumption | exact cb_drop (by assumption) (fun _ h => h) | exact cb_drop (by assumption) (fun _ h => List.mem_cons_of_mem _ h))
  · dsimp only
    k_steps
    exact hret _ _ (by k_asm) (by first | assumption | exact cb_drop (by assumption) (fun _ h => h) | exact cb_drop (by assumption) (fun _ h => List.mem_cons_of_mem _ h))
end Mine
end

section -- C6
open PySem PySem.W PyProof.Rows
set_option maxHeartbeats 8000000
namespace Mine
theorem reset_C6 : True := by
  w_top off
  exact trivial
theorem fill7 : (PySem.Challenge.rw_fp5009_01, hd.heap_39) = (PySem.Challenge.rw_fp5009_01, hd.heap_39) := by
  k_fill
  rfl

def lawEdges : List Int := [0, 1, 2147483647, 2147483648, 2147483649, 4294967295]
theorem edges_ok {prog : Program} {w : World} {p : Program} {loose : List Str} {mean : ExcName → Option Value} {mg mb : Str → Option Value}
    {dp un : Nat} {gd : Option (List Code)} {cn : Str} {cs : Scope} {a : Addr} {ccd : Value} {cl : List (Str × Addr)} {outer : List Env} {A₀ : Around} {base h₀ : Heap} {L : Addr} {m : Str → Option Value} {s : Shared} {Q E : Value → Shared → Prop}
    {news : List (Addr × Obj)}
    (B : Below A₀ base outer h₀) (F : Fr h₀ L s.heap m) (X : (hd.heap_39 w.params).In h₀) (N : News h₀ L s.heap news) (T : Top p loose mean mg mb h₀) (hk : cs.kind = .function)
    (hd' : dp + 1 < recursionLimit) (hu : un + 8 < cLine)
    (hret : ∀ (l : Addr) (vs : List Value) (n : Nat) (h' : Heap) (tk' : Nat), Fr h₀ L h' m → News h₀ L h' ((l, listOf vs.toArray n) :: news) → IntsAre vs lawEdges → Q (.ref l) { s with heap := h', toks := tk' }) :
    wpAny (model prog w) (ktrTop dp un gd cn cs L a ccd cl outer) (call (.ref 89) []) Q E s := by
  refine wpAny_call ?_
  k_dflt cell_enter
  k_steps
  exact hret _ _ _ _ _ (by k_asm) (by assumption) (.cons _ _ (.cons _ _ (.cons _ _ (.cons _ _ (.cons _ _ (.cons _ _ .nil))))))

def lawValue (n : Int) : Int :=
  if Int.fmod n 4 = 0 then Int.fmod (Int.fdiv n 4) 100
  else if Int.fmod n 4 = 1 then Int.fmod (Int.fdiv n 4) 4294967296
  else if Int.fmod n 4 = 2 then lawEdges.getD (Int.fmod (Int.fdiv n 4) 6).toNat 0
  else 2147483648 + Int.fmod (Int.fdiv n 4) 100

theorem lv0 {n : Int} (h : n.fmod 4 = 0) : lawValue n = (n.fdiv 4).fmod 100 := by unfold lawValue; rw [if_pos h]
theorem lv1 {n : Int} (h : n.fmod 4 = 1) : lawValue n = (n.fdiv 4).fmod 4294967296 := by unfold lawValue; rw [if_neg (by omega), if_pos h]
theorem lv2 {n : Int} (h : n.fmod 4 = 2) : lawValue n = lawEdges.getD ((n.fdiv 4).fmod 6).toNat 0 := by unfold lawValue; rw [if_neg (by omega), if_neg (by omega), if_pos h]
theorem lv3 {n : Int} (h0 : n.fmod 4 ≠ 0) (h1 : n.fmod 4 ≠ 1) (h2 : n.fmod 4 ≠ 2) : lawValue n = 2147483648 + (n.fdiv 4).fmod 100 := by unfold lawValue; rw [if_neg h0, if_neg h1, if_neg h2]
theorem keepT1 {α : Type} {a : α} {l : List α} : ∀ p ∈ l, p ∈ a :: l := fun _ h => List.mem_cons_of_mem _ h
theorem keepT2 {α : Type} {a b : α} {l : List α} : ∀ p ∈ l, p ∈ a :: b :: l := fun _ h => List.mem_cons_of_mem _ (List.mem_cons_of_mem _ h)
local macro_rules | `(tactic| walk_at "call ref") => `(tactic| (k_here; k_dflt (refine' edges_ok ?k1 ?k2 ?k3 ?k4 ?k5 ?kK ?kd ?ku ?_; (case k1 => k_asm); (case k2 => k_asm); (case k3 => k_asm); (case k4 => k_asm); (case k5 => k_asm); (case kK => first | assumption | exact rfl); (case kd => ktr_room); (case ku => ktr_units); intro l9 vs9 n9 h9 tk9 F9 N9 I9; (try dsimp only))))
theorem value_ok {prog : Program} {w : World} {p : Program} {loose : List Str} {mean : ExcName → Option Value} {mg mb : Str → Option Value}
    {dp un : Nat} {gd : Option (List Code)} {cn : Str} {cs : Scope} {a : Addr} {ccd : Value} {cl : List (Str × Addr)} {outer : List Env} {A₀ : Around} {base h₀ : Heap} {L : Addr} {m : Str → Option Value} {s : Shared} {Q E : Value → Shared → Prop}
    {news : List (Addr × Obj)} {n : Int} {t : Tok}
    (B : Below A₀ base outer h₀) (F : Fr h₀ L s.heap m) (X : (hd.heap_39 w.params).In h₀) (N : News h₀ L s.heap news) (T : Top p loose mean mg mb h₀) (hk : cs.kind = .function)
    (hd' : dp + 2 < recursionLimit) (hu : un + 16 < cLine)
    (hret : ∀ (t : Tok) (h' : Heap) (tk' : Nat), Fr h₀ L h' m → News h₀ L h' news → Q (.int (lawValue n) t) { s with heap := h', toks := tk' }) :
    wpAny (model prog w) (ktrTop dp un gd cn cs L a ccd cl outer) (call (.ref 117) [.int n t]) Q E s := by
  refine wpAny_call ?_
  k_dflt cell_enter
  k_steps
  · rw [← lv0 (by assumption)]; exact hret _ _ _ (by k_asm) (cb_drop (by assumption) keepT1)
  · rw [← lv1 (by assumption)]; exact hret _ _ _ (by k_asm) (cb_drop (by assumption) keepT1)
  · rw [← lv2 (by assumption)]; exact hret _ _ _ (by k_asm) (cb_drop (by assumption) keepT2)
  · rw [← lv3 (by assumption) (by assumption) (by assumption)]; exact hret _ _ _ (by k_asm) (cb_drop (by assumption) keepT1)

def numText (n : Int) : PySem.Str := PySem.Str.ofString (toString n)
def lawFront (turn : Int) : PySem.Str := Txt.mul (PySem.Str.ofString "0") (turn.fmod 3)
def lawMark (turn : Int) : PySem.Str := Txt.item (PySem.Str.ofString "hH'") ((turn.fdiv 3).fmod 3)
def lawSpelt (n turn : Int) : PySem.Str := if 2147483648 ≤ n then lawFront turn ++ numText (n - 2147483648) ++ lawMark turn else lawFront turn ++ numText n
theorem num_room {n : Int} (h0 : 0 ≤ n) (h1 : n < 4294967296) : (PySem.Str.ofString (toString n)).length ≤ 10 := KT.len_num h0 (by omega)
theorem mul_len (c : PySem.Str) (k : Int) (hc : c.length = 1) (h : 0 ≤ k) : ((Txt.mul c k).length : Int) = k := by
  unfold Txt.mul
  split
  · have : k = 0 := by omega
    subst this; rfl
  · split
    · rename_i h1
      rcases Bool.or_eq_true_iff.mp h1 with h2 | h2
      · have : k = 1 := by simpa using h2
        rw [hc, this]; rfl
      · rw [hc] at h2; cases h2
    · have key : ∀ (j : Nat) (a : Array Nat), ((List.replicate j c.cps).foldl (· ++ ·) a).size = a.size + j := by
        intro j
        induction j with
        | zero => intro a; rfl
        | succ j ih =>
          intro a
          rw [List.replicate_succ, List.foldl_cons, ih, Array.size_append]
          have : c.cps.size = 1 := hc
          omega
      show ((((List.replicate k.toNat c.cps).foldl (· ++ ·) #[]).size : Nat) : Int) = k
      rw [key, show (#[] : Array Nat).size = 0 from rfl]
      omega
theorem front_len (turn : Int) : (Txt.mul (PySem.Str.ofString "0") (turn.fmod 3)).length ≤ 2 := by
  have h0 := Int.fmod_nonneg_of_pos turn (show (0:Int) < 3 by decide)
  have h1 := Int.fmod_lt_of_pos turn (show (0:Int) < 3 by decide)
  have := mul_len (PySem.Str.ofString "0") (turn.fmod 3) (by decide) h0
  omega
theorem item_len (x : PySem.Str) (i : Int) : (Txt.item x i).length ≤ 1 := Nat.le_refl _
local macro_rules | `(tactic| walk_at "binaryOp Add str str") => `(tactic| (k_here; (with_reducible show wpAny _ _ (binaryOp Operator.Add (Value.str _ _) (Value.str _ _)) _ _ _); (refine' SBL.add ?_ ?hsz; (case hsz => (rw [PySem.sizeLine_eq]; (try simp only [PySem.Str.length_append]); omega)); intro _ _ _)))
theorem spelt_ok {prog : Program} {w : World} {p : Program} {loose : List Str} {mean : ExcName → Option Value} {mg mb : Str → Option Value}
    {dp un : Nat} {gd : Option (List Code)} {cn : Str} {cs : Scope} {a : Addr} {ccd : Value} {cl : List (Str × Addr)} {outer : List Env} {A₀ : Around} {base h₀ : Heap} {L : Addr} {m : Str → Option Value} {s : Shared} {Q E : Value → Shared → Prop}
    {news : List (Addr × Obj)} {n turn : Int} {t u : Tok}
    (B : Below A₀ base outer h₀) (F : Fr h₀ L s.heap m) (X : (hd.heap_39 w.params).In h₀) (N : News h₀ L s.heap news) (T : Top p loose mean mg mb h₀) (hk : cs.kind = .function)
    (hd' : dp + 2 < recursionLimit) (hu : un + 16 < cLine) (hn0 : 0 ≤ n) (hn1 : n < 4294967296)
    (hret : ∀ (t : Tok) (h' : Heap) (tk' : Nat), Fr h₀ L h' m → News h₀ L h' news → Q (.str (lawSpelt n turn) t) { s with heap := h', toks := tk' }) :
    wpAny (model prog w) (ktrTop dp un gd cn cs L a ccd cl outer) (call (.ref 110) [.int n t, .int turn u]) Q E s := by
  have e1 := front_len turn
  have e2 := item_len (PySem.Str.ofString "hH'") ((turn.fdiv 3).fmod 3)
  have e3 := num_room hn0 hn1
  have e4 : 2147483648 ≤ n → (PySem.Str.ofString (toString (n - 2147483648))).length ≤ 10 := fun h => num_room (by omega) (by omega)
  by_cases hh : 2147483648 ≤ n
  · have e5 := e4 hh
    refine wpAny_call ?_
    k_dflt cell_enter
    k_steps
    rw [show lawSpelt n turn = _ from if_pos hh] at hret
    exact hret _ _ _ (by k_asm) (by first | assumption | exact cb_drop (by assumption) (fun _ h => h))
  · refine wpAny_call ?_
    k_dflt cell_enter
    k_steps
    rw [show lawSpelt n turn = _ from if_neg hh] at hret
    exact hret _ _ _ (by k_asm) (by first | assumption | exact cb_drop (by assumption) (fun _ h => h))
end Mine
end

section -- C7
open PySem PySem.W PyProof.Rows
set_option maxHeartbeats 8000000
namespace Mine
local macro_rules | `(tactic| walk_at "idle 0") => `(tactic| skip)
local macro_rules | `(tactic| walk_at "idle 1") => `(tactic| skip)
local macro_rules | `(tactic| walk_at "idle 2") => `(tactic| skip)
local macro_rules | `(tactic| walk_at "idle 3") => `(tactic| skip)
local macro_rules | `(tactic| walk_at "idle 4") => `(tactic| skip)
local macro_rules | `(tactic| walk_at "idle 5") => `(tactic| skip)
local macro_rules | `(tactic| walk_at "idle 6") => `(tactic| skip)
local macro_rules | `(tactic| walk_at "idle 7") => `(tactic| skip)
local macro_rules | `(tactic| walk_at "idle 8") => `(tactic| skip)
local macro_rules | `(tactic| walk_at "idle 9") => `(tactic| skip)
local macro_rules | `(tactic| walk_at "idle 10") => `(tactic| skip)
local macro_rules | `(tactic| walk_at "idle 11") => `(tactic| skip)
local macro_rules | `(tactic| walk_at "idle 12") => `(tactic| skip)
local macro_rules | `(tactic| walk_at "idle 13") => `(tactic| skip)
local macro_rules | `(tactic| walk_at "idle 14") => `(tactic| skip)
local macro_rules | `(tactic| walk_at "idle 15") => `(tactic| skip)
theorem reset_C7 : True := by
  w_top off
  exact trivial
theorem fill8 : (PySem.Challenge.rw_fp5009_01, hd.heap_39) = (PySem.Challenge.rw_fp5009_01, hd.heap_39) := by
  k_fill
  rfl

theorem strs_values {vs : List Value} {ts : List PySem.Str} (h : StrsAre vs ts) : ∃ l : List (PySem.Str × Tok), vs = strValues l ∧ l.map (·.1) = ts := by
  induction h with
  | nil => exact ⟨[], rfl, rfl⟩
  | cons x t _ ih =>
    obtain ⟨l, e1, e2⟩ := ih
    exact ⟨(x, t) :: l, by rw [e1]; rfl, by rw [← e2]; rfl⟩
theorem join_strs {prog : Program} {w : World} {A : Around} {E : Value → Shared → Prop} {s : Shared} {x : PySem.Str} {t : Tok} {Q : Value → Shared → Prop} {D : Addr} {vs : List Value} {texts : List PySem.Str} {B : Nat}
    (hl : s.heap.IsList D vs.toArray) (hi : StrsAre vs texts) (hB : ∀ y ∈ texts, y.length ≤ B) (hn : texts.length * B + texts.length * x.length ≤ 16777216)
    (h : ∀ (t' : Tok) (k : Nat), Q (.str (Txt.join x texts) t') { s with toks := k }) : wpAny (model prog w) A (call (.builtin "str.join") [.str x t, .ref D]) Q E s := by
  obtain ⟨l, e1, e2⟩ := strs_values hi
  subst e1
  refine SC.join hl e2 ?_ h
  unfold JoinOk
  rw [Bool.not_eq_true']
  exact StrLaws.joinFits hB hn

def lawPlainOne (n : Int) : PySem.Str := PySem.Str.ofString "/" ++ (if 2147483648 ≤ n then numText (n - 2147483648) ++ PySem.Str.ofString "h" else numText n)
def lawPlain (ns : List Int) : PySem.Str := Txt.join (PySem.Str.ofString "") (ns.map lawPlainOne)

theorem plain_one_len {n : Int} (h0 : 0 ≤ n) (h1 : n < 4294967296) : (lawPlainOne n).length ≤ 12 := by
  have e1 : (PySem.Str.ofString "/").length = 1 := by decide
  have e2 : (PySem.Str.ofString "h").length = 1 := by decide
  unfold lawPlainOne numText
  split
  · have := num_room (n := n - 2147483648) (by omega) (by omega)
    rw [Str.length_append, Str.length_append]
    omega
  · have := num_room h0 h1
    rw [Str.length_append]
    omega
local macro_rules | `(tactic| walk_at "eval ListComp") => `(tactic| (k_here; k_dflt (refine LCg.ListComp_U (F₀ := by k_asm) (by rfl) (by decide) (by rfl) (by decide) (by rfl) ?_)))
local macro_rules | `(tactic| walk_at "CompSrc") => `(tactic| (k_here; k_dflt (refine LCg.CompSrc.ledger (by rfl) (by k_asm) (by k_asm) (by assumption) (by assumption) ?_; intro g')))
local macro_rules | `(tactic| walk_at "binaryOp Add str str") => `(tactic| (k_here; (with_reducible show wpAny _ _ (binaryOp Operator.Add (Value.str _ _) (Value.str _ _)) _ _ _); (refine' SBL.add ?_ ?hsz; (case hsz => (rw [PySem.sizeLine_eq]; (try simp only [PySem.Str.length_append, PySem.ofString_length]); omega)); intro _ _ _)))

theorem plain_ok {prog : Program} {w : World} {p : Program} {loose : List Str} {mean : ExcName → Option Value} {mg mb : Str → Option Value}
    {dp un : Nat} {gd : Option (List Code)} {cn : Str} {cs : Scope} {a : Addr} {ccd : Value} {cl : List (Str × Addr)} {outer : List Env} {A₀ : Around} {base h₀ : Heap} {L : Addr} {m : Str → Option Value} {s : Shared} {Q E : Value → Shared → Prop}
    {news : List (Addr × Obj)} {lv : Addr} {vs : List Value} {nn : Nat} {ns : List Int}
    (B : Below A₀ base outer h₀) (F : Fr h₀ L s.heap m) (X : (hd.heap_39 w.params).In h₀) (N : News h₀ L s.heap news) (T : Top p loose mean mg mb h₀) (hk : cs.kind = .function)
    (hd' : dp + 2 < recursionLimit) (hu : un + 16 < cLine) (hm : (lv, listOf vs.toArray nn) ∈ news) (hv : IntsAre vs ns) (hr : ∀ n ∈ ns, 0 ≤ n ∧ n < 4294967296) (hl : ns.length ≤ 63)
    (hret : ∀ (t : Tok) (h' : Heap) (tk' : Nat), Fr h₀ L h' m → News h₀ L h' news → Q (.str (lawPlain ns) t) { s with heap := h', toks := tk' }) :
    wpAny (model prog w) (ktrTop dp un gd cn cs L a ccd cl outer) (call (.ref 122) [.ref lv]) Q E s := by
  have hz : vs.toArray.size ≤ sizeLine := by rw [List.size_toArray, hv.length, sizeLine_eq]; omega
  have hB : ∀ y ∈ ns.map lawPlainOne, y.length ≤ 12 := fun y hy => by
    obtain ⟨n, hn, rfl⟩ := List.mem_map.mp hy
    exact plain_one_len (hr n hn).1 (hr n hn).2
  have hN : (ns.map lawPlainOne).length * 12 + (ns.map lawPlainOne).length * (PySem.Str.ofString "").length ≤ 16777216 := by
    rw [List.length_map, PyProof.Rows.ofString_length]; simp; omega
  refine wpAny_call ?_
  k_dflt cell_enter
  k_steps
  refine comp_strs (ns.map lawPlainOne) (by rw [List.length_map, List.size_toArray, hv.length]) ?_ ?_
  · intro i k v ys I oI C oC D m₂ h tk E' hk9 hv9 hC9 hx9 F9 N9 off9 ne9
    rw [List.getElem?_map] at hk9
    obtain ⟨n, hn9, rfl⟩ := Option.map_eq_some_iff.mp hk9
    obtain ⟨t9, rfl⟩ : ∃ t9, v = .int n t9 := by
      obtain ⟨t9, e9⟩ := hv.get i n hn9
      exact ⟨t9, Option.some.inj ((by simpa using hv9.symm : some v = vs[i]?).trans e9)⟩
    obtain ⟨hn0, hn1⟩ := hr n (List.mem_of_getElem? hn9)
    have e3 := num_room hn0 hn1
    have e4 : 2147483648 ≤ n → (PySem.Str.ofString (toString (n - 2147483648))).length ≤ 10 := fun h => num_room (by omega) (by omega)
    by_cases hh : 2147483648 ≤ n
    · have e5 := e4 hh
      unfold lawPlainOne
      rw [if_pos hh]
      k_steps
      exact LCg.CompEnd.intro (by assumption) (by assumption) _ (fun _ h => h) (by assumption) (Or.inr ⟨_, by assumption, rfl, _, rfl⟩) ⟨rfl, _, rfl⟩
    · unfold lawPlainOne
      rw [if_neg hh]
      k_steps
      exact LCg.CompEnd.intro (by assumption) (by assumption) _ (fun _ h => h) (by assumption) (Or.inr ⟨_, by assumption, rfl, _, rfl⟩) ⟨rfl, _, rfl⟩
  · intro ys hys
    k_steps
    refine join_strs (by is_list) hys hB hN ?_
    intro t9 k9
    k_steps
    exact hret _ _ _ (by k_asm) (by first | assumption | exact cb_drop (by assumption) keepT1)
end Mine
end

section -- G1
open PySem PySem.W PyProof.Rows
namespace Mine
open PySem.Calls

section
variable {prog : Program} {w : World} {A : Around} {E : Value → Shared → Prop} {s : Shared} {h₀ : Heap} {L : Addr} {m : Str → Option Value} {env : Env}

/-- the element stands: the ledger is as it was -/
def ElOk (h₀ : Heap) (L : Addr) (m : Str → Option Value) (s : Shared) (led : List (Addr × Obj)) (acc : Value → Prop) (y : Value) (s₂ : Shared) : Prop :=
  ∃ h' tk, s₂ = { s with heap := h', toks := tk } ∧ Fr h₀ L h' m ∧ News h₀ L h' led ∧ acc y

theorem block_G {elt target iter : PySem.Expr} {scope : Scope} {cl : List (Str × Addr)} {pos : Pos} {s₂ : Shared} {I : Addr} {fp wr : List Addr} {n : Nat} {P Md : Nat → Value → Heap → Prop} {St : Nat → Heap → Prop} {news : List (Addr × Obj)}
    {Pm : Nat → (Str → Option Value) → Prop} {Acc : Nat → List Value → Prop} {RR : Value → Env → Result → Shared → Prop}
    (W : KTurns prog w A target I fp wr n P Md St) (self : ∀ (s : Shared) (Q : Value → Shared → Prop) (E : Value → Shared → Prop), St 0 s.heap → Q (.ref I) s → wpAny (model prog w) A (pyIter (.ref I)) Q E s)
    (hsz : n ≤ sizeLine) (hLf : L ∉ fp) (hwr : ∀ b ∈ wr, h₀.get? b = none) (hnw : ∀ p ∈ news, p.1 ∉ wr)
    (hcell : ∀ y ∈ scope.names, y.2 ≠ .cell) (hkind : scope.kind = .function) (hst : St 0 s₂.heap) (hfp : ∀ b ∈ fp, b < s₂.heap.objs.size)
    (F : Fr h₀ L s₂.heap m) (N : News h₀ L s₂.heap news)
    (hasg : ∀ i v C (m' : Str → Option Value) (s : Shared) (Q : Unit → Shared → Prop) (E : Value → Shared → Prop), P i v s.heap → s.heap.Ns C m' →
      (∀ h' tk m'', h'.Ns C m'' → Pm i m'' → (∀ b o, b ≠ C → s.heap.get? b = some o → h'.get? b = some o) → Q () { s with heap := h', toks := tk }) → wpAny (model prog w) A (assign target (compEnvC scope cl C env) v) Q E s)
    (h0 : Acc 0 [])
    (turn : ∀ i ys C oC D own m₂ h tk, i < n → Acc i ys → Pm i m₂ → LCg.NsObj oC m₂ → Fr h₀ L h m → News h₀ L h (own ++ (C, oC) :: (D, LCg.lst ys) :: news) → (∀ p ∈ news, p.1 ≠ C) →
      wpAny (model prog w) A (eval elt (compEnvC scope cl C env)) (ElOk h₀ L m { s₂ with heap := h, toks := tk } (own ++ (C, oC) :: (D, LCg.lst ys) :: news) fun y => Acc (i + 1) (ys ++ [y]))
        (notedBy (model prog w) A (compEnvC scope cl C env) fun x s' => RR (.ref D) (compEnvC scope cl C env) (.error x) s') { s₂ with heap := h, toks := tk })
    (hRR : ∀ D (cenv : Env) h tk m' ys, cenv.frame = env.frame → Acc n ys → Fr h₀ L h m → News h₀ L h ((D, LCg.lst ys) :: news) → h.Ns cenv.locals m' → h₀.get? cenv.locals = none → h₀.get? D = none → cenv.locals ≠ L → D ≠ L → cenv.locals ≠ D → (∀ p ∈ news, p.1 ≠ cenv.locals) → RR (.ref D) cenv (.ok .next) { s₂ with heap := h, toks := tk }) :
    wpAny (model prog w) A (newList []) (fun acc s₃ => wpAny (model prog w) A (newFunctionEnv scope env.globals cl [] env.qual none .none (some env)) (fun cenv s₄ =>
      codeAny (model prog w) A (.compStart (.ListComp elt [⟨target, iter, [], 0⟩] scope pos) 0 (.ref I) acc { cenv with scope := relabel scope env }) (RR acc { cenv with scope := relabel scope env }) s₄) E s₃) E s₂ := by
  refine wpAny_newObj_type (wpAny_newFunctionEnv hcell (by intro y hy; simp at hy) (fun h₁ hns₁ hsb₁ => ?_) hkind)
  dsimp only at hns₁ hsb₁ ⊢
  generalize hH2 : s₂.heap.push { cls := .type "list", dict := none, data := .seq ([] : List Value).toArray } = H2 at hns₁ hsb₁ ⊢
  have hC : H2.objs.size = s₂.heap.objs.size + 1 := by rw [← hH2, Heap.size_push]
  have hDC : s₂.heap.objs.size ≠ H2.objs.size := by rw [hC]; exact Nat.ne_of_lt (Nat.lt_succ_self _)
  have below : ∀ b, b < s₂.heap.objs.size → b ≠ H2.objs.size ∧ b ≠ s₂.heap.objs.size := fun b hb => ⟨by rw [hC]; exact Nat.ne_of_lt (Nat.lt_succ_of_lt hb), Nat.ne_of_lt hb⟩
  have hDf : s₂.heap.objs.size ∉ fp := fun hm => Nat.lt_irrefl _ (hfp _ hm)
  have hCf : H2.objs.size ∉ fp := fun hm => by have := hfp _ hm; rw [hC] at this; exact Nat.lt_irrefl _ (Nat.lt_of_succ_lt this)
  have hDw : s₂.heap.objs.size ∉ wr := fun hm => hDf (W.sub _ hm)
  have hCw : H2.objs.size ∉ wr := fun hm => hCf (W.sub _ hm)
  have hLw : L ∉ wr := fun hm => hLf (W.sub _ hm)
  have old : ∀ b o, s₂.heap.get? b = some o → h₁.get? b = some o := fun b o e => hsb₁.extBut b o (below b (Heap.lt_size e)).1 (Heap.get?_push_of_some _ (hH2 ▸ Heap.get?_push_of_some _ e))
  have hacc : h₁.get? s₂.heap.objs.size = some (LCg.lst []) := hsb₁.extBut _ _ hDC (Heap.get?_push_of_some _ (hH2 ▸ Heap.get?_push_size _ rfl))
  have hst₁ : St 0 h₁ := W.frame _ _ _ hst fun b _ o e => old b o e
  have fresh : ∀ a, s₂.heap.objs.size ≤ a → s₂.heap.get? a = none := fun a ha => by
    cases e : s₂.heap.get? a with
    | none => rfl
    | some o' => exact absurd (Heap.lt_size e) (Nat.not_lt.mpr ha)
  have fresh₀ : ∀ a, s₂.heap.objs.size ≤ a → h₀.get? a = none := fun a ha => by
    cases e : h₀.get? a with
    | none => rfl
    | some o' => have := F.keep a o' e; rw [fresh a ha] at this; cases this
  have hD₀ : h₀.get? s₂.heap.objs.size = none := fresh₀ _ (Nat.le_refl _)
  have hC₀ : h₀.get? H2.objs.size = none := fresh₀ _ (by rw [hC]; exact Nat.le_succ _)
  have hLlt : L < s₂.heap.objs.size := F.ns.lt
  have hDL : s₂.heap.objs.size ≠ L := Ne.symm (below L hLlt).2
  have hCL : H2.objs.size ≠ L := Ne.symm (below L hLlt).1
  have offN : ∀ p ∈ news, p.1 ≠ H2.objs.size ∧ p.1 ≠ s₂.heap.objs.size := fun p hp => below _ (Heap.lt_size (N p hp).1)
  have old₀ : ∀ b o, h₀.get? b = some o → b ∉ wr := fun b o e hb => by rw [hwr b hb] at e; cases e
  have frw : ∀ {h h' : Heap}, Fr h₀ L h m → (∀ b o, b ∉ wr → h.get? b = some o → h'.get? b = some o) → Fr h₀ L h' m := fun F' hk => ⟨F'.ns.at' fun o e => hk _ o hLw e, fun b o e => hk b o (old₀ b o e) (F'.keep b o e), F'.above⟩
  have loop : ∀ s₃ : Shared, s₃ = { s₂ with heap := h₁, toks := s₂.toks + ([] : List (Str × Value)).length } →
      codeAny (model prog w) A (.compLoop (.ListComp elt [⟨target, iter, [], 0⟩] scope pos) 0 (.ref I) (.ref s₂.heap.objs.size) (compEnvC scope cl H2.objs.size env))
        (RR (.ref s₂.heap.objs.size) (compEnvC scope cl H2.objs.size env)) s₃ := by
    rintro s₃ rfl
    refine kcp_loop
      (fun k s' => ∃ h' tk i ys m', s' = { s₂ with heap := h', toks := tk } ∧ i ≤ n ∧ k = n + 1 - i ∧ ys.length = i ∧ St i h' ∧ Fr h₀ L h' m ∧ h'.Ns H2.objs.size m' ∧ News h₀ L h' ((s₂.heap.objs.size, LCg.lst ys) :: news) ∧ Acc i ys) ?_ (n + 1)
      ⟨h₁, _, 0, [], _, rfl, Nat.zero_le _, rfl, rfl, hst₁, F.keeps old, hns₁, fun p hp => ?_, h0⟩
    · rintro k s' ⟨h', tk, i, ys, m', rfl, hi, rfl, hyl, hst', F', hn', N', hA⟩
      have Nw : ∀ {h'' : Heap}, (∀ b o, b ∉ wr → h'.get? b = some o → h''.get? b = some o) → News h₀ L h'' ((s₂.heap.objs.size, LCg.lst ys) :: news) := fun hk p hp => by
        refine ⟨hk _ _ ?_ (N' p hp).1, (N' p hp).2⟩
        rcases List.mem_cons.mp hp with rfl | hp
        · exact hDw
        · exact hnw p hp
      by_cases hlt : i < n
      · refine W.item i _ _ _ hlt hst' fun v h₂ tk₂ hMd hk₂ => ?_
        refine W.go i v _ _ _ hMd fun h₂' hPv hst₂ hk₂' => ?_
        have hk₃ : ∀ b o, b ∉ wr → h'.get? b = some o → h₂'.get? b = some o := fun b o hb e => hk₂' b o hb (hk₂ b o hb e)
        refine hasg i v H2.objs.size m' _ _ _ hPv (hn'.at' fun o e => hk₃ _ o hCw e) fun h₃ tk₃ m₃ hn₃ hPm hs₃ => ?_
        have hst₃ : St (i + 1) h₃ := W.frame _ _ _ hst₂ fun b hb o e => hs₃ b o (fun q => hCf (q ▸ hb)) e
        obtain ⟨oC, heC, hoC⟩ := LCg.ns_obj hn₃
        have F₂ : Fr h₀ L h₂' m := frw F' hk₃
        have F₃ : Fr h₀ L h₃ m := ⟨F₂.ns.at' fun o e => hs₃ _ o (Ne.symm hCL) e, fun b o e => hs₃ b o (fun q => by rw [q, hC₀] at e; cases e) (F₂.keep b o e), F₂.above⟩
        have N₂ := Nw hk₃
        let own : List (Addr × Obj) := fp.filterMap fun b => if (h₀.get? b).isSome then none else (h₃.get? b).map fun o => (b, o)
        have hown : ∀ p ∈ own, p.1 ∈ fp ∧ h₃.get? p.1 = some p.2 ∧ h₀.get? p.1 = none := fun p hp => by
          obtain ⟨b, hb, e⟩ := List.mem_filterMap.mp hp
          split at e
          · cases e
          · rename_i hn
            obtain ⟨o, ho, e'⟩ := Option.map_eq_some_iff.mp e
            subst e'
            refine ⟨hb, ho, ?_⟩
            cases q : h₀.get? b with
            | none => rfl
            | some x => rw [q] at hn; exact absurd rfl hn
        have ownAll : ∀ b ∈ fp, h₀.get? b = none → ∀ o, h₃.get? b = some o → (b, o) ∈ own := fun b hb hn o ho =>
          List.mem_filterMap.mpr ⟨b, hb, by rw [hn, ho]; rfl⟩
        have N₃ : News h₀ L h₃ (own ++ (H2.objs.size, oC) :: (s₂.heap.objs.size, LCg.lst ys) :: news) := fun p hp => by
          rcases List.mem_append.mp hp with hp | hp
          · exact ⟨(hown p hp).2.1, fun q => hLf (q ▸ (hown p hp).1), (hown p hp).2.2⟩
          · rcases List.mem_cons.mp hp with rfl | hp
            · exact ⟨heC, hCL, hC₀⟩
            · have z := N₂ p hp
              refine ⟨hs₃ _ _ ?_ z.1, z.2⟩
              rcases List.mem_cons.mp hp with rfl | hp
              · exact hDC
              · exact (offN p hp).1
        refine wpAny_mono (turn i ys H2.objs.size oC s₂.heap.objs.size own m₃ h₃ tk₃ hlt hA hPm hoC F₃ N₃ fun p hp => (offN p hp).1) (fun y s₄ h₄ => ?_) fun _ _ e => e
        obtain ⟨h₄, tk₄, rfl, F₄, N₄, hA₄⟩ := h₄
        have zC := (N₄ (H2.objs.size, oC) (List.mem_append_right _ List.mem_cons_self)).1
        have zD := (N₄ (s₂.heap.objs.size, LCg.lst ys) (List.mem_append_right _ (List.mem_cons_of_mem _ List.mem_cons_self))).1
        have hst₄ : St (i + 1) h₄ := W.frame _ _ _ hst₃ fun b hb o e => by
          cases q : h₀.get? b with
          | none => exact (N₄ (b, o) (List.mem_append_left _ (ownAll b hb q o e))).1
          | some o' =>
            have e₃ := F₃.keep b o' q
            rw [e] at e₃
            obtain rfl := Option.some.inj e₃
            exact F₄.keep b o q
        refine append_at (hsz := by show ys.toArray.size ≤ sizeLine; rw [List.size_toArray, hyl]; exact Nat.le_trans hi hsz) zD fun h₅ hs₅ hD₅ => ?_
        refine ⟨n + 1 - (i + 1), by omega, h₅, tk₄, i + 1, ys ++ [y], _, rfl, hlt, rfl, by rw [List.length_append, List.length_singleton, hyl], W.frame _ _ _ hst₄ fun b hb o e => hs₅.extBut b o (fun q => hDf (q ▸ hb)) e, F₄.change hs₅ hDL hD₀,
          (hoC.ns zC).sameBut hs₅ (Ne.symm hDC), fun p hp => ?_, hA₄⟩
        rcases List.mem_cons.mp hp with rfl | hp
        · exact ⟨hD₅.trans (congrArg some (LCg.lst_snoc ys y)), hDL, hD₀⟩
        · have z := N₄ p (List.mem_append_right _ (List.mem_cons_of_mem _ (List.mem_cons_of_mem _ hp)))
          exact ⟨hs₅.extBut _ _ (offN p hp).2 z.1, z.2⟩
      · obtain rfl : i = n := Nat.le_antisymm hi (Nat.not_lt.mp hlt)
        refine W.done _ _ _ hst' fun h₂ tk₂ hk₂ => ?_
        exact hRR _ (compEnvC scope cl H2.objs.size env) h₂ tk₂ _ ys rfl hA (frw F' hk₂) (Nw hk₂) (hn'.at' fun o e => hk₂ _ o hCw e) hC₀ hD₀ hCL hDL (Ne.symm hDC) fun p hp => (offN p hp).1
    · rcases List.mem_cons.mp hp with rfl | hp
      · exact ⟨hacc, hDL, hD₀⟩
      · exact ⟨old _ _ (N p hp).1, (N p hp).2⟩
  exact PySem.codeAny_compStart_list (loop _ rfl) (self _ _ _ hst₁ (loop _ rfl))

/-- a comprehension, its end and its raise -/
def compPostG (M : Model) (A : Around) (E : Value → Shared → Prop) (Q : Value → Shared → Prop) (acc : Value) (cenv : Env) (r : Result) (s' : Shared) : Prop :=
  match r with
  | .ok _ => ∃ m, s'.heap.Ns cenv.locals m ∧ ∀ h', Heap.SameBut cenv.locals s'.heap h' → Q acc { s' with heap := h' }
  | .error x => ∃ m, s'.heap.Ns cenv.locals m ∧ ∀ h', Heap.SameBut cenv.locals s'.heap h' → wpAny M A (PySem.passOn "comprehension.variables-let-go" x cenv : Sem Value) (fun _ _ => False) E { s' with heap := h' }

theorem wpAny_comprehension_G {M : Model} {e : PySem.Expr} {scope : Scope} {pos : Pos} {newAcc first : Sem Value} {g : Comprehension} {gs : List Comprehension} {cl : List (Str × Addr)} {Q : Value → Shared → Prop}
    (hcl : clausesOf e = g :: gs) (hs : ∀ x, foldedSetIterable g.iter env x = pure x) (hclos : closureFor scope env = pure cl)
    (hkind : scope.kind = .function) (hnames : ∀ x ∈ scope.names, x.2 = .local → scope.names.lookup x.1 = some .local)
    (h : wpAny M A first (fun x s₁ => wpAny M A (pyIter x) (fun it s₂ => wpAny M A newAcc (fun acc s₃ =>
      wpAny M A (newFunctionEnv scope env.globals cl [] env.qual none .none (some env)) (fun cenv s₄ =>
        codeAny M A (.compStart e 0 it acc { cenv with scope := relabel scope env }) (compPostG M A E Q acc { cenv with scope := relabel scope env }) s₄) E s₃) E s₂) E s₁) E s) :
    wpAny M A (comprehension e scope env pos newAcc false first none) Q E s := by
  unfold comprehension
  rw [hclos, hcl]
  refine wpAny_bind (wpAny_mono h (fun x s₁ h₁ => wpAny_bind (wpAny_standAt (wpAny_bind (wpAny_of_eq (hs x) (wpAny_bind (wpAny_holding (wpAny_mono h₁ (fun it s₂ h₂ => ?_)
      fun _ _ h' => h'))))))) fun _ _ h' => h')
  simp only [Option.isSome_none, Bool.false_eq_true, if_false]
  refine wpAny_bind (wpAny_mono h₂ (fun acc s₃ h₃ => wpAny_bind (wpAny_pure (wpAny_bind (wpAny_mono h₃ (fun cenv s₄ h₄ => ?_) fun _ _ h' => h')))) fun _ _ h' => h')
  try dsimp only
  have hv : ∀ x ∈ (scope.names.filter fun x => (x.2 == .local || x.2 == .cell) && x.1 != (".0" : Str)).reverse, x.2 = .local →
      Env.kindOf { cenv with scope := relabel scope env } x.1 = some .local := fun x hx hl => lookup_relabel_local (hnames x (List.mem_filter.mp (List.mem_reverse.mp hx)).1 hl)
  refine wpAny_holding (wpAny_bind (wpAny_attempt (wpAny_holding (wpAny_run (codeAny_mono h₄ fun r s' hr => ?_)))))
  cases r with
  | ok f =>
    obtain ⟨m, hn, hr⟩ := hr
    exact wpAny_bind (wpAny_holding (wpAny_comp_letGo (cenv := { cenv with scope := relabel scope env }) hkind _ s' m hv hn fun h' m' _ hs' => wpAny_pure (hr h' hs')))
  | error x =>
    obtain ⟨m, hn, hr⟩ := hr
    exact wpAny_bind (wpAny_holding (wpAny_comp_letGo (cenv := { cenv with scope := relabel scope env }) hkind _ s' m hv hn fun h' m' _ hs' => wpAny_mono (hr h' hs') (fun _ _ f => f.elim) fun _ _ y => y))
end
end Mine
end

section -- Z1
open PySem PySem.W PyProof.Rows
namespace Mine
open PySem.Calls
open Sem (wp)

/-- the parts of a zip over two texts lie apart -/
structure ZA (z TI TO i1 i2 : Addr) : Prop where
  TIz : TI ≠ z
  TOz : TO ≠ z
  i1z : i1 ≠ z
  i2z : i2 ≠ z
  TITO : TI ≠ TO
  TIi1 : TI ≠ i1
  TIi2 : TI ≠ i2
  TOi1 : TO ≠ i1
  TOi2 : TO ≠ i2
  i12 : i1 ≠ i2

abbrev SIt (h : Heap) (a : Addr) (x : PySem.Str) (t : Tok) (i : Nat) : Prop := h.IsStrIter a "str_ascii_iterator" x t i
theorem sit_at {h h' : Heap} {a : Addr} {x : PySem.Str} {t : Tok} {i : Nat} (y : SIt h a x t i) (hk : ∀ o, h.get? a = some o → h'.get? a = some o) : SIt h' a x t i :=
  let ⟨o, ho, r⟩ := y; ⟨o, hk o ho, r⟩

section
variable {prog : Program} {w : World} {A : Around} {E : Value → Shared → Prop} {s : Shared} {x1 x2 : PySem.Str} {t1 t2 : Tok}

theorem zs_next_item {z TI TO i1 i2 : Addr} {k1 k2 c1 c2 : Nat} {a b : Value} {Q : Value → Shared → Prop} (D : ZA z TI TO i1 i2)
    (hz : IsZip s.heap z TI TO .none) (hTI : IsPair s.heap TI (.ref i1) (.ref i2)) (hTO : IsPair s.heap TO a b)
    (h1 : SIt s.heap i1 x1 t1 k1) (h2 : SIt s.heap i2 x2 t2 k2) (hx : x1.cps[k1]? = some c1) (hy : x2.cps[k2]? = some c2)
    (hQ : ∀ h' tk u1 u2, IsZip h' z TI TO (rawInt s.heap.objs.size) → IsPair h' TO (.str ⟨#[c1]⟩ u1) (.str ⟨#[c2]⟩ u2) → SIt h' i1 x1 t1 (k1 + 1) → SIt h' i2 x2 t2 (k2 + 1) → IsPair h' s.heap.objs.size (.str ⟨#[c1]⟩ u1) (.str ⟨#[c2]⟩ u2) → h'.objs.size = s.heap.objs.size + 1 →
      (∀ c o, c ≠ z → c ≠ TO → c ≠ i1 → c ≠ i2 → s.heap.get? c = some o → h'.get? c = some o) → Q (.ref s.heap.objs.size) { s with heap := h', toks := tk }) :
    wpAny (model prog w) A (Builtin.«zip.__next__» ⟨[.ref z], []⟩) (fun fin s' => ∃ v, fin = .done (.ret v) ∧ Q v s') E s := by
  show wpAny _ _ (field (.ref z) 2 >>= _) _ _ _
  refine wpAny_bind (wpAny_field hz rfl (x := .bool false) rfl ?_)
  show wpAny _ _ (field (.ref z) 3 >>= _) _ _ _
  refine wpAny_bind (wpAny_field hz rfl (x := .ref TI) rfl ?_)
  refine wpAny_bind (wpAny_seqItems hTI rfl ?_)
  show wpAny _ _ (Builtin.SmallTypes.ownedTupleIsFree (.ref z) >>= _) _ _ _
  refine wpAny_bind ?_
  unfold Builtin.SmallTypes.ownedTupleIsFree
  refine wpAny_bind (wpAny_field hz rfl (x := .none) rfl (wpAny_pure ?_))
  simp only [if_true]
  refine wpAny_bind (wpAny_rule ?_)
  refine wpAny_bind (wpAny_field hz rfl (x := .ref TO) rfl ?_)
  refine wpAny_bind (wpAny_setField_rec hz (by simp) fun h₁ hz₁ hs₁ => ?_)
  replace hz₁ : IsZip h₁ z TI TO .ellipsis := hz₁
  refine wpAny_bind ?_
  simp only [List.zipIdx_cons, List.zipIdx_nil, List.forIn_cons, List.forIn_nil]

  refine wpAny_bind (wpAny_bind (wpAny_onRaise ?_))
  show wpAny _ _ (Builtin.SmallTypes.nextOf (.ref i1) >>= _) _ _ _
  refine wpAny_bind (wpAny_nextOf_ascii_item (h1.extBut hs₁.extBut D.i1z) hx fun h₂ h1₂ hs₂ => wpAny_pure ?_)
  have hTO₂ : IsPair h₂ TO a b := hs₂.extBut _ _ D.TOi1 (hs₁.extBut _ _ D.TOz hTO)
  refine wpAny_bind (wpAny_seqItems hTO₂ rfl ?_)
  refine wpAny_bind (wpAny_updateSeq_pair hTO₂ fun h₃ hTO₃ hs₃ => ?_)
  replace hTO₃ : IsPair h₃ TO (.str ⟨#[c1]⟩ s.toks) b := hTO₃
  refine wpAny_bind (wpAny_letGo (wpAny_pure ?_))

  refine wpAny_bind (wpAny_bind (wpAny_onRaise ?_))
  show wpAny _ _ (Builtin.SmallTypes.nextOf (.ref i2) >>= _) _ _ _
  refine wpAny_bind (wpAny_nextOf_ascii_item (((h2.extBut hs₁.extBut D.i2z).extBut hs₂.extBut D.i12.symm).extBut hs₃.extBut D.TOi2.symm) hy fun h₄ h2₄ hs₄ => wpAny_pure ?_)
  have hTO₄ : IsPair h₄ TO (.str ⟨#[c1]⟩ s.toks) b := hs₄.extBut _ _ D.TOi2 hTO₃
  refine wpAny_bind (wpAny_seqItems hTO₄ rfl ?_)
  refine wpAny_bind (wpAny_updateSeq_pair hTO₄ fun h₅ hTO₅ hs₅ => ?_)
  replace hTO₅ : IsPair h₅ TO (.str ⟨#[c1]⟩ s.toks) (.str ⟨#[c2]⟩ (s.toks + 1)) := hTO₅
  refine wpAny_bind (wpAny_letGo (wpAny_pure (wpAny_pure ?_)))

  refine wpAny_bind (wpAny_seqItems hTO₅ rfl ?_)
  refine wpAny_bind (wpAny_newTuple ?_)
  have hsz : h₅.objs.size = s.heap.objs.size := by rw [hs₅.1, hs₄.1, hs₃.1, hs₂.1, hs₁.1]
  have hz₅ : IsZip h₅ z TI TO .ellipsis := hs₅.extBut _ _ D.TOz.symm (hs₄.extBut _ _ D.i2z.symm (hs₃.extBut _ _ D.TOz.symm (hs₂.extBut _ _ D.i1z.symm hz₁)))
  have hk₅ : ∀ c o, c ≠ z → c ≠ TO → c ≠ i1 → c ≠ i2 → s.heap.get? c = some o → h₅.get? c = some o := fun c o c1 c2 c3 c4 e =>
    hs₅.extBut _ _ c2 (hs₄.extBut _ _ c4 (hs₃.extBut _ _ c2 (hs₂.extBut _ _ c3 (hs₁.extBut _ _ c1 e))))
  have h1₅ : SIt h₅ i1 x1 t1 (k1 + 1) := ((h1₂.extBut hs₃.extBut D.TOi1.symm).extBut hs₄.extBut D.i12).extBut hs₅.extBut D.TOi1.symm
  have h2₅ : SIt h₅ i2 x2 t2 (k2 + 1) := h2₄.extBut hs₅.extBut D.TOi2.symm
  have hzlt : z < h₅.objs.size := Heap.lt_size hz₅
  show wpAny _ _ (Builtin.SmallTypes.ownedTupleHandOut (.ref z) (.ref h₅.objs.size) >>= _) _ _ _
  refine wpAny_bind ?_
  unfold Builtin.SmallTypes.ownedTupleHandOut
  have hz₆ : IsZip (h₅.push { cls := .type "tuple", data := .seq #[.str ⟨#[c1]⟩ s.toks, .str ⟨#[c2]⟩ (s.toks + 1)] }) z TI TO .ellipsis := Heap.get?_push_of_some _ hz₅
  refine wpAny_bind (wpAny_setField_rec hz₆ (by simp) fun h₇ hz₇ hs₇ => ?_)
  replace hz₇ : IsZip h₇ z TI TO (rawInt h₅.objs.size) := hz₇
  refine wpAny_setField_rec hz₇ (by simp) fun h₈ hz₈ hs₈ => ?_
  replace hz₈ : IsZip h₈ z TI TO (rawInt h₅.objs.size) := hz₈
  have up : ∀ c o, c ≠ z → h₅.get? c = some o → h₈.get? c = some o := fun c o c1 e => hs₈.extBut _ _ c1 (hs₇.extBut _ _ c1 (Heap.get?_push_of_some _ e))
  have hT₈ : IsPair h₈ h₅.objs.size (.str ⟨#[c1]⟩ s.toks) (.str ⟨#[c2]⟩ (s.toks + 1)) := hs₈.extBut _ _ (Nat.ne_of_gt hzlt) (hs₇.extBut _ _ (Nat.ne_of_gt hzlt) (Heap.get?_push_size _ rfl))
  have hz8 : h₈.objs.size = h₅.objs.size + 1 := by rw [hs₈.1, hs₇.1, Heap.size_push]
  rw [hsz] at hz₈ hT₈ hz8
  refine wpAny_pure ⟨_, rfl, ?_⟩
  show Q (.ref h₅.objs.size) _
  rw [hsz]
  exact hQ h₈ _ _ _ hz₈ (up _ _ D.TOz hTO₅) (sit_at h1₅ fun o e => up _ o D.i1z e) (sit_at h2₅ fun o e => up _ o D.i2z e) hT₈ hz8 fun c o c1 c2 c3 c4 e => up c o c1 (hk₅ c o c1 c2 c3 c4 e)

theorem zs_next_end {z TI TO i1 i2 : Addr} {k1 k2 : Nat} {a b : Value} {Q : Fin → Shared → Prop} (hh : A.handled = none) (D : ZA z TI TO i1 i2)
    (hz : IsZip s.heap z TI TO .none) (hTI : IsPair s.heap TI (.ref i1) (.ref i2)) (hTO : IsPair s.heap TO a b)
    (h1 : SIt s.heap i1 x1 t1 k1) (h2 : SIt s.heap i2 x2 t2 k2) (hend : x1.cps[k1]? = none ∨ x2.cps[k2]? = none)
    (hE : ∀ h' e tk, (∀ c o, c ≠ z → c ≠ TO → c ≠ i1 → c ≠ i2 → s.heap.get? c = some o → h'.get? c = some o) → (∃ o, h'.get? e = some o ∧ o.cls = .type "StopIteration") → E (.ref e) { s with heap := h', toks := tk }) :
    wpAny (model prog w) A (Builtin.«zip.__next__» ⟨[.ref z], []⟩) Q E s := by
  show wpAny _ _ (field (.ref z) 2 >>= _) _ _ _
  refine wpAny_bind (wpAny_field hz rfl (x := .bool false) rfl ?_)
  show wpAny _ _ (field (.ref z) 3 >>= _) _ _ _
  refine wpAny_bind (wpAny_field hz rfl (x := .ref TI) rfl ?_)
  refine wpAny_bind (wpAny_seqItems hTI rfl ?_)
  show wpAny _ _ (Builtin.SmallTypes.ownedTupleIsFree (.ref z) >>= _) _ _ _
  refine wpAny_bind ?_
  unfold Builtin.SmallTypes.ownedTupleIsFree
  refine wpAny_bind (wpAny_field hz rfl (x := .none) rfl (wpAny_pure ?_))
  simp only [if_true]
  refine wpAny_bind (wpAny_rule ?_)
  refine wpAny_bind (wpAny_field hz rfl (x := .ref TO) rfl ?_)
  refine wpAny_bind (wpAny_setField_rec hz (by simp) fun h₁ hz₁ hs₁ => ?_)
  replace hz₁ : IsZip h₁ z TI TO .ellipsis := hz₁
  refine wpAny_bind ?_
  simp only [List.zipIdx_cons, List.zipIdx_nil, List.forIn_cons, List.forIn_nil]
  refine wpAny_bind (wpAny_bind (wpAny_onRaise ?_))
  show wpAny _ _ (Builtin.SmallTypes.nextOf (.ref i1) >>= _) _ _ _
  cases hx : x1.cps[k1]? with
  | none =>
    refine wpAny_bind (wpAny_nextOf_ascii_end hh (h1.extBut hs₁.extBut D.i1z) hx fun h₂ e hs₂ he => ?_)
    obtain ⟨oe, hoe, hce⟩ := he
    have hz₂ : IsZip h₂ z TI TO .ellipsis := hs₂ _ _ D.i1z.symm hz₁
    have hez : e ≠ z := fun x => by subst x; rw [hz₂] at hoe; cases hoe; simp at hce
    refine wpAny_setField_rec hz₂ (by simp) fun h₃ _ hs₃ => hE h₃ e _ (fun c o c1 _ c3 _ x => hs₃.extBut _ _ c1 (hs₂ _ _ c3 (hs₁.extBut _ _ c1 x))) ⟨oe, hs₃.extBut _ _ hez hoe, hce⟩
  | some x =>
    have hy : x2.cps[k2]? = none := by rcases hend with h | h; rw [hx] at h; cases h; exact h
    refine wpAny_bind (wpAny_nextOf_ascii_item (h1.extBut hs₁.extBut D.i1z) hx fun h₂ h1₂ hs₂ => wpAny_pure ?_)
    have hTO₂ : IsPair h₂ TO a b := hs₂.extBut _ _ D.TOi1 (hs₁.extBut _ _ D.TOz hTO)
    refine wpAny_bind (wpAny_seqItems hTO₂ rfl ?_)
    refine wpAny_bind (wpAny_updateSeq_pair hTO₂ fun h₃ hTO₃ hs₃ => ?_)
    refine wpAny_bind (wpAny_letGo (wpAny_pure ?_))
    refine wpAny_bind (wpAny_bind (wpAny_onRaise ?_))
    show wpAny _ _ (Builtin.SmallTypes.nextOf (.ref i2) >>= _) _ _ _
    refine wpAny_bind (wpAny_nextOf_ascii_end hh (((h2.extBut hs₁.extBut D.i2z).extBut hs₂.extBut D.i12.symm).extBut hs₃.extBut D.TOi2.symm) hy fun h₄ e hs₄ he => ?_)
    obtain ⟨oe, hoe, hce⟩ := he
    have hz₄ : IsZip h₄ z TI TO .ellipsis := hs₄ _ _ D.i2z.symm (hs₃.extBut _ _ D.TOz.symm (hs₂.extBut _ _ D.i1z.symm hz₁))
    have hez : e ≠ z := fun x => by subst x; rw [hz₄] at hoe; cases hoe; simp at hce
    refine wpAny_setField_rec hz₄ (by simp) fun h₅ _ hs₅ => hE h₅ e _ (fun c o c1 c2 c3 c4 x => hs₅.extBut _ _ c1 (hs₄ _ _ c4 (hs₃.extBut _ _ c2 (hs₂.extBut _ _ c3 (hs₁.extBut _ _ c1 x))))) ⟨oe, hs₅.extBut _ _ hez hoe, hce⟩

theorem walks_zs (hh : A.handled = none) (z TI TO i1 i2 : Addr) (D : ZA z TI TO i1 i2) (x1 x2 : PySem.Str) (t1 t2 : Tok) :
    WalksU prog w A z [z, TI, TO, i1, i2] [z, TO, i1, i2] (min x1.length x2.length)
      (fun i vals => ∃ c1 c2 u1 u2, x1.cps[i]? = some c1 ∧ x2.cps[i]? = some c2 ∧ vals = #[.str ⟨#[c1]⟩ u1, .str ⟨#[c2]⟩ u2])
      (fun i h => IsZip h z TI TO .none ∧ IsPair h TI (.ref i1) (.ref i2) ∧ (∃ a b, IsPair h TO a b) ∧ SIt h i1 x1 t1 i ∧ SIt h i2 x2 t2 i)
      (fun i T h => IsZip h z TI TO (rawInt T) ∧ IsPair h TI (.ref i1) (.ref i2) ∧ (∃ a b, IsPair h TO a b) ∧ SIt h i1 x1 t1 (i + 1) ∧ SIt h i2 x2 t2 (i + 1) ∧
        T ≠ z ∧ T ≠ TO ∧ T ≠ i1 ∧ T ≠ i2) where
  sub := fun c hc => by simp at hc ⊢; rcases hc with rfl | rfl | rfl | rfl <;> simp
  frame := fun i h h' hst hk => by
    obtain ⟨hz, hTI, ⟨a, b, hTO⟩, h1, h2⟩ := hst
    exact ⟨hk z (by simp) _ hz, hk TI (by simp) _ hTI, ⟨a, b, hk TO (by simp) _ hTO⟩, sit_at h1 fun o e => hk i1 (by simp) o e, sit_at h2 fun o e => hk i2 (by simp) o e⟩
  item := fun i s Q E hi hst hQ => by
    obtain ⟨hz, hTI, ⟨a, b, hTO⟩, h1, h2⟩ := hst
    have hix : i < x1.cps.size := Nat.lt_of_lt_of_le hi (Nat.min_le_left ..)
    have hiy : i < x2.cps.size := Nat.lt_of_lt_of_le hi (Nat.min_le_right ..)
    have hT : s.TypeIs (.ref z) "zip" := ⟨_, hz, rfl⟩
    unfold pyNext
    refine wpAny_bind (wpAny_attempt (wpAny_callSpecial?_slot (name := PySem.Str.ofString "__next__") hT PySem.F.slot_zip_next
      (wpAny_call_entry PySem.F.slot_zip_next hT PySem.F.entry_zip_next
        (zs_next_item D hz hTI hTO h1 h2 (Array.getElem?_eq_getElem hix) (Array.getElem?_eq_getElem hiy) fun h' tk u1 u2 a1 a2 a3 a4 a5 a6 hk => wpAny_pure ?_) (PySem.F.args_zip_next_1 _))))
    have lt : ∀ {c o}, s.heap.get? c = some o → s.heap.objs.size ≠ c := fun e => Nat.ne_of_gt (Heap.lt_size e)
    exact hQ s.heap.objs.size _ h' tk ⟨_, _, u1, u2, Array.getElem?_eq_getElem hix, Array.getElem?_eq_getElem hiy, rfl⟩ ⟨_, a5, rfl, _, rfl⟩
      ⟨a1, hk _ _ D.TIz D.TITO D.TIi1 D.TIi2 hTI, ⟨_, _, a2⟩, a3, a4,
        lt hz, lt hTO, (by obtain ⟨_, e, _⟩ := h1; exact lt e), (by obtain ⟨_, e, _⟩ := h2; exact lt e)⟩
      fun c o hc e => hk c o (fun x => hc (by simp [x])) (fun x => hc (by simp [x])) (fun x => hc (by simp [x])) (fun x => hc (by simp [x])) e
  go := fun elts k pos i T s Q E hm hQ => by
    obtain ⟨hz, hTI, ⟨a, b, hTO⟩, h1, h2, _⟩ := hm
    refine wpAny_letOwnedTupleGo_zip hz fun h' hz' hs' => hQ h' ⟨hz', hs'.extBut _ _ D.TIz hTI, ⟨a, b, hs'.extBut _ _ D.TOz hTO⟩, h1.extBut hs'.extBut D.i1z, h2.extBut hs'.extBut D.i2z⟩ fun c o hc e => hs'.extBut _ _ (fun x => hc (by simp [x])) e
  apart := fun i T h hm hT => by
    obtain ⟨_, _, _, _, _, t1, t2, t3, t4⟩ := hm
    simp at hT
    rcases hT with rfl | rfl | rfl | rfl
    · exact t1 rfl
    · exact t2 rfl
    · exact t3 rfl
    · exact t4 rfl
  done := fun s Q E hst hQ => by
    obtain ⟨hz, hTI, ⟨a, b, hTO⟩, h1, h2⟩ := hst
    have hend : x1.cps[min x1.length x2.length]? = none ∨ x2.cps[min x1.length x2.length]? = none := by
      rcases Nat.le_total x1.length x2.length with h | h
      · exact .inl (by rw [Nat.min_eq_left h]; exact Array.getElem?_eq_none (Nat.le_refl _))
      · exact .inr (by rw [Nat.min_eq_right h]; exact Array.getElem?_eq_none (Nat.le_refl _))
    have hT : s.TypeIs (.ref z) "zip" := ⟨_, hz, rfl⟩
    unfold pyNext
    refine wpAny_bind (wpAny_attempt (wpAny_callSpecial?_slot (name := PySem.Str.ofString "__next__") hT PySem.F.slot_zip_next
      (wpAny_call_entry PySem.F.slot_zip_next hT PySem.F.entry_zip_next (zs_next_end hh D hz hTI hTO h1 h2 hend fun h' e tk hk he => ?_) (PySem.F.args_zip_next_1 _))))
    obtain ⟨o, ho, hc⟩ := he
    refine wpAny_bind (wpAny_isInstance (T := "StopIteration") (b := true) ⟨o, ho, hc⟩ isSubtype_stop ?_)
    exact wpAny_pure (hQ h' tk fun c o hc e => hk c o (fun x => hc (by simp [x])) (fun x => hc (by simp [x])) (fun x => hc (by simp [x])) (fun x => hc (by simp [x])) e)
  self := fun i s Q E hst hQ => wpAny_pyIter_zip hst.1 hQ

abbrev zsI (x : PySem.Str) (t : Tok) : Obj := { cls := .type "str_ascii_iterator", data := .fields #[.str x t, .int 0 0] }
abbrev zsH1 (h : Heap) (x1 : PySem.Str) (t1 : Tok) : Heap := h.push (zsI x1 t1)
abbrev zsH2 (h : Heap) (x1 x2 : PySem.Str) (t1 t2 : Tok) : Heap := (zsH1 h x1 t1).push (zsI x2 t2)
abbrev zsH3 (h : Heap) (x1 x2 : PySem.Str) (t1 t2 : Tok) : Heap := (zsH2 h x1 x2 t1 t2).push { cls := .type "tuple", data := .seq #[.ref h.objs.size, .ref (zsH1 h x1 t1).objs.size] }
abbrev zsH4 (h : Heap) (x1 x2 : PySem.Str) (t1 t2 : Tok) : Heap := (zsH3 h x1 x2 t1 t2).push { cls := .type "tuple", data := .seq #[.none, .none] }
abbrev zsH5 (h : Heap) (x1 x2 : PySem.Str) (t1 t2 : Tok) : Heap := (zsH4 h x1 x2 t1 t2).push { cls := .type "zip", data := .fields #[.none, .bool false, .bool false, .ref (zsH2 h x1 x2 t1 t2).objs.size, .ref (zsH3 h x1 x2 t1 t2).objs.size] }

set_option maxHeartbeats 8000000 in
theorem meets_zs_new (x1 x2 : PySem.Str) (t1 t2 : Tok) (ha1 : x1.cps.all (· < 128) = true) (ha2 : x2.cps.all (· < 128) = true) :
    Meets (Builtin.«zip.__new__» ⟨[.type "zip", .str x1 t1, .str x2 t2], []⟩) (fun _ R s =>
      R (.ok (.ret (.ref (zsH4 s.heap x1 x2 t1 t2).objs.size))) { s with heap := zsH5 s.heap x1 x2 t1 t2 }) :=
  .of_wp fun prog w A R s h => by
    obtain ⟨hp, g, d, tk, os⟩ := s
    have hsub := sub_zip
    wp_walk using wpAny_pyIter_ascii ha1, wpAny_pyIter_ascii ha2
    exact ⟨_, rfl, h⟩

theorem call_zs {Q : Value → Shared → Prop} (ha1 : x1.cps.all (· < 128) = true) (ha2 : x2.cps.all (· < 128) = true)
    (h : ∀ h', IsZip h' (s.heap.objs.size + 4) (s.heap.objs.size + 2) (s.heap.objs.size + 3) .none → IsPair h' (s.heap.objs.size + 2) (.ref s.heap.objs.size) (.ref (s.heap.objs.size + 1)) →
      IsPair h' (s.heap.objs.size + 3) .none .none → SIt h' s.heap.objs.size x1 t1 0 → SIt h' (s.heap.objs.size + 1) x2 t2 0 → h'.objs.size = s.heap.objs.size + 5 →
      (∀ c o, s.heap.get? c = some o → h'.get? c = some o) → Q (.ref (s.heap.objs.size + 4)) { s with heap := h' }) :
    wpAny (model prog w) A (call (.type "zip") [.str x1 t1, .str x2 t2]) Q E s := by
  refine callType_new PySem.F.called_zip (by decide) (PySem.F.typeCall_zip_2 _ _) (PySem.F.newCall_zip_2 _ _) (fun obj => PySem.F.args_object_init_3 obj _ _) PySem.F.entry_zip_new
    (meets_zs_new x1 x2 t1 t2 ha1 ha2) ?_
  have z1 : (zsH1 s.heap x1 t1).objs.size = s.heap.objs.size + 1 := Heap.size_push ..
  have z2 : (zsH2 s.heap x1 x2 t1 t2).objs.size = s.heap.objs.size + 2 := by rw [Heap.size_push, z1]
  have z3 : (zsH3 s.heap x1 x2 t1 t2).objs.size = s.heap.objs.size + 3 := by rw [Heap.size_push, z2]
  have z4 : (zsH4 s.heap x1 x2 t1 t2).objs.size = s.heap.objs.size + 4 := by rw [Heap.size_push, z3]
  have z5 : (zsH5 s.heap x1 x2 t1 t2).objs.size = s.heap.objs.size + 5 := by rw [Heap.size_push, z4]
  have g5 : (zsH5 s.heap x1 x2 t1 t2).get? (zsH4 s.heap x1 x2 t1 t2).objs.size = some _ := Heap.get?_push_size _ rfl
  have g4 : (zsH5 s.heap x1 x2 t1 t2).get? (zsH3 s.heap x1 x2 t1 t2).objs.size = some _ := Heap.get?_push_of_some _ (Heap.get?_push_size _ rfl)
  have g3 : (zsH5 s.heap x1 x2 t1 t2).get? (zsH2 s.heap x1 x2 t1 t2).objs.size = some _ := Heap.get?_push_of_some _ (Heap.get?_push_of_some _ (Heap.get?_push_size _ rfl))
  have g2 : (zsH5 s.heap x1 x2 t1 t2).get? (zsH1 s.heap x1 t1).objs.size = some _ := Heap.get?_push_of_some _ (Heap.get?_push_of_some _ (Heap.get?_push_of_some _ (Heap.get?_push_size _ rfl)))
  have g1 : (zsH5 s.heap x1 x2 t1 t2).get? s.heap.objs.size = some _ := Heap.get?_push_of_some _ (Heap.get?_push_of_some _ (Heap.get?_push_of_some _ (Heap.get?_push_of_some _ (Heap.get?_push_size _ rfl))))
  show _ ∧ _
  rw [z2, z3, z4] at g5
  rw [z1, z2] at g3
  rw [z3] at g4
  rw [z1] at g2
  rw [z4]
  exact ⟨⟨_, g5, rfl⟩, h _ g5 g3 g4 ⟨_, g1, rfl, rfl⟩ ⟨_, g2, rfl, rfl⟩ z5 fun c o x =>
    Heap.get?_push_of_some _ (Heap.get?_push_of_some _ (Heap.get?_push_of_some _ (Heap.get?_push_of_some _ (Heap.get?_push_of_some _ x))))⟩
end
end Mine
end

section -- G2
open PySem PySem.W PyProof.Rows
namespace Mine
open PySem.Calls

/-- a comprehension from its source on -/
def CompGo (prog : Program) (w : World) (A : Around) (E : Value → Shared → Prop) (env : Env) (e : PySem.Expr) (scope : Scope) (cl : List (Str × Addr)) (post : Value → Env → Result → Shared → Prop) (xv : Value) (s₁ : Shared) : Prop :=
  wpAny (model prog w) A (pyIter xv) (fun it s₂ => wpAny (model prog w) A (newList []) (fun acc s₃ => wpAny (model prog w) A (newFunctionEnv scope env.globals cl [] env.qual none .none (some env)) (fun cenv s₄ =>
    codeAny (model prog w) A (.compStart e 0 it acc { cenv with scope := relabel scope env }) (post acc { cenv with scope := relabel scope env }) s₄) E s₃) E s₂) E s₁

section
variable {prog : Program} {w : World} {A : Around} {E : Value → Shared → Prop} {s : Shared} {h₀ : Heap} {L : Addr} {m : Str → Option Value} {env : Env}

theorem ListComp_go {elt target iter : PySem.Expr} {scope : Scope} {cl : List (Str × Addr)} {pos : Pos} {Q : Value → Shared → Prop}
    (hclos : closureFor scope env = pure cl) (hkind : scope.kind = .function) (hnames : ∀ y ∈ scope.names, y.2 = .local → scope.names.lookup y.1 = some .local)
    (h : wpAny (model prog w) A (eval iter env) (CompGo prog w A E env (.ListComp elt [⟨target, iter, [], 0⟩] scope pos) scope cl (compPostG (model prog w) A E Q)) E s)
    (hs : ∀ x, foldedSetIterable iter env x = pure x := by intro _; rfl) :
    wpAny (model prog w) A (eval (.ListComp elt [⟨target, iter, [], 0⟩] scope pos) env) Q E s := by
  rw [eval_ListComp]
  exact wpAny_comprehension_G rfl hs hclos hkind hnames h

theorem Assign_go {elt target iter : PySem.Expr} {y : Str} {py : Pos} {scope : Scope} {cl : List (Str × Addr)} {pos spos : Pos} {Q : Flow → Shared → Prop}
    (hsw : swapsWith (.ListComp elt [⟨target, iter, [], 0⟩] scope pos) (some (.Name y py)) spos.line env = pure true)
    (hclos : closureFor scope env = pure cl) (hkind : scope.kind = .function) (hnames : ∀ z ∈ scope.names, z.2 = .local → scope.names.lookup z.1 = some .local)
    (h : wpAny (model prog w) A (eval iter env) (CompGo prog w A E env (.ListComp elt [⟨target, iter, [], 0⟩] scope pos) scope cl (fun acc cenv => compPost (model prog w) A E (some (assign (.Name y py) env)) (fun _ s' => Q .next s') acc cenv.locals)) E s)
    (hs : ∀ x, foldedSetIterable iter env x = pure x := by intro _; rfl) :
    wpAny (model prog w) A (exec (.Assign [.Name y py] (.ListComp elt [⟨target, iter, [], 0⟩] scope pos) spos) env) Q E s := by
  rw [exec_Assign_Name_used _ _ _ _ hsw]
  refine wpAny_bind (wpAny_standAt (wpAny_bind ?_))
  show wpAny _ A (do let _ ← comprehension (.ListComp elt [⟨target, iter, [], 0⟩] scope pos) scope env _ (newList []) false (eval iter env) (some (assign (.Name y py) env))) _ _ s
  exact wpAny_bind (wpAny_mono (wpAny_comprehension_free (use := some (assign (.Name y py) env)) (Q := fun _ s' => Q .next s') rfl hs hclos hkind hnames h) (fun _ s' hq => wpAny_pure (wpAny_pure hq)) fun _ _ e => e)

/-- the end of a comprehension whose list is the value -/
theorem post_value {D : Addr} {cenv : Env} {h : Heap} {tk : Nat} {m' : Str → Option Value} {ys : List Value} {news : List (Addr × Obj)} {Q : Value → Shared → Prop} {s₂ : Shared}
    (F : Fr h₀ L h m) (N : News h₀ L h ((D, LCg.lst ys) :: news)) (hn : h.Ns cenv.locals m') (hC₀ : h₀.get? cenv.locals = none) (hCL : cenv.locals ≠ L) (hCD : cenv.locals ≠ D) (off : ∀ p ∈ news, p.1 ≠ cenv.locals)
    (fin : ∀ h tk, Fr h₀ L h m → News h₀ L h ((D, LCg.lst ys) :: news) → Q (.ref D) { s₂ with heap := h, toks := tk }) :
    compPostG (model prog w) A E Q (.ref D) cenv (.ok .next) { s₂ with heap := h, toks := tk } := by
  refine ⟨m', hn, fun h'' hs'' => fin h'' tk (F.change hs'' hCL hC₀) fun p hp => ?_⟩
  refine ⟨hs''.extBut _ _ ?_ (N p hp).1, (N p hp).2⟩
  rcases List.mem_cons.mp hp with rfl | hp
  · exact Ne.symm hCD
  · exact off p hp

/-- the end of a comprehension whose list is bound to a name -/
theorem post_name {D : Addr} {cenv : Env} {h : Heap} {tk : Nat} {m' : Str → Option Value} {ys : List Value} {news : List (Addr × Obj)} {Q : Flow → Shared → Prop} {s₂ : Shared} {y : Str} {py : Pos} (hLe : env.locals = L)
    (hy : env.kindOf y = some .local) (hp : (env.scope.kind == .class || (env.scope.kind == .module && env.locals != env.globals)) = false)
    (F : Fr h₀ L h m) (N : News h₀ L h ((D, LCg.lst ys) :: news)) (hn : h.Ns cenv.locals m') (hC₀ : h₀.get? cenv.locals = none) (hCL : cenv.locals ≠ L) (hCD : cenv.locals ≠ D) (off : ∀ p ∈ news, p.1 ≠ cenv.locals)
    (fin : ∀ h tk, Fr h₀ L h (fun z => if z = y then some (.ref D) else m z) → News h₀ L h ((D, LCg.lst ys) :: news) → Q .next { s₂ with heap := h, toks := tk }) :
    compPost (model prog w) A E (some (assign (.Name y py) env)) (fun _ s' => Q .next s') (.ref D) cenv.locals (.ok .next) { s₂ with heap := h, toks := tk } := by
  subst hLe
  show wpAny _ A (assign (.Name y py) env (.ref D)) _ _ _
  refine wpAny_assign_Name (wpAny_storeName_local hy F.ns (fun h₂ hn₂ hs₂ => ?_) hp)
  refine ⟨m', hn.sameBut hs₂ hCL, fun h₃ hs₃ => ?_⟩
  refine fin h₃ _ ((F.set hn₂ hs₂).change hs₃ hCL hC₀) fun p hp => ?_
  refine ⟨hs₃.extBut _ _ ?_ (hs₂.extBut _ _ (N p hp).2.1 (N p hp).1), (N p hp).2⟩
  rcases List.mem_cons.mp hp with rfl | hp
  · exact Ne.symm hCD
  · exact off p hp

/-- over octets -/
theorem bytes_go {elt iter : PySem.Expr} {x : Str} {px : Pos} {scope : Scope} {cl : List (Str × Addr)} {pos : Pos} {b : Array UInt8} {t : Tok} {news : List (Addr × Obj)} {Acc : Nat → List Value → Prop} {post : Value → Env → Result → Shared → Prop}
    (hcell : ∀ y ∈ scope.names, y.2 ≠ .cell) (hkind : scope.kind = .function) (hx : scope.names.lookup x = some .local)
    (hh : A.handled = none) (hsz : b.size ≤ sizeLine) (F : Fr h₀ L s.heap m) (N : News h₀ L s.heap news) (h0 : Acc 0 [])
    (turn : ∀ i ys C oC D own m₂ h tk (c : UInt8) (u : Tok) (E' : Value → Shared → Prop), b[i]? = some c → Acc i ys → m₂ x = some (.int (c.toNat : Int) u) → LCg.NsObj oC m₂ → Fr h₀ L h m → News h₀ L h (own ++ (C, oC) :: (D, LCg.lst ys) :: news) → (∀ p ∈ news, p.1 ≠ C) →
      wpAny (model prog w) A (eval elt (compEnvC scope cl C env)) (ElOk h₀ L m { s with heap := h, toks := tk } (own ++ (C, oC) :: (D, LCg.lst ys) :: news) fun y => Acc (i + 1) (ys ++ [y])) E' { s with heap := h, toks := tk })
    (hRR : ∀ D (cenv : Env) h tk m' ys, cenv.frame = env.frame → Acc b.size ys → Fr h₀ L h m → News h₀ L h ((D, LCg.lst ys) :: news) → h.Ns cenv.locals m' → h₀.get? cenv.locals = none → h₀.get? D = none → cenv.locals ≠ L → D ≠ L → cenv.locals ≠ D → (∀ p ∈ news, p.1 ≠ cenv.locals) → post (.ref D) cenv (.ok .next) { s with heap := h, toks := tk }) :
    CompGo prog w A E env (.ListComp elt [⟨.Name x px, iter, [], 0⟩] scope pos) scope cl post (.bytes b t) s := by
  refine KBw.pyIter_bytes ?_
  have up : ∀ b' o, s.heap.get? b' = some o → (s.heap.push { cls := .type "bytes_iterator", data := .fields #[.bytes b t, .int 0 0] }).get? b' = some o := fun b o e => Heap.get?_push_of_some _ e
  have Nn : ∀ p ∈ news, p.1 ∉ [s.heap.objs.size] := fun p hp hm => Nat.ne_of_lt (Heap.lt_size (N p hp).1) (List.mem_singleton.mp hm)
  refine block_G (Pm := fun i m₂ => ∃ (c : UInt8) (u : Tok), b[i]? = some c ∧ m₂ x = some (.int (c.toNat : Int) u)) (Acc := Acc) (RR := post)
    (KTurns.ofWalks (KBw.walks hh s.heap.objs.size b t) ?_) ?_ hsz ?_ ?_ Nn hcell hkind ⟨_, Heap.get?_push_size _ rfl, rfl, rfl⟩ ?_ (F.keeps up) (N.grown up) ?_ h0 ?_ hRR
  · intro i v s' Q E' _ hQ
    show wpAny _ _ (pure ()) _ _ _
    exact wpAny_pure hQ
  · intro s' Q E' st hQ
    exact KBw.pyIter_self st hQ
  · exact fun hm => Nat.ne_of_lt F.ns.lt (List.mem_singleton.mp hm)
  · intro b' hb
    rw [List.mem_singleton.mp hb]; exact next_is_new F
  · intro b' hb
    rw [List.mem_singleton.mp hb]
    show s.heap.objs.size < (s.heap.push _).objs.size
    rw [Heap.size_push]; exact Nat.lt_succ_self _
  · rintro i v C m' s' Q E' ⟨c, u, hc, rfl⟩ hn k
    refine wpAny_assign_Name (wpAny_storeName_local (lookup_relabel_local hx) hn (fun h₃ hn₃ hs₃ => ?_) (by simp [compEnvC, relabel, hkind]))
    exact k h₃ _ _ hn₃ ⟨c, u, hc, by simp⟩ fun b' o hb e => hs₃.extBut b' o hb e
  · rintro i ys C oC D own m₂ h tk _ hA ⟨c, u, hc, hm⟩ hoC F₃ N₃ off
    exact turn i ys C oC D own m₂ h tk c u _ hc hA hm hoC F₃ N₃ off

/-- over the places and items of a list of the ledger -/
theorem enum_go {elt iter : PySem.Expr} {x y : Str} {px py tp : Pos} {kk : Nat} {scope : Scope} {cl : List (Str × Addr)} {pos : Pos} {l : Addr} {vs : List Value} {n : Nat} {news : List (Addr × Obj)} {Acc : Nat → List Value → Prop} {post : Value → Env → Result → Shared → Prop}
    (hcell : ∀ y ∈ scope.names, y.2 ≠ .cell) (hkind : scope.kind = .function) (hx : scope.names.lookup x = some .local) (hy : scope.names.lookup y = some .local) (hxy : x ≠ y)
    (hh : A.handled = none) (hsz : vs.length ≤ sizeLine) (F : Fr h₀ L s.heap m) (N : News h₀ L s.heap news) (hm : (l, listOf vs.toArray n) ∈ news) (h0 : Acc 0 [])
    (turn : ∀ i ys C oC D own m₂ h tk (v : Value) (u : Tok) (E' : Value → Shared → Prop), vs[i]? = some v → Acc i ys → m₂ x = some (.int (i : Int) u) → m₂ y = some v → LCg.NsObj oC m₂ → Fr h₀ L h m → News h₀ L h (own ++ (C, oC) :: (D, LCg.lst ys) :: news) → (∀ p ∈ news, p.1 ≠ C) →
      wpAny (model prog w) A (eval elt (compEnvC scope cl C env)) (ElOk h₀ L m { s with heap := h, toks := tk } (own ++ (C, oC) :: (D, LCg.lst ys) :: news) fun y => Acc (i + 1) (ys ++ [y])) E' { s with heap := h, toks := tk })
    (hRR : ∀ D (cenv : Env) h tk m' ys, cenv.frame = env.frame → Acc vs.length ys → Fr h₀ L h m → News h₀ L h ((D, LCg.lst ys) :: news) → h.Ns cenv.locals m' → h₀.get? cenv.locals = none → h₀.get? D = none → cenv.locals ≠ L → D ≠ L → cenv.locals ≠ D → (∀ p ∈ news, p.1 ≠ cenv.locals) → post (.ref D) cenv (.ok .next) { s with heap := h, toks := tk }) :
    wpAny (model prog w) A (call (.type "enumerate") [.ref l]) (CompGo prog w A E env (.ListComp elt [⟨.Tuple [.Name x px, .Name y py] kk tp, iter, [], 0⟩] scope pos) scope cl post) E s := by
  have hax := N _ hm
  have hl : s.heap.IsList l vs.toArray := ⟨_, hax.1, rfl, _, rfl⟩
  have hlt : l < s.heap.objs.size := Heap.lt_size hax.1
  have hLs : L < s.heap.objs.size := F.ns.lt
  refine call_enumerate_list hl fun h' hE hI hsz' hk => ?_
  refine wpAny_pyIter_enum hE ?_
  refine block_G (Pm := fun i m₂ => ∃ (v : Value) (u : Tok), vs[i]? = some v ∧ m₂ x = some (.int (i : Int) u) ∧ m₂ y = some v) (Acc := Acc) (RR := post)
    (KTurns.ofWalksU (WalksT.enumerate hh (s.heap.objs.size + 1) s.heap.objs.size l (Nat.succ_ne_self _) (ktu_ne 1 hlt) (Nat.ne_of_lt hlt) vs.toArray).toU) ?_ (by simpa using hsz) ?_ ?_ ?_ hcell hkind ⟨⟨_, hE⟩, hI, hl.at fun o e => hk l o e⟩ ?_ (F.keeps hk) (N.grown hk) ?_ h0 ?_ ?_
  · rintro s' Q E' ⟨⟨old, he⟩, _, _⟩ hQ
    exact wpAny_pyIter_enum he hQ
  · intro hI'
    have hb' : L = s.heap.objs.size + 1 ∨ L = s.heap.objs.size ∨ L = l := by simpa using hI'
    rcases hb' with e | e | e
    · exact ktu_ne 1 hLs e
    · exact Nat.ne_of_lt hLs e
    · exact hax.2.1 e.symm
  · intro b hb
    have hb' : b = s.heap.objs.size + 1 ∨ b = s.heap.objs.size := by simpa using hb
    rcases hb' with rfl | rfl
    · exact ktu_new F (Nat.le_add_right _ _)
    · exact ktu_new F (Nat.le_refl _)
  · intro p hp hI'
    have hb' : p.1 = s.heap.objs.size + 1 ∨ p.1 = s.heap.objs.size := by simpa using hI'
    have hlp := Heap.lt_size (N p hp).1
    rcases hb' with e | e
    · exact ktu_ne 1 hlp e
    · exact Nat.ne_of_lt hlp e
  · intro b hb
    have hb' : b = s.heap.objs.size + 1 ∨ b = s.heap.objs.size ∨ b = l := by simpa using hb
    show b < h'.objs.size
    rw [hsz']
    rcases hb' with rfl | rfl | rfl
    · exact Nat.lt_succ_self _
    · exact Nat.lt_succ_of_lt (Nat.lt_succ_self _)
    · exact Nat.lt_succ_of_lt (Nat.lt_succ_of_lt hlt)
  · rintro i v C m' s' Q E' ⟨T, vals, rfl, ⟨u, v, hv, rfl⟩, hT⟩ hn k
    refine kcp_assign hh hT (lookup_relabel_local hx) (lookup_relabel_local hy) (by simp [compEnvC, relabel, hkind]) hn fun h₃ tk₃ hn₃ hs₃ => ?_
    exact k h₃ tk₃ _ hn₃ ⟨v, u, by simpa using hv, by simp [hxy], by simp⟩ hs₃
  · rintro i ys C oC D own m₂ h tk _ hA ⟨v, u, hv, h1, h2⟩ hoC F₃ N₃ off
    exact turn i ys C oC D own m₂ h tk v u _ hv hA h1 h2 hoC F₃ N₃ off
  · intro D cenv h tk m' ys a b
    exact hRR D cenv h tk m' ys a (by simpa using b)

theorem zs_apart (n : Nat) : ZA (n + 4) (n + 2) (n + 3) n (n + 1) := by
  constructor
  · exact (by omega : n + 2 ≠ n + 4)
  · exact (by omega : n + 3 ≠ n + 4)
  · exact (by omega : n ≠ n + 4)
  · exact (by omega : n + 1 ≠ n + 4)
  · exact (by omega : n + 2 ≠ n + 3)
  · exact (by omega : n + 2 ≠ n)
  · exact (by omega : n + 2 ≠ n + 1)
  · exact (by omega : n + 3 ≠ n)
  · exact (by omega : n + 3 ≠ n + 1)
  · exact (by omega : n ≠ n + 1)
theorem zs_lt (n k : Nat) (h : k < 5) : n + k < n + 5 := by omega
/-- over the pairs of two texts -/
theorem zip_go {elt iter : PySem.Expr} {x y : Str} {px py tp : Pos} {kk : Nat} {scope : Scope} {cl : List (Str × Addr)} {pos : Pos} {x1 x2 : PySem.Str} {t1 t2 : Tok} {news : List (Addr × Obj)} {Acc : Nat → List Value → Prop} {post : Value → Env → Result → Shared → Prop}
    (hcell : ∀ y ∈ scope.names, y.2 ≠ .cell) (hkind : scope.kind = .function) (hx : scope.names.lookup x = some .local) (hy : scope.names.lookup y = some .local) (hxy : x ≠ y)
    (hh : A.handled = none) (ha1 : x1.cps.all (· < 128) = true) (ha2 : x2.cps.all (· < 128) = true) (hsz : min x1.length x2.length ≤ sizeLine) (F : Fr h₀ L s.heap m) (N : News h₀ L s.heap news) (h0 : Acc 0 [])
    (turn : ∀ i ys C oC D own m₂ h tk (c1 c2 : Nat) (u1 u2 : Tok), x1.cps[i]? = some c1 → x2.cps[i]? = some c2 → Acc i ys → m₂ x = some (.str ⟨#[c1]⟩ u1) → m₂ y = some (.str ⟨#[c2]⟩ u2) → LCg.NsObj oC m₂ → Fr h₀ L h m → News h₀ L h (own ++ (C, oC) :: (D, LCg.lst ys) :: news) → (∀ p ∈ news, p.1 ≠ C) →
      wpAny (model prog w) A (eval elt (compEnvC scope cl C env)) (ElOk h₀ L m { s with heap := h, toks := tk } (own ++ (C, oC) :: (D, LCg.lst ys) :: news) fun y => Acc (i + 1) (ys ++ [y]))
        (notedBy (model prog w) A (compEnvC scope cl C env) fun x s' => post (.ref D) (compEnvC scope cl C env) (.error x) s') { s with heap := h, toks := tk })
    (hRR : ∀ D (cenv : Env) h tk m' ys, cenv.frame = env.frame → Acc (min x1.length x2.length) ys → Fr h₀ L h m → News h₀ L h ((D, LCg.lst ys) :: news) → h.Ns cenv.locals m' → h₀.get? cenv.locals = none → h₀.get? D = none → cenv.locals ≠ L → D ≠ L → cenv.locals ≠ D → (∀ p ∈ news, p.1 ≠ cenv.locals) → post (.ref D) cenv (.ok .next) { s with heap := h, toks := tk }) :
    wpAny (model prog w) A (call (.type "zip") [.str x1 t1, .str x2 t2]) (CompGo prog w A E env (.ListComp elt [⟨.Tuple [.Name x px, .Name y py] kk tp, iter, [], 0⟩] scope pos) scope cl post) E s := by
  have hLs : L < s.heap.objs.size := F.ns.lt
  refine call_zs ha1 ha2 fun h' hz hTI hTO hi1 hi2 hsz' hk => ?_
  refine wpAny_pyIter_zip hz ?_
  have D : ZA (s.heap.objs.size + 4) (s.heap.objs.size + 2) (s.heap.objs.size + 3) s.heap.objs.size (s.heap.objs.size + 1) := zs_apart _
  refine block_G (Pm := fun i m₂ => ∃ (c1 c2 : Nat) (u1 u2 : Tok), x1.cps[i]? = some c1 ∧ x2.cps[i]? = some c2 ∧ m₂ x = some (.str ⟨#[c1]⟩ u1) ∧ m₂ y = some (.str ⟨#[c2]⟩ u2)) (Acc := Acc) (RR := post)
    (KTurns.ofWalksU (walks_zs hh _ _ _ _ _ D x1 x2 t1 t2)) ?_ hsz ?_ ?_ ?_ hcell hkind ⟨hz, hTI, ⟨_, _, hTO⟩, hi1, hi2⟩ ?_ (F.keeps hk) (N.grown hk) ?_ h0 ?_ hRR
  · rintro s' Q E' ⟨hz, _⟩ hQ
    exact wpAny_pyIter_zip hz hQ
  · intro hI'
    have hb' : L = s.heap.objs.size + 4 ∨ L = s.heap.objs.size + 2 ∨ L = s.heap.objs.size + 3 ∨ L = s.heap.objs.size ∨ L = s.heap.objs.size + 1 := by simpa using hI'
    rcases hb' with e | e | e | e | e
    · exact ktu_ne 4 hLs e
    · exact ktu_ne 2 hLs e
    · exact ktu_ne 3 hLs e
    · exact Nat.ne_of_lt hLs e
    · exact ktu_ne 1 hLs e
  · intro b hb
    have hb' : b = s.heap.objs.size + 4 ∨ b = s.heap.objs.size + 3 ∨ b = s.heap.objs.size ∨ b = s.heap.objs.size + 1 := by simpa using hb
    rcases hb' with rfl | rfl | rfl | rfl <;> exact ktu_new F (by first | exact Nat.le_refl _ | exact Nat.le_add_right _ _)
  · intro p hp hI'
    have hb' : p.1 = s.heap.objs.size + 4 ∨ p.1 = s.heap.objs.size + 3 ∨ p.1 = s.heap.objs.size ∨ p.1 = s.heap.objs.size + 1 := by simpa using hI'
    have hlp := Heap.lt_size (N p hp).1
    rcases hb' with e | e | e | e
    · exact ktu_ne 4 hlp e
    · exact ktu_ne 3 hlp e
    · exact Nat.ne_of_lt hlp e
    · exact ktu_ne 1 hlp e
  · intro b hb
    have hb' : b = s.heap.objs.size + 4 ∨ b = s.heap.objs.size + 2 ∨ b = s.heap.objs.size + 3 ∨ b = s.heap.objs.size ∨ b = s.heap.objs.size + 1 := by simpa using hb
    show b < h'.objs.size
    rw [hsz']
    rcases hb' with rfl | rfl | rfl | rfl | rfl
    · exact zs_lt _ 4 (by decide)
    · exact zs_lt _ 2 (by decide)
    · exact zs_lt _ 3 (by decide)
    · exact zs_lt _ 0 (by decide)
    · exact zs_lt _ 1 (by decide)
  · rintro i v C m' s' Q E' ⟨T, vals, rfl, ⟨c1, c2, u1, u2, g1, g2, rfl⟩, hT⟩ hn k
    refine kcp_assign hh hT (lookup_relabel_local hx) (lookup_relabel_local hy) (by simp [compEnvC, relabel, hkind]) hn fun h₃ tk₃ hn₃ hs₃ => ?_
    exact k h₃ tk₃ _ hn₃ ⟨c1, c2, u1, u2, g1, g2, by simp [hxy], by simp⟩ hs₃
  · rintro i ys C oC D own m₂ h tk _ hA ⟨c1, c2, u1, u2, g1, g2, h1, h2⟩ hoC F₃ N₃ off
    exact turn i ys C oC D own m₂ h tk c1 c2 u1 u2 g1 g2 hA h1 h2 hoC F₃ N₃ off
end
end Mine
end

section -- C8
open PySem PySem.W PyProof.Rows
set_option maxHeartbeats 8000000
namespace Mine
local macro_rules | `(tactic| walk_at "idle 0") => `(tactic| skip)
local macro_rules | `(tactic| walk_at "idle 1") => `(tactic| skip)
local macro_rules | `(tactic| walk_at "idle 2") => `(tactic| skip)
local macro_rules | `(tactic| walk_at "idle 3") => `(tactic| skip)
local macro_rules | `(tactic| walk_at "idle 4") => `(tactic| skip)
local macro_rules | `(tactic| walk_at "idle 5") => `(tactic| skip)
local macro_rules | `(tactic| walk_at "idle 6") => `(tactic| skip)
local macro_rules | `(tactic| walk_at "idle 7") => `(tactic| skip)
local macro_rules | `(tactic| walk_at "idle 8") => `(tactic| skip)
local macro_rules | `(tactic| walk_at "idle 9") => `(tactic| skip)
local macro_rules | `(tactic| walk_at "idle 10") => `(tactic| skip)
local macro_rules | `(tactic| walk_at "idle 11") => `(tactic| skip)
local macro_rules | `(tactic| walk_at "idle 12") => `(tactic| skip)
local macro_rules | `(tactic| walk_at "idle 13") => `(tactic| skip)
local macro_rules | `(tactic| walk_at "idle 14") => `(tactic| skip)
local macro_rules | `(tactic| walk_at "idle 15") => `(tactic| skip)
local macro_rules | `(tactic| walk_at "idle 16") => `(tactic| skip)
local macro_rules | `(tactic| walk_at "idle 17") => `(tactic| skip)
local macro_rules | `(tactic| walk_at "idle 18") => `(tactic| skip)
local macro_rules | `(tactic| walk_at "idle 19") => `(tactic| skip)
local macro_rules | `(tactic| walk_at "idle 20") => `(tactic| skip)
local macro_rules | `(tactic| walk_at "idle 21") => `(tactic| skip)
local macro_rules | `(tactic| walk_at "idle 22") => `(tactic| skip)
local macro_rules | `(tactic| walk_at "idle 23") => `(tactic| skip)
local macro_rules | `(tactic| walk_at "idle 24") => `(tactic| skip)
local macro_rules | `(tactic| walk_at "idle 25") => `(tactic| skip)
local macro_rules | `(tactic| walk_at "idle 26") => `(tactic| skip)
local macro_rules | `(tactic| walk_at "idle 27") => `(tactic| skip)
local macro_rules | `(tactic| walk_at "idle 28") => `(tactic| skip)
local macro_rules | `(tactic| walk_at "idle 29") => `(tactic| skip)
local macro_rules | `(tactic| walk_at "idle 30") => `(tactic| skip)
local macro_rules | `(tactic| walk_at "idle 31") => `(tactic| skip)
theorem reset_C8 : True := by
  w_top off
  exact trivial
theorem fill9 : (PySem.Challenge.rw_fp5009_01, hd.heap_39) = (PySem.Challenge.rw_fp5009_01, hd.heap_39) := by
  k_fill
  rfl

def lawOctet (table : PySem.Str) (o : Int) : PySem.Str := Txt.item table (o.fdiv 16) ++ Txt.item table (o.fmod 16)
def lawDigits (b : Array UInt8) (table : PySem.Str) : PySem.Str := Txt.join (PySem.Str.ofString "") ((KBw.bInts b).map (lawOctet table))

-- «ktr_unf»: a def with cells is entered
local macro_rules | `(tactic| ktr_unf) => `(tactic| (refine' code_defC ?k1 ?k2 ?k3 ?k4 ?k5 ?kA ?kF ?kK ?k6 ?k7 ?k8 ?k9 ?kB ?kD ?_ ?c2 ?c3 ?c4; (case kA => exact rfl); (case kF => exact rfl); (case kK => first | assumption | exact rfl); (case k1 => k_asm); (case k2 => k_asm); (case k3 => k_asm); (case k4 => k_asm); (case k5 => k_asm); (case k6 => k_is); (case k7 => k_is); (case k8 => ktr_room); (case k9 => exact BindsTo.of_eq rfl); (case kB => exact rfl); (case kD => decide +kernel); (case c2 => exact rfl); (case c3 => exact rfl); (case c4 => exact rfl); k_whole; intro g' L' h' tk' cells' FG' F' N' Y' B' X' T' l1; (try k_lt l1); k_cells Y'; (try simp only [List.cons_append, List.nil_append] at N'); (try dsimp only); (try k_lift B'); (try k_fold)))
local macro_rules | `(tactic| walk_at "eval ListComp") => `(tactic| (k_here; k_dflt (refine ListComp_go (by with_unfolding_all rfl) (by rfl) (by decide) ?_)))
local macro_rules | `(tactic| walk_at "binaryOp Add str str") => `(tactic| (k_here; (with_reducible show wpAny _ _ (binaryOp Operator.Add (Value.str _ _) (Value.str _ _)) _ _ _); (refine' SBL.add ?_ ?hsz; (case hsz => (rw [PySem.sizeLine_eq]; (try simp only [PySem.Str.length_append, PyProof.Rows.ofString_length]); omega)); intro _ _ _)))

local macro_rules | `(tactic| walk_at "subscriptTail") => `(tactic| (k_here; (with_reducible show wpAny _ _ (subscriptTail _ _ (Value.str _ _) (Value.int _ _)) _ _ _); (refine item_str (by decide) (by omega) (by omega) ?_); intro kxiE))
theorem strs_step {l : List PySem.Str} {i : Nat} {ys : List Value} {x : PySem.Str} {t : Tok} (hA : StrsAre ys (l.take i)) (hx : l[i]? = some x) : StrsAre (ys ++ [.str x t]) (l.take (i + 1)) := by
  rw [List.take_add_one, hx]
  exact StrsAre.append' hA (.cons x t .nil)
theorem nibbles (c : UInt8) : 0 ≤ (c.toNat : Int).fdiv 16 ∧ (c.toNat : Int).fdiv 16 < 16 ∧ 0 ≤ (c.toNat : Int).fmod 16 ∧ (c.toNat : Int).fmod 16 < 16 := by
  have h := c.toNat_lt
  rw [Int.fdiv_eq_ediv_of_nonneg _ (by decide), Int.fmod_eq_emod_of_nonneg _ (by decide)]
  omega
theorem digits_ok {prog : Program} {w : World} {p : Program} {loose : List Str} {mean : ExcName → Option Value} {mg mb : Str → Option Value}
    {dp un : Nat} {gd : Option (List Code)} {cn : Str} {cs : Scope} {a : Addr} {ccd : Value} {cl : List (Str × Addr)} {outer : List Env} {A₀ : Around} {base h₀ : Heap} {L : Addr} {m : Str → Option Value} {s : Shared} {Q E : Value → Shared → Prop}
    {news : List (Addr × Obj)} {b : Array UInt8} {table : PySem.Str} {t u : Tok}
    (B : Below A₀ base outer h₀) (F : Fr h₀ L s.heap m) (X : (hd.heap_39 w.params).In h₀) (N : News h₀ L s.heap news) (T : Top p loose mean mg mb h₀) (hk : cs.kind = .function)
    (hd' : dp + 2 < recursionLimit) (hu : un + 16 < cLine) (hb : b.size ≤ 4) (ht : table.length = 16)
    (hret : ∀ (t : Tok) (h' : Heap) (tk' : Nat), Fr h₀ L h' m → News h₀ L h' news → Q (.str (lawDigits b table) t) { s with heap := h', toks := tk' }) :
    wpAny (model prog w) (ktrTop dp un gd cn cs L a ccd cl outer) (call (.ref 127) [.bytes b t, .str table u]) Q E s := by
  refine wpAny_call ?_
  k_dflt ktr_unf
  k_steps
  refine bytes_go (Acc := fun i ys => StrsAre ys (((KBw.bInts b).map (lawOctet table)).take i)) (by decide) (by rfl) (by rfl) (by rfl) (by rw [sizeLine_eq]; omega) (by k_asm) (by k_asm) .nil ?_ ?_
  · intro i ys C oC D own m₂ h tk c u E' hc hA hm hC F9 N9 off9
    obtain ⟨q0, q1, q2, q3⟩ := nibbles c
    have e1 := item_len table ((c.toNat : Int).fdiv 16)
    have e2 := item_len table ((c.toNat : Int).fmod 16)
    k_steps
    exact ⟨_, _, rfl, by assumption, by assumption, strs_step hA (by rw [List.getElem?_map, KBw.ints_get hc]; rfl)⟩
  · intro D cenv h tk m' ys hcf hA F9 N9 hn hC0 hD0 hCL hDL hCD off9
    refine post_value F9 N9 hn hC0 hCL hCD off9 ?_
    intro h8 tk8 F8 N8
    k_steps
    have hys : StrsAre ys ((KBw.bInts b).map (lawOctet table)) := by
      rwa [List.take_of_length_le (by rw [List.length_map, KBw.ints_length]; exact Nat.le_refl _)] at hA
    refine join_strs (B := 2) (by is_list) hys ?_ ?_ ?_
    · intro y hy
      obtain ⟨o, _, rfl⟩ := List.mem_map.mp hy
      exact Nat.le_of_eq (PySem.Str.length_append _ _)
    · have e9 : (PySem.Str.ofString "").length = 0 := by decide
      rw [List.length_map, KBw.ints_length, e9]
      omega
    intro t9 k9
    k_steps
    exact hret _ _ _ (by k_asm) (by first | assumption | exact cb_drop (by assumption) keepT1 | exact cb_drop (by assumption) keepT2)
end Mine
end

section -- N1
open PySem PySem.W PyProof.Rows
namespace Mine
open PySem.Calls
theorem compTurn_two (elt t1 it1 t2 it2 : PySem.Expr) (scope : Scope) (pos : Pos) (it acc : Value) (env : Env) :
    compTurn (.ListComp elt [⟨t1, it1, [], 0⟩, ⟨t2, it2, [], 0⟩] scope pos) 0 it acc env = (standAt it1.pos >>= fun _ => pyNext it >>= fun r => match r with
      | none => pure (.done .next)
      | some v => letOwnedTupleGo t1 it v >>= fun _ => assign t1 env v >>= fun _ =>
        (eval it2 env >>= fun x => standAt it2.pos >>= fun _ => foldedSetIterable it2 env x >>= fun x => holding [x] (pyIter x) >>= fun it' => runOwn (.compStart (.ListComp elt [⟨t1, it1, [], 0⟩, ⟨t2, it2, [], 0⟩] scope pos) 1 it' acc env) env >>= fun _ => again (.compLoop (.ListComp elt [⟨t1, it1, [], 0⟩, ⟨t2, it2, [], 0⟩] scope pos) 0 it acc env))) := by rfl
theorem compTurn_inner (elt t1 it1 t2 it2 : PySem.Expr) (scope : Scope) (pos : Pos) (it acc : Value) (env : Env) :
    compTurn (.ListComp elt [⟨t1, it1, [], 0⟩, ⟨t2, it2, [], 0⟩] scope pos) 1 it acc env = (standAt it2.pos >>= fun _ => pyNext it >>= fun r => match r with
      | none => pure (.done .next)
      | some v => letOwnedTupleGo t2 it v >>= fun _ => assign t2 env v >>= fun _ =>
        (eval elt env >>= fun x => call (.builtin "list.append") [acc, x] >>= fun _ => pure ()) >>= fun _ =>
          again (.compLoop (.ListComp elt [⟨t1, it1, [], 0⟩, ⟨t2, it2, [], 0⟩] scope pos) 1 it acc env)) := by rfl

section
variable {prog : Program} {w : World} {A : Around} {E : Value → Shared → Prop} {s : Shared} {h₀ : Heap} {L : Addr} {m : Str → Option Value} {env : Env}

/-- a code that draws, binds and appends, turn by turn -/
def LoopRule (prog : Program) (w : World) (A : Around) (c : Code) (elt target : PySem.Expr) (it acc : Value) (cenv : Env) : Prop :=
  ∀ (R : Result → Shared → Prop) (s : Shared) (I : Nat → Shared → Prop),
    (∀ n s, I n s → wpAny (model prog w) A (pyNext it) (fun r s₁ => match r with
      | none => R (.ok .next) s₁
      | some v => wpAny (model prog w) A (letOwnedTupleGo target it v) (fun _ s₀ => wpAny (model prog w) A (assign target cenv v) (fun _ s₂ =>
          wpAny (model prog w) A (eval elt cenv) (fun x s₄ =>
            wpAny (model prog w) A (call (.builtin "list.append") [acc, x]) (fun _ s₅ => ∃ m, m < n ∧ I m s₅) (notedBy (model prog w) A cenv fun e s' => R (.error e) s') s₄) (notedBy (model prog w) A cenv fun e s' => R (.error e) s') s₂)
          (notedBy (model prog w) A cenv fun e s' => R (.error e) s') s₀) (notedBy (model prog w) A cenv fun e s' => R (.error e) s') s₁) (notedBy (model prog w) A cenv fun e s' => R (.error e) s') s) →
    ∀ n, I n s → codeAny (model prog w) A c R s

theorem rule_inner {elt t1 it1 t2 it2 : PySem.Expr} {scope : Scope} {pos : Pos} {it acc : Value} {cenv : Env} :
    LoopRule prog w A (.compLoop (.ListComp elt [⟨t1, it1, [], 0⟩, ⟨t2, it2, [], 0⟩] scope pos) 1 it acc cenv) elt t2 it acc cenv := by
  intro R s I turn n h
  refine codeAny_loop rfl I (fun n s hI => ?_) n h
  show wpAny _ A ((compTurn (.ListComp elt [⟨t1, it1, [], 0⟩, ⟨t2, it2, [], 0⟩] scope pos) 1 it acc cenv).onRaise (fun x => do noteFrame x cenv; theTreesLotGoes x)) _ _ s
  refine wpAny_noted ?_
  rw [compTurn_inner]
  refine wpAny_bind (wpAny_standAt (wpAny_bind (wpAny_mono (turn n s hI) (fun r s₁ h₁ => ?_) fun _ _ h' => h')))
  cases r with
  | none => exact wpAny_pure h₁
  | some v =>
    refine wpAny_bind (wpAny_mono h₁ (fun _ s₀ h₀' => ?_) fun _ _ h' => h')
    refine wpAny_bind (wpAny_mono h₀' (fun _ s₂ h₂ => ?_) fun _ _ h' => h')
    exact wpAny_bind (wpAny_bind (wpAny_mono h₂ (fun x s₄ h₄ => wpAny_bind (wpAny_mono h₄ (fun _ s₅ h₅ => wpAny_pure (wpAny_pure ⟨rfl, h₅⟩)) fun _ _ h' => h')) fun _ _ h' => h'))

theorem loop_G {c : Code} {elt target : PySem.Expr} {I C D : Addr} {cenv : Env} {fp wr : List Addr} {n : Nat} {P Md : Nat → Value → Heap → Prop} {St : Nat → Heap → Prop} {led : List (Addr × Obj)} {s₂ : Shared} {ys₀ : List Value} {m₀ : Str → Option Value}
    {Inv : (Str → Option Value) → Prop} {Pm : Nat → (Str → Option Value) → Prop} {Acc : Nat → List Value → Prop} {R : Result → Shared → Prop} {z : Nat}
    (rule : LoopRule prog w A c elt target (.ref I) (.ref D) cenv) (W : KTurns prog w A target I fp wr n P Md St)
    (hCf : C ∉ fp) (hDf : D ∉ fp) (hLf : L ∉ fp) (hwr : ∀ b ∈ wr, h₀.get? b = none) (hnw : ∀ p ∈ led, p.1 ∉ wr) (off : ∀ p ∈ led, p.1 ≠ C ∧ p.1 ≠ D)
    (hCD : C ≠ D) (hCL : C ≠ L) (hDL : D ≠ L) (hC₀ : h₀.get? C = none) (hD₀ : h₀.get? D = none) (hsz : z + n ≤ sizeLine) (hz : ys₀.length = z)
    (hst : St 0 s₂.heap) (F : Fr h₀ L s₂.heap m) (hn : s₂.heap.Ns C m₀) (hI : Inv m₀) (N : News h₀ L s₂.heap ((D, LCg.lst ys₀) :: led))
    (hasg : ∀ i v (m' : Str → Option Value) (s : Shared) (Q : Unit → Shared → Prop) (E : Value → Shared → Prop), P i v s.heap → s.heap.Ns C m' → Inv m' →
      (∀ h' tk m'', h'.Ns C m'' → Pm i m'' → Inv m'' → (∀ b o, b ≠ C → s.heap.get? b = some o → h'.get? b = some o) → Q () { s with heap := h', toks := tk }) → wpAny (model prog w) A (assign target cenv v) Q E s)
    (h0 : Acc 0 ys₀)
    (turn : ∀ i ys oC own m₂ h tk, i < n → Acc i ys → Pm i m₂ → Inv m₂ → LCg.NsObj oC m₂ → Fr h₀ L h m → News h₀ L h (own ++ (C, oC) :: (D, LCg.lst ys) :: led) →
      wpAny (model prog w) A (eval elt cenv) (ElOk h₀ L m { s₂ with heap := h, toks := tk } (own ++ (C, oC) :: (D, LCg.lst ys) :: led) fun y => Acc (i + 1) (ys ++ [y]))
        (notedBy (model prog w) A cenv fun x s' => R (.error x) s') { s₂ with heap := h, toks := tk })
    (hR : ∀ h tk m' ys, Acc n ys → ys.length = z + n → Inv m' → Fr h₀ L h m → News h₀ L h ((D, LCg.lst ys) :: led) → h.Ns C m' → R (.ok .next) { s₂ with heap := h, toks := tk }) :
    codeAny (model prog w) A c R s₂ := by
  have hDw : D ∉ wr := fun hm => hDf (W.sub _ hm)
  have hCw : C ∉ wr := fun hm => hCf (W.sub _ hm)
  have hLw : L ∉ wr := fun hm => hLf (W.sub _ hm)
  have old₀ : ∀ b o, h₀.get? b = some o → b ∉ wr := fun b o e hb => by rw [hwr b hb] at e; cases e
  have frw : ∀ {h h' : Heap}, Fr h₀ L h m → (∀ b o, b ∉ wr → h.get? b = some o → h'.get? b = some o) → Fr h₀ L h' m := fun F' hk => ⟨F'.ns.at' fun o e => hk _ o hLw e, fun b o e => hk b o (old₀ b o e) (F'.keep b o e), F'.above⟩
  refine rule R s₂
    (fun k s' => ∃ h' tk i ys m', s' = { s₂ with heap := h', toks := tk } ∧ i ≤ n ∧ k = n + 1 - i ∧ ys.length = z + i ∧ St i h' ∧ Fr h₀ L h' m ∧ h'.Ns C m' ∧ Inv m' ∧ News h₀ L h' ((D, LCg.lst ys) :: led) ∧ Acc i ys) ?_ (n + 1)
    ⟨s₂.heap, s₂.toks, 0, ys₀, m₀, rfl, Nat.zero_le _, rfl, hz, hst, F, hn, hI, N, h0⟩
  rintro k s' ⟨h', tk, i, ys, m', rfl, hi, rfl, hyl, hst', F', hn', hI', N', hA⟩
  have Nw : ∀ {h'' : Heap}, (∀ b o, b ∉ wr → h'.get? b = some o → h''.get? b = some o) → News h₀ L h'' ((D, LCg.lst ys) :: led) := fun hk p hp => by
    refine ⟨hk _ _ ?_ (N' p hp).1, (N' p hp).2⟩
    rcases List.mem_cons.mp hp with rfl | hp
    · exact hDw
    · exact hnw p hp
  by_cases hlt : i < n
  · refine W.item i _ _ _ hlt hst' fun v h₂ tk₂ hMd hk₂ => ?_
    refine W.go i v _ _ _ hMd fun h₂' hPv hst₂ hk₂' => ?_
    have hk₃ : ∀ b o, b ∉ wr → h'.get? b = some o → h₂'.get? b = some o := fun b o hb e => hk₂' b o hb (hk₂ b o hb e)
    refine hasg i v m' _ _ _ hPv (hn'.at' fun o e => hk₃ _ o hCw e) hI' fun h₃ tk₃ m₃ hn₃ hPm hI₃ hs₃ => ?_
    have hst₃ : St (i + 1) h₃ := W.frame _ _ _ hst₂ fun b hb o e => hs₃ b o (fun q => hCf (q ▸ hb)) e
    obtain ⟨oC, heC, hoC⟩ := LCg.ns_obj hn₃
    have F₂ : Fr h₀ L h₂' m := frw F' hk₃
    have F₃ : Fr h₀ L h₃ m := ⟨F₂.ns.at' fun o e => hs₃ _ o (Ne.symm hCL) e, fun b o e => hs₃ b o (fun q => by rw [q, hC₀] at e; cases e) (F₂.keep b o e), F₂.above⟩
    have N₂ := Nw hk₃
    let own : List (Addr × Obj) := fp.filterMap fun b => if (h₀.get? b).isSome then none else (h₃.get? b).map fun o => (b, o)
    have hown : ∀ p ∈ own, p.1 ∈ fp ∧ h₃.get? p.1 = some p.2 ∧ h₀.get? p.1 = none := fun p hp => by
      obtain ⟨b, hb, e⟩ := List.mem_filterMap.mp hp
      split at e
      · cases e
      · rename_i hn
        obtain ⟨o, ho, e'⟩ := Option.map_eq_some_iff.mp e
        subst e'
        refine ⟨hb, ho, ?_⟩
        cases q : h₀.get? b with
        | none => rfl
        | some x => rw [q] at hn; exact absurd rfl hn
    have ownAll : ∀ b ∈ fp, h₀.get? b = none → ∀ o, h₃.get? b = some o → (b, o) ∈ own := fun b hb hn o ho =>
      List.mem_filterMap.mpr ⟨b, hb, by rw [hn, ho]; rfl⟩
    have N₃ : News h₀ L h₃ (own ++ (C, oC) :: (D, LCg.lst ys) :: led) := fun p hp => by
      rcases List.mem_append.mp hp with hp | hp
      · exact ⟨(hown p hp).2.1, fun q => hLf (q ▸ (hown p hp).1), (hown p hp).2.2⟩
      · rcases List.mem_cons.mp hp with rfl | hp
        · exact ⟨heC, hCL, hC₀⟩
        · have z := N₂ p hp
          refine ⟨hs₃ _ _ ?_ z.1, z.2⟩
          rcases List.mem_cons.mp hp with rfl | hp
          · exact Ne.symm hCD
          · exact (off p hp).1
    refine wpAny_mono (turn i ys oC own m₃ h₃ tk₃ hlt hA hPm hI₃ hoC F₃ N₃) (fun y s₄ h₄ => ?_) fun _ _ e => e
    obtain ⟨h₄, tk₄, rfl, F₄, N₄, hA₄⟩ := h₄
    have zC := (N₄ (C, oC) (List.mem_append_right _ List.mem_cons_self)).1
    have zD := (N₄ (D, LCg.lst ys) (List.mem_append_right _ (List.mem_cons_of_mem _ List.mem_cons_self))).1
    have hst₄ : St (i + 1) h₄ := W.frame _ _ _ hst₃ fun b hb o e => by
      cases q : h₀.get? b with
      | none => exact (N₄ (b, o) (List.mem_append_left _ (ownAll b hb q o e))).1
      | some o' =>
        have e₃ := F₃.keep b o' q
        rw [e] at e₃
        obtain rfl := Option.some.inj e₃
        exact F₄.keep b o q
    refine append_at (hsz := by show ys.toArray.size ≤ sizeLine; rw [List.size_toArray, hyl]; omega) zD fun h₅ hs₅ hD₅ => ?_
    refine ⟨n + 1 - (i + 1), by omega, h₅, tk₄, i + 1, ys ++ [y], _, rfl, hlt, rfl, by rw [List.length_append, List.length_singleton, hyl]; omega, W.frame _ _ _ hst₄ fun b hb o e => hs₅.extBut b o (fun q => hDf (q ▸ hb)) e, F₄.change hs₅ hDL hD₀,
      (hoC.ns zC).sameBut hs₅ hCD, hI₃, fun p hp => ?_, hA₄⟩
    rcases List.mem_cons.mp hp with rfl | hp
    · exact ⟨hD₅.trans (congrArg some (LCg.lst_snoc ys y)), hDL, hD₀⟩
    · have z := N₄ p (List.mem_append_right _ (List.mem_cons_of_mem _ (List.mem_cons_of_mem _ hp)))
      exact ⟨hs₅.extBut _ _ (off p hp).2 z.1, z.2⟩
  · obtain rfl : i = n := Nat.le_antisymm hi (Nat.not_lt.mp hlt)
    refine W.done _ _ _ hst' fun h₂ tk₂ hk₂ => ?_
    exact hR h₂ tk₂ _ ys hA hyl hI' (frw F' hk₂) (Nw hk₂) (hn'.at' fun o e => hk₂ _ o hCw e)

theorem codeAny_compStart_inner {elt t1 it1 t2 it2 : PySem.Expr} {scope : Scope} {pos : Pos} {it acc : Value} {env : Env} {R : Result → Shared → Prop}
    (h0 : codeAny (model prog w) A (.compLoop (.ListComp elt [⟨t1, it1, [], 0⟩, ⟨t2, it2, [], 0⟩] scope pos) 1 it acc env) R s)
    (h : wpAny (model prog w) A (pyIter it) (fun it' s' => codeAny (model prog w) A (.compLoop (.ListComp elt [⟨t1, it1, [], 0⟩, ⟨t2, it2, [], 0⟩] scope pos) 1 it' acc env) R s')
      (notedBy (model prog w) A env fun x s' => R (.error x) s') s) :
    codeAny (model prog w) A (.compStart (.ListComp elt [⟨t1, it1, [], 0⟩, ⟨t2, it2, [], 0⟩] scope pos) 1 it acc env) R s := by
  refine codeAny_of_tree ?_
  show wpAny _ _ ((compStart (.ListComp elt [⟨t1, it1, [], 0⟩, ⟨t2, it2, [], 0⟩] scope pos) 1 it acc env).onRaise (fun x => do noteFrame x env; standAt theWindowsPlace)) _ _ s
  refine wpAny_notedAt ?_
  unfold compStart
  show wpAny _ _ (ask >>= _) _ _ s
  refine wpAny_bind (wpAny_askSetting (wpAny_ite ?_))
  split
  · first
      | exact wpAny_bind (wpAny_pure (wpAny_pure (And.intro rfl h0)))
      | exact wpAny_pure (And.intro rfl h0)
  · first
      | exact wpAny_bind (wpAny_rule (wpAny_bind (wpAny_standAt (wpAny_bind (wpAny_mono h (fun it' s' h' => wpAny_pure (And.intro rfl h')) fun _ _ x => x)))))
      | (refine wpAny_bind (wpAny_rule ?_); show wpAny _ _ (standAt it2.pos >>= _) _ _ s; exact wpAny_bind (wpAny_standAt (wpAny_bind (wpAny_mono h (fun it' s' h' => wpAny_pure (And.intro rfl h')) fun _ _ x => x))))
end
end Mine
end

section -- N2
open PySem PySem.W PyProof.Rows
namespace Mine
open PySem.Calls
/-- a tuple was written down -/
def TupGo (h₀ : Heap) (L : Addr) (m : Str → Option Value) (s : Shared) (led : List (Addr × Obj)) (ok : Array Value → Prop) (xv : Value) (s₁ : Shared) : Prop :=
  ∃ T vals nn h tk, xv = .ref T ∧ s₁ = { s with heap := h, toks := tk } ∧ ok vals ∧ Fr h₀ L h m ∧ News h₀ L h ((T, { cls := .type "tuple", data := .seq vals nn }) :: led) ∧ ∀ p ∈ led, p.1 < T

section
variable {prog : Program} {w : World} {A : Around} {E : Value → Shared → Prop} {s : Shared} {h₀ : Heap} {L : Addr} {m : Str → Option Value} {env : Env}

theorem nest_go {elt iter it2 : PySem.Expr} {x y : Str} {px py : Pos} {scope : Scope} {cl : List (Str × Addr)} {pos : Pos} {b : Array UInt8} {t : Tok} {news : List (Addr × Obj)} {Acc : Nat → List Value → Prop} {post : Value → Env → Result → Shared → Prop} {ok : Array Value → Prop} {n2 : Nat}
    (hcell : ∀ y ∈ scope.names, y.2 ≠ .cell) (hkind : scope.kind = .function) (hx : scope.names.lookup x = some .local) (hy : scope.names.lookup y = some .local) (hxy : x ≠ y)
    (hh : A.handled = none) (hsz : n2 * b.size ≤ sizeLine) (F : Fr h₀ L s.heap m) (N : News h₀ L s.heap news) (h0 : Acc 0 []) (hok : ∀ vals, ok vals → vals.size = n2)
    (hs2 : ∀ C v, foldedSetIterable it2 (compEnvC scope cl C env) v = pure v)
    (hit2 : ∀ (i : Nat) ys C oC D own m₂ h tk (c : UInt8) (u : Tok) (E' : Value → Shared → Prop), b[i]? = some c → m₂ x = some (.int (c.toNat : Int) u) → LCg.NsObj oC m₂ → Fr h₀ L h m → News h₀ L h (own ++ (C, oC) :: (D, LCg.lst ys) :: news) →
      wpAny (model prog w) A (eval it2 (compEnvC scope cl C env)) (TupGo h₀ L m { s with heap := h, toks := tk } (own ++ (C, oC) :: (D, LCg.lst ys) :: news) ok) E' { s with heap := h, toks := tk })
    (turn : ∀ (i j : Nat) ys C oC D own led m₂ h tk (c : UInt8) (u : Tok) (vals : Array Value) (v : Value) (E' : Value → Shared → Prop), b[i]? = some c → ok vals → vals[j]? = some v → Acc (n2 * i + j) ys → m₂ x = some (.int (c.toNat : Int) u) → m₂ y = some v → LCg.NsObj oC m₂ → Fr h₀ L h m → News h₀ L h (own ++ (C, oC) :: (D, LCg.lst ys) :: led) →
      wpAny (model prog w) A (eval elt (compEnvC scope cl C env)) (ElOk h₀ L m { s with heap := h, toks := tk } (own ++ (C, oC) :: (D, LCg.lst ys) :: led) fun y => Acc (n2 * i + j + 1) (ys ++ [y])) E' { s with heap := h, toks := tk })
    (hRR : ∀ D (cenv : Env) h tk m' ys, cenv.frame = env.frame → Acc (n2 * b.size) ys → Fr h₀ L h m → News h₀ L h ((D, LCg.lst ys) :: news) → h.Ns cenv.locals m' → h₀.get? cenv.locals = none → h₀.get? D = none → cenv.locals ≠ L → D ≠ L → cenv.locals ≠ D → (∀ p ∈ news, p.1 ≠ cenv.locals) → post (.ref D) cenv (.ok .next) { s with heap := h, toks := tk }) :
    wpAny (model prog w) A (pyIter (.bytes b t)) (fun it s₂ => wpAny (model prog w) A (newList []) (fun acc s₃ => wpAny (model prog w) A (newFunctionEnv scope env.globals cl [] env.qual none .none (some env)) (fun cenv s₄ =>
      codeAny (model prog w) A (.compStart (.ListComp elt [⟨.Name x px, iter, [], 0⟩, ⟨.Name y py, it2, [], 0⟩] scope pos) 0 it acc { cenv with scope := relabel scope env }) (post acc { cenv with scope := relabel scope env }) s₄) E s₃) E s₂) E s := by
  refine KBw.pyIter_bytes ?_
  have up : ∀ b' o, s.heap.get? b' = some o → (s.heap.push { cls := .type "bytes_iterator", data := .fields #[.bytes b t, .int 0 0] }).get? b' = some o := fun b o e => Heap.get?_push_of_some _ e
  generalize hI : s.heap.objs.size = I at *
  have hst : KBw.IsBytesIter (s.heap.push { cls := .type "bytes_iterator", data := .fields #[.bytes b t, .int 0 0] }) I b t 0 := ⟨_, hI ▸ Heap.get?_push_size _ rfl, rfl, rfl⟩
  have F₁ := F.keeps up
  have N₁ := N.grown up
  have hI₀ : h₀.get? I = none := hI ▸ next_is_new F
  have hLI : L ≠ I := hI ▸ Nat.ne_of_lt F.ns.lt
  have hNI : ∀ p ∈ news, p.1 ≠ I := fun p hp => hI ▸ Nat.ne_of_lt (Heap.lt_size (N p hp).1)
  have hIlt : I < (s.heap.push { cls := .type "bytes_iterator", data := .fields #[.bytes b t, .int 0 0] }).objs.size := by rw [Heap.size_push, hI]; exact Nat.lt_succ_self _
  clear up hI F N
  generalize (s.heap.push { cls := .type "bytes_iterator", data := .fields #[.bytes b t, .int 0 0] }) = hp at *
  have W := KBw.walks (prog := prog) (w := w) hh I b t
  refine wpAny_newObj_type (wpAny_newFunctionEnv hcell (by intro y hy; simp at hy) (fun h₁ hns₁ hsb₁ => ?_) hkind)
  dsimp only at hns₁ hsb₁ ⊢
  generalize hH2 : hp.push { cls := .type "list", dict := none, data := .seq ([] : List Value).toArray } = H2 at hns₁ hsb₁ ⊢
  generalize hDz : hp.objs.size = D at *
  have hC : H2.objs.size = D + 1 := by rw [← hH2, Heap.size_push, hDz]
  generalize hCz : H2.objs.size = C at *
  have hDC : D ≠ C := by rw [hC]; exact Nat.ne_of_lt (Nat.lt_succ_self _)
  have below : ∀ b, b < D → b ≠ C ∧ b ≠ D := fun b hb => ⟨by rw [hC]; exact Nat.ne_of_lt (Nat.lt_succ_of_lt hb), Nat.ne_of_lt hb⟩
  have old : ∀ b o, hp.get? b = some o → h₁.get? b = some o := fun b o e => hsb₁.extBut b o (below b (hDz ▸ Heap.lt_size e)).1 (Heap.get?_push_of_some _ (hH2 ▸ Heap.get?_push_of_some _ e))
  have hacc : h₁.get? D = some (LCg.lst []) := hsb₁.extBut _ _ hDC (Heap.get?_push_of_some _ (hH2 ▸ hDz ▸ Heap.get?_push_size _ rfl))
  have hst₁ : KBw.IsBytesIter h₁ I b t 0 := W.frame _ _ _ hst fun b _ o e => old b o e
  have fresh₀ : ∀ a, D ≤ a → h₀.get? a = none := fun a ha => by
    cases e : h₀.get? a with
    | none => rfl
    | some o' => have := F₁.keep a o' e; exact absurd (Heap.lt_size this) (Nat.not_lt.mpr (hDz ▸ ha))
  have hD₀ : h₀.get? D = none := fresh₀ _ (Nat.le_refl _)
  have hC₀ : h₀.get? C = none := fresh₀ _ (by rw [hC]; exact Nat.le_succ _)
  have hLlt : L < D := hDz ▸ F₁.ns.lt
  have hDL : D ≠ L := Ne.symm (below L hLlt).2
  have hCL : C ≠ L := Ne.symm (below L hLlt).1
  have hIC : I ≠ C := (below I hIlt).1
  have hID : I ≠ D := (below I hIlt).2
  have offN : ∀ p ∈ news, p.1 ≠ C ∧ p.1 ≠ D := fun p hp' => below _ (hDz ▸ Heap.lt_size (N₁ p hp').1)
  have loop : ∀ s₃ : Shared, s₃ = { s with heap := h₁, toks := s.toks + ([] : List (Str × Value)).length } →
      codeAny (model prog w) A (.compLoop (.ListComp elt [⟨.Name x px, iter, [], 0⟩, ⟨.Name y py, it2, [], 0⟩] scope pos) 0 (.ref I) (.ref D) (compEnvC scope cl C env))
        (post (.ref D) (compEnvC scope cl C env)) s₃ := by
    rintro s₃ rfl
    refine codeAny_loop rfl
      (fun k s' => ∃ h' tk i ys m', s' = { s with heap := h', toks := tk } ∧ i ≤ b.size ∧ k = b.size + 1 - i ∧ ys.length = n2 * i ∧ KBw.IsBytesIter h' I b t i ∧ Fr h₀ L h' m ∧ h'.Ns C m' ∧ News h₀ L h' ((D, LCg.lst ys) :: news) ∧ Acc (n2 * i) ys) ?_ (b.size + 1)
      ⟨h₁, _, 0, [], _, rfl, Nat.zero_le _, rfl, rfl, hst₁, F₁.keeps old, hns₁, fun p hp' => ?_, by simpa using h0⟩
    · rintro k s' ⟨h', tk, i, ys, m', rfl, hi, rfl, hyl, hst', F', hn', N', hA⟩
      show wpAny _ A ((compTurn (.ListComp elt [⟨.Name x px, iter, [], 0⟩, ⟨.Name y py, it2, [], 0⟩] scope pos) 0 (.ref I) (.ref D) (compEnvC scope cl C env)).onRaise (fun x => do noteFrame x (compEnvC scope cl C env); theTreesLotGoes x)) _ _ _
      refine wpAny_noted ?_
      rw [compTurn_two]
      refine wpAny_bind (wpAny_standAt (wpAny_bind ?_))
      have frw : ∀ {h''}, (∀ b o, b ∉ [I] → h'.get? b = some o → h''.get? b = some o) → Fr h₀ L h'' m := fun hk => LCg.fr_but F' hk hLI hI₀
      have Nw : ∀ {h''}, (∀ b o, b ∉ [I] → h'.get? b = some o → h''.get? b = some o) → News h₀ L h'' ((D, LCg.lst ys) :: news) := fun hk => LCg.news_but N' hk fun p hp' => by
        rcases List.mem_cons.mp hp' with rfl | hp'
        · exact Ne.symm hID
        · exact hNI p hp'
      by_cases hlt : i < b.size
      · refine W.item i _ _ _ hlt hst' fun v h₂ tk₂ hPv hst₂ hk₂ => ?_
        obtain ⟨c, u, hc, rfl⟩ := hPv
        refine wpAny_bind (m := letOwnedTupleGo _ _ _) (wpAny_pure ?_)
        refine wpAny_bind (wpAny_assign_Name (wpAny_storeName_local (lookup_relabel_local hx) (hn'.at' fun o e => hk₂ _ o (by simpa using Ne.symm hIC) e) (fun h₃ hn₃ hs₃ => ?_) (by simp [compEnvC, relabel, hkind])))
        have hst₃ : KBw.IsBytesIter h₃ I b t (i + 1) := W.frame _ _ _ hst₂ fun b hb o e => hs₃.extBut b o (fun q => hIC (by rw [List.mem_singleton] at hb; rw [← hb, q]; rfl)) e
        obtain ⟨oC, heC, hoC⟩ := LCg.ns_obj hn₃
        obtain ⟨oI, heI, hoI⟩ := hst₃
        have F₃ : Fr h₀ L h₃ m := (frw hk₂).change hs₃ hCL hC₀
        have N₂ := Nw hk₂
        have N₃ : News h₀ L h₃ ([(I, oI)] ++ (C, oC) :: (D, LCg.lst ys) :: news) := fun p hp' => by
          rcases List.mem_cons.mp hp' with rfl | hp'
          · exact ⟨heI, Ne.symm hLI, hI₀⟩
          · rcases List.mem_cons.mp hp' with rfl | hp'
            · exact ⟨heC, hCL, hC₀⟩
            · have z := N₂ p hp'
              refine ⟨hs₃.extBut _ _ ?_ z.1, z.2⟩
              rcases List.mem_cons.mp hp' with rfl | hp'
              · exact hDC
              · exact (offN p hp').1
        refine wpAny_bind (wpAny_mono (hit2 i ys C oC D [(I, oI)] _ h₃ _ c u _ hc (by simp) hoC F₃ N₃) (fun xv s₄ h₄ => ?_) fun _ _ e => e)
        obtain ⟨T, vals, nn, h₄, tk₄, rfl, rfl, hov, F₄, N₄, l4⟩ := h₄
        refine wpAny_bind (wpAny_standAt (wpAny_bind (wpAny_of_eq (hs2 C _) (wpAny_bind (wpAny_holding ?_)))))
        have zT := N₄ _ List.mem_cons_self
        have zI := (N₄ (I, oI) (List.mem_cons_of_mem _ List.mem_cons_self)).1
        have zC := (N₄ (C, oC) (List.mem_cons_of_mem _ (List.mem_cons_of_mem _ List.mem_cons_self))).1
        have hTI : I ≠ T := Nat.ne_of_lt (l4 (I, oI) List.mem_cons_self)
        have hTC : C ≠ T := Nat.ne_of_lt (l4 (C, oC) (List.mem_cons_of_mem _ List.mem_cons_self))
        have hTD : D ≠ T := Nat.ne_of_lt (l4 (D, LCg.lst ys) (List.mem_cons_of_mem _ (List.mem_cons_of_mem _ List.mem_cons_self)))
        have hIsT : h₄.IsTuple T vals := ⟨_, zT.1, rfl, _, rfl⟩
        refine wpAny_pyIter_tuple hIsT ?_
        have up4 : ∀ b' o, h₄.get? b' = some o → (h₄.push { cls := .type "tuple_iterator", data := .fields #[.ref T, .int 0 0] }).get? b' = some o := fun b o e => Heap.get?_push_of_some _ e
        have lt4 : ∀ {b' o}, h₄.get? b' = some o → b' ≠ h₄.objs.size := fun e => Nat.ne_of_lt (Heap.lt_size e)
        have J₀ : h₀.get? h₄.objs.size = none := next_is_new F₄
        refine wpAny_bind ?_
        unfold runOwn
        refine wpAny_onRaise (wpAny_run ?_)
        have N₅ : News h₀ L (h₄.push { cls := .type "tuple_iterator", data := .fields #[.ref T, .int 0 0] }) ((D, LCg.lst ys) :: (I, oI) :: (T, { cls := .type "tuple", data := .seq vals nn }) :: news) := fun p hp' => by
          have z : p ∈ (T, ({ cls := .type "tuple", data := .seq vals nn } : Obj)) :: ([(I, oI)] ++ (C, oC) :: (D, LCg.lst ys) :: news) := by
            rcases List.mem_cons.mp hp' with rfl | hp'
            · exact List.mem_cons_of_mem _ (List.mem_cons_of_mem _ (List.mem_cons_of_mem _ List.mem_cons_self))
            · rcases List.mem_cons.mp hp' with rfl | hp'
              · exact List.mem_cons_of_mem _ List.mem_cons_self
              · rcases List.mem_cons.mp hp' with rfl | hp'
                · exact List.mem_cons_self
                · exact List.mem_cons_of_mem _ (List.mem_cons_of_mem _ (List.mem_cons_of_mem _ (List.mem_cons_of_mem _ hp')))
          exact ⟨up4 _ _ (N₄ p z).1, (N₄ p z).2⟩
        have stJ : (h₄.push { cls := .type "tuple_iterator", data := .fields #[.ref T, .int 0 0] }).IsTupleIter h₄.objs.size T 0 := ⟨_, Heap.get?_push_size _ rfl, rfl, rfl⟩
        have WJ := Walks.tuple (prog := prog) (w := w) (A := A) hh h₄.objs.size T (Ne.symm (Ne.symm (lt4 zT.1))) vals
        have inner : codeAny (model prog w) A (.compLoop (.ListComp elt [⟨.Name x px, iter, [], 0⟩, ⟨.Name y py, it2, [], 0⟩] scope pos) 1 (.ref h₄.objs.size) (.ref D) (compEnvC scope cl C env))
            (fun r s' => match r with
              | .ok _ => ∃ k', k' < b.size + 1 - i ∧ ∃ h' tk i ys m', s' = { s with heap := h', toks := tk } ∧ i ≤ b.size ∧ k' = b.size + 1 - i ∧ ys.length = n2 * i ∧ KBw.IsBytesIter h' I b t i ∧ Fr h₀ L h' m ∧ h'.Ns C m' ∧ News h₀ L h' ((D, LCg.lst ys) :: news) ∧ Acc (n2 * i) ys
              | .error e => False)
            { s with heap := h₄.push { cls := .type "tuple_iterator", data := .fields #[.ref T, .int 0 0] }, toks := tk₄ } := by
          refine loop_G (C := C) (Inv := fun m' => m' x = some (.int (c.toNat : Int) u)) (Pm := fun j m' => ∃ v, vals[j]? = some v ∧ m' y = some v) (Acc := fun j ys => Acc (n2 * i + j) ys) (z := n2 * i) rule_inner
            (KTurns.ofWalks WJ fun i v s' Q E' _ hQ => wpAny_pure hQ) ?_ ?_ ?_ ?_ ?_ ?_ (Ne.symm hDC) hCL hDL hC₀ hD₀ ?_ hyl ⟨stJ, hIsT.at fun o e => up4 _ o e⟩ (F₄.keeps up4) ((hoC.ns zC).at' fun o e => up4 _ o e) (by simp) N₅ ?_ (by simpa using hA) ?_ ?_
          · intro hm
            rcases List.mem_cons.mp hm with q | hm
            · exact lt4 zC q
            · exact hTC (List.mem_singleton.mp hm)
          · intro hm
            rcases List.mem_cons.mp hm with q | hm
            · exact lt4 (N₄ (D, LCg.lst ys) (List.mem_cons_of_mem _ (List.mem_cons_of_mem _ (List.mem_cons_of_mem _ List.mem_cons_self)))).1 q
            · exact hTD (List.mem_singleton.mp hm)
          · intro hm
            rcases List.mem_cons.mp hm with q | hm
            · exact Nat.ne_of_lt F₄.ns.lt q
            · exact zT.2.1 (List.mem_singleton.mp hm).symm
          · intro b' hb'
            rw [List.mem_singleton.mp hb']; exact J₀
          · intro p hp' hm
            have q := List.mem_singleton.mp hm
            rcases List.mem_cons.mp hp' with rfl | hp'
            · exact lt4 zI q
            · rcases List.mem_cons.mp hp' with rfl | hp'
              · exact lt4 zT.1 q
              · exact lt4 (N₄ p (List.mem_cons_of_mem _ (List.mem_cons_of_mem _ (List.mem_cons_of_mem _ (List.mem_cons_of_mem _ hp'))))).1 q
          · intro p hp'
            rcases List.mem_cons.mp hp' with rfl | hp'
            · exact ⟨hIC, hID⟩
            · rcases List.mem_cons.mp hp' with rfl | hp'
              · exact ⟨Ne.symm hTC, Ne.symm hTD⟩
              · exact offN p hp'
          · rw [hok vals hov]
            refine Nat.le_trans ?_ hsz
            rw [← Nat.mul_succ]
            exact Nat.mul_le_mul_left _ hlt
          · intro j v m' s' Q E' hP hn hI k
            refine wpAny_assign_Name (wpAny_storeName_local (lookup_relabel_local hy) hn (fun h₃ hn₃ hs₃ => ?_) (by simp [compEnvC, relabel, hkind]))
            exact k h₃ _ _ hn₃ ⟨v, hP, by simp⟩ (by simpa [hxy] using hI) fun b' o hb e => hs₃.extBut b' o hb e
          · rintro j ys' oC' own m₂ h tk hj hA' ⟨v, hv, hmy⟩ hmx hoC' F' N'
            exact turn i j ys' C oC' D own _ m₂ h tk c u vals v _ hc hov hv hA' hmx hmy hoC' F' N'
          · intro h tk m' ys' hA' hl' hI' F' N' hn'
            refine ⟨b.size + 1 - (i + 1), by omega, h, tk, i + 1, ys', m', rfl, hlt, rfl, ?_, ⟨oI, (N' (I, oI) (List.mem_cons_of_mem _ List.mem_cons_self)).1, hoI⟩, F', hn', fun p hp' => ?_, ?_⟩
            · rw [hl', hok vals hov, Nat.mul_succ]
            · rcases List.mem_cons.mp hp' with rfl | hp'
              · exact N' _ List.mem_cons_self
              · exact N' p (List.mem_cons_of_mem _ (List.mem_cons_of_mem _ (List.mem_cons_of_mem _ hp')))
            · rw [hok vals hov] at hA'
              rw [Nat.mul_succ]
              exact hA'
        have key := codeAny_compStart_inner (R := fun r s' => match r with
              | .ok _ => ∃ k', k' < b.size + 1 - i ∧ ∃ h' tk i ys m', s' = { s with heap := h', toks := tk } ∧ i ≤ b.size ∧ k' = b.size + 1 - i ∧ ys.length = n2 * i ∧ KBw.IsBytesIter h' I b t i ∧ Fr h₀ L h' m ∧ h'.Ns C m' ∧ News h₀ L h' ((D, LCg.lst ys) :: news) ∧ Acc (n2 * i) ys
              | .error e => False) inner (WJ.self 0 _ _ _ ⟨stJ, hIsT.at fun o e => up4 _ o e⟩ inner)
        refine codeAny_mono key fun r s' hr => ?_
        cases r with
        | ok f => exact wpAny_pure ⟨rfl, hr⟩
        | error e => exact hr.elim
      · obtain rfl : i = b.size := Nat.le_antisymm hi (Nat.not_lt.mp hlt)
        refine W.done _ _ _ hst' fun h₂ tk₂ hk₂ => ?_
        refine wpAny_pure ?_
        exact hRR D (compEnvC scope cl C env) h₂ tk₂ _ ys rfl hA (frw hk₂) (Nw hk₂) (hn'.at' fun o e => hk₂ _ o (by simpa using Ne.symm hIC) e) hC₀ hD₀ hCL hDL (Ne.symm hDC) fun p hp => (offN p hp).1
    · rcases List.mem_cons.mp hp' with rfl | hp'
      · exact ⟨hacc, hDL, hD₀⟩
      · exact ⟨old _ _ (N₁ p hp').1, (N₁ p hp').2⟩
  exact PySem.codeAny_compStart_list (loop _ rfl) (W.self 0 _ _ _ hst₁ (loop _ rfl))
end
end Mine
end

section -- D1
open PySem PySem.W PyProof.Rows
namespace Mine
open PySem.Builtin
theorem find_ascii (b : Array UInt8) (p : Nat) (h : (b.getD p 0).toNat < 128) : _codecs.utf8Decoder.find true b p = .text [(b.getD p 0).toNat] (p + 1) := by
  have e : Bytes.utf8At b p = (.char (b.getD p 0).toNat, p + 1) := by
    unfold Bytes.utf8At
    exact if_pos h
  show (match Bytes.utf8At b p with
    | (.char c, nx) => _codecs.Found.char c nx
    | (.bad _ stop reason, _) => _codecs.Found.bad stop reason _) = _
  rw [e]
  rfl
theorem runs_ascii (b : Array UInt8) (hs : b.size ≤ sizeLine) (h : ∀ p, (b.getD p 0).toNat < 128) (id : String) :
    _codecs.runDecoder id _codecs.utf8Decoder none true b 0 [] = pure ((b.toList.map (·.toNat)).toArray, b.size) := by
  unfold _codecs.runDecoder
  dsimp only
  rw [Std.Legacy.Range.forIn_eq_forIn_range']
  have key : ∀ (l : List Nat) (p : Nat) (out : Array Nat) (st : _codecs.Faults) (f : Nat → Nat × Array Nat × _codecs.Faults → Sem (ForInStep (Nat × Array Nat × _codecs.Faults))),
      (∀ x p out st, p < b.size → out.size ≤ sizeLine → f x (p, out, st) = pure (.yield (p + 1, out ++ #[(b.getD p 0).toNat], st))) →
      p + l.length = b.size → out.size = p →
      forIn l (p, out, st) f = (pure (b.size, out ++ ((b.toList.drop p).map (·.toNat)).toArray, st) : Sem _) := by
    intro l
    induction l with
    | nil =>
      intro p out st f _ hp ho
      have hp' : p = b.size := by simpa using hp
      subst hp'
      rw [List.forIn_nil, List.drop_of_length_le (by simp)]
      simp
    | cons x l ih =>
      intro p out st f hf hp ho
      have hlt : p < b.size := by rw [← hp, List.length_cons]; omega
      rw [List.forIn_cons, hf x p out st hlt (by omega), pure_bind]
      show forIn l (p + 1, out ++ #[(b.getD p 0).toNat], st) f = _
      rw [ih (p + 1) _ st f hf (by rw [← hp, List.length_cons]; omega) (by rw [Array.size_append, ho]; rfl)]
      have e : b.toList.drop p = b.getD p 0 :: b.toList.drop (p + 1) := by
        rw [List.drop_eq_getElem_cons (by simpa using hlt)]
        congr 1
        simp [Array.getD, hlt]
      rw [e, List.map_cons]
      congr 1
      simp
  rw [key _ 0 #[] _ _ ?_ ?_ rfl, pure_bind]
  · simp
  · intro x p out st hp ho
    dsimp only
    rw [if_neg (by omega), if_neg (by omega), find_ascii b p (h p)]
  · simp [Std.Legacy.Range.size]
end Mine
end

section -- C9
open PySem PySem.W PyProof.Rows
set_option maxHeartbeats 1000000
namespace Mine
theorem reset_C9 : True := by
  w_top off
  exact trivial
theorem fill10 : (PySem.Challenge.rw_fp5009_01, hd.heap_39) = (PySem.Challenge.rw_fp5009_01, hd.heap_39) := by
  k_fill
  rfl

def hexCodes : List UInt8 := [48, 49, 50, 51, 52, 53, 54, 55, 56, 57, 97, 98, 99, 100, 101, 102]
def hexAt (o : Int) (k : Int) : Int := ((hexCodes.getD ((o.fdiv (16 ^ Int.toNat k)).fmod 16).toNat 0).toNat : Int)
def hexInts (b : Array UInt8) : List Int := (KBw.bInts b).flatMap fun o => [hexAt o 1, hexAt o 0]
theorem flat2_get {α β : Type} (p q : α → β) : ∀ (l : List α) (i : Nat) (o : α), l[i]? = some o → (l.flatMap fun o => [p o, q o])[2 * i + 0]? = some (p o) ∧ (l.flatMap fun o => [p o, q o])[2 * i + 1]? = some (q o)
  | [], _, _, h => by simp at h
  | x :: l, 0, o, h => by
    obtain rfl : x = o := by simpa using h
    exact ⟨rfl, rfl⟩
  | x :: l, i + 1, o, h => by
    have ih := flat2_get p q l i o (by simpa using h)
    rw [List.flatMap_cons]
    rw [show 2 * (i + 1) + 0 = (2 * i + 0) + 2 by omega, show 2 * (i + 1) + 1 = (2 * i + 1) + 2 by omega]
    exact ih
theorem flat2_len {α β : Type} (p q : α → β) : ∀ (l : List α), (l.flatMap fun o => [p o, q o]).length = 2 * l.length
  | [] => rfl
  | x :: l => by rw [List.flatMap_cons, List.length_append, flat2_len p q l, List.length_cons]; simp; omega
theorem hexAt_in (o k : Int) : 0 ≤ hexAt o k ∧ hexAt o k < 128 := by
  unfold hexAt
  have key : ∀ n : Nat, (hexCodes.getD n 0).toNat < 128 := by
    intro n
    rcases Nat.lt_or_ge n 16 with h | h
    · have : ∀ n : Fin 16, (hexCodes.getD n.1 0).toNat < 128 := by decide
      exact this ⟨n, h⟩
    · rw [List.getD_eq_getElem?_getD, List.getElem?_eq_none (by exact h)]; decide
  have := key ((o.fdiv (16 ^ Int.toNat k)).fmod 16).toNat
  omega
theorem hexInts_in {b : Array UInt8} : ∀ n ∈ hexInts b, 0 ≤ n ∧ n < 128 := fun n hn => by
  obtain ⟨o, _, hn⟩ := List.mem_flatMap.mp hn
  rcases List.mem_cons.mp hn with rfl | hn
  · exact hexAt_in _ _
  · rw [List.mem_singleton.mp hn]; exact hexAt_in _ _
theorem hexInts_len (b : Array UInt8) : (hexInts b).length = 2 * b.size := by
  unfold hexInts
  rw [flat2_len (fun o => hexAt o 1) (fun o => hexAt o 0), KBw.ints_length]
theorem ints_step {l : List Int} {i : Nat} {ys : List Value} {x : Int} {t : Tok} (hA : IntsAre ys (l.take i)) (hx : l[i]? = some x) : IntsAre (ys ++ [.int x t]) (l.take (i + 1)) := by
  rw [List.take_add_one, hx]
  exact IntsAre.append hA (.cons x t .nil)


theorem ListComp_nest {prog : Program} {w : World} {A : Around} {E : Value → Shared → Prop} {s : Shared} {env : Env} {elt t1 it1 t2 it2 : PySem.Expr} {scope : Scope} {cl : List (Str × Addr)} {pos : Pos} {Q : Value → Shared → Prop}
    (hclos : closureFor scope env = pure cl) (hkind : scope.kind = .function) (hnames : ∀ y ∈ scope.names, y.2 = .local → scope.names.lookup y.1 = some .local)
    (h : wpAny (model prog w) A (eval it1 env) (CompGo prog w A E env (.ListComp elt [⟨t1, it1, [], 0⟩, ⟨t2, it2, [], 0⟩] scope pos) scope cl (compPostG (model prog w) A E Q)) E s)
    (hs : ∀ x, foldedSetIterable it1 env x = pure x := by intro _; rfl) :
    wpAny (model prog w) A (eval (.ListComp elt [⟨t1, it1, [], 0⟩, ⟨t2, it2, [], 0⟩] scope pos) env) Q E s := by
  rw [eval_ListComp]
  exact wpAny_comprehension_G rfl hs hclos hkind hnames h

local macro_rules | `(tactic| walk_at "eval ListComp") => `(tactic| (k_here; k_dflt (refine ListComp_nest (by with_unfolding_all rfl) (by rfl) (by decide) ?_)))

theorem hex_ok {prog : Program} {w : World} {p : Program} {loose : List Str} {mean : ExcName → Option Value} {mg mb : Str → Option Value}
    {dp un : Nat} {gd : Option (List Code)} {cn : Str} {cs : Scope} {a : Addr} {ccd : Value} {cl : List (Str × Addr)} {outer : List Env} {A₀ : Around} {base h₀ : Heap} {L : Addr} {m : Str → Option Value} {s : Shared} {Q E : Value → Shared → Prop}
    {news : List (Addr × Obj)} {b : Array UInt8} {t : Tok}
    (B : Below A₀ base outer h₀) (F : Fr h₀ L s.heap m) (X : (hd.heap_39 w.params).In h₀) (N : News h₀ L s.heap news) (T : Top p loose mean mg mb h₀) (hk : cs.kind = .function)
    (hd' : dp + 2 < recursionLimit) (hu : un + 16 < cLine) (hb : b.size ≤ 4)
    (hret : ∀ (t : Tok) (h' : Heap) (tk' : Nat), Fr h₀ L h' m → News h₀ L h' news → Q (.bytes (byteArr (hexInts b)) t) { s with heap := h', toks := tk' }) :
    wpAny (model prog w) (ktrTop dp un gd cn cs L a ccd cl outer) (call (.ref 19) [.bytes b t]) Q E s := by
  refine wpAny_call ?_
  k_dflt cell_enter
  k_steps
  refine nest_go (n2 := 2) (ok := fun vals => ∃ t1 t0, vals = #[.int 1 t1, .int 0 t0]) (Acc := fun i ys => IntsAre ys ((hexInts b).take i)) (by decide) (by rfl) (by rfl) (by rfl) (by decide) (by rfl) (by rw [sizeLine_eq]; omega) (by k_asm) (by k_asm) .nil ?_ ?_ ?_ ?_ ?_
  · rintro vals ⟨t1, t0, rfl⟩; rfl
  · intro C v; rfl
  · intro i ys C oC D own m₂ h tk c u E' hc hm hC F9 N9
    k_steps
    exact ⟨_, _, _, _, _, rfl, rfl, ⟨_, _, rfl⟩, by assumption, by assumption, by assumption⟩
  · rintro i j ys C oC D own led m₂ h tk c u vals v E' hc ⟨t1, t0, rfl⟩ hv hA hx hy hC F9 N9
    obtain ⟨q0, q1, q2, q3⟩ := nibbles c
    have hj : j = 0 ∨ j = 1 := by
      have := (Array.getElem?_eq_some_iff.mp hv).1
      have e2 : (#[Value.int 1 t1, Value.int 0 t0] : Array Value).size = 2 := rfl
      omega
    rcases hj with rfl | rfl
    · obtain rfl : Value.int 1 t1 = v := Option.some.inj hv
      k_steps
      exact ⟨_, _, rfl, by assumption, by assumption, ints_step hA (flat2_get _ _ _ i _ (KBw.ints_get hc)).1⟩
    · obtain rfl : Value.int 0 t0 = v := Option.some.inj hv
      k_steps
      exact ⟨_, _, rfl, by assumption, by assumption, ints_step hA (flat2_get _ _ _ i _ (KBw.ints_get hc)).2⟩
  · intro D cenv h tk m' ys hcf hA F9 N9 hn hC0 hD0 hCL hDL hCD off9
    refine post_value F9 N9 hn hC0 hCL hCD off9 ?_
    intro h8 tk8 F8 N8
    k_steps
    have hys : IntsAre ys (hexInts b) := by
      rwa [List.take_of_length_le (by rw [hexInts_len]; exact Nat.le_refl _)] at hA
    refine KBa.make_K (by k_asm) (by k_asm) (by rfl) (by is_list) hys (fun n hn => ⟨(hexInts_in n hn).1, by have := (hexInts_in n hn).2; omega⟩) (by rw [hexInts_len]; omega) ?_
    intro h9 t9 k9 F9 N9 _
    k_steps
    exact hret _ _ _ (by k_asm) (by first | assumption | exact cb_drop (by assumption) keepT1 | exact cb_drop (by assumption) keepT2)
end Mine
end

section -- L1
open PySem PySem.W PyProof.Rows
namespace Mine
open PySem.Calls

theorem allObj_of : ∀ {ws : List (Addr × String)} {k : List (Addr × Obj) → Prop}, (∀ its, Objs ws its → k its) → AllObj ws k
  | [], _, h => AllObj.nil (h [] trivial)
  | w :: _, _, h => AllObj.cons fun o ho => allObj_of fun its hi => h ((w.1, o) :: its) ⟨⟨rfl, ho⟩, hi⟩

/-- the body of a loop went on, and what holds of the locals -/
def BodyOk (h₀ : Heap) (L : Addr) (s : Shared) (led : List (Addr × Obj)) (J : (Str → Option Value) → Prop) (f : Flow) (s₂ : Shared) : Prop :=
  f = .next ∧ ∃ h' tk m', s₂ = { s with heap := h', toks := tk } ∧ Fr h₀ L h' m' ∧ News h₀ L h' led ∧ J m'
theorem BodyOk.mk {h₀ : Heap} {L : Addr} {s : Shared} {led : List (Addr × Obj)} {J : (Str → Option Value) → Prop} {h' : Heap} {tk : Nat} {m' : Str → Option Value} (F : Fr h₀ L h' m') (N : News h₀ L h' led) (j : J m') : BodyOk h₀ L s led J .next { s with heap := h', toks := tk } := ⟨rfl, h', tk, m', rfl, F, N, j⟩

section
variable {prog : Program} {w : World} {A : Around} {E : Value → Shared → Prop} {s : Shared} {env : Env} {h₀ : Heap} {target : PySem.Expr} {body : List Stmt} {Q : Flow → Shared → Prop}

theorem rest_of {ws : List (Addr × String)} {keep : List (Addr × Obj)} {items : List Itm} {news : List (Addr × Obj)} {J : Nat → (Str → Option Value) → Prop}
    (hk : SubL keep news) (hoff : ∀ p ∈ news, ∀ q ∈ ws, p.1 ≠ q.1)
    (turn : ∀ (i : Nat) a m v h tk its, items[i]? = some a → a.Is v h → J i m → Fr h₀ env.locals h m → News h₀ env.locals h (its ++ news) →
      wpAny (model prog w) A (assign target env v) (fun _ s₂ => wpAny (model prog w) A (execs body env) (BodyOk h₀ env.locals { s with heap := h, toks := tk } (its ++ news) (J (i + 1))) E s₂) E { s with heap := h, toks := tk })
    (done : ∀ m h tk, J items.length m → Fr h₀ env.locals h m → News h₀ env.locals h news → Q .next { s with heap := h, toks := tk }) :
    ∀ (k : Nat) (m : Str → Option Value), k ≤ items.length → J k m → ItemsRest prog w A E h₀ env target body Q s ws keep (items.drop k) m news := by
  intro k
  generalize hr : items.length - k = r
  induction r generalizing k with
  | zero =>
    intro m hk' hj
    obtain rfl : k = items.length := by omega
    rw [List.drop_length]
    exact ItemsRest.zero fun h tk F N => done m h tk hj F N
  | succ r ih =>
    intro m hk' hj
    have hlt : k < items.length := by omega
    rw [List.drop_eq_getElem_cons hlt]
    intro v h tk hv F
    refine allObj_of fun its hits N => ?_
    have hoff' : ∀ p ∈ news, ∀ q ∈ its, p.1 ≠ q.1 := fun p hp q hq => by
      have : q.1 ∈ ws.map (·.1) := Objs.map hits ▸ List.mem_map_of_mem hq
      obtain ⟨w', hw, e⟩ := List.mem_map.mp this
      rw [← e]
      exact hoff p hp w' hw
    refine wpAny_mono (turn k _ m v h tk its (List.getElem?_eq_getElem hlt) hv hj F N) (fun _ s₂ h₂ => wpAny_mono h₂ (fun f s₃ h₃ => ?_) fun _ _ e => e) fun _ _ e => e
    obtain ⟨rfl, h', tk', m', rfl, F', N', j'⟩ := h₃
    exact ⟨h', tk', m', news, rfl, F', N', hoff', hk, ih (k + 1) (by omega) m' hlt j'⟩

theorem for_list {x : Str} {px : Pos} {ax : Addr} {vs : List Value} {n : Nat} {m₀ : Str → Option Value} {news : List (Addr × Obj)} {J : Nat → (Str → Option Value) → Prop}
    (hh : A.handled = none) (F : Fr h₀ env.locals s.heap m₀) (N : News h₀ env.locals s.heap news) (hm : (ax, listOf vs.toArray n) ∈ news) (hkx : env.kindOf x = some .local) (hp : (env.scope.kind == .class || (env.scope.kind == .module && env.locals != env.globals)) = false) (hj : J 0 m₀)
    (turn : ∀ (i : Nat) v m h tk its, vs[i]? = some v → J i m → Fr h₀ env.locals h (fun y => if y = x then some v else m y) → News h₀ env.locals h (its ++ news) →
      wpAny (model prog w) A (execs body env) (BodyOk h₀ env.locals { s with heap := h, toks := tk } (its ++ news) (J (i + 1))) E { s with heap := h, toks := tk })
    (done : ∀ m h tk, J vs.length m → Fr h₀ env.locals h m → News h₀ env.locals h news → Q .next { s with heap := h, toks := tk }) :
    wpAny (model prog w) A (pyIter (.ref ax)) (fun it s₂ => TurnsAt prog w A h₀ env (.Name x px) body Q E it s₂) E s := by
  refine iter_listTurns hh F N hm rfl rfl fun I hI => ?_
  refine rest_of (prog := prog) (w := w) (A := A) (E := E) (env := env) (target := .Name x px) (body := body) (Q := Q) (s := s) (ws := [(I, "list_iterator")]) (keep := [(ax, listOf vs.toArray n)]) (items := vs.map .val) (news := news) (J := J) (And.intro hm trivial)
    (fun p hp' q hq => by rw [List.mem_singleton.mp hq]; exact Nat.ne_of_lt (hI p hp')) ?_ ?_ 0 m₀ (Nat.zero_le _) hj
  · intro i a m v h tk its ha hv hj F N
    rw [List.getElem?_map] at ha
    obtain ⟨v', hv', rfl⟩ := Option.map_eq_some_iff.mp ha
    obtain rfl : v = v' := hv
    refine wpAny_assign_Name (wpAny_storeName_local hkx F.ns (fun h₃ hn₃ hs₃ => ?_) hp)
    exact turn i v m h₃ _ its hv' hj (F.set hn₃ hs₃) fun p hp' => ⟨hs₃.extBut _ _ (N p hp').2.1 (N p hp').1, (N p hp').2⟩
  · intro m h tk hj F N
    exact done m h tk (by rw [List.length_map] at hj; exact hj) F N

theorem assign_pair {a b : Str} {pa pb tp : Pos} {kk : Nat} {T : Addr} {x y : Value} {m : Str → Option Value} {news : List (Addr × Obj)} {Q : Unit → Shared → Prop} (hh : A.handled = none) (ht : IsTup s.heap T #[x, y])
    (ha : env.kindOf a = some .local) (hb : env.kindOf b = some .local) (hp : (env.scope.kind == .class || (env.scope.kind == .module && env.locals != env.globals)) = false) (F : Fr h₀ env.locals s.heap m) (N : News h₀ env.locals s.heap news)
    (h : ∀ (h' : Heap) (tk : Nat), Fr h₀ env.locals h' (fun z => if z = b then some y else if z = a then some x else m z) → News h₀ env.locals h' news → Q () { s with heap := h', toks := tk }) :
    wpAny (model prog w) A (assign (.Tuple [.Name a pa, .Name b pb] kk tp) env (.ref T)) Q E s := by
  refine kcp_assign hh ht ha hb hp F.ns fun h' tk hn hk => ?_
  exact h h' tk ⟨hn, fun c o e => hk c o (fun q => by rw [q, kts_self F] at e; cases e) (F.keep c o e), F.above⟩ fun p hp' => ⟨hk _ _ (N p hp').2.1 (N p hp').1, (N p hp').2⟩

theorem for_zip {x y : Str} {px py tp : Pos} {kk : Nat} {l1 l2 : Addr} {xs ys : List Value} {n1 n2 : Nat} {m₀ : Str → Option Value} {news : List (Addr × Obj)} {J : Nat → (Str → Option Value) → Prop}
    (hh : A.handled = none) (F : Fr h₀ env.locals s.heap m₀) (N : News h₀ env.locals s.heap news) (hm1 : (l1, listOf xs.toArray n1) ∈ news) (hm2 : (l2, listOf ys.toArray n2) ∈ news) (hlen : xs.length = ys.length)
    (hkx : env.kindOf x = some .local) (hky : env.kindOf y = some .local) (hp : (env.scope.kind == .class || (env.scope.kind == .module && env.locals != env.globals)) = false) (hj : J 0 m₀)
    (turn : ∀ (i : Nat) v1 v2 m h tk its, xs[i]? = some v1 → ys[i]? = some v2 → J i m → Fr h₀ env.locals h (fun z => if z = y then some v2 else if z = x then some v1 else m z) → News h₀ env.locals h (its ++ news) →
      wpAny (model prog w) A (execs body env) (BodyOk h₀ env.locals { s with heap := h, toks := tk } (its ++ news) (J (i + 1))) E { s with heap := h, toks := tk })
    (done : ∀ m h tk, J xs.length m → Fr h₀ env.locals h m → News h₀ env.locals h news → Q .next { s with heap := h, toks := tk }) :
    wpAny (model prog w) A (call (.type "zip") [.ref l1, .ref l2]) (fun xv s₁ => wpAny (model prog w) A (pyIter xv) (fun it s₂ => TurnsAt prog w A h₀ env (.Tuple [.Name x px, .Name y py] kk tp) body Q E it s₂) E s₁) E s := by
  refine ktu_zip hh F N hm1 rfl rfl hm2 rfl rfl fun I hI => ?_
  refine rest_of (prog := prog) (w := w) (A := A) (E := E) (env := env) (target := .Tuple [.Name x px, .Name y py] kk tp) (body := body) (Q := Q) (s := s) (ws := [(I + 4, "zip"), (I + 2, "tuple"), (I + 3, "tuple"), (I, "list_iterator"), (I + 1, "list_iterator")])
    (keep := [(l1, listOf xs.toArray n1), (l2, listOf ys.toArray n2)]) (items := zipItems xs ys) (news := news) (J := J) (And.intro hm1 (And.intro hm2 trivial)) ?_ ?_ ?_ 0 m₀ (Nat.zero_le _) hj
  · intro p hp' q hq
    have h1 := hI p hp'
    have hq' : q = (I + 4, "zip") ∨ q = (I + 2, "tuple") ∨ q = (I + 3, "tuple") ∨ q = (I, "list_iterator") ∨ q = (I + 1, "list_iterator") := by simpa using hq
    rcases hq' with rfl | rfl | rfl | rfl | rfl
    · exact ktu_ne 4 h1
    · exact ktu_ne 2 h1
    · exact ktu_ne 3 h1
    · exact Nat.ne_of_lt h1
    · exact ktu_ne 1 h1
  · intro i a m v h tk its ha hv hj F N
    have hi : i < xs.length := by
      have := (List.getElem?_eq_some_iff.mp ha).1
      rw [zipItems_length, hlen, Nat.min_self] at this
      omega
    have g := zipItems_get xs ys i (List.getElem?_eq_getElem hi) (List.getElem?_eq_getElem (by omega : i < ys.length))
    obtain rfl := Option.some.inj (ha.symm.trans g)
    obtain ⟨T, t, rfl, hT⟩ := hv
    refine assign_pair hh hT hkx hky hp F N fun h' tk' F' N' => ?_
    exact turn i _ _ m h' tk' its (List.getElem?_eq_getElem hi) (List.getElem?_eq_getElem (by omega)) hj F' N'
  · intro m h tk hj F N
    exact done m h tk (by rw [zipItems_length, hlen, Nat.min_self] at hj; rw [hlen]; exact hj) F N
end
end Mine
end

section -- C10
open PySem PySem.W PyProof.Rows
set_option maxHeartbeats 1000000
namespace Mine
local macro_rules | `(tactic| walk_at "idle 0") => `(tactic| skip)
local macro_rules | `(tactic| walk_at "idle 1") => `(tactic| skip)
local macro_rules | `(tactic| walk_at "idle 2") => `(tactic| skip)
local macro_rules | `(tactic| walk_at "idle 3") => `(tactic| skip)
local macro_rules | `(tactic| walk_at "idle 4") => `(tactic| skip)
local macro_rules | `(tactic| walk_at "idle 5") => `(tactic| skip)
local macro_rules | `(tactic| walk_at "idle 6") => `(tactic| skip)
local macro_rules | `(tactic| walk_at "idle 7") => `(tactic| skip)
local macro_rules | `(tactic| walk_at "idle 8") => `(tactic| skip)
local macro_rules | `(tactic| walk_at "idle 9") => `(tactic| skip)
local macro_rules | `(tactic| walk_at "idle 10") => `(tactic| skip)
local macro_rules | `(tactic| walk_at "idle 11") => `(tactic| skip)
local macro_rules | `(tactic| walk_at "idle 12") => `(tactic| skip)
local macro_rules | `(tactic| walk_at "idle 13") => `(tactic| skip)
local macro_rules | `(tactic| walk_at "idle 14") => `(tactic| skip)
local macro_rules | `(tactic| walk_at "idle 15") => `(tactic| skip)
theorem reset_C10 : True := by
  w_top off
  exact trivial
theorem fill11 : (PySem.Challenge.rw_fp5009_01, hd.heap_39) = (PySem.Challenge.rw_fp5009_01, hd.heap_39) := by
  k_fill
  rfl
-- «ktr_unf»: a def with a default is entered
local macro_rules | `(tactic| ktr_unf) => `(tactic| (refine' code_def ?k1 ?k2 ?k3 ?k4 ?k5 ?kA ?kF ?kK ?k6 ?k7 ?k8 ?k9 ?kB ?_ ?c2 ?c3 ?c4 ?c5; (case kA => exact rfl); (case kF => exact rfl); (case kK => first | assumption | exact rfl); (case k1 => k_asm); (case k2 => k_asm); (case k3 => k_asm); (case k4 => k_asm); (case k5 => k_asm); (case k6 => k_is); (case k7 => k_is); (case k8 => ktr_room); (case k9 => first | exact BindsTo.of_eq rfl | exact binds_K (by k_in) rfl (by k_is) rfl rfl rfl); (case c5 => decide); (case kB => exact locs rfl); (case c2 => exact rfl); (case c3 => exact rfl); (case c4 => exact rfl); k_whole; intro g' L' h' FG' F' N' B' X' T'; (try dsimp only); (try k_lift B'); (try k_fold)))
local macro_rules | `(tactic| walk_at "exec For") => `(tactic| (k_here; (rename Fr _ _ _ _ => lF'); (with_unfolding_all refine' For_turns lF' ?_)))
local macro_rules | `(tactic| walk_at "exec For Name Name cons nil") => `(tactic| (k_here; (rename Fr _ _ _ _ => lF'); (with_unfolding_all refine' For_turns lF' ?_)))
def hexText (b : Array UInt8) : PySem.Str := ⟨((byteArr (hexInts b)).toList.map (·.toNat)).toArray⟩
theorem hexText_len (b : Array UInt8) : (hexText b).length = 2 * b.size := by
  show ((byteArr (hexInts b)).toList.map (·.toNat)).toArray.size = _
  rw [List.size_toArray, List.length_map, Array.length_toList, byteArr_size, hexInts_len]
theorem byteArr_small {ns : List Int} (h : ∀ n ∈ ns, 0 ≤ n ∧ n < 128) (p : Nat) : ((byteArr ns).getD p 0).toNat < 128 := by
  unfold byteArr
  rcases Nat.lt_or_ge p ns.length with hp | hp
  · have e : ((ns.map fun n => n.toNat.toUInt8).toArray).getD p 0 = (ns[p]).toNat.toUInt8 := by
      simp [Array.getD, hp]
    rw [e]
    have := h ns[p] (List.getElem_mem hp)
    show (ns[p].toNat % 256) < 128
    omega
  · have e : ((ns.map fun n => n.toNat.toUInt8).toArray).getD p 0 = 0 := by
      simp [Array.getD, Nat.not_lt.mpr hp]
    rw [e]; decide
theorem decode_hex {prog : Program} {w : World} {A : Around} {E : Value → Shared → Prop} {s : Shared} {b : Array UInt8} {t : Tok} {Q : Value → Shared → Prop} (hb : b.size = 4)
    (h : ∀ t' k, Q (.str (hexText b) t') { s with toks := k }) : wpAny (model prog w) A (call (.builtin "bytes.decode") [.bytes (byteArr (hexInts b)) t]) Q E s := by
  have hs : (byteArr (hexInts b)).size = 8 := by rw [byteArr_size, hexInts_len, hb]
  obtain ⟨c, cs, e⟩ : ∃ c cs, byteArr (hexInts b) = (c :: cs).toArray := by
    cases q : (byteArr (hexInts b)).toList with
    | nil =>
      have : (byteArr (hexInts b)).toList.length = 8 := by rw [Array.length_toList, hs]
      rw [q] at this; cases this
    | cons c cs => exact ⟨c, cs, by rw [← q]⟩
  have r := runs_ascii (byteArr (hexInts b)) (by rw [hs, sizeLine_eq]; decide) (byteArr_small hexInts_in)
  have hl := hexText_len b
  unfold hexText at hl h
  rw [e] at r h hl ⊢
  exact KBd.decode (x := ⟨((c :: cs).toArray.toList.map (·.toNat)).toArray⟩) (n := (c :: cs).toArray.size) r (by rw [hl]; omega) h

def toldOne (n : Int) : PySem.Str := if 2147483648 ≤ n then PySem.Str.ofString "/" ++ numText (n - 2147483648) ++ PySem.Str.ofString "h" else PySem.Str.ofString "/" ++ numText n
def told (front : PySem.Str) (ns : List Int) : PySem.Str := ns.foldl (fun s n => s ++ toldOne n) front
theorem toldOne_len {n : Int} (h0 : 0 ≤ n) (h1 : n < 4294967296) : (toldOne n).length ≤ 12 := by
  have e1 : (PySem.Str.ofString "/").length = 1 := by decide
  have e2 : (PySem.Str.ofString "h").length = 1 := by decide
  unfold toldOne numText
  split
  · have := num_room (n := n - 2147483648) (by omega) (by omega)
    rw [Str.length_append, Str.length_append]
    omega
  · have := num_room h0 h1
    rw [Str.length_append]
    omega
theorem told_len : ∀ (ns : List Int) (front : PySem.Str), (∀ n ∈ ns, 0 ≤ n ∧ n < 4294967296) → (told front ns).length ≤ front.length + 12 * ns.length
  | [], _, _ => Nat.le_refl _
  | n :: ns, front, h => by
    have ih := told_len ns (front ++ toldOne n) fun k hk => h k (List.mem_cons_of_mem _ hk)
    have := toldOne_len (h n List.mem_cons_self).1 (h n List.mem_cons_self).2
    rw [Str.length_append] at ih
    show (told (front ++ toldOne n) ns).length ≤ _
    rw [List.length_cons]
    omega
theorem told_step {front : PySem.Str} {ns : List Int} {i : Nat} {n : Int} (h : ns[i]? = some n) : told front (ns.take (i + 1)) = told front (ns.take i) ++ toldOne n := by
  unfold told
  rw [List.take_add_one, h, List.foldl_append]
  rfl
theorem fr_at {h₀ h : Heap} {L : Addr} {m : Str → Option Value} {x : Str} {v : Value} (F : Fr h₀ L h m) (e : m x = some v) : Fr h₀ L h (fun y => if y = x then some v else m y) := by
  have : (fun y => if y = x then some v else m y) = m := by
    funext y
    by_cases h : y = x
    · rw [if_pos h, h, e]
    · rw [if_neg h]
  rw [this]; exact F
local macro_rules | `(tactic| walk_at "inplaceOp Add str str") => `(tactic| (k_here; (with_reducible show wpAny _ _ (inplaceOp Operator.Add (Value.str _ _) (Value.str _ _)) _ _ _); (refine' SBL.iadd ?_ ?hsz; (case hsz => (rw [PySem.sizeLine_eq]; (try simp only [PySem.Str.length_append]); omega)); intro _ _ _)))
local macro_rules | `(tactic| walk_at "call ref") => `(tactic| (k_here; k_dflt (refine' hex_ok ?k1 ?k2 ?k3 ?k4 ?k5 ?kK ?kd ?ku ?kb ?_; (case k1 => k_asm); (case k2 => k_asm); (case k3 => k_asm); (case k4 => k_asm); (case k5 => k_asm); (case kK => first | assumption | exact rfl); (case kd => ktr_room); (case ku => ktr_units); (case kb => omega); intro t9 h9 tk9 F9 N9; (try dsimp only))))
local macro_rules | `(tactic| walk_at "call builtin:bytes.decode") => `(tactic| (k_here; (with_reducible show wpAny _ _ (call (Value.builtin "bytes.decode") [Value.bytes _ _]) _ _ _); (refine decode_hex (by assumption) ?_); intro t9 k9))

theorem tell_ok {prog : Program} {w : World} {p : Program} {loose : List Str} {mean : ExcName → Option Value} {mg mb : Str → Option Value}
    {dp un : Nat} {gd : Option (List Code)} {cn : Str} {cs : Scope} {a : Addr} {ccd : Value} {cl : List (Str × Addr)} {outer : List Env} {A₀ : Around} {base h₀ : Heap} {L : Addr} {m : Str → Option Value} {s : Shared} {Q E : Value → Shared → Prop}
    {news : List (Addr × Obj)} {lv : Addr} {vs : List Value} {nn : Nat} {ns : List Int}
    (B : Below A₀ base outer h₀) (F : Fr h₀ L s.heap m) (X : (hd.heap_39 w.params).In h₀) (N : News h₀ L s.heap news) (T : Top p loose mean mg mb h₀) (hk : cs.kind = .function)
    (hd' : dp + 3 < recursionLimit) (hu : un + 24 < cLine) (hm : (lv, listOf vs.toArray nn) ∈ news) (hv : IntsAre vs ns) (hr : ∀ n ∈ ns, 0 ≤ n ∧ n < 4294967296) (hl : ns.length ≤ 63)
    (hret : ∀ (t : Tok) (h' : Heap) (tk' : Nat), Fr h₀ L h' m → News h₀ L h' news → Q (.str (told (PySem.Str.ofString "m") ns) t) { s with heap := h', toks := tk' }) :
    wpAny (model prog w) (ktrTop dp un gd cn cs L a ccd cl outer) (call (.ref 44) [.ref lv]) Q E s := by
  refine wpAny_call ?_
  k_dflt ktr_unf
  k_steps
  refine for_list (J := fun i m => ∃ t, m (PySem.Str.ofString "s") = some (.str (told (PySem.Str.ofString "m") (ns.take i)) t)) (by rfl) (by k_asm) (by k_asm) (by first | assumption | exact List.mem_cons_of_mem _ (by assumption)) (by rfl) (by rfl) ⟨_, rfl⟩ ?_ ?_
  · rintro i v m1 h tk its hv9 ⟨t9, hs9⟩ F9 N9
    obtain ⟨n, t8, rfl, hn9⟩ := hv.at i v hv9
    obtain ⟨hn0, hn1⟩ := hr n (List.mem_of_getElem? hn9)
    have e3 := num_room hn0 hn1
    have e6 := told_len (ns.take i) (PySem.Str.ofString "m") fun k hk => hr k (List.mem_of_mem_take hk)
    have e7 : (ns.take i).length ≤ 63 := by rw [List.length_take]; omega
    have e8 : ((PySem.Str.ofString "m")).length ≤ 8 := by decide
    have es1 : (PySem.Str.ofString "/").length = 1 := by decide
    have es2 : (PySem.Str.ofString "h").length = 1 := by decide
    have F8 := fr_at F9 (x := PySem.Str.ofString "s") hs9
    clear F9
    by_cases hh : 2147483648 ≤ n
    · have e5 := num_room (n := n - 2147483648) (by omega) (by omega)
      k_steps
      exact BodyOk.mk (by assumption) (by assumption) ⟨_, by rw [told_step hn9, toldOne, if_pos hh]; rfl⟩
    · k_steps
      exact BodyOk.mk (by assumption) (by assumption) ⟨_, by rw [told_step hn9, toldOne, if_neg hh]; rfl⟩
  · rintro m1 h tk ⟨t9, hs9⟩ F9 N9
    rw [List.take_of_length_le (by rw [hv.length]; exact Nat.le_refl _)] at hs9
    have F8 := fr_at F9 (x := PySem.Str.ofString "s") hs9
    clear F9
    k_steps
    exact hret _ _ _ (by k_asm) (by first | assumption | exact cb_drop (by assumption) keepT1 | exact cb_drop (by assumption) keepT2)

theorem tell_fp {prog : Program} {w : World} {p : Program} {loose : List Str} {mean : ExcName → Option Value} {mg mb : Str → Option Value}
    {dp un : Nat} {gd : Option (List Code)} {cn : Str} {cs : Scope} {a : Addr} {ccd : Value} {cl : List (Str × Addr)} {outer : List Env} {A₀ : Around} {base h₀ : Heap} {L : Addr} {m : Str → Option Value} {s : Shared} {Q E : Value → Shared → Prop}
    {news : List (Addr × Obj)} {lv : Addr} {vs : List Value} {nn : Nat} {ns : List Int} {b : Array UInt8} {tb : Tok} (hb : b.size = 4)
    (B : Below A₀ base outer h₀) (F : Fr h₀ L s.heap m) (X : (hd.heap_39 w.params).In h₀) (N : News h₀ L s.heap news) (T : Top p loose mean mg mb h₀) (hk : cs.kind = .function)
    (hd' : dp + 3 < recursionLimit) (hu : un + 24 < cLine) (hm : (lv, listOf vs.toArray nn) ∈ news) (hv : IntsAre vs ns) (hr : ∀ n ∈ ns, 0 ≤ n ∧ n < 4294967296) (hl : ns.length ≤ 63)
    (hret : ∀ (t : Tok) (h' : Heap) (tk' : Nat), Fr h₀ L h' m → News h₀ L h' news → Q (.str (told (hexText b) ns) t) { s with heap := h', toks := tk' }) :
    wpAny (model prog w) (ktrTop dp un gd cn cs L a ccd cl outer) (call (.ref 44) [.ref lv, .bytes b tb]) Q E s := by
  refine wpAny_call ?_
  k_dflt ktr_unf
  k_steps
  refine for_list (J := fun i m => ∃ t, m (PySem.Str.ofString "s") = some (.str (told (hexText b) (ns.take i)) t)) (by rfl) (by k_asm) (by k_asm) (by first | assumption | exact List.mem_cons_of_mem _ (by assumption)) (by rfl) (by rfl) ⟨_, rfl⟩ ?_ ?_
  · rintro i v m1 h tk its hv9 ⟨t9, hs9⟩ F9 N9
    obtain ⟨n, t8, rfl, hn9⟩ := hv.at i v hv9
    obtain ⟨hn0, hn1⟩ := hr n (List.mem_of_getElem? hn9)
    have e3 := num_room hn0 hn1
    have e6 := told_len (ns.take i) (hexText b) fun k hk => hr k (List.mem_of_mem_take hk)
    have e7 : (ns.take i).length ≤ 63 := by rw [List.length_take]; omega
    have e8 : ((hexText b)).length ≤ 8 := by rw [hexText_len, hb]; exact Nat.le_refl _
    have es1 : (PySem.Str.ofString "/").length = 1 := by decide
    have es2 : (PySem.Str.ofString "h").length = 1 := by decide
    have F8 := fr_at F9 (x := PySem.Str.ofString "s") hs9
    clear F9
    by_cases hh : 2147483648 ≤ n
    · have e5 := num_room (n := n - 2147483648) (by omega) (by omega)
      k_steps
      exact BodyOk.mk (by assumption) (by assumption) ⟨_, by rw [told_step hn9, toldOne, if_pos hh]; rfl⟩
    · k_steps
      exact BodyOk.mk (by assumption) (by assumption) ⟨_, by rw [told_step hn9, toldOne, if_neg hh]; rfl⟩
  · rintro m1 h tk ⟨t9, hs9⟩ F9 N9
    rw [List.take_of_length_le (by rw [hv.length]; exact Nat.le_refl _)] at hs9
    have F8 := fr_at F9 (x := PySem.Str.ofString "s") hs9
    clear F9
    k_steps
    exact hret _ _ _ (by k_asm) (by first | assumption | exact cb_drop (by assumption) keepT1 | exact cb_drop (by assumption) keepT2)

theorem tell_kw {prog : Program} {w : World} {p : Program} {loose : List Str} {mean : ExcName → Option Value} {mg mb : Str → Option Value}
    {dp un : Nat} {gd : Option (List Code)} {cn : Str} {cs : Scope} {a : Addr} {ccd : Value} {cl : List (Str × Addr)} {outer : List Env} {A₀ : Around} {base h₀ : Heap} {L : Addr} {m : Str → Option Value} {s : Shared} {Q E : Value → Shared → Prop}
    {news : List (Addr × Obj)} {lv : Addr} {vs : List Value} {nn : Nat} {ns : List Int} {b : Array UInt8} {tb : Tok} (hb : b.size = 4)
    (B : Below A₀ base outer h₀) (F : Fr h₀ L s.heap m) (X : (hd.heap_39 w.params).In h₀) (N : News h₀ L s.heap news) (T : Top p loose mean mg mb h₀) (hk : cs.kind = .function)
    (hd' : dp + 3 < recursionLimit) (hu : un + 24 < cLine) (hm : (lv, listOf vs.toArray nn) ∈ news) (hv : IntsAre vs ns) (hr : ∀ n ∈ ns, 0 ≤ n ∧ n < 4294967296) (hl : ns.length ≤ 63)
    (hret : ∀ (t : Tok) (h' : Heap) (tk' : Nat), Fr h₀ L h' m → News h₀ L h' news → Q (.str (told (hexText b) ns) t) { s with heap := h', toks := tk' }) :
    wpAny (model prog w) (ktrTop dp un gd cn cs L a ccd cl outer) (call (.ref 44) [.ref lv] [(PySem.Str.ofString "fingerprint", .bytes b tb)]) Q E s := by
  refine wpAny_call ?_
  k_dflt ktr_unf
  k_steps
  refine for_list (J := fun i m => ∃ t, m (PySem.Str.ofString "s") = some (.str (told (hexText b) (ns.take i)) t)) (by rfl) (by k_asm) (by k_asm) (by first | assumption | exact List.mem_cons_of_mem _ (by assumption)) (by rfl) (by rfl) ⟨_, rfl⟩ ?_ ?_
  · rintro i v m1 h tk its hv9 ⟨t9, hs9⟩ F9 N9
    obtain ⟨n, t8, rfl, hn9⟩ := hv.at i v hv9
    obtain ⟨hn0, hn1⟩ := hr n (List.mem_of_getElem? hn9)
    have e3 := num_room hn0 hn1
    have e6 := told_len (ns.take i) (hexText b) fun k hk => hr k (List.mem_of_mem_take hk)
    have e7 : (ns.take i).length ≤ 63 := by rw [List.length_take]; omega
    have e8 : ((hexText b)).length ≤ 8 := by rw [hexText_len, hb]; exact Nat.le_refl _
    have es1 : (PySem.Str.ofString "/").length = 1 := by decide
    have es2 : (PySem.Str.ofString "h").length = 1 := by decide
    have F8 := fr_at F9 (x := PySem.Str.ofString "s") hs9
    clear F9
    by_cases hh : 2147483648 ≤ n
    · have e5 := num_room (n := n - 2147483648) (by omega) (by omega)
      k_steps
      exact BodyOk.mk (by assumption) (by assumption) ⟨_, by rw [told_step hn9, toldOne, if_pos hh]; rfl⟩
    · k_steps
      exact BodyOk.mk (by assumption) (by assumption) ⟨_, by rw [told_step hn9, toldOne, if_neg hh]; rfl⟩
  · rintro m1 h tk ⟨t9, hs9⟩ F9 N9
    rw [List.take_of_length_le (by rw [hv.length]; exact Nat.le_refl _)] at hs9
    have F8 := fr_at F9 (x := PySem.Str.ofString "s") hs9
    clear F9
    k_steps
    exact hret _ _ _ (by k_asm) (by first | assumption | exact cb_drop (by assumption) keepT1 | exact cb_drop (by assumption) keepT2)
end Mine
end

section -- C11
open PySem PySem.W PyProof.Rows
set_option maxHeartbeats 1000000
namespace Mine
local macro_rules | `(tactic| walk_at "idle 0") => `(tactic| skip)
local macro_rules | `(tactic| walk_at "idle 1") => `(tactic| skip)
local macro_rules | `(tactic| walk_at "idle 2") => `(tactic| skip)
local macro_rules | `(tactic| walk_at "idle 3") => `(tactic| skip)
local macro_rules | `(tactic| walk_at "idle 4") => `(tactic| skip)
local macro_rules | `(tactic| walk_at "idle 5") => `(tactic| skip)
local macro_rules | `(tactic| walk_at "idle 6") => `(tactic| skip)
local macro_rules | `(tactic| walk_at "idle 7") => `(tactic| skip)
local macro_rules | `(tactic| walk_at "idle 8") => `(tactic| skip)
local macro_rules | `(tactic| walk_at "idle 9") => `(tactic| skip)
local macro_rules | `(tactic| walk_at "idle 10") => `(tactic| skip)
local macro_rules | `(tactic| walk_at "idle 11") => `(tactic| skip)
local macro_rules | `(tactic| walk_at "idle 12") => `(tactic| skip)
local macro_rules | `(tactic| walk_at "idle 13") => `(tactic| skip)
local macro_rules | `(tactic| walk_at "idle 14") => `(tactic| skip)
local macro_rules | `(tactic| walk_at "idle 15") => `(tactic| skip)
local macro_rules | `(tactic| walk_at "idle 16") => `(tactic| skip)
local macro_rules | `(tactic| walk_at "idle 17") => `(tactic| skip)
local macro_rules | `(tactic| walk_at "idle 18") => `(tactic| skip)
local macro_rules | `(tactic| walk_at "idle 19") => `(tactic| skip)
local macro_rules | `(tactic| walk_at "idle 20") => `(tactic| skip)
local macro_rules | `(tactic| walk_at "idle 21") => `(tactic| skip)
local macro_rules | `(tactic| walk_at "idle 22") => `(tactic| skip)
local macro_rules | `(tactic| walk_at "idle 23") => `(tactic| skip)
local macro_rules | `(tactic| walk_at "idle 24") => `(tactic| skip)
local macro_rules | `(tactic| walk_at "idle 25") => `(tactic| skip)
local macro_rules | `(tactic| walk_at "idle 26") => `(tactic| skip)
local macro_rules | `(tactic| walk_at "idle 27") => `(tactic| skip)
local macro_rules | `(tactic| walk_at "idle 28") => `(tactic| skip)
local macro_rules | `(tactic| walk_at "idle 29") => `(tactic| skip)
local macro_rules | `(tactic| walk_at "idle 30") => `(tactic| skip)
local macro_rules | `(tactic| walk_at "idle 31") => `(tactic| skip)
theorem reset_C11 : True := by
  w_top off
  exact trivial
theorem fill12 : (PySem.Challenge.rw_fp5009_01, hd.heap_39) = (PySem.Challenge.rw_fp5009_01, hd.heap_39) := by
  k_fill
  rfl
local macro_rules | `(tactic| walk_at "eval ListComp") => `(tactic| (k_here; k_dflt (refine ListComp_go (by with_unfolding_all rfl) (by rfl) (by decide) ?_)))

def nib (c : Nat) : Int := Txt.find (PySem.Str.ofString "0123456789abcdef") ⟨#[c]⟩
def hexEven (x : PySem.Str) : PySem.Str := Txt.sliceBy (Txt.lower x) none none (2, 0)
def hexOdd (x : PySem.Str) : PySem.Str := Txt.sliceBy (Txt.lower x) (some (1, 0)) none (2, 0)
theorem hexEven_tok (x : PySem.Str) (tk : Tok) : Txt.sliceBy (Txt.lower x) none none (2, tk) = hexEven x := rfl
theorem hexOdd_tok (x : PySem.Str) (t1 t2 : Tok) : Txt.sliceBy (Txt.lower x) (some (1, t1)) none (2, t2) = hexOdd x := rfl

/-- the raise of an element, noted, to the end of the comprehension -/
theorem raise_post {M : Model} {A : Around} {E : Value → Shared → Prop} {Q : Value → Shared → Prop} {base h₀ : Heap} {outer : List Env} {L : Addr} {env cenv : Env} {cls : Value} {news' out : List (Addr × Obj)} {oC : Obj} {m₂ : Str → Option Value} {e : Addr} {s' : Shared} {acc : Value}
    (hcf : cenv.frame = some L) (H : HeldG base h₀ outer env e cls news' L s'.heap) (hoC : LCg.NsObj oC m₂) (hC : (cenv.locals, oC) ∈ news') (sub : ∀ q ∈ out, q ∈ news' ∧ q.1 ≠ cenv.locals)
    (hE : ∀ h', HeldG base h₀ outer env e cls out L h' → E (.ref e) { s' with heap := h' }) : compPostG M A E Q acc cenv (.error (.ref e)) s' := by
  have zC : s'.heap.get? cenv.locals = some oC := by
    obtain ⟨B, a0, hB, hBg, hl, ⟨f1, f2, f3, f4⟩, up⟩ := H
    exact f1 _ _ (hl _ hC).1
  refine ⟨m₂, hoC.ns zC, fun h'' hs'' => ?_⟩
  exact held_pass (held_letgo H hC hs'' sub) hcf fun h₃ H₃ => hE h₃ H₃

local macro_rules | `(tactic| walk_at "call builtin:str.index") => `(tactic| (k_here; (with_reducible show wpAny _ _ (call (Value.builtin "str.index") [Value.str _ _, Value.str _ _]) _ _ _); (refine index_or (by rfl) ?_ ?_); (focus (intro kz1; exact absurd (show nib _ = -1 from kz1) (by omega))); intro kz2 kz3))

theorem unhex_ok {prog : Program} {w : World} {p : Program} {loose : List Str} {mean : ExcName → Option Value} {mg mb : Str → Option Value}
    {dp un : Nat} {gd : Option (List Code)} {cn : Str} {cs : Scope} {a : Addr} {ccd : Value} {cl : List (Str × Addr)} {outer : List Env} {A₀ : Around} {base h₀ : Heap} {L : Addr} {m : Str → Option Value} {s : Shared} {Q E : Value → Shared → Prop}
    {news : List (Addr × Obj)} {x : PySem.Str} {t : Tok} {ns : List Int}
    (B : Below A₀ base outer h₀) (F : Fr h₀ L s.heap m) (X : (hd.heap_39 w.params).In h₀) (N : News h₀ L s.heap news) (T : Top p loose mean mg mb h₀) (hk : cs.kind = .function)
    (hd' : dp + 2 < recursionLimit) (hu : un + 16 < cLine) (hx1 : x.length ≤ 640) (ha1 : (hexEven x).cps.all (· < 128) = true) (ha2 : (hexOdd x).cps.all (· < 128) = true) (hz : min (hexEven x).length (hexOdd x).length ≤ 640)
    (hlen : ns.length = min (hexEven x).length (hexOdd x).length)
    (hel : ∀ (i c1 c2 : Nat), (hexEven x).cps[i]? = some c1 → (hexOdd x).cps[i]? = some c2 → 0 ≤ nib c1 ∧ 0 ≤ nib c2 ∧ ns[i]? = some (16 * nib c1 + nib c2)) (hin : ∀ n ∈ ns, 0 ≤ n ∧ n < 256)
    (hret : ∀ (t : Tok) (h' : Heap) (tk' : Nat), Fr h₀ L h' m → News h₀ L h' news → Q (.bytes (byteArr ns) t) { s with heap := h', toks := tk' }) :
    wpAny (model prog w) (ktrTop dp un gd cn cs L a ccd cl outer) (call (.ref 24) [.str x t]) Q E s := by
  refine wpAny_call ?_
  k_dflt cell_enter
  k_steps
  rw [hexEven_tok, hexOdd_tok]
  refine zip_go (Acc := fun i ys => IntsAre ys (ns.take i)) (by decide) (by rfl) (by rfl) (by rfl) (by decide) (by rfl) ha1 ha2 (by rw [sizeLine_eq]; omega) (by k_asm) (by k_asm) .nil ?_ ?_
  · intro i ys C oC D own m₂ h tk c1 c2 u1 u2 hc1 hc2 hA hm1 hm2 hC F9 N9 off9
    obtain ⟨q1, q2, q3⟩ := hel i c1 c2 hc1 hc2
    k_steps
    exact ⟨_, _, rfl, by assumption, by assumption, ints_step hA q3⟩
  · intro D cenv h tk m' ys hcf hA F9 N9 hn hC0 hD0 hCL hDL hCD off9
    refine post_value F9 N9 hn hC0 hCL hCD off9 ?_
    intro h8 tk8 F8 N8
    k_steps
    have hys : IntsAre ys ns := by
      rwa [List.take_of_length_le (by rw [hlen]; exact Nat.le_refl _)] at hA
    refine KBa.make_K (by k_asm) (by k_asm) (by rfl) (by is_list) hys hin (by rw [hlen]; omega) ?_
    intro h9 t9 k9 F9 N9 _
    k_steps
    exact hret _ _ _ (by k_asm) (by first | assumption | exact cb_drop (by assumption) keepT1 | exact cb_drop (by assumption) keepT2)
local macro_rules | `(tactic| walk_at "call builtin:str.index") => `(tactic| (k_here; (with_reducible show wpAny _ _ (call (Value.builtin "str.index") [Value.str _ _, Value.str _ _]) _ _ _); (refine' index_or (by rfl) ?kxa ?kxb; (case kxb => (intro kz1; exact absurd (show 0 ≤ nib _ from kz1) (by omega))); intro kz1 kz2 h9 tk9 e9 x9)))

theorem unhex_bad {prog : Program} {w : World} {p : Program} {loose : List Str} {mean : ExcName → Option Value} {mg mb : Str → Option Value}
    {dp un : Nat} {gd : Option (List Code)} {cn : Str} {cs : Scope} {a : Addr} {ccd : Value} {cl : List (Str × Addr)} {outer : List Env} {A₀ : Around} {base h₀ : Heap} {L : Addr} {m : Str → Option Value} {s : Shared} {Q E : Value → Shared → Prop}
    {news : List (Addr × Obj)} {x : PySem.Str} {t : Tok} {c1 c2 : Nat}
    (B : Below A₀ base outer h₀) (F : Fr h₀ L s.heap m) (X : (hd.heap_39 w.params).In h₀) (N : News h₀ L s.heap news) (T : Top p loose mean mg mb h₀) (hk : cs.kind = .function)
    (hd' : dp + 2 < recursionLimit) (hu : un + 16 < cLine) (hx1 : x.length ≤ 640) (ha1 : (hexEven x).cps.all (· < 128) = true) (ha2 : (hexOdd x).cps.all (· < 128) = true) (hz : min (hexEven x).length (hexOdd x).length ≤ 640)
    (h1 : (hexEven x).cps[0]? = some c1) (h2 : (hexOdd x).cps[0]? = some c2) (hn : nib c1 < 0)
    (hE : RaiseOut base h₀ L m (envX cn cs L a ccd cl :: outer) news "ValueError" s E) :
    wpAny (model prog w) (ktrTop dp un gd cn cs L a ccd cl outer) (call (.ref 24) [.str x t]) Q E s := by
  refine wpAny_call ?_
  k_dflt cell_enter
  k_steps
  rw [hexEven_tok, hexOdd_tok]
  refine zip_go (Acc := fun i ys => i = 0 ∧ ys = []) (by decide) (by rfl) (by rfl) (by rfl) (by decide) (by rfl) ha1 ha2 (by rw [sizeLine_eq]; omega) (by k_asm) (by k_asm) ⟨rfl, rfl⟩ ?_ ?_
  · rintro i ys C oC D own m₂ h tk d1 d2 u1 u2 hc1 hc2 ⟨rfl, rfl⟩ hm1 hm2 hC F9 N9 off9
    obtain rfl : d1 = c1 := Option.some.inj (hc1.symm.trans h1)
    k_steps
    rename Heap.NewExc _ _ _ _ => x9
    refine held_of_new (by k_asm) x9 F9 N9 rfl ?_
    intro h8 H8
    refine raise_post rfl H8 hC (List.mem_append_right _ List.mem_cons_self) (out := news) (fun q hq => ⟨List.mem_append_right _ (List.mem_cons_of_mem _ (List.mem_cons_of_mem _ hq)), off9 q hq⟩) ?_
    intro h7 H7
    refine held_leave H7 ?_
    intro h6 R6 U6
    exact hE _ _ _ _ (by assumption) R6 U6
  · rintro D cenv h tk m' ys hcf ⟨hA, _⟩
    exfalso
    have e1 : 0 < (hexEven x).length := by
      show 0 < (hexEven x).cps.size
      exact (Array.getElem?_eq_some_iff.mp h1).1
    have e2 : 0 < (hexOdd x).length := by
      show 0 < (hexOdd x).cps.size
      exact (Array.getElem?_eq_some_iff.mp h2).1
    omega
end Mine
end

section -- C12
open PySem PySem.W PyProof.Rows
set_option maxHeartbeats 1000000
namespace Mine
theorem reset_C12 : True := by
  w_top off
  exact trivial
theorem fill13 : (PySem.Challenge.rw_fp5009_01, hd.heap_39) = (PySem.Challenge.rw_fp5009_01, hd.heap_39) := by
  k_fill
  rfl
/-- the walk halts here: the rest is said by hand -/
def Stop (p : Prop) : Prop := p
theorem Stop.mk {p : Prop} (h : Stop p) : p := h
theorem Stop.of {p : Prop} (h : p) : Stop p := h
local macro_rules | `(tactic| walk_at "call ref") => `(tactic| (k_here; (fail_if_success (with_reducible show wpAny _ _ (call (Value.ref 78) _) _ _ _)); refine Stop.mk ?_))
local macro_rules | `(tactic| walk_at "call builtin:str.split") => `(tactic| (k_here; (with_reducible show wpAny _ _ (call (Value.builtin "str.split") _) _ _ _); (refine KSpl.split1 (by k_asm) (by k_asm) (by decide) ?_ (by (rw [sizeLine_eq]; omega))); intro D' l' h' k' e' a' F' N' l1; rw [e'.trans (by assumption)] at a'; obtain ⟨t9, vs9, hv9, a9⟩ := StrsAre.cons_inv a'; rw [hv9] at N'; clear a' e' hv9))
local macro_rules | `(tactic| walk_at "call builtin:len") => `(tactic| (k_here; (with_reducible show wpAny _ _ (call (Value.builtin "len") [Value.bytes _ _]) _ _ _); (refine KBw.len_K (KBa.ints_make (by assumption)) (by omega) ?_)))
local macro_rules | `(tactic| ktr_unf) => `(tactic| (refine' code_def ?k1 ?k2 ?k3 ?k4 ?k5 ?kA ?kF ?kK ?k6 ?k7 ?k8 ?k9 ?kB ?_ ?c2 ?c3 ?c4 ?c5; (case kA => exact rfl); (case kF => exact rfl); (case kK => first | assumption | exact rfl); (case k1 => k_asm); (case k2 => k_asm); (case k3 => k_asm); (case k4 => k_asm); (case k5 => k_asm); (case k6 => k_is); (case k7 => k_is); (case k8 => ktr_room); (case k9 => first | exact BindsTo.of_eq rfl | exact binds_K (by k_in) rfl (by k_is) rfl rfl rfl); (case c5 => decide); (case kB => exact locs rfl); (case c2 => exact rfl); (case c3 => exact rfl); (case c4 => exact rfl); k_whole; intro g' L' h' FG' F' N' B' X' T'; (try dsimp only); (try k_lift B'); (try k_fold)))
theorem upd_off {l : List (Addr × Obj)} {d : Addr} (h : ∀ p ∈ l, p.1 < d) : ∀ p ∈ l, p.1 ≠ d := fun p hp => Nat.ne_of_lt (h p hp)
local macro_rules | `(tactic| k_upd) => `(tactic| exact Upd.tail (Nat.ne_of_gt (by assumption)) (Upd.head (upd_off (by assumption))))
abbrev originDict (pr : PySem.Params) (k1 k2 : Tok) (b : Array UInt8) (t : Tok) (l : Addr) : Obj :=
  dictOf [{ hash := PyData.keyHash pr (PySem.Str.ofString "fingerprint"), key := Value.str (PySem.Str.ofString "fingerprint") k1, val := Value.bytes b t }, { hash := PyData.keyHash pr (PySem.Str.ofString "derivation"), key := Value.str (PySem.Str.ofString "derivation") k2, val := Value.ref l }] 2
/-- a text of hex pairs and its octets -/
def HexIs (f : PySem.Str) (fs : List Int) : Prop :=
  f.length ≤ 640 ∧ (hexEven f).cps.all (· < 128) = true ∧ (hexOdd f).cps.all (· < 128) = true ∧ min (hexEven f).length (hexOdd f).length ≤ 640 ∧ fs.length = min (hexEven f).length (hexOdd f).length ∧
  (∀ (i c1 c2 : Nat), (hexEven f).cps[i]? = some c1 → (hexOdd f).cps[i]? = some c2 → 0 ≤ nib c1 ∧ 0 ≤ nib c2 ∧ fs[i]? = some (16 * nib c1 + nib c2)) ∧ KBa.In fs
theorem keepO {α : Type} {a b c d : α} {l : List α} : ∀ p ∈ a :: b :: c :: l, p ∈ a :: b :: c :: d :: l := fun p h => by
  rcases List.mem_cons.mp h with h | h
  · exact h ▸ List.mem_cons_self
  · rcases List.mem_cons.mp h with h | h
    · exact h ▸ List.mem_cons_of_mem _ List.mem_cons_self
    · rcases List.mem_cons.mp h with h | h
      · exact h ▸ List.mem_cons_of_mem _ (List.mem_cons_of_mem _ List.mem_cons_self)
      · exact List.mem_cons_of_mem _ (List.mem_cons_of_mem _ (List.mem_cons_of_mem _ (List.mem_cons_of_mem _ h)))
theorem method_callC {prog : Program} {w : World} {A : Around} {s : Shared} {R : Result → Shared → Prop} {p : Addr} {f self : Value} {pos : List Value} {kw : List (Str × Value)} (ho : s.heap.get? p = some (methodObj f self))
    (h : codeC (model prog w) A (.call f ⟨self :: pos, kw⟩) R s) : codeC (model prog w) A (.call (.ref p) ⟨pos, kw⟩) R s := by
  obtain ⟨hh, g, dr, t, os⟩ := s
  refine codeC_of_tree (wpC_of_any ?_)
  show wpAny _ _ (callAny (.ref p) _) _ _ _
  dsimp only at ho
  refine nd_load ho ?_
  cases f <;> exact wpAny_pure ⟨rfl, h⟩
theorem call_methC {prog : Program} {w : World} {A : Around} {E : Value → Shared → Prop} {s : Shared} {h₀ : Heap} {L : Addr} {news : List (Addr × Obj)} {Q : Value → Shared → Prop} {q : Addr} {f self : Value} {pos : List Value} {kw : List (Str × Value)} (N : News h₀ L s.heap news) (hq : (q, methodObj f self) ∈ news)
    (h : codeC (model prog w) A (.call f ⟨self :: pos, kw⟩) (fun r s' => match r with | .ok (.ret v) => Q v s' | .ok _ => False | .error e => E e s') s) : wpC (model prog w) A (call (.ref q) pos kw) Q E s :=
  wpC_call (method_callC (N _ hq).1 h)

theorem origin_ok {prog : Program} {w : World} {p : Program} {loose : List Str} {mean : ExcName → Option Value} {mg mb : Str → Option Value}
    {dp un : Nat} {gd : Option (List Code)} {cn : Str} {cs : Scope} {a : Addr} {ccd : Value} {cl : List (Str × Addr)} {outer : List Env} {A₀ : Around} {base h₀ : Heap} {L : Addr} {m : Str → Option Value} {s : Shared} {Q E : Value → Shared → Prop}
    {news : List (Addr × Obj)} {x : PySem.Str} {t : Tok} {q : Addr} {f : PySem.Str} {r : List PySem.Str} {fs : List Int} {q2 : PySem.Str} {r2 : List PySem.Str} {ns : List Int}
    (B : Below A₀ base outer h₀) (F : Fr h₀ L s.heap m) (X : (hd.heap_39 w.params).In h₀) (N : News h₀ L s.heap news) (T : Top p loose mean mg mb h₀) (hk : cs.kind = .function)
    (hd' : dp + 5 < recursionLimit) (hu : un + 40 < cLine) (hq : (q, methodObj (.ref 65) (.ref 78)) ∈ news) (hx1 : x.length ≤ 640) (hsp : Txt.split x (PySem.Str.ofString "/") = f :: r) (hr9 : r.length ≤ 640)
    (hhex : HexIs f fs) (hf4 : fs.length = 4)
    (hB : ∀ y ∈ PySem.Str.ofString "m" :: r, y.length ≤ 640) (hJ : (PySem.Str.ofString "m" :: r).length * 640 + (PySem.Str.ofString "m" :: r).length * (PySem.Str.ofString "/").length ≤ 16777216)
    (hy : (Txt.join (PySem.Str.ofString "/") (PySem.Str.ofString "m" :: r)).length ≤ 640)
    (hsp2 : Txt.split (Txt.rstripChars (Txt.join (PySem.Str.ofString "/") (PySem.Str.ofString "m" :: r)) (PySem.Str.ofString "/")) (PySem.Str.ofString "/") = q2 :: r2) (hr2 : r2.length ≤ 640) (hrd : ReadsAs (if q2 = PySem.Str.ofString "m" then r2 else q2 :: r2) ns)
    (hret : ∀ (x5 d5 l5 : Addr) (k1 k2 t5 : Tok) (vs : List Value) (n : Nat) (h' : Heap) (tk' : Nat), Fr h₀ L h' m → News h₀ L h' ((x5, instObj 78 d5) :: (d5, originDict w.params k1 k2 (byteArr fs) t5 l5) :: (l5, listOf vs.toArray n) :: news) → IntsAre vs ns → Q (.ref x5) { s with heap := h', toks := tk' }) :
    wpAny (model prog w) (ktrTop dp un gd cn cs L a ccd cl outer) (call (.ref q) [.str x t]) Q E s := by
  obtain ⟨x1, x2, x3, x4, x5, x6, hfin⟩ := hhex
  refine call_meth N hq ?_
  k_dflt cell_enter
  k_steps
  refine Stop.of ?_
  refine unhex_ok (ns := fs) (by k_asm) (by k_asm) (by k_asm) (by k_asm) (by k_asm) (by exact rfl) (by ktr_room) (by ktr_units) x1 x2 x3 x4 x5 x6 hfin ?_
  intro t8 h8 tk8 F8 N8
  k_steps
  · refine join_strs (by is_list) (.cons _ _ (by assumption)) hB hJ ?_
    intro t7 k7
    k_steps
    refine Stop.of ?_
    refine parse_ok (ns := ns) (q := q2) (r := r2) (by k_asm) (by k_asm) (by k_asm) (by k_asm) (by k_asm) (by exact rfl) (by ktr_room) (by ktr_units) hy hsp2 hr2 hrd ?_
    intro l6 vs6 n6 h6 tk6 F6 N6 I6
    k_steps
    refine call_cls (by k_asm) (by k_asm) (by k_asm) (by k_is) (by k_is) (by k_is) ?_
    intro x5 dx5 h5 F5 N5 l5 l55
    k_dflt ktr_unf
    k_steps
    exact hret _ _ _ _ _ _ _ _ _ _ (by k_asm) (cb_drop (by assumption) keepO) I6
  · rename (((_ : Nat) : Int) ≠ 4) => hz
    omega

local macro_rules | `(tactic| walk_at "leaving ref") => `(tactic| (k_here; (refine' leave_newS ?k1 ?k0 ?k2 ?k3 ?_; (case k0 => assumption); (case k2 => assumption); (case k1 => assumption); (case k3 => k_asm); k_whole; intro h' S' R' U')))

theorem raisedSN_drop {base G h : Heap} {l : List Env} {e : Addr} {cls : Value} {news news' : List (Addr × Obj)} (R : RaisedSN base G l e cls news h) (sub : ∀ p ∈ news', p ∈ news) : RaisedSN base G l e cls news' h := by
  obtain ⟨B, a0, hB, hBG, hl, hfl⟩ := R
  exact ⟨B, a0, hB, hBG, fun q hq => hl q (sub q hq), hfl⟩
theorem origin_len {prog : Program} {w : World} {p : Program} {loose : List Str} {mean : ExcName → Option Value} {mg mb : Str → Option Value}
    {dp un : Nat} {gd : Option (List Code)} {cn : Str} {cs : Scope} {a : Addr} {ccd : Value} {cl : List (Str × Addr)} {outer : List Env} {A₀ : Around} {base h₀ : Heap} {L : Addr} {m : Str → Option Value} {s : Shared} {Q E : Value → Shared → Prop}
    {news : List (Addr × Obj)} {x : PySem.Str} {t : Tok} {q : Addr} {f : PySem.Str} {r : List PySem.Str} {fs : List Int}
    (B : Below A₀ base outer h₀) (F : Fr h₀ L s.heap m) (X : (hd.heap_39 w.params).In h₀) (N : News h₀ L s.heap news) (T : Top p loose mean mg mb h₀) (hk : cs.kind = .function)
    (hd' : dp + 5 < recursionLimit) (hu : un + 40 < cLine) (hq : (q, methodObj (.ref 65) (.ref 78)) ∈ news) (hx1 : x.length ≤ 640) (hsp : Txt.split x (PySem.Str.ofString "/") = f :: r) (hr9 : r.length ≤ 640)
    (hhex : HexIs f fs) (hf4 : fs.length ≠ 4) (hE : RaiseOut base h₀ L m (envX cn cs L a ccd cl :: outer) news "AssertionError" s E) :
    wpAny (model prog w) (ktrTop dp un gd cn cs L a ccd cl outer) (call (.ref q) [.str x t]) Q E s := by
  obtain ⟨x1, x2, x3, x4, x5, x6, hfin⟩ := hhex
  refine call_meth N hq ?_
  k_dflt cell_enter
  k_steps
  refine Stop.of ?_
  refine unhex_ok (ns := fs) (by k_asm) (by k_asm) (by k_asm) (by k_asm) (by k_asm) (by exact rfl) (by ktr_room) (by ktr_units) x1 x2 x3 x4 x5 x6 hfin ?_
  intro t8 h8 tk8 F8 N8
  k_steps
  · exfalso
    rename (((_ : Nat) : Int) = 4) => hz
    omega
  · rename RaisedSN _ _ _ _ _ _ _ => S9
    exact hE _ _ _ _ (by assumption) (raisedSN_drop S9 keepT1) (by assumption)

theorem origin_hex {prog : Program} {w : World} {p : Program} {loose : List Str} {mean : ExcName → Option Value} {mg mb : Str → Option Value}
    {dp un : Nat} {gd : Option (List Code)} {cn : Str} {cs : Scope} {a : Addr} {ccd : Value} {cl : List (Str × Addr)} {outer : List Env} {A₀ : Around} {base h₀ : Heap} {L : Addr} {m : Str → Option Value} {s : Shared} {Q E : Value → Shared → Prop}
    {news : List (Addr × Obj)} {x : PySem.Str} {t : Tok} {q : Addr} {f : PySem.Str} {r : List PySem.Str} {c1 c2 : Nat}
    (B : Below A₀ base outer h₀) (F : Fr h₀ L s.heap m) (X : (hd.heap_39 w.params).In h₀) (N : News h₀ L s.heap news) (T : Top p loose mean mg mb h₀) (hk : cs.kind = .function)
    (hd' : dp + 5 < recursionLimit) (hu : un + 40 < cLine) (hq : (q, methodObj (.ref 65) (.ref 78)) ∈ news) (hx1 : x.length ≤ 640) (hsp : Txt.split x (PySem.Str.ofString "/") = f :: r) (hr9 : r.length ≤ 640)
    (y1 : f.length ≤ 640) (y2 : (hexEven f).cps.all (· < 128) = true) (y3 : (hexOdd f).cps.all (· < 128) = true) (y4 : min (hexEven f).length (hexOdd f).length ≤ 640)
    (h1 : (hexEven f).cps[0]? = some c1) (h2 : (hexOdd f).cps[0]? = some c2) (hn : nib c1 < 0) (hE : RaiseOut base h₀ L m (envX cn cs L a ccd cl :: outer) news "ValueError" s E) :
    wpAny (model prog w) (ktrTop dp un gd cn cs L a ccd cl outer) (call (.ref q) [.str x t]) Q E s := by
  refine call_meth N hq ?_
  k_dflt cell_enter
  k_steps
  refine Stop.of ?_
  refine unhex_bad (by k_asm) (by k_asm) (by k_asm) (by k_asm) (by k_asm) (by exact rfl) (by ktr_room) (by ktr_units) y1 y2 y3 y4 h1 h2 hn ?_
  intro e9 g9 h9 tk9 f9 r9 u9
  refine leave_onSN (by k_asm) f9 r9 u9 ?_
  intro h8 S8 R8 U8
  exact hE _ _ _ _ (by assumption) (raisedSN_drop S8 keepT1) U8

-- «ktr_unf»: a def is entered, under the claim's caller
local macro_rules | `(tactic| ktr_unf) => `(tactic| (refine' codeC_def ?k1 ?k2 ?k3 ?k4 ?k5 ?kA ?kF ?kK ?k6 ?k7 ?k8 ?k9 ?kB ?_ ?c2 ?c3 ?c4 ?c5; (case kA => exact rfl); (case kF => exact rfl); (case kK => first | assumption | exact rfl); (case k1 => k_asm); (case k2 => k_asm); (case k3 => k_asm); (case k4 => k_asm); (case k5 => k_asm); (case k6 => k_is); (case k7 => k_is); (case k8 => ktr_room); (case k9 => exact BindsTo.of_eq rfl); (case c5 => decide); (case kB => exact locs rfl); (case c2 => exact rfl); (case c3 => exact rfl); (case c4 => exact rfl); k_whole; intro g' L' h' FG' F' N' B' X' T'; (try dsimp only); (try k_lift B')))

theorem origin_path {prog : Program} {w : World} {p : Program} {loose : List Str} {mean : ExcName → Option Value} {mg mb : Str → Option Value}
    {dp un : Nat} {gd : Option (List Code)} {cn : Str} {cs : Scope} {a : Addr} {ccd : Value} {cl : List (Str × Addr)} {outer : List Env} {A₀ : Around} {base h₀ : Heap} {L : Addr} {m : Str → Option Value} {s : Shared} {Q E : Value → Shared → Prop}
    {news : List (Addr × Obj)} {x : PySem.Str} {t : Tok} {q : Addr} {f : PySem.Str} {r : List PySem.Str} {fs : List Int} {q2 : PySem.Str} {r2 : List PySem.Str} {k : Nat}
    (B : Below A₀ base outer h₀) (F : Fr h₀ L s.heap m) (X : (hd.heap_39 w.params).In h₀) (N : News h₀ L s.heap news) (T : Top p loose mean mg mb h₀) (hk : cs.kind = .function)
    (hd' : dp + 5 < recursionLimit) (hu : un + 40 < cLine) (hq : (q, methodObj (.ref 65) (.ref 78)) ∈ news) (hx1 : x.length ≤ 640) (hsp : Txt.split x (PySem.Str.ofString "/") = f :: r) (hr9 : r.length ≤ 640)
    (hhex : HexIs f fs) (hf4 : fs.length = 4)
    (hB : ∀ y ∈ PySem.Str.ofString "m" :: r, y.length ≤ 640) (hJ : (PySem.Str.ofString "m" :: r).length * 640 + (PySem.Str.ofString "m" :: r).length * (PySem.Str.ofString "/").length ≤ 16777216)
    (hy : (Txt.join (PySem.Str.ofString "/") (PySem.Str.ofString "m" :: r)).length ≤ 640)
    (hsp2 : Txt.split (Txt.rstripChars (Txt.join (PySem.Str.ofString "/") (PySem.Str.ofString "m" :: r)) (PySem.Str.ofString "/")) (PySem.Str.ofString "/") = q2 :: r2) (hr2 : r2.length ≤ 640) (hbad : BadAt (if q2 = PySem.Str.ofString "m" then r2 else q2 :: r2) k "ValueError")
    (hE : RaiseOut base h₀ L m (envX cn cs L a ccd cl :: outer) news "ValueError" s E) :
    wpC (model prog w) (ktrTop dp un gd cn cs L a ccd cl outer) (call (.ref q) [.str x t]) Q E s := by
  obtain ⟨x1, x2, x3, x4, x5, x6, hfin⟩ := hhex
  refine call_methC N hq ?_
  k_dflt ktr_unf
  refine wpC_execs_cons (wpC_of_any ?_)
  k_steps
  refine wpC_execs_cons (wpC_of_any ?_)
  k_steps
  refine Stop.of ?_
  refine unhex_ok (ns := fs) (by k_asm) (by k_asm) (by k_asm) (by k_asm) (by k_asm) (by exact rfl) (by ktr_room) (by ktr_units) x1 x2 x3 x4 x5 x6 hfin ?_
  intro t8 h8 tk8 F8 N8
  k_steps
  refine wpC_execs_cons (wpC_of_any ?_)
  k_steps
  · refine wpC_execs_cons (wpC_of_any ?_)
    k_steps
    refine wpC_execs_cons (wpC_of_any ?_)
    k_steps
    refine join_strs (by is_list) (.cons _ _ (by assumption)) hB hJ ?_
    intro t7 k7
    k_steps
    refine wpC_execs_cons (wpC_Assign_Name (by rfl) (wpC_Call ?_))
    k_steps
    refine wpC_callWith_K (K := hd.heap_39 w.params) (by k_asm) (by rfl) ?_
    k_steps
    refine parse_bad (k := k) (q := q2) (r := r2) (by k_asm) (by k_asm) (by k_asm) (by k_asm) (by k_asm) (by exact rfl) (by ktr_room) (by ktr_units) hy hsp2 hr2 hbad ?_
    intro e9 g9 h9 tk9 f9 r9 u9
    refine leave_onSN (by k_asm) f9 r9 u9 ?_
    intro h6 S6 R6 U6
    exact hE _ _ _ _ (by assumption) (raisedSN_drop S6 keepT1) U6
  · rename (((_ : Nat) : Int) ≠ 4) => hz
    omega
end Mine
end

section -- C13
open PySem PySem.W PyProof.Rows
set_option maxHeartbeats 1000000
namespace Mine
local macro_rules | `(tactic| walk_at "idle 0") => `(tactic| skip)
local macro_rules | `(tactic| walk_at "idle 1") => `(tactic| skip)
local macro_rules | `(tactic| walk_at "idle 2") => `(tactic| skip)
local macro_rules | `(tactic| walk_at "idle 3") => `(tactic| skip)
local macro_rules | `(tactic| walk_at "idle 4") => `(tactic| skip)
local macro_rules | `(tactic| walk_at "idle 5") => `(tactic| skip)
local macro_rules | `(tactic| walk_at "idle 6") => `(tactic| skip)
local macro_rules | `(tactic| walk_at "idle 7") => `(tactic| skip)
local macro_rules | `(tactic| walk_at "idle 8") => `(tactic| skip)
local macro_rules | `(tactic| walk_at "idle 9") => `(tactic| skip)
local macro_rules | `(tactic| walk_at "idle 10") => `(tactic| skip)
local macro_rules | `(tactic| walk_at "idle 11") => `(tactic| skip)
local macro_rules | `(tactic| walk_at "idle 12") => `(tactic| skip)
local macro_rules | `(tactic| walk_at "idle 13") => `(tactic| skip)
local macro_rules | `(tactic| walk_at "idle 14") => `(tactic| skip)
local macro_rules | `(tactic| walk_at "idle 15") => `(tactic| skip)
theorem reset_C13 : True := by
  w_top off
  exact trivial
theorem fill14 : (PySem.Challenge.rw_fp5009_01, hd.heap_39) = (PySem.Challenge.rw_fp5009_01, hd.heap_39) := by
  k_fill
  rfl
theorem wpC_MethodCall {M : Model} {A : Around} {E : Value → Shared → Prop} {s : Shared} {env : Env} {o : PySem.Expr} {name : Str} {apos pos : Pos} {args : List PySem.Expr} {pl : Sem Bool} {Q : Value → Shared → Prop}
    (h : wpAny M A (eval o env) (fun ov s₁ => wpAny M A (getMethod ov name pl) (fun fx s₂ => wpC M A (callWith pos fx.1 fx.2 (backTo pos (starEach args env)) []) Q E s₂) E s₁) E s)
    (he : eval (.Call (.Attribute o name apos) args [] pos) env = (do
      let ov ← eval o env
      standAt apos.atName
      let (f, first) ← holding [ov] (getMethod ov name pl)
      callWith pos f first (backTo pos (starEach args env)) []) := by rfl) :
    wpC M A (eval (.Call (.Attribute o name apos) args [] pos) env) Q E s := by
  rw [he]
  refine wpC_bind_any (wpAny_mono h (fun ov s₁ h₁ => wpC_bind_any (wpAny_standAt (wpC_bind_any (wpAny_holding (wpAny_mono h₁ (fun fx s₂ h₂ => ?_) fun _ _ x => x))))) fun _ _ x => x)
  exact h₂
theorem wpC_callWith_M {M : Model} {A : Around} {E : Value → Shared → Prop} {s : Shared} {env : Env} {K : Frag} {first : List Value} {pos : Pos} {Q : Value → Shared → Prop} {q g : Addr} {self : Value} {e : PySem.Expr} {rest : List PySem.Expr} (hf : fnIn K g = true)
    (h : wpAny M A (spliced (backTo pos (starEach (e :: rest) env))) (fun vs s₁ => MethP K q g self s₁.heap ∧ wpC M A (call (.ref q) (first ++ vs)) Q E s₁) E s)
    (he : starEach (e :: rest) env = (false, eval e env) :: starEach rest env := by rfl) (hplain : (backTo pos (starEach rest env)).any (·.1) = false := by rfl) :
    wpC M A (callWith pos (.ref q) first (backTo pos (starEach (e :: rest) env)) []) Q E s := by
  rw [he] at h ⊢
  exact wpC_callWith_of (by show (false || (backTo pos (starEach rest env)).any (·.1)) = false; rw [hplain]; rfl) (keeps_M hf) (Calls.evalArgs_plain h)
local macro_rules | `(tactic| walk_at "call ref") => `(tactic| (k_here; (fail_if_success (with_reducible show wpAny _ _ (call (Value.ref 78) _) _ _ _)); refine Stop.mk ?_))
-- «ktr_unf»: a catching helper is entered from the law's own frame, under the claim's caller
local macro_rules | `(tactic| ktr_unf) => `(tactic| (refine' codeC_defS ?k1 ?k2 ?k3 ?k4 ?k5 ?kA ?kF ?kK ?k6 ?k7 ?k8 ?k9 ?kB ?_ ?c2 ?c3 ?c4 ?c5; (case kA => exact rfl); (case kF => exact rfl); (case kK => first | assumption | exact rfl); (case k1 => k_asm); (case k2 => k_asm); (case k3 => k_asm); (case k4 => k_asm); (case k5 => k_asm); (case k6 => k_is); (case k7 => k_is); (case k8 => ktr_room); (case k9 => exact BindsTo.of_eq rfl); (case c5 => decide); (case kB => exact locs rfl); (case c2 => exact rfl); (case c3 => exact rfl); (case c4 => exact rfl); k_whole; intro g' L' h' FG' F' N' B' X' T' D'; (try dsimp only); (try k_lift B')))

theorem refO_len {prog : Program} {w : World} {p : Program} {loose : List Str} {mean : ExcName → Option Value} {mg mb : Str → Option Value}
    {dp un : Nat} {gd : Option (List Code)} {cn : Str} {cs : Scope} {a : Addr} {ccd : Value} {cl : List (Str × Addr)} {A₀ : Around} {base h₀ : Heap} {L : Addr} {m : Str → Option Value} {s : Shared} {Q E : Value → Shared → Prop}
    {news : List (Addr × Obj)} {x : PySem.Str} {t u : Tok} {f : PySem.Str} {r : List PySem.Str} {fs : List Int}
    (XB : (hd.heap_39 w.params).In base) (TB : Top p loose mean mg mb base)
    (B : Below A₀ base [] h₀) (F : Fr h₀ L s.heap m) (X : (hd.heap_39 w.params).In h₀) (N : News h₀ L s.heap news) (T : Top p loose mean mg mb h₀) (hk : cs.kind = .function)
    (hd' : dp + 7 < recursionLimit) (hu : un + 56 < cLine) (hx1 : x.length ≤ 640) (hsp : Txt.split x (PySem.Str.ofString "/") = f :: r) (hr9 : r.length ≤ 640)
    (hhex : HexIs f fs) (hf4 : fs.length ≠ 4)
    (hret : ∀ (h' : Heap) (tk' : Nat), Fr h₀ L h' m → News h₀ L h' news → Q (.bool true) { s with heap := h', toks := tk' }) :
    wpC (model prog w) (ktrTop dp un gd cn cs L a ccd cl []) (call (.ref 134) [.str x t, .int 1 u]) Q E s := by
  refine wpC_call ?_
  k_dflt ktr_unf
  refine wpC_execs_cons (wpC_Try_except ?_)
  · refine wpC_of_any ?_
    k_steps
    refine Stop.of ?_
    refine origin_len (by k_asm) (by k_asm) (by k_asm) (by k_asm) (by k_asm) (by exact rfl) (by ktr_room) (by ktr_units) (by k_mem) hx1 hsp hr9 hhex hf4 ?_
    intro e9 g9 h9 tk9 f9 r9 u9
    dsimp only
    k_steps
    exact hret _ _ (by k_asm) (by first | assumption | exact cb_drop (by assumption) (fun _ h => h) | exact cb_drop (by assumption) keepT1)

theorem refO_hex {prog : Program} {w : World} {p : Program} {loose : List Str} {mean : ExcName → Option Value} {mg mb : Str → Option Value}
    {dp un : Nat} {gd : Option (List Code)} {cn : Str} {cs : Scope} {a : Addr} {ccd : Value} {cl : List (Str × Addr)} {A₀ : Around} {base h₀ : Heap} {L : Addr} {m : Str → Option Value} {s : Shared} {Q E : Value → Shared → Prop}
    {news : List (Addr × Obj)} {x : PySem.Str} {t u : Tok} {f : PySem.Str} {r : List PySem.Str} {c1 c2 : Nat}
    (XB : (hd.heap_39 w.params).In base) (TB : Top p loose mean mg mb base)
    (B : Below A₀ base [] h₀) (F : Fr h₀ L s.heap m) (X : (hd.heap_39 w.params).In h₀) (N : News h₀ L s.heap news) (T : Top p loose mean mg mb h₀) (hk : cs.kind = .function)
    (hd' : dp + 7 < recursionLimit) (hu : un + 56 < cLine) (hx1 : x.length ≤ 640) (hsp : Txt.split x (PySem.Str.ofString "/") = f :: r) (hr9 : r.length ≤ 640)
    (y1 : f.length ≤ 640) (y2 : (hexEven f).cps.all (· < 128) = true) (y3 : (hexOdd f).cps.all (· < 128) = true) (y4 : min (hexEven f).length (hexOdd f).length ≤ 640)
    (h1 : (hexEven f).cps[0]? = some c1) (h2 : (hexOdd f).cps[0]? = some c2) (hn : nib c1 < 0)
    (hret : ∀ (h' : Heap) (tk' : Nat), Fr h₀ L h' m → News h₀ L h' news → Q (.bool true) { s with heap := h', toks := tk' }) :
    wpC (model prog w) (ktrTop dp un gd cn cs L a ccd cl []) (call (.ref 134) [.str x t, .int 2 u]) Q E s := by
  refine wpC_call ?_
  k_dflt ktr_unf
  refine wpC_execs_cons (wpC_Try_except ?_)
  · refine wpC_of_any ?_
    k_steps
    refine Stop.of ?_
    refine origin_hex (by k_asm) (by k_asm) (by k_asm) (by k_asm) (by k_asm) (by exact rfl) (by ktr_room) (by ktr_units) (by k_mem) hx1 hsp hr9 y1 y2 y3 y4 h1 h2 hn ?_
    intro e9 g9 h9 tk9 f9 r9 u9
    dsimp only
    k_steps
    exact hret _ _ (by k_asm) (by first | assumption | exact cb_drop (by assumption) (fun _ h => h) | exact cb_drop (by assumption) keepT1)

theorem refO_path {prog : Program} {w : World} {p : Program} {loose : List Str} {mean : ExcName → Option Value} {mg mb : Str → Option Value}
    {dp un : Nat} {gd : Option (List Code)} {cn : Str} {cs : Scope} {a : Addr} {ccd : Value} {cl : List (Str × Addr)} {A₀ : Around} {base h₀ : Heap} {L : Addr} {m : Str → Option Value} {s : Shared} {Q E : Value → Shared → Prop}
    {news : List (Addr × Obj)} {x : PySem.Str} {t u : Tok} {f : PySem.Str} {r : List PySem.Str} {fs : List Int} {q2 : PySem.Str} {r2 : List PySem.Str} {k : Nat}
    (XB : (hd.heap_39 w.params).In base) (TB : Top p loose mean mg mb base)
    (B : Below A₀ base [] h₀) (F : Fr h₀ L s.heap m) (X : (hd.heap_39 w.params).In h₀) (N : News h₀ L s.heap news) (T : Top p loose mean mg mb h₀) (hk : cs.kind = .function)
    (hd' : dp + 7 < recursionLimit) (hu : un + 56 < cLine) (hx1 : x.length ≤ 640) (hsp : Txt.split x (PySem.Str.ofString "/") = f :: r) (hr9 : r.length ≤ 640)
    (hhex : HexIs f fs) (hf4 : fs.length = 4)
    (hB : ∀ y ∈ PySem.Str.ofString "m" :: r, y.length ≤ 640) (hJ : (PySem.Str.ofString "m" :: r).length * 640 + (PySem.Str.ofString "m" :: r).length * (PySem.Str.ofString "/").length ≤ 16777216)
    (hy : (Txt.join (PySem.Str.ofString "/") (PySem.Str.ofString "m" :: r)).length ≤ 640)
    (hsp2 : Txt.split (Txt.rstripChars (Txt.join (PySem.Str.ofString "/") (PySem.Str.ofString "m" :: r)) (PySem.Str.ofString "/")) (PySem.Str.ofString "/") = q2 :: r2) (hr2 : r2.length ≤ 640) (hbad : BadAt (if q2 = PySem.Str.ofString "m" then r2 else q2 :: r2) k "ValueError")
    (hret : ∀ (h' : Heap) (tk' : Nat), Fr h₀ L h' m → News h₀ L h' news → Q (.bool true) { s with heap := h', toks := tk' }) :
    wpC (model prog w) (ktrTop dp un gd cn cs L a ccd cl []) (call (.ref 134) [.str x t, .int 2 u]) Q E s := by
  refine wpC_call ?_
  k_dflt ktr_unf
  refine wpC_execs_cons (wpC_Try_except ?_)
  · refine wpC_execs_cons (wpC_Expr (wpC_MethodCall ?_))
    k_steps
    refine wpC_callWith_M (K := hd.heap_39 w.params) (g := 65) (self := .ref 78) (by k_is) ?_
    k_steps
    refine origin_path (by k_asm) (by k_asm) (by k_asm) (by k_asm) (by k_asm) (by exact rfl) (by ktr_room) (by ktr_units) (by k_mem) hx1 hsp hr9 hhex hf4 hB hJ hy hsp2 hr2 hbad ?_
    intro e9 g9 h9 tk9 f9 r9 u9
    dsimp only
    k_steps
    exact hret _ _ (by k_asm) (by first | assumption | exact cb_drop (by assumption) (fun _ h => h) | exact cb_drop (by assumption) keepT1)
end Mine
end

section -- C14
open PySem PySem.W PyProof.Rows
set_option maxHeartbeats 1000000
namespace Mine
local macro_rules | `(tactic| walk_at "idle 0") => `(tactic| skip)
local macro_rules | `(tactic| walk_at "idle 1") => `(tactic| skip)
local macro_rules | `(tactic| walk_at "idle 2") => `(tactic| skip)
local macro_rules | `(tactic| walk_at "idle 3") => `(tactic| skip)
local macro_rules | `(tactic| walk_at "idle 4") => `(tactic| skip)
local macro_rules | `(tactic| walk_at "idle 5") => `(tactic| skip)
local macro_rules | `(tactic| walk_at "idle 6") => `(tactic| skip)
local macro_rules | `(tactic| walk_at "idle 7") => `(tactic| skip)
local macro_rules | `(tactic| walk_at "idle 8") => `(tactic| skip)
local macro_rules | `(tactic| walk_at "idle 9") => `(tactic| skip)
local macro_rules | `(tactic| walk_at "idle 10") => `(tactic| skip)
local macro_rules | `(tactic| walk_at "idle 11") => `(tactic| skip)
local macro_rules | `(tactic| walk_at "idle 12") => `(tactic| skip)
local macro_rules | `(tactic| walk_at "idle 13") => `(tactic| skip)
local macro_rules | `(tactic| walk_at "idle 14") => `(tactic| skip)
local macro_rules | `(tactic| walk_at "idle 15") => `(tactic| skip)
local macro_rules | `(tactic| walk_at "idle 16") => `(tactic| skip)
local macro_rules | `(tactic| walk_at "idle 17") => `(tactic| skip)
local macro_rules | `(tactic| walk_at "idle 18") => `(tactic| skip)
local macro_rules | `(tactic| walk_at "idle 19") => `(tactic| skip)
local macro_rules | `(tactic| walk_at "idle 20") => `(tactic| skip)
local macro_rules | `(tactic| walk_at "idle 21") => `(tactic| skip)
local macro_rules | `(tactic| walk_at "idle 22") => `(tactic| skip)
local macro_rules | `(tactic| walk_at "idle 23") => `(tactic| skip)
local macro_rules | `(tactic| walk_at "idle 24") => `(tactic| skip)
local macro_rules | `(tactic| walk_at "idle 25") => `(tactic| skip)
local macro_rules | `(tactic| walk_at "idle 26") => `(tactic| skip)
local macro_rules | `(tactic| walk_at "idle 27") => `(tactic| skip)
local macro_rules | `(tactic| walk_at "idle 28") => `(tactic| skip)
local macro_rules | `(tactic| walk_at "idle 29") => `(tactic| skip)
local macro_rules | `(tactic| walk_at "idle 30") => `(tactic| skip)
local macro_rules | `(tactic| walk_at "idle 31") => `(tactic| skip)
theorem reset_C14 : True := by
  w_top off
  exact trivial
theorem fill15 : (PySem.Challenge.rw_fp5009_01, hd.heap_39) = (PySem.Challenge.rw_fp5009_01, hd.heap_39) := by
  k_fill
  rfl
local macro_rules | `(tactic| walk_at "call ref") => `(tactic| (k_here; (fail_if_success (with_reducible show wpAny _ _ (call (Value.ref 78) _) _ _ _)); refine Stop.mk ?_))
def lawBad : List PySem.Str := ["x", "1x", "x1", "0x10", "1.5", "*", "h", "'", "H", "hh", "5hh", "5h'", "m", "M", "{1}", "<0;1>", ""].map PySem.Str.ofString
theorem bad_ok {prog : Program} {w : World} {p : Program} {loose : List Str} {mean : ExcName → Option Value} {mg mb : Str → Option Value}
    {dp un : Nat} {gd : Option (List Code)} {cn : Str} {cs : Scope} {a : Addr} {ccd : Value} {cl : List (Str × Addr)} {outer : List Env} {A₀ : Around} {base h₀ : Heap} {L : Addr} {m : Str → Option Value} {s : Shared} {Q E : Value → Shared → Prop}
    {news : List (Addr × Obj)}
    (B : Below A₀ base outer h₀) (F : Fr h₀ L s.heap m) (X : (hd.heap_39 w.params).In h₀) (N : News h₀ L s.heap news) (T : Top p loose mean mg mb h₀) (hk : cs.kind = .function)
    (hd' : dp + 1 < recursionLimit) (hu : un + 8 < cLine)
    (hret : ∀ (l : Addr) (vs : List Value) (n : Nat) (h' : Heap) (tk' : Nat), Fr h₀ L h' m → News h₀ L h' ((l, listOf vs.toArray n) :: news) → StrsAre vs lawBad → Q (.ref l) { s with heap := h', toks := tk' }) :
    wpAny (model prog w) (ktrTop dp un gd cn cs L a ccd cl outer) (call (.ref 96) []) Q E s := by
  refine wpAny_call ?_
  k_dflt cell_enter
  k_steps
  exact hret _ _ _ _ _ (by k_asm) (by assumption) (by
    unfold lawBad
    simp only [List.map_cons, List.map_nil]
    repeat (first | exact StrsAre.nil | refine StrsAre.cons _ _ ?_))

local macro_rules | `(tactic| ktr_unf) => `(tactic| (refine' code_def ?k1 ?k2 ?k3 ?k4 ?k5 ?kA ?kF ?kK ?k6 ?k7 ?k8 ?k9 ?kB ?_ ?c2 ?c3 ?c4 ?c5; (case kA => exact rfl); (case kF => exact rfl); (case kK => first | assumption | exact rfl); (case k1 => k_asm); (case k2 => k_asm); (case k3 => k_asm); (case k4 => k_asm); (case k5 => k_asm); (case k6 => k_is); (case k7 => k_is); (case k8 => ktr_room); (case k9 => first | exact BindsTo.of_eq rfl | exact binds_K (by k_in) rfl (by k_is) rfl rfl rfl); (case c5 => decide); (case kB => exact locs rfl); (case c2 => exact rfl); (case c3 => exact rfl); (case c4 => exact rfl); k_whole; intro g' L' h' FG' F' N' B' X' T'; (try dsimp only); (try k_lift B'); (try k_fold)))
theorem spoken_ok {prog : Program} {w : World} {p : Program} {loose : List Str} {mean : ExcName → Option Value} {mg mb : Str → Option Value}
    {dp un : Nat} {gd : Option (List Code)} {cn : Str} {cs : Scope} {a : Addr} {ccd : Value} {cl : List (Str × Addr)} {outer : List Env} {A₀ : Around} {base h₀ : Heap} {L : Addr} {m : Str → Option Value} {s : Shared} {Q E : Value → Shared → Prop}
    {news : List (Addr × Obj)} {x5 d5 l5 : Addr} {k1 k2 t5 : Tok} {vs : List Value} {nn : Nat} {ns : List Int} {b : Array UInt8}
    (B : Below A₀ base outer h₀) (F : Fr h₀ L s.heap m) (X : (hd.heap_39 w.params).In h₀) (N : News h₀ L s.heap ((x5, instObj 78 d5) :: (d5, originDict w.params k1 k2 b t5 l5) :: (l5, listOf vs.toArray nn) :: news)) (T : Top p loose mean mg mb h₀) (hk : cs.kind = .function)
    (hd' : dp + 5 < recursionLimit) (hu : un + 40 < cLine) (hb : b.size = 4) (hv : IntsAre vs ns) (hr : ∀ n ∈ ns, 0 ≤ n ∧ n < 4294967296) (hl : ns.length ≤ 63)
    (hret : ∀ (t : Tok) (h' : Heap) (tk' : Nat), Fr h₀ L h' m → News h₀ L h' ((x5, instObj 78 d5) :: (d5, originDict w.params k1 k2 b t5 l5) :: (l5, listOf vs.toArray nn) :: news) → Q (.str (told (hexText b) ns) t) { s with heap := h', toks := tk' }) :
    wpAny (model prog w) (ktrTop dp un gd cn cs L a ccd cl outer) (call (.type "str") [.ref x5]) Q E s := by
  k_dflt refine' kso_call ?k1 ?k2 ?k3 ?k4 ?k5 ?_
  case k1 => ktr_units
  case k2 => k_dflt k_in
  case k3 => k_dflt k_inst
  case k4 => k_dflt k_is
  case k5 => k_dflt k_is
  refine wpAny_call ?_
  k_dflt ktr_unf
  k_steps
  refine Stop.of ?_
  refine tell_kw hb (by k_asm) (by k_asm) (by k_asm) (by k_asm) (by k_asm) (by exact rfl) (by ktr_room) (by ktr_units) (by k_mem) hv hr hl ?_
  intro t9 h9 tk9 F9 N9
  k_steps
  exact hret _ _ _ (by k_asm) (by assumption)
end Mine
end

section -- CellC
open PySem PySem.W PyProof.Rows PySem.Calls
namespace Mine
section
variable {prog : Program} {w : World} {A : Around} {s : Shared}
theorem codeC_call_cells {R : Result → Shared → Prop} {a : Addr} {o : Obj} {fd : FuncData} {body : List Stmt} {vals : List Value} {binds : List (Str × Value)}
    (hroom : A.depth < recursionLimit) (ho : s.heap.get? a = some o) (hdata : o.data = .func fd) (hlim : s.heap.NoLimit) (hcd : s.heap.CodeRec fd.code fd.qualname)
    (hbody : fd.body = .stmts body) (hbind : bindArgs fd ⟨vals, []⟩ = pure binds) (hclo : fd.closure = [])
    (hkind : ∀ x ∈ binds, fd.scope.names.lookup x.1 = some .local ∨ (fd.scope.names.lookup x.1 = some .cell ∧ ((cellsFrom (s.heap.objs.size + 1) fd.scope.names []).lookup x.1).isSome = true))
    (h : ∀ s₁, InCallC s (callEnvC fd s.heap.objs.size a).locals (bindL (callEnvC fd s.heap.objs.size a).kindOf binds fun _ => none) (callEnvC fd s.heap.objs.size a).cells
        (bindC (callEnvC fd s.heap.objs.size a).kindOf binds fun _ => none) s₁ →
      wpC (model prog w) (A.deeper (callEnvC fd s.heap.objs.size a)) (execs body (callEnvC fd s.heap.objs.size a)) (fun f s' => R (.ok (.ret (match f with | .ret v => v | _ => .none))) s')
        (fun e s' => wpAny (model prog w) (A.deeper (callEnvC fd s.heap.objs.size a)) (leaving (callEnvC fd s.heap.objs.size a) e) (fun _ s'' => R (.error e) s'') (fun e' s'' => R (.error e') s'') s') s₁)
    (hco : fd.scope.isCoroutine = false := by rfl) (hgen : fd.scope.isGenerator = false := by rfl) (hk : fd.scope.kind = .function := by rfl) :
    codeC (model prog w) A (.call (.ref a) ⟨vals, []⟩) R s := by
  refine codeC_call_function hroom ho hdata hco hgen hbody hcd ?_
  rw [hbind, hclo]
  refine wpAny_pure (wpAny_newFunctionEnv_cells hk hkind fun env he s' x => ?_)
  subst he
  exact ⟨hlim.keeps x.toInCall.keep, codeC_func (wpC_mono (h s' x) (fun _ _ q => q) fun _ _ q => wpC_of_any q)⟩

theorem call_cellsC {R : Result → Shared → Prop} {name : Str} {params : Arguments} {body : List Stmt} {scope : Scope}
    {pm cd doc : Value} {a : Addr} {o : Obj} {args : List Value} {binds : List (Str × Value)}
    (hroom : A.depth < recursionLimit) (ho : s.heap.get? a = some o) (hdata : o.data = .func (Calls.docDef name params body scope pm cd doc)) (hlim : s.heap.NoLimit) (hcd : s.heap.CodeRec cd name)
    (hbind : bindArgs (Calls.docDef name params body scope pm cd doc) ⟨args, []⟩ = pure binds)
    (hkind : ∀ x ∈ binds, scope.names.lookup x.1 = some .local ∨ (scope.names.lookup x.1 = some .cell ∧ ((cellsFrom (s.heap.objs.size + 1) scope.names []).lookup x.1).isSome = true))
    (hnd : ((cellsFrom 0 scope.names []).map (·.1)).Nodup)
    (h : ∀ h₁ tk cells, Fr s.heap s.heap.objs.size h₁ (bindL (envOfC name scope s.heap.objs.size a cd).kindOf binds fun _ => none) → News s.heap s.heap.objs.size h₁ cells →
      CellsAre (bindC (envOfC name scope s.heap.objs.size a cd).kindOf binds fun _ => none) (cellsFrom (s.heap.objs.size + 1) scope.names []) cells →
      wpC (model prog w) (A.deeper (envOfC name scope s.heap.objs.size a cd)) (execs body (envOfC name scope s.heap.objs.size a cd))
        (fun f s' => R (.ok (.ret (match f with | .ret v => v | _ => .none))) s')
        (fun e s' => wpAny (model prog w) (A.deeper (envOfC name scope s.heap.objs.size a cd)) (leaving (envOfC name scope s.heap.objs.size a cd) e)
          (fun _ s'' => R (.error e) s'') (fun e' s'' => R (.error e') s'') s')
        { s with heap := h₁, toks := tk })
    (hco : scope.isCoroutine = false := by rfl) (hgen : scope.isGenerator = false := by rfl) (hk : scope.kind = .function := by rfl) :
    codeC (model prog w) A (.call (.ref a) ⟨args, []⟩) R s := by
  refine codeC_call_cells (fd := Calls.docDef name params body scope pm cd doc) hroom ho hdata hlim hcd rfl hbind rfl hkind (fun s₁ X => ?_) hco hgen hk
  obtain ⟨h₁, tk, rfl, _⟩ := X.done
  have Y : Cl s.heap.objs.size (cellsFrom (s.heap.objs.size + 1) scope.names []) h₁ (bindC (envOfC name scope s.heap.objs.size a cd).kindOf binds fun _ => none) := ⟨X.cell, X.apart, X.above⟩
  obtain ⟨cells, N, Z⟩ := Cl.news (h₀ := s.heap) (Nat.le_refl _) fun n c hm => ⟨Y.cell n c (lookup_of_mem_nodup (cellsFrom_names scope.names 0 (s.heap.objs.size + 1) [] [] rfl ▸ hnd) hm), Y.above n c hm⟩
  exact h h₁ tk cells ⟨X.toInCall.ns, X.toInCall.keep, X.toInCall.fresh⟩ N Z
end
theorem enter_callC {M : Model} {A : Around} {s : Shared} {f : Value} {pos : List Value} {kw : List (Str × Value)} {c : ClaimW} {cl : Str → Option Addr} {mean : ExcName → Option Value} {args : List WData} {s₁ : Shared}
    (h : codeC M A (.call f ⟨pos, kw⟩) (GoodWG c cl mean args s₁) s) : wpC M A (_root_.PySem.call f pos kw) (fun v s' => GoodWG c cl mean args s₁ (.ok (.ret v)) s') (fun e s' => GoodWG c cl mean args s₁ (.error e) s') s :=
  wpC_call (codeC_mono h fun res s' g => by rcases g.1 with ⟨v, _, _, rfl, _⟩ | ⟨e, _, _, rfl, _⟩ <;> exact g)
end Mine
end

section -- M1
open PySem PySem.W PyProof.Rows
set_option maxHeartbeats 2000000
namespace Mine
theorem reset_M1 : True := by
  w_top off
  exact trivial
theorem fill21 : (PySem.Challenge.rw_fp5009_01, hd.heap_39) = (PySem.Challenge.rw_fp5009_01, hd.heap_39) := by
  k_fill
  rfl
local macro_rules | `(tactic| walk_at "call ref") => `(tactic| (k_here; refine Stop.mk ?_))
def LawGo (w : World) (fa L : Addr) (cd : Value) (k : Nat) (Q : Flow → Shared → Prop) (E : Value → Shared → Prop) (s : Shared) : Prop :=
  wpC (model PySem.Challenge.rw_fp5009_01.row.prog w) (callerA.deeper (envOfC (PySem.Str.ofString "law") lawScope L fa cd)) (execs (lawBody.drop k) (envOfC (PySem.Str.ofString "law") lawScope L fa cd)) Q E s

def lawNumbers (script : List Int) : List Int := if script = [] then [0, 1, 2] else script
def lawFirst (script : List Int) : Int := (lawNumbers script).getD 0 0

theorem seg1 {w : World} {p : Program} {loose : List Str} {mean : ExcName → Option Value} {mg mb : Str → Option Value} {fa L : Addr} {cd : Value} {Q : Flow → Shared → Prop} {E : Value → Shared → Prop} {s : Shared} {base : Heap} {m : Str → Option Value}
    {o1 o2 : Obj} {lv : Addr} {vs : List Value} {script : List Int}
    (X : (hd.heap_39 w.params).In base) (T : Top p loose mean mg mb base) (B : Below callerA base [] base) (F : Fr base L s.heap m) (hm : m (PySem.Str.ofString "script") = some (.ref lv))
    (N : News base L s.heap [(L + 1 + 1, o1), (L + 1, o2)]) (h1 : o1.data = .cell none) (h2 : o2.data = .cell none) (hl : base.IsList lv vs.toArray) (hI : IntsAre vs script) (hlen : script.length ≤ 63)
    (next : ∀ (h : Heap) (tk : Nat) (m' : Str → Option Value) (oF oN : Obj) (nl : Addr) (vn : List Value) (nn : Nat) (tf : Tok), Fr base L h m' → News base L h [(nl, listOf vn.toArray nn), (L + 1 + 1, oF), (L + 1, oN)] → oF.data = .cell (some (.int (lawFirst script) tf)) → oN.data = .cell (some (.ref nl)) → IntsAre vn (lawNumbers script) →
      LawGo w fa L cd 3 Q E { s with heap := h, toks := tk }) : LawGo w fa L cd 1 Q E s := by
  unfold LawGo
  have F0 := fr_at F (x := PySem.Str.ofString "script") hm
  clear F
  rw [show lawBody.drop 1 = _ :: lawBody.drop 2 from rfl]
  refine wpC_execs_cons (wpC_of_any ?_)
  k_steps
  · rename (0 : Int) < _ => hpos
    cases script with
    | nil => exact absurd hpos (by decide)
    | cons n rest =>
      obtain ⟨t9, vs9, rfl, a9⟩ := hI.cons_inv
      rw [show lawBody.drop 2 = _ :: lawBody.drop 3 from rfl]
      refine wpC_execs_cons (wpC_of_any ?_)
      k_steps
      exact next _ _ _ _ _ _ _ _ _ (by k_asm) (cb_drop (by assumption) (fun _ h => h)) (by assumption) (by assumption) (.cons _ _ a9)
  · rename ¬ (0 : Int) < _ => hpos
    cases script with
    | cons n rest => exact absurd (by rw [List.length_cons]; omega) hpos
    | nil =>
      rw [show lawBody.drop 2 = _ :: lawBody.drop 3 from rfl]
      refine wpC_execs_cons (wpC_of_any ?_)
      k_steps
      exact next _ _ _ _ _ _ _ _ _ (by k_asm) (cb_drop (by assumption) (fun _ h => h)) (by assumption) (by assumption) (.cons _ _ (.cons _ _ (.cons _ _ .nil)))
end Mine
end

section -- M3
open PySem PySem.W PyProof.Rows
set_option maxHeartbeats 2000000
namespace Mine
local macro_rules | `(tactic| walk_at "idle 0") => `(tactic| skip)
local macro_rules | `(tactic| walk_at "idle 1") => `(tactic| skip)
local macro_rules | `(tactic| walk_at "idle 2") => `(tactic| skip)
local macro_rules | `(tactic| walk_at "idle 3") => `(tactic| skip)
local macro_rules | `(tactic| walk_at "idle 4") => `(tactic| skip)
local macro_rules | `(tactic| walk_at "idle 5") => `(tactic| skip)
local macro_rules | `(tactic| walk_at "idle 6") => `(tactic| skip)
local macro_rules | `(tactic| walk_at "idle 7") => `(tactic| skip)
local macro_rules | `(tactic| walk_at "idle 8") => `(tactic| skip)
local macro_rules | `(tactic| walk_at "idle 9") => `(tactic| skip)
local macro_rules | `(tactic| walk_at "idle 10") => `(tactic| skip)
local macro_rules | `(tactic| walk_at "idle 11") => `(tactic| skip)
local macro_rules | `(tactic| walk_at "idle 12") => `(tactic| skip)
local macro_rules | `(tactic| walk_at "idle 13") => `(tactic| skip)
local macro_rules | `(tactic| walk_at "idle 14") => `(tactic| skip)
local macro_rules | `(tactic| walk_at "idle 15") => `(tactic| skip)
theorem reset_M3 : True := by
  w_top off
  exact trivial
theorem fill22 : (PySem.Challenge.rw_fp5009_01, hd.heap_39) = (PySem.Challenge.rw_fp5009_01, hd.heap_39) := by
  k_fill
  rfl
def lawValues (numbers : List Int) (first : Int) : List Int := (rangeKs 0 (first.fmod 7 - 0).toNat).map fun k' => lawValue (numbers.getD ((k' + 1).fmod (numbers.length : Int)).toNat 0 + 3 * k')
def lawWords (values : List Int) (first : Int) : List PySem.Str := (List.range values.length).map fun (i : Nat) => lawSpelt (values.getD i 0) (first.fdiv 7 + 5 * (i : Int))
theorem words_len (values : List Int) (first : Int) : (lawWords values first).length = values.length := by unfold lawWords; rw [List.length_map, List.length_range]
theorem words_get {values : List Int} {first : Int} {i : Nat} {n : Int} (h : values[i]? = some n) : (lawWords values first)[i]? = some (lawSpelt n (first.fdiv 7 + 5 * (i : Int))) := by
  have hi := (List.getElem?_eq_some_iff.mp h).1
  unfold lawWords
  rw [List.getElem?_map, List.getElem?_range hi]
  simp [h]
local macro_rules | `(tactic| walk_at "call ref") => `(tactic| (k_here; k_dflt (refine' value_ok ?k1 ?k2 ?k3 ?k4 ?k5 ?kK ?kd ?ku ?_; (case k1 => k_asm); (case k2 => k_asm); (case k3 => k_asm); (case k4 => k_asm); (case k5 => k_asm); (case kK => first | assumption | exact rfl); (case kd => ktr_room); (case ku => ktr_units); intro t9 h9 tk9 F9 N9; (try dsimp only))))
local macro_rules | `(tactic| walk_at "exec Assign cons ListComp") => `(tactic| (k_here; k_dflt (refine LCg.Assign_ListComp_U (F₀ := by k_asm) (by rfl) (by with_unfolding_all rfl) (by with_unfolding_all rfl) (by decide) (by rfl) (by decide) (by rfl) (by rfl) (by rfl) ?_)))

theorem seg3 {w : World} {p : Program} {loose : List Str} {mean : ExcName → Option Value} {mg mb : Str → Option Value} {fa L : Addr} {cd : Value} {Q : Flow → Shared → Prop} {E : Value → Shared → Prop} {s : Shared} {base : Heap} {m : Str → Option Value}
    {oF oN : Obj} {nl : Addr} {vn : List Value} {nn : Nat} {numbers : List Int} {first : Int} {tf : Tok}
    (X : (hd.heap_39 w.params).In base) (T : Top p loose mean mg mb base) (B : Below callerA base [] base) (F : Fr base L s.heap m)
    (N : News base L s.heap [(nl, listOf vn.toArray nn), (L + 1 + 1, oF), (L + 1, oN)]) (h1 : oF.data = .cell (some (.int first tf))) (h2 : oN.data = .cell (some (.ref nl))) (hI : IntsAre vn numbers) (hlen : numbers.length ≤ 63) (hpos : 0 < numbers.length)
    (next : ∀ (h : Heap) (tk : Nat) (m' : Str → Option Value) (vl : Addr) (vv : List Value) (vk : Nat), Fr base L h m' → m' (PySem.Str.ofString "values") = some (.ref vl) → News base L h [(vl, listOf vv.toArray vk), (nl, listOf vn.toArray nn), (L + 1 + 1, oF), (L + 1, oN)] → IntsAre vv (lawValues numbers first) →
      LawGo w fa L cd 4 Q E { s with heap := h, toks := tk }) : LawGo w fa L cd 3 Q E s := by
  unfold LawGo
  rw [show lawBody.drop 3 = _ :: lawBody.drop 4 from rfl]
  refine wpC_execs_cons (wpC_of_any ?_)
  have g0 := Int.fmod_nonneg_of_pos first (show (0:Int) < 7 by decide)
  have g1 := Int.fmod_lt_of_pos first (show (0:Int) < 7 by decide)
  k_steps
  exact next _ _ _ _ _ _ (by k_asm) rfl (by assumption) (by assumption)

local macro_rules | `(tactic| walk_at "exec Assign cons ListComp") => `(tactic| (k_here; k_dflt (refine Assign_go (by with_unfolding_all rfl) (by with_unfolding_all rfl) (by rfl) (by decide) ?_)))
local macro_rules | `(tactic| walk_at "call ref") => `(tactic| (k_here; k_dflt (refine' spelt_ok ?k1 ?k2 ?k3 ?k4 ?k5 ?kK ?kd ?ku ?kx ?ky ?_; (case k1 => k_asm); (case k2 => k_asm); (case k3 => k_asm); (case k4 => k_asm); (case k5 => k_asm); (case kK => first | assumption | exact rfl); (case kd => ktr_room); (case ku => ktr_units); (case kx => assumption); (case ky => assumption); intro t9 h9 tk9 F9 N9; (try dsimp only))))
theorem post_nameN {prog : Program} {w : World} {A : Around} {E : Value → Shared → Prop} {h₀ : Heap} {L : Addr} {m : Str → Option Value} {env : Env} {D : Addr} {cenv : Env} {h : Heap} {tk : Nat} {m' : Str → Option Value} {ys : List Value} {news : List (Addr × Obj)} {Qn : Shared → Prop} {s₂ : Shared} {y : Str} {py : Pos} (hLe : env.locals = L)
    (hy : env.kindOf y = some .local) (hp : (env.scope.kind == .class || (env.scope.kind == .module && env.locals != env.globals)) = false)
    (F : Fr h₀ L h m) (N : News h₀ L h ((D, LCg.lst ys) :: news)) (hn : h.Ns cenv.locals m') (hC₀ : h₀.get? cenv.locals = none) (hCL : cenv.locals ≠ L) (hCD : cenv.locals ≠ D) (off : ∀ p ∈ news, p.1 ≠ cenv.locals)
    (fin : ∀ h tk, Fr h₀ L h (fun z => if z = y then some (.ref D) else m z) → News h₀ L h ((D, LCg.lst ys) :: news) → Qn { s₂ with heap := h, toks := tk }) :
    compPost (model prog w) A E (some (assign (.Name y py) env)) (fun _ s' => Qn s') (.ref D) cenv.locals (.ok .next) { s₂ with heap := h, toks := tk } :=
  post_name (Q := fun _ s' => Qn s') hLe hy hp F N hn hC₀ hCL hCD off fin
theorem seg4 {w : World} {p : Program} {loose : List Str} {mean : ExcName → Option Value} {mg mb : Str → Option Value} {fa L : Addr} {cd : Value} {Q : Flow → Shared → Prop} {E : Value → Shared → Prop} {s : Shared} {base : Heap} {m : Str → Option Value}
    {oF oN : Obj} {nl vl : Addr} {vn vv : List Value} {nn vk : Nat} {numbers values : List Int} {first : Int} {tf : Tok}
    (X : (hd.heap_39 w.params).In base) (T : Top p loose mean mg mb base) (B : Below callerA base [] base) (F : Fr base L s.heap m) (hm : m (PySem.Str.ofString "values") = some (.ref vl))
    (N : News base L s.heap [(vl, listOf vv.toArray vk), (nl, listOf vn.toArray nn), (L + 1 + 1, oF), (L + 1, oN)]) (h1 : oF.data = .cell (some (.int first tf))) (hV : IntsAre vv values) (hlen : values.length ≤ 63) (hr : ∀ n ∈ values, 0 ≤ n ∧ n < 4294967296)
    (next : ∀ (h : Heap) (tk : Nat) (m' : Str → Option Value) (wl : Addr) (vw : List Value) (wk : Nat), Fr base L h m' → m' (PySem.Str.ofString "values") = some (.ref vl) → m' (PySem.Str.ofString "words") = some (.ref wl) →
      News base L h [(wl, listOf vw.toArray wk), (vl, listOf vv.toArray vk), (nl, listOf vn.toArray nn), (L + 1 + 1, oF), (L + 1, oN)] → StrsAre vw (lawWords values first) →
      LawGo w fa L cd 5 Q E { s with heap := h, toks := tk }) : LawGo w fa L cd 4 Q E s := by
  unfold LawGo
  have F0 := fr_at F (x := PySem.Str.ofString "values") hm
  clear F
  rw [show lawBody.drop 4 = _ :: lawBody.drop 5 from rfl]
  refine wpC_execs_cons (wpC_of_any ?_)
  k_steps
  refine enum_go (Acc := fun i ys => StrsAre ys ((lawWords values first).take i)) (by decide) (by rfl) (by rfl) (by rfl) (by decide) (by rfl) (by rw [hV.length, sizeLine_eq]; omega) (by k_asm) (by k_asm) (by k_mem) .nil ?_ ?_
  · intro i ys C oC D own m₂ h tk v u E' hv9 hA hm1 hm2 hC F9 N9 off9
    obtain ⟨n, t8, rfl, hn9⟩ := hV.at i v hv9
    obtain ⟨hn0, hn1⟩ := hr n (List.mem_of_getElem? hn9)
    k_steps
    exact ⟨_, _, rfl, by assumption, by assumption, strs_step hA (words_get hn9)⟩
  · intro D cenv h tk m' ys hcf hA F9 N9 hn hC0 hD0 hCL hDL hCD off9
    refine post_nameN ?ka ?kb ?kc F9 N9 hn hC0 hCL hCD off9 ?_
    case ka => rfl
    case kb => rfl
    case kc => rfl
    intro h8 tk8 F8 N8
    have hys : StrsAre ys (lawWords values first) := by
      rwa [List.take_of_length_le (by rw [hV.length, words_len]; exact Nat.le_refl _)] at hA
    exact next _ _ _ _ _ _ F8 rfl rfl N8 hys
end Mine
end

section -- M5
open PySem PySem.W PyProof.Rows
set_option maxHeartbeats 2000000
namespace Mine
local macro_rules | `(tactic| walk_at "idle 0") => `(tactic| skip)
local macro_rules | `(tactic| walk_at "idle 1") => `(tactic| skip)
local macro_rules | `(tactic| walk_at "idle 2") => `(tactic| skip)
local macro_rules | `(tactic| walk_at "idle 3") => `(tactic| skip)
local macro_rules | `(tactic| walk_at "idle 4") => `(tactic| skip)
local macro_rules | `(tactic| walk_at "idle 5") => `(tactic| skip)
local macro_rules | `(tactic| walk_at "idle 6") => `(tactic| skip)
local macro_rules | `(tactic| walk_at "idle 7") => `(tactic| skip)
local macro_rules | `(tactic| walk_at "idle 8") => `(tactic| skip)
local macro_rules | `(tactic| walk_at "idle 9") => `(tactic| skip)
local macro_rules | `(tactic| walk_at "idle 10") => `(tactic| skip)
local macro_rules | `(tactic| walk_at "idle 11") => `(tactic| skip)
local macro_rules | `(tactic| walk_at "idle 12") => `(tactic| skip)
local macro_rules | `(tactic| walk_at "idle 13") => `(tactic| skip)
local macro_rules | `(tactic| walk_at "idle 14") => `(tactic| skip)
local macro_rules | `(tactic| walk_at "idle 15") => `(tactic| skip)
local macro_rules | `(tactic| walk_at "idle 16") => `(tactic| skip)
local macro_rules | `(tactic| walk_at "idle 17") => `(tactic| skip)
local macro_rules | `(tactic| walk_at "idle 18") => `(tactic| skip)
local macro_rules | `(tactic| walk_at "idle 19") => `(tactic| skip)
local macro_rules | `(tactic| walk_at "idle 20") => `(tactic| skip)
local macro_rules | `(tactic| walk_at "idle 21") => `(tactic| skip)
local macro_rules | `(tactic| walk_at "idle 22") => `(tactic| skip)
local macro_rules | `(tactic| walk_at "idle 23") => `(tactic| skip)
local macro_rules | `(tactic| walk_at "idle 24") => `(tactic| skip)
local macro_rules | `(tactic| walk_at "idle 25") => `(tactic| skip)
local macro_rules | `(tactic| walk_at "idle 26") => `(tactic| skip)
local macro_rules | `(tactic| walk_at "idle 27") => `(tactic| skip)
local macro_rules | `(tactic| walk_at "idle 28") => `(tactic| skip)
local macro_rules | `(tactic| walk_at "idle 29") => `(tactic| skip)
local macro_rules | `(tactic| walk_at "idle 30") => `(tactic| skip)
local macro_rules | `(tactic| walk_at "idle 31") => `(tactic| skip)
theorem reset_M5 : True := by
  w_top off
  exact trivial
theorem fill23 : (PySem.Challenge.rw_fp5009_01, hd.heap_39) = (PySem.Challenge.rw_fp5009_01, hd.heap_39) := by
  k_fill
  rfl
local macro_rules | `(tactic| walk_at "call ref") => `(tactic| (k_here; refine Stop.mk ?_))
local macro_rules | `(tactic| walk_at "exec For Tuple Call cons nil") => `(tactic| (k_here; (rename Fr _ _ _ _ => lF'); (with_unfolding_all refine' For_turns lF' ?_)))
local macro_rules | `(tactic| walk_at "call type:zip") => `(tactic| (k_here; refine Stop.mk ?_))
theorem seg5 {w : World} {p : Program} {loose : List Str} {mean : ExcName → Option Value} {mg mb : Str → Option Value} {fa L : Addr} {cd : Value} {Q : Flow → Shared → Prop} {E : Value → Shared → Prop} {s : Shared} {base : Heap} {m : Str → Option Value}
    {rest : List (Addr × Obj)} {vl wl : Addr} {vv vw : List Value} {vk wk : Nat} {values : List Int} {words : List PySem.Str}
    (X : (hd.heap_39 w.params).In base) (T : Top p loose mean mg mb base) (B : Below callerA base [] base) (F : Fr base L s.heap m) (hm : m (PySem.Str.ofString "values") = some (.ref vl)) (hm2 : m (PySem.Str.ofString "words") = some (.ref wl))
    (N : News base L s.heap ((wl, listOf vw.toArray wk) :: (vl, listOf vv.toArray vk) :: rest)) (hV : IntsAre vv values) (hW : StrsAre vw words) (hrd : ReadsAs words values)
    (hE : PassesOwn (model PySem.Challenge.rw_fp5009_01.row.prog w) (callerA.deeper (envOfC (PySem.Str.ofString "law") lawScope L fa cd)) (envOfC (PySem.Str.ofString "law") lawScope L fa cd) E)
    (next : ∀ (h : Heap) (tk : Nat) (m' : Str → Option Value), Fr base L h m' → m' (PySem.Str.ofString "values") = some (.ref vl) → m' (PySem.Str.ofString "words") = some (.ref wl) →
      News base L h ((wl, listOf vw.toArray wk) :: (vl, listOf vv.toArray vk) :: rest) →
      LawGo w fa L cd 6 Q E { s with heap := h, toks := tk }) : LawGo w fa L cd 5 Q E s := by
  unfold LawGo
  have F0 := fr_at (fr_at F (x := PySem.Str.ofString "values") hm) (x := PySem.Str.ofString "words") hm2
  clear F
  rw [show lawBody.drop 5 = _ :: lawBody.drop 6 from rfl]
  refine wpC_execs_cons (wpC_of_any ?_)
  refine For_turns F0 ?_ (hE := hE)
  k_steps
  refine Stop.of ?_
  refine for_zip (J := fun _ m => m (PySem.Str.ofString "values") = some (.ref vl) ∧ m (PySem.Str.ofString "words") = some (.ref wl)) (by rfl) (by k_asm) (by k_asm) (by k_mem) (by k_mem) (by rw [hW.length, hV.length]; exact hrd.1) (by rfl) (by rfl) (by rfl) ⟨rfl, rfl⟩ ?_ ?_
  · rintro i v1 v2 m1 h tk its hv1 hv2 ⟨j1, j2⟩ F9 N9
    obtain ⟨n, t8, rfl, hn9⟩ := hV.at i v2 hv2
    obtain ⟨y, t9, rfl, hy⟩ := StrsAre.item hW i v1 hv1
    obtain ⟨z0, z1, k', hk', hd9⟩ := hrd.2 i y hy
    obtain rfl : n = k' := Option.some.inj (hn9.symm.trans hk')
    k_steps
    refine Stop.of ?_
    refine item_ok (by k_asm) (by k_asm) (by k_asm) (by k_asm) (by k_asm) (by exact rfl) (by ktr_room) (by ktr_units) z0 z1 hd9 ?_
    intro t7 h7 tk7 F7 N7
    k_steps
    · rename (_ : Int) ≠ _ => hz
      exact absurd rfl hz
    · exact BodyOk.mk (L := L) F7 N7 ⟨j1, j2⟩
  · rintro m1 h tk ⟨j1, j2⟩ F9 N9
    exact next _ _ _ F9 j1 j2 N9
end Mine
end

section -- M6
open PySem PySem.W PyProof.Rows
set_option maxHeartbeats 2000000
namespace Mine
theorem reset_M6 : True := by
  w_top off
  exact trivial
theorem fill24 : (PySem.Challenge.rw_fp5009_01, hd.heap_39) = (PySem.Challenge.rw_fp5009_01, hd.heap_39) := by
  k_fill
  rfl
def lawBehind (first : Int) : PySem.Str := Txt.mul (PySem.Str.ofString "/") ((first.fdiv 49).fmod 4)
def lawHead (values : List Int) (first : Int) : Bool := decide ((first.fdiv 196).fmod 2 = 0) || values.isEmpty
theorem behind_len (first : Int) : (Txt.mul (PySem.Str.ofString "/") ((first.fdiv 49).fmod 4)).length ≤ 3 := by
  have h0 := Int.fmod_nonneg_of_pos (first.fdiv 49) (show (0:Int) < 4 by decide)
  have h1 := Int.fmod_lt_of_pos (first.fdiv 49) (show (0:Int) < 4 by decide)
  have := mul_len (PySem.Str.ofString "/") ((first.fdiv 49).fmod 4) (by decide) h0
  omega
theorem seg6 {w : World} {p : Program} {loose : List Str} {mean : ExcName → Option Value} {mg mb : Str → Option Value} {fa L : Addr} {cd : Value} {Q : Flow → Shared → Prop} {E : Value → Shared → Prop} {s : Shared} {base : Heap} {m : Str → Option Value}
    {oF oN : Obj} {nl vl wl : Addr} {vn vv vw : List Value} {nn vk wk : Nat} {values : List Int} {words : List PySem.Str} {first : Int} {tf : Tok}
    (X : (hd.heap_39 w.params).In base) (T : Top p loose mean mg mb base) (B : Below callerA base [] base) (F : Fr base L s.heap m) (hm : m (PySem.Str.ofString "values") = some (.ref vl)) (hm2 : m (PySem.Str.ofString "words") = some (.ref wl))
    (N : News base L s.heap [(wl, listOf vw.toArray wk), (vl, listOf vv.toArray vk), (nl, listOf vn.toArray nn), (L + 1 + 1, oF), (L + 1, oN)]) (h1 : oF.data = .cell (some (.int first tf))) (hV : IntsAre vv values)
    (next : ∀ (h : Heap) (tk : Nat) (m' : Str → Option Value) (tb : Tok), Fr base L h m' → m' (PySem.Str.ofString "values") = some (.ref vl) → m' (PySem.Str.ofString "words") = some (.ref wl) → m' (PySem.Str.ofString "behind") = some (.str (lawBehind first) tb) → m' (PySem.Str.ofString "head") = some (.bool (lawHead values first)) →
      News base L h [(wl, listOf vw.toArray wk), (vl, listOf vv.toArray vk), (nl, listOf vn.toArray nn), (L + 1 + 1, oF), (L + 1, oN)] →
      LawGo w fa L cd 8 Q E { s with heap := h, toks := tk }) : LawGo w fa L cd 6 Q E s := by
  unfold LawGo
  have F0 := fr_at (fr_at F (x := PySem.Str.ofString "values") hm) (x := PySem.Str.ofString "words") hm2
  have g1 := behind_len first
  clear F
  rw [show lawBody.drop 6 = _ :: lawBody.drop 7 from rfl]
  refine wpC_execs_cons (wpC_of_any ?_)
  k_steps
  rw [show lawBody.drop 7 = _ :: lawBody.drop 8 from rfl]
  refine wpC_execs_cons (wpC_of_any ?_)
  k_steps
  · rename (_ : Int) = 0 => hz
    have hb : ((first.fdiv 196).fmod 2 == 0) = lawHead values first := by unfold lawHead; simp [hz]
    exact next _ _ _ _ (by k_asm) rfl rfl rfl (congrArg (fun b => some (Value.bool b)) hb) (by assumption)
  · rename (_ : Int) ≠ 0 => hz
    have hb : decide (values = []) = lawHead values first := by unfold lawHead; cases values <;> simp [hz]
    exact next _ _ _ _ (by k_asm) rfl rfl rfl (congrArg (fun b => some (Value.bool b)) hb) (cb_drop (by assumption) keepT1)

def lawText (values : List Int) (words : List PySem.Str) (first : Int) : PySem.Str :=
  (if values = [] then PySem.Str.ofString "m" else if lawHead values first = true then PySem.Str.ofString "m/" else PySem.Str.ofString "") ++ Txt.join (PySem.Str.ofString "/") words ++ lawBehind first
local macro_rules | `(tactic| walk_at "binaryOp Add str str") => `(tactic| (k_here; (with_reducible show wpAny _ _ (binaryOp Operator.Add (Value.str _ _) (Value.str _ _)) _ _ _); (refine' SBL.add ?_ ?hsz; (case hsz => (rw [PySem.sizeLine_eq]; (try simp only [PySem.Str.length_append]); omega)); intro _ _ _)))
local macro_rules | `(tactic| walk_at "call builtin:str.join") => `(tactic| (k_here; (with_reducible show wpAny _ _ (call (Value.builtin "str.join") [Value.str _ _, Value.ref _]) _ _ _); (refine join_strs (by is_list) (by assumption) (by assumption) (by assumption) ?_); intro t9 k9))
theorem seg8 {w : World} {p : Program} {loose : List Str} {mean : ExcName → Option Value} {mg mb : Str → Option Value} {fa L : Addr} {cd : Value} {Q : Flow → Shared → Prop} {E : Value → Shared → Prop} {s : Shared} {base : Heap} {m : Str → Option Value}
    {rest : List (Addr × Obj)} {vl wl : Addr} {vv vw : List Value} {vk wk : Nat} {values : List Int} {words : List PySem.Str} {first : Int} {tb : Tok}
    (X : (hd.heap_39 w.params).In base) (T : Top p loose mean mg mb base) (B : Below callerA base [] base) (F : Fr base L s.heap m) (hm : m (PySem.Str.ofString "values") = some (.ref vl)) (hm2 : m (PySem.Str.ofString "words") = some (.ref wl))
    (hm3 : m (PySem.Str.ofString "behind") = some (.str (lawBehind first) tb)) (hm4 : m (PySem.Str.ofString "head") = some (.bool (lawHead values first)))
    (N : News base L s.heap ((wl, listOf vw.toArray wk) :: (vl, listOf vv.toArray vk) :: rest)) (hV : IntsAre vv values) (hW : StrsAre vw words)
    (hB : ∀ y ∈ words, y.length ≤ 14) (hJ : words.length * 14 + words.length * (PySem.Str.ofString "/").length ≤ 16777216) (hjl : (Txt.join (PySem.Str.ofString "/") words).length ≤ 600)
    (next : ∀ (h : Heap) (tk : Nat) (m' : Str → Option Value) (tt : Tok), Fr base L h m' → m' (PySem.Str.ofString "values") = some (.ref vl) → m' (PySem.Str.ofString "words") = some (.ref wl) → m' (PySem.Str.ofString "behind") = some (.str (lawBehind first) tb) →
      m' (PySem.Str.ofString "text") = some (.str (lawText values words first) tt) →
      News base L h ((wl, listOf vw.toArray wk) :: (vl, listOf vv.toArray vk) :: rest) →
      LawGo w fa L cd 9 Q E { s with heap := h, toks := tk }) : LawGo w fa L cd 8 Q E s := by
  unfold LawGo
  have g1 : (lawBehind first).length ≤ 3 := behind_len first
  have es1 : (PySem.Str.ofString "m").length = 1 := by decide
  have es2 : (PySem.Str.ofString "m/").length = 2 := by decide
  have es3 : (PySem.Str.ofString "").length = 0 := by decide
  rw [show lawBody.drop 8 = _ :: lawBody.drop 9 from rfl]
  cases hb : lawHead values first with
  | true =>
    rw [hb] at hm4
    have F0 := fr_at (fr_at (fr_at (fr_at F (x := PySem.Str.ofString "values") hm) (x := PySem.Str.ofString "words") hm2) (x := PySem.Str.ofString "behind") hm3) (x := PySem.Str.ofString "head") hm4
    clear F
    refine wpC_execs_cons (wpC_of_any ?_)
    k_steps
    · rename decide _ = true => hz
      have et : lawText values words first = PySem.Str.ofString "m" ++ Txt.join (PySem.Str.ofString "/") words ++ lawBehind first := by unfold lawText; rw [if_pos (of_decide_eq_true hz)]
      exact next _ _ _ _ (by k_asm) rfl rfl rfl (by rw [et]; rfl) (cb_drop (by assumption) keepT1)
    · rename decide _ = false => hz
      have et : lawText values words first = PySem.Str.ofString "m/" ++ Txt.join (PySem.Str.ofString "/") words ++ lawBehind first := by unfold lawText; rw [if_neg (of_decide_eq_false hz), hb, if_pos rfl]
      exact next _ _ _ _ (by k_asm) rfl rfl rfl (by rw [et]; rfl) (cb_drop (by assumption) keepT1)
  | false =>
    rw [hb] at hm4
    have F0 := fr_at (fr_at (fr_at (fr_at F (x := PySem.Str.ofString "values") hm) (x := PySem.Str.ofString "words") hm2) (x := PySem.Str.ofString "behind") hm3) (x := PySem.Str.ofString "head") hm4
    clear F
    refine wpC_execs_cons (wpC_of_any ?_)
    k_steps
    · rename decide _ = true => hz
      have et : lawText values words first = PySem.Str.ofString "m" ++ Txt.join (PySem.Str.ofString "/") words ++ lawBehind first := by unfold lawText; rw [if_pos (of_decide_eq_true hz)]
      exact next _ _ _ _ (by k_asm) rfl rfl rfl (by rw [et]; rfl) (cb_drop (by assumption) keepT1)
    · rename decide _ = false => hz
      have et : lawText values words first = PySem.Str.ofString "" ++ Txt.join (PySem.Str.ofString "/") words ++ lawBehind first := by unfold lawText; rw [if_neg (of_decide_eq_false hz), hb, if_neg (by decide)]
      exact next _ _ _ _ (by k_asm) rfl rfl rfl (by rw [et]; rfl) (cb_drop (by assumption) keepT1)
end Mine
end

section -- M9
open PySem PySem.W PyProof.Rows
set_option maxHeartbeats 2000000
namespace Mine
local macro_rules | `(tactic| walk_at "idle 0") => `(tactic| skip)
local macro_rules | `(tactic| walk_at "idle 1") => `(tactic| skip)
local macro_rules | `(tactic| walk_at "idle 2") => `(tactic| skip)
local macro_rules | `(tactic| walk_at "idle 3") => `(tactic| skip)
local macro_rules | `(tactic| walk_at "idle 4") => `(tactic| skip)
local macro_rules | `(tactic| walk_at "idle 5") => `(tactic| skip)
local macro_rules | `(tactic| walk_at "idle 6") => `(tactic| skip)
local macro_rules | `(tactic| walk_at "idle 7") => `(tactic| skip)
local macro_rules | `(tactic| walk_at "idle 8") => `(tactic| skip)
local macro_rules | `(tactic| walk_at "idle 9") => `(tactic| skip)
local macro_rules | `(tactic| walk_at "idle 10") => `(tactic| skip)
local macro_rules | `(tactic| walk_at "idle 11") => `(tactic| skip)
local macro_rules | `(tactic| walk_at "idle 12") => `(tactic| skip)
local macro_rules | `(tactic| walk_at "idle 13") => `(tactic| skip)
local macro_rules | `(tactic| walk_at "idle 14") => `(tactic| skip)
local macro_rules | `(tactic| walk_at "idle 15") => `(tactic| skip)
theorem reset_M9 : True := by
  w_top off
  exact trivial
theorem fill25 : (PySem.Challenge.rw_fp5009_01, hd.heap_39) = (PySem.Challenge.rw_fp5009_01, hd.heap_39) := by
  k_fill
  rfl
def ParseIs (y : PySem.Str) (ns : List Int) : Prop := y.length ≤ 640 ∧ ∃ q r, Txt.split (Txt.rstripChars y (PySem.Str.ofString "/")) (PySem.Str.ofString "/") = q :: r ∧ r.length ≤ 640 ∧ ReadsAs (if q = PySem.Str.ofString "m" then r else q :: r) ns
theorem parse_is {prog : Program} {w : World} {p : Program} {loose : List Str} {mean : ExcName → Option Value} {mg mb : Str → Option Value}
    {dp un : Nat} {gd : Option (List Code)} {cn : Str} {cs : Scope} {a : Addr} {ccd : Value} {cl : List (Str × Addr)} {outer : List Env} {A₀ : Around} {base h₀ : Heap} {L : Addr} {m : Str → Option Value} {s : Shared} {Q E : Value → Shared → Prop}
    {news : List (Addr × Obj)} {x : Str} {t : Tok} {ns : List Int}
    (B : Below A₀ base outer h₀) (F : Fr h₀ L s.heap m) (X : (hd.heap_39 w.params).In h₀) (N : News h₀ L s.heap news) (T : Top p loose mean mg mb h₀) (hk : cs.kind = .function)
    (hd' : dp + 3 < recursionLimit) (hu : un + 24 < cLine) (hx : ParseIs x ns)
    (hret : ∀ (l : Addr) (vs : List Value) (n : Nat) (h' : Heap) (tk' : Nat), Fr h₀ L h' m → News h₀ L h' ((l, listOf vs.toArray n) :: news) → IntsAre vs ns → Q (.ref l) { s with heap := h', toks := tk' }) :
    wpAny (model prog w) (ktrTop dp un gd cn cs L a ccd cl outer) (call (.ref 36) [.str x t]) Q E s := by
  obtain ⟨x1, q, r, x2, x3, x4⟩ := hx
  exact parse_ok B F X N T hk hd' hu x1 x2 x3 x4 hret
local macro_rules | `(tactic| walk_at "call ref") => `(tactic| (k_here; k_dflt (refine' parse_is ?k1 ?k2 ?k3 ?k4 ?k5 ?kK ?kd ?ku ?kx ?_; (case k1 => k_asm); (case k2 => k_asm); (case k3 => k_asm); (case k4 => k_asm); (case k5 => k_asm); (case kK => first | assumption | exact rfl); (case kd => ktr_room); (case ku => ktr_units); (case kx => assumption); intro l9 vs9 n9 h9 tk9 F9 N9 I9; (try dsimp only))))
local macro_rules | `(tactic| walk_at "call builtin:str.join") => `(tactic| (k_here; (with_reducible show wpAny _ _ (call (Value.builtin "str.join") [Value.str _ _, Value.ref _]) _ _ _); (refine join_strs (by is_list) (by assumption) (by assumption) (by assumption) ?_); intro t9 k9))
theorem seg9 {w : World} {p : Program} {loose : List Str} {mean : ExcName → Option Value} {mg mb : Str → Option Value} {fa L : Addr} {cd : Value} {Q : Flow → Shared → Prop} {E : Value → Shared → Prop} {s : Shared} {base : Heap} {m : Str → Option Value}
    {rest : List (Addr × Obj)} {vl wl : Addr} {vv vw : List Value} {vk wk : Nat} {values : List Int} {words : List PySem.Str} {bh text : PySem.Str} {tb tt : Tok}
    (X : (hd.heap_39 w.params).In base) (T : Top p loose mean mg mb base) (B : Below callerA base [] base) (F : Fr base L s.heap m) (hm : m (PySem.Str.ofString "values") = some (.ref vl)) (hm2 : m (PySem.Str.ofString "words") = some (.ref wl))
    (hm3 : m (PySem.Str.ofString "behind") = some (.str bh tb)) (hm4 : m (PySem.Str.ofString "text") = some (.str text tt))
    (N : News base L s.heap ((wl, listOf vw.toArray wk) :: (vl, listOf vv.toArray vk) :: rest)) (hV : IntsAre vv values) (hW : StrsAre vw words)
    (hp1 : ParseIs text values)
    (next : ∀ (h : Heap) (tk : Nat) (m' : Str → Option Value), Fr base L h m' → m' (PySem.Str.ofString "values") = some (.ref vl) → m' (PySem.Str.ofString "words") = some (.ref wl) → m' (PySem.Str.ofString "behind") = some (.str bh tb) →
      News base L h ((wl, listOf vw.toArray wk) :: (vl, listOf vv.toArray vk) :: rest) →
      LawGo w fa L cd 10 Q E { s with heap := h, toks := tk }) : LawGo w fa L cd 9 Q E s := by
  unfold LawGo
  rw [show lawBody.drop 9 = _ :: lawBody.drop 10 from rfl]
  have F0 := fr_at (fr_at (fr_at (fr_at F (x := PySem.Str.ofString "values") hm) (x := PySem.Str.ofString "words") hm2) (x := PySem.Str.ofString "behind") hm3) (x := PySem.Str.ofString "text") hm4
  clear F
  refine wpC_execs_cons (wpC_of_any ?_)
  k_steps
  exact next _ _ _ (by k_asm) rfl rfl rfl (cb_drop (by assumption) keepT1)

theorem seg10 {w : World} {p : Program} {loose : List Str} {mean : ExcName → Option Value} {mg mb : Str → Option Value} {fa L : Addr} {cd : Value} {Q : Flow → Shared → Prop} {E : Value → Shared → Prop} {s : Shared} {base : Heap} {m : Str → Option Value}
    {rest : List (Addr × Obj)} {vl wl : Addr} {vv vw : List Value} {vk wk : Nat} {values : List Int} {words : List PySem.Str} {bh : PySem.Str} {tb : Tok}
    (X : (hd.heap_39 w.params).In base) (T : Top p loose mean mg mb base) (B : Below callerA base [] base) (F : Fr base L s.heap m) (hm : m (PySem.Str.ofString "values") = some (.ref vl)) (hm2 : m (PySem.Str.ofString "words") = some (.ref wl))
    (hm3 : m (PySem.Str.ofString "behind") = some (.str bh tb))
    (N : News base L s.heap ((wl, listOf vw.toArray wk) :: (vl, listOf vv.toArray vk) :: rest)) (hV : IntsAre vv values) (hW : StrsAre vw words)
    (hB : ∀ y ∈ words, y.length ≤ 14) (hJ : words.length * 14 + words.length * (PySem.Str.ofString "/").length ≤ 16777216)
    (hp2 : values ≠ [] → ParseIs (Txt.join (PySem.Str.ofString "/") words) values)
    (next : ∀ (h : Heap) (tk : Nat) (m' : Str → Option Value), Fr base L h m' → m' (PySem.Str.ofString "values") = some (.ref vl) → m' (PySem.Str.ofString "words") = some (.ref wl) → m' (PySem.Str.ofString "behind") = some (.str bh tb) →
      News base L h ((wl, listOf vw.toArray wk) :: (vl, listOf vv.toArray vk) :: rest) →
      LawGo w fa L cd 11 Q E { s with heap := h, toks := tk }) : LawGo w fa L cd 10 Q E s := by
  unfold LawGo
  rw [show lawBody.drop 10 = _ :: lawBody.drop 11 from rfl]
  have F0 := fr_at (fr_at (fr_at F (x := PySem.Str.ofString "values") hm) (x := PySem.Str.ofString "words") hm2) (x := PySem.Str.ofString "behind") hm3
  clear F
  by_cases hv : values = []
  · refine wpC_execs_cons (wpC_of_any ?_)
    k_steps
    all_goals exact next _ _ _ (by k_asm) rfl rfl rfl (by first | assumption | exact cb_drop (by assumption) keepT1 | exact cb_drop (by assumption) keepT2)
  · have hp := hp2 hv
    refine wpC_execs_cons (wpC_of_any ?_)
    k_steps
    all_goals exact next _ _ _ (by k_asm) rfl rfl rfl (by first | assumption | exact cb_drop (by assumption) keepT1 | exact cb_drop (by assumption) keepT2)
end Mine
end

section -- M11
open PySem PySem.W PyProof.Rows
set_option maxHeartbeats 2000000
namespace Mine
local macro_rules | `(tactic| walk_at "idle 0") => `(tactic| skip)
local macro_rules | `(tactic| walk_at "idle 1") => `(tactic| skip)
local macro_rules | `(tactic| walk_at "idle 2") => `(tactic| skip)
local macro_rules | `(tactic| walk_at "idle 3") => `(tactic| skip)
local macro_rules | `(tactic| walk_at "idle 4") => `(tactic| skip)
local macro_rules | `(tactic| walk_at "idle 5") => `(tactic| skip)
local macro_rules | `(tactic| walk_at "idle 6") => `(tactic| skip)
local macro_rules | `(tactic| walk_at "idle 7") => `(tactic| skip)
local macro_rules | `(tactic| walk_at "idle 8") => `(tactic| skip)
local macro_rules | `(tactic| walk_at "idle 9") => `(tactic| skip)
local macro_rules | `(tactic| walk_at "idle 10") => `(tactic| skip)
local macro_rules | `(tactic| walk_at "idle 11") => `(tactic| skip)
local macro_rules | `(tactic| walk_at "idle 12") => `(tactic| skip)
local macro_rules | `(tactic| walk_at "idle 13") => `(tactic| skip)
local macro_rules | `(tactic| walk_at "idle 14") => `(tactic| skip)
local macro_rules | `(tactic| walk_at "idle 15") => `(tactic| skip)
local macro_rules | `(tactic| walk_at "idle 16") => `(tactic| skip)
local macro_rules | `(tactic| walk_at "idle 17") => `(tactic| skip)
local macro_rules | `(tactic| walk_at "idle 18") => `(tactic| skip)
local macro_rules | `(tactic| walk_at "idle 19") => `(tactic| skip)
local macro_rules | `(tactic| walk_at "idle 20") => `(tactic| skip)
local macro_rules | `(tactic| walk_at "idle 21") => `(tactic| skip)
local macro_rules | `(tactic| walk_at "idle 22") => `(tactic| skip)
local macro_rules | `(tactic| walk_at "idle 23") => `(tactic| skip)
local macro_rules | `(tactic| walk_at "idle 24") => `(tactic| skip)
local macro_rules | `(tactic| walk_at "idle 25") => `(tactic| skip)
local macro_rules | `(tactic| walk_at "idle 26") => `(tactic| skip)
local macro_rules | `(tactic| walk_at "idle 27") => `(tactic| skip)
local macro_rules | `(tactic| walk_at "idle 28") => `(tactic| skip)
local macro_rules | `(tactic| walk_at "idle 29") => `(tactic| skip)
local macro_rules | `(tactic| walk_at "idle 30") => `(tactic| skip)
local macro_rules | `(tactic| walk_at "idle 31") => `(tactic| skip)
theorem reset_M11 : True := by
  w_top off
  exact trivial
theorem fill26 : (PySem.Challenge.rw_fp5009_01, hd.heap_39) = (PySem.Challenge.rw_fp5009_01, hd.heap_39) := by
  k_fill
  rfl
section
variable {M : Model} {A : Around} {E : Value → Shared → Prop} {s : Shared} {env : Env}
theorem wpC_isTrue_or_nil {pos whole} {Q : Bool → Shared → Prop} (h : Q false s) : wpC M A (isTrue (.BoolOp .Or [] pos) env whole) Q E s := wpC_pure (a := false) h
theorem wpC_isTrue_or {x : PySem.Expr} {rest : List PySem.Expr} {pos whole} {Q : Bool → Shared → Prop}
    (h : wpC M A (isTrue x env (eval x env)) (fun c s' => if c = true then Q true s' else wpC M A (isTrue (.BoolOp .Or rest pos) env whole) Q E s') E s) :
    wpC M A (isTrue (.BoolOp .Or (x :: rest) pos) env whole) Q E s := by
  show wpC M A (isTrue x env (eval x env) >>= fun c => match PySem.BoolOp.Or, c with
    | .And, false => pure false
    | .Or, true => pure true
    | _, _ => allTrue .Or rest env) Q E s
  refine wpC_bind (wpC_mono h (fun c s' hc => ?_) fun _ _ e => e)
  cases c with
  | true => exact wpC_pure (by simpa using hc)
  | false => exact (by simpa using hc : wpC M A (isTrue (.BoolOp .Or rest pos) env whole) Q E s')
theorem wpC_isTrue_notCall {f : PySem.Expr} {args : List PySem.Expr} {kws : List Keyword} {pos p : Pos} {whole : Sem Value} {Q : Bool → Shared → Prop}
    (h : wpC M A (eval (.Call f args kws pos) env) (fun v s' => v = .bool true ∧ Q false s') E s) : wpC M A (isTrue (.UnaryOp .Not (.Call f args kws pos) p) env whole) Q E s := by
  refine wpC_isTrue_not ?_
  show wpC M A (eval (.Call f args kws pos) env >>= fun v => standAt _ >>= fun _ => holding [v] (truthy v)) _ _ s
  refine wpC_bind (wpC_mono h (fun v s' hv => ?_) fun _ _ x => x)
  obtain ⟨rfl, hq⟩ := hv
  refine wpC_bind (wpC_standAt (wpC_holding (wpC_of_any ?_)))
  exact wpAny_pure hq
end
def RefusedIs (y : PySem.Str) : Prop := y.length ≤ 640 ∧ ∃ q r k cls, Txt.split (Txt.rstripChars y (PySem.Str.ofString "/")) (PySem.Str.ofString "/") = q :: r ∧ r.length ≤ 640 ∧ BadAt (if q = PySem.Str.ofString "m" then r else q :: r) k cls
theorem refused_is {prog : Program} {w : World} {p : Program} {loose : List Str} {mean : ExcName → Option Value} {mg mb : Str → Option Value}
    {dp un : Nat} {gd : Option (List Code)} {cn : Str} {cs : Scope} {a : Addr} {ccd : Value} {cl : List (Str × Addr)} {A₀ : Around} {base h₀ : Heap} {L : Addr} {m : Str → Option Value} {s : Shared} {Q E : Value → Shared → Prop}
    {news : List (Addr × Obj)} {x : Str} {t : Tok}
    (XB : (hd.heap_39 w.params).In base) (TB : Top p loose mean mg mb base)
    (B : Below A₀ base [] h₀) (F : Fr h₀ L s.heap m) (X : (hd.heap_39 w.params).In h₀) (N : News h₀ L s.heap news) (T : Top p loose mean mg mb h₀) (hk : cs.kind = .function)
    (hd' : dp + 5 < recursionLimit) (hu : un + 40 < cLine) (hx : RefusedIs x)
    (hret : ∀ (h' : Heap) (tk' : Nat), Fr h₀ L h' m → News h₀ L h' news → Q (.bool true) { s with heap := h', toks := tk' }) :
    wpC (model prog w) (ktrTop dp un gd cn cs L a ccd cl []) (call (.ref 103) [.str x t]) Q E s := by
  obtain ⟨x1, q, r, k, cls, x2, x3, x4⟩ := hx
  exact refused_true XB TB B F X N T hk hd' hu x1 x2 x3 x4 hret
local macro_rules | `(tactic| walk_at "binaryOp Add str str") => `(tactic| (k_here; (with_reducible show wpAny _ _ (binaryOp Operator.Add (Value.str _ _) (Value.str _ _)) _ _ _); (refine' SBL.add ?_ ?hsz; (case hsz => (rw [PySem.sizeLine_eq]; (try simp only [PySem.Str.length_append]); omega)); intro _ _ _)))
theorem seg11 {w : World} {p : Program} {loose : List Str} {mean : ExcName → Option Value} {mg mb : Str → Option Value} {fa L : Addr} {cd : Value} {Q : Flow → Shared → Prop} {E : Value → Shared → Prop} {s : Shared} {base : Heap} {m : Str → Option Value}
    {led : List (Addr × Obj)} {vl wl : Addr} {bh : PySem.Str} {tb : Tok}
    (X : (hd.heap_39 w.params).In base) (T : Top p loose mean mg mb base) (B : Below callerA base [] base) (F : Fr base L s.heap m) (hm : m (PySem.Str.ofString "values") = some (.ref vl)) (hm2 : m (PySem.Str.ofString "words") = some (.ref wl))
    (hm3 : m (PySem.Str.ofString "behind") = some (.str bh tb)) (hbl : bh.length ≤ 3)
    (N : News base L s.heap led) (r1 : RefusedIs (PySem.Str.ofString "")) (r2 : RefusedIs (PySem.Str.ofString "/" ++ bh)) (r3 : RefusedIs (PySem.Str.ofString "/1"))
    (next : ∀ (h : Heap) (tk : Nat) (m' : Str → Option Value), Fr base L h m' → m' (PySem.Str.ofString "values") = some (.ref vl) → m' (PySem.Str.ofString "words") = some (.ref wl) → m' (PySem.Str.ofString "behind") = some (.str bh tb) →
      News base L h led → LawGo w fa L cd 12 Q E { s with heap := h, toks := tk }) : LawGo w fa L cd 11 Q E s := by
  unfold LawGo
  rw [show lawBody.drop 11 = _ :: lawBody.drop 12 from rfl]
  have F0 := fr_at (fr_at (fr_at F (x := PySem.Str.ofString "values") hm) (x := PySem.Str.ofString "words") hm2) (x := PySem.Str.ofString "behind") hm3
  have es : (PySem.Str.ofString "/").length = 1 := by decide
  clear F
  refine wpC_execs_cons (wpC_If ?_)
  refine wpC_isTrue_or (wpC_isTrue_notCall (wpC_Call ?_))
  k_steps
  refine wpC_callWith_K (K := hd.heap_39 w.params) (by k_asm) (by rfl) ?_
  k_steps
  refine refused_is (by assumption) (by assumption) (by k_asm) (by k_asm) (by k_asm) (by k_asm) (by k_asm) (by exact rfl) (by ktr_room) (by ktr_units) r1 ?_
  intro h1 tk1 F1 N1
  refine ⟨rfl, ?_⟩
  rw [if_neg (by decide)]
  refine wpC_isTrue_or (wpC_isTrue_notCall (wpC_Call ?_))
  k_steps
  refine wpC_callWith_K (K := hd.heap_39 w.params) (by k_asm) (by rfl) ?_
  k_steps
  refine refused_is (by assumption) (by assumption) (by k_asm) (by k_asm) (by k_asm) (by k_asm) (by k_asm) (by exact rfl) (by ktr_room) (by ktr_units) r2 ?_
  intro h2 tk2 F2 N2
  refine ⟨rfl, ?_⟩
  rw [if_neg (by decide)]
  refine wpC_isTrue_or (wpC_isTrue_notCall (wpC_Call ?_))
  k_steps
  refine wpC_callWith_K (K := hd.heap_39 w.params) (by k_asm) (by rfl) ?_
  k_steps
  refine refused_is (by assumption) (by assumption) (by k_asm) (by k_asm) (by k_asm) (by k_asm) (by k_asm) (by exact rfl) (by ktr_room) (by ktr_units) r3 ?_
  intro h3 tk3 F3 N3
  refine ⟨rfl, ?_⟩
  rw [if_neg (by decide)]
  refine wpC_isTrue_or_nil ?_
  rw [if_neg (by decide)]
  refine wpC_execs_nil ?_
  exact next _ _ _ F3 rfl rfl rfl N3
end Mine
end

section -- M12
open PySem PySem.W PyProof.Rows
set_option maxHeartbeats 2000000
namespace Mine
theorem reset_M12 : True := by
  w_top off
  exact trivial
theorem fill27 : (PySem.Challenge.rw_fp5009_01, hd.heap_39) = (PySem.Challenge.rw_fp5009_01, hd.heap_39) := by
  k_fill
  rfl
def lawRow (words : List PySem.Str) : List PySem.Str := if words = [] then [PySem.Str.ofString "1", PySem.Str.ofString "2"] else words
section
open PyProof.V PySem.Spec
theorem ks_canLayAll0 : ∀ ns : List PySem.Str, (∀ x ∈ ns, PyData.strOk x = true) → PyData.canLayAll0 (ns.map PyData.str) = true
  | [], _ => rfl
  | a :: r, h => by simp [PyData.canLayAll0, PyData.canLay0, ks_canLayAll0 r fun x hx => h x (List.mem_cons_of_mem _ hx), h a List.mem_cons_self]
theorem ks_depthAll : ∀ ns : List PySem.Str, PyData.depthAll (ns.map PyData.str) = 0
  | [] => rfl
  | _ :: r => by simp [PyData.depthAll, PyData.depth, ks_depthAll r]
theorem ks_shaped (ns : List PySem.Str) (h : ∀ x ∈ ns, PyData.strOk x = true) : SeqAt.shaped (.list (ns.map PyData.str)) = true := by
  simp [SeqAt.shaped, PyData.canLay0, PyData.depth, ks_canLayAll0 ns h, ks_depthAll]
theorem ks_sameAll : ∀ ns ms : List PySem.Str, PySem.Spec.sameAll (ns.map PyData.str) (ms.map PyData.str) = decide (ns = ms)
  | [], [] => by simp [PySem.Spec.sameAll]
  | [], _ :: _ => by simp [PySem.Spec.sameAll]
  | _ :: _, [] => by simp [PySem.Spec.sameAll]
  | a :: r, b :: t => by
    simp only [List.map_cons, PySem.Spec.sameAll, PySem.Spec.same, ks_sameAll r t]
    by_cases h : a = b <;> by_cases h' : r = t <;> simp [h, h']
theorem ks_same (ns ms : List PySem.Str) : PySem.Spec.same (.list (ns.map PyData.str)) (.list (ms.map PyData.str)) = decide (ns = ms) := by
  simp only [PySem.Spec.same]; exact ks_sameAll ns ms
theorem ks_ne {prog : Program} {w : World} {A : Around} {E : Value → Shared → Prop} {s : Shared} {a b : Addr} {xs ys : List Value} {ns ms : List PySem.Str} {Q : Value → Shared → Prop} (ha : s.heap.IsList a xs.toArray) (hb : s.heap.IsList b ys.toArray) (hi : StrsAre xs ns) (hj : StrsAre ys ms) (o1 : ∀ x ∈ ns, PyData.strOk x = true) (o2 : ∀ x ∈ ms, PyData.strOk x = true) (hu : A.units + 64 < cLine) (h : Q (.bool (!decide (ns = ms))) s) :
    wpAny (model prog w) A (compareOp .NotEq (.ref a) (.ref b)) Q E s :=
  ne_dataH_same (reads_newData ha hi.carried) (reads_newData hb hj.carried) (ks_shaped _ o1) (ks_shaped _ o2) hu (SeqAt.noMix_of_shape (.list .str) rfl _ _ (list_map_has fun _ => rfl) (list_map_has fun _ => rfl)) (by rw [ks_same]; exact h)
end
local macro_rules | `(tactic| walk_at "compareOp NotEq ref ref") => `(tactic| (k_here; (with_reducible show wpAny _ _ (compareOp CmpOp.NotEq (Value.ref _) (Value.ref _)) _ _ _); (refine' ks_ne (ys := []) ?ka ?kb ?kc .nil ?kd (fun x hx => nomatch hx) ?ku ?_; (case ka => is_list); (case kb => is_list); (case kc => assumption); (case kd => assumption); (case ku => ktr_units))))
theorem keepL {α : Type} {a b : α} {l : List α} : ∀ p ∈ a :: l, p ∈ a :: b :: l := fun p h => by
  rcases List.mem_cons.mp h with h | h
  · exact h ▸ List.mem_cons_self
  · exact List.mem_cons_of_mem _ (List.mem_cons_of_mem _ h)
theorem allLt_all {d : Addr} : ∀ {l : List (Addr × Obj)}, AllLt d l → ∀ p ∈ l, p.1 < d
  | [], _, _, h => nomatch h
  | a :: l, x, p, h => by
    rcases List.mem_cons.mp h with rfl | h
    · exact x.1
    · exact allLt_all x.2 p h
theorem allLt_mem {d wl : Addr} {o : Obj} {rest : List (Addr × Obj)} (h : wl < d ∧ AllLt d rest) : ∀ p ∈ (wl, o) :: rest, p.1 < d := fun p hp => by
  rcases List.mem_cons.mp hp with rfl | hp
  · exact h.1
  · exact allLt_all h.2 p hp
theorem seg12 {w : World} {p : Program} {loose : List Str} {mean : ExcName → Option Value} {mg mb : Str → Option Value} {fa L : Addr} {cd : Value} {Q : Flow → Shared → Prop} {E : Value → Shared → Prop} {s : Shared} {base : Heap} {m : Str → Option Value}
    {rest : List (Addr × Obj)} {vl wl : Addr} {bh : PySem.Str} {tb : Tok} {vw : List Value} {wk : Nat} {words : List PySem.Str}
    (X : (hd.heap_39 w.params).In base) (T : Top p loose mean mg mb base) (B : Below callerA base [] base) (F : Fr base L s.heap m) (hm : m (PySem.Str.ofString "values") = some (.ref vl)) (hm2 : m (PySem.Str.ofString "words") = some (.ref wl))
    (hm3 : m (PySem.Str.ofString "behind") = some (.str bh tb))
    (N : News base L s.heap ((wl, listOf vw.toArray wk) :: rest)) (hW : StrsAre vw words) (hwl : words.length ≤ 63) (hok : ∀ x ∈ words, PyData.strOk x = true)
    (next : ∀ (h : Heap) (tk : Nat) (m' : Str → Option Value) (rl : Addr) (vr : List Value) (rk : Nat), Fr base L h m' → m' (PySem.Str.ofString "values") = some (.ref vl) → m' (PySem.Str.ofString "words") = some (.ref wl) → m' (PySem.Str.ofString "behind") = some (.str bh tb) → m' (PySem.Str.ofString "row") = some (.ref rl) →
      News base L h ((rl, listOf vr.toArray rk) :: (wl, listOf vw.toArray wk) :: rest) → (∀ p ∈ (wl, listOf vw.toArray wk) :: rest, p.1 < rl) → StrsAre vr (lawRow words) → LawGo w fa L cd 13 Q E { s with heap := h, toks := tk }) : LawGo w fa L cd 12 Q E s := by
  unfold LawGo
  rw [show lawBody.drop 12 = _ :: lawBody.drop 13 from rfl]
  have F0 := fr_at (fr_at (fr_at F (x := PySem.Str.ofString "values") hm) (x := PySem.Str.ofString "words") hm2) (x := PySem.Str.ofString "behind") hm3
  clear F
  refine wpC_execs_cons (wpC_of_any ?_)
  k_steps
  · rename decide _ = true => hz
    have et : lawRow words = [PySem.Str.ofString "1", PySem.Str.ofString "2"] := if_pos (of_decide_eq_true hz)
    exact next _ _ _ _ _ _ (by k_asm) rfl rfl rfl rfl (cb_drop (by assumption) keepL) (by rename _ < _ ∧ _ < _ ∧ AllLt _ _ => l9; exact allLt_mem l9.2) (by rw [et]; exact .cons _ _ (.cons _ _ .nil))
  · rename decide _ = false => hz
    have et : lawRow words = words := if_neg (of_decide_eq_false hz)
    exact next _ _ _ _ _ _ (by k_asm) rfl rfl rfl rfl (cb_drop (by assumption) keepL) (by rename _ < _ ∧ _ < _ ∧ AllLt _ _ => l9; exact allLt_mem l9.2) (by rw [et]; assumption)
end Mine
end

section -- M13
open PySem PySem.W PyProof.Rows
set_option maxHeartbeats 2000000
namespace Mine
local macro_rules | `(tactic| walk_at "idle 0") => `(tactic| skip)
local macro_rules | `(tactic| walk_at "idle 1") => `(tactic| skip)
local macro_rules | `(tactic| walk_at "idle 2") => `(tactic| skip)
local macro_rules | `(tactic| walk_at "idle 3") => `(tactic| skip)
local macro_rules | `(tactic| walk_at "idle 4") => `(tactic| skip)
local macro_rules | `(tactic| walk_at "idle 5") => `(tactic| skip)
local macro_rules | `(tactic| walk_at "idle 6") => `(tactic| skip)
local macro_rules | `(tactic| walk_at "idle 7") => `(tactic| skip)
local macro_rules | `(tactic| walk_at "idle 8") => `(tactic| skip)
local macro_rules | `(tactic| walk_at "idle 9") => `(tactic| skip)
local macro_rules | `(tactic| walk_at "idle 10") => `(tactic| skip)
local macro_rules | `(tactic| walk_at "idle 11") => `(tactic| skip)
local macro_rules | `(tactic| walk_at "idle 12") => `(tactic| skip)
local macro_rules | `(tactic| walk_at "idle 13") => `(tactic| skip)
local macro_rules | `(tactic| walk_at "idle 14") => `(tactic| skip)
local macro_rules | `(tactic| walk_at "idle 15") => `(tactic| skip)
theorem reset_M13 : True := by
  w_top off
  exact trivial
theorem fill28 : (PySem.Challenge.rw_fp5009_01, hd.heap_39) = (PySem.Challenge.rw_fp5009_01, hd.heap_39) := by
  k_fill
  rfl
local macro_rules | `(tactic| walk_at "call ref") => `(tactic| (k_here; k_dflt (refine' bad_ok ?k1 ?k2 ?k3 ?k4 ?k5 ?kK ?kd ?ku ?_; (case k1 => k_asm); (case k2 => k_asm); (case k3 => k_asm); (case k4 => k_asm); (case k5 => k_asm); (case kK => first | assumption | exact rfl); (case kd => ktr_room); (case ku => ktr_units); intro l9 vs9 n9 h9 tk9 F9 N9 I9; (try dsimp only))))
theorem seg13 {w : World} {p : Program} {loose : List Str} {mean : ExcName → Option Value} {mg mb : Str → Option Value} {fa L : Addr} {cd : Value} {Q : Flow → Shared → Prop} {E : Value → Shared → Prop} {s : Shared} {base : Heap} {m : Str → Option Value}
    {vl wl rl nl : Addr} {bh : PySem.Str} {tb tf : Tok} {vr vn : List Value} {rk nn : Nat} {row : List PySem.Str} {numbers : List Int} {first : Int} {oF oN : Obj} {mid : List (Addr × Obj)}
    (X : (hd.heap_39 w.params).In base) (T : Top p loose mean mg mb base) (B : Below callerA base [] base) (F : Fr base L s.heap m) (hm : m (PySem.Str.ofString "values") = some (.ref vl)) (hm2 : m (PySem.Str.ofString "words") = some (.ref wl))
    (hm3 : m (PySem.Str.ofString "behind") = some (.str bh tb)) (hm4 : m (PySem.Str.ofString "row") = some (.ref rl))
    (N : News base L s.heap ((rl, listOf vr.toArray rk) :: (nl, listOf vn.toArray nn) :: (L + 1 + 1, oF) :: (L + 1, oN) :: mid)) (h1 : oF.data = .cell (some (.int first tf))) (h2 : oN.data = .cell (some (.ref nl))) (hI : IntsAre vn numbers) (hlen : numbers.length ≤ 63) (hpos : 0 < numbers.length)
    (hR : StrsAre vr row) (hrl : row.length ≤ 63) (hrp : 0 < row.length)
    (next : ∀ (h : Heap) (tk : Nat) (m' : Str → Option Value) (tp tq : Tok), Fr base L h m' → m' (PySem.Str.ofString "values") = some (.ref vl) → m' (PySem.Str.ofString "words") = some (.ref wl) → m' (PySem.Str.ofString "behind") = some (.str bh tb) → m' (PySem.Str.ofString "row") = some (.ref rl) →
      m' (PySem.Str.ofString "place") = some (.int ((first.fdiv 392).fmod (row.length : Int)) tp) → m' (PySem.Str.ofString "bad") = some (.str (lawBad.getD ((numbers.getD (-1 + (numbers.length : Int)).toNat 0).fmod 17).toNat PySem.Str.empty) tq) →
      News base L h ((rl, listOf vr.toArray rk) :: (nl, listOf vn.toArray nn) :: (L + 1 + 1, oF) :: (L + 1, oN) :: mid) → LawGo w fa L cd 15 Q E { s with heap := h, toks := tk }) : LawGo w fa L cd 13 Q E s := by
  unfold LawGo
  rw [show lawBody.drop 13 = _ :: lawBody.drop 14 from rfl]
  have F0 := fr_at (fr_at (fr_at (fr_at F (x := PySem.Str.ofString "values") hm) (x := PySem.Str.ofString "words") hm2) (x := PySem.Str.ofString "behind") hm3) (x := PySem.Str.ofString "row") hm4
  clear F
  refine wpC_execs_cons (wpC_of_any ?_)
  k_steps
  rw [show lawBody.drop 14 = _ :: lawBody.drop 15 from rfl]
  refine wpC_execs_cons (wpC_of_any ?_)
  k_steps
  have q0 := Int.fmod_nonneg_of_pos (numbers.getD (-1 + (numbers.length : Int)).toNat 0) (show (0:Int) < 17 by decide)
  have q1 := Int.fmod_lt_of_pos (numbers.getD (-1 + (numbers.length : Int)).toNat 0) (show (0:Int) < 17 by decide)
  have q2 : (lawBad.length : Int) = 17 := by decide
  refine KTb.item_list (ws := lawBad) (by is_list) (by assumption) q0 (by omega) (by omega) ?_
  intro t7 hlt
  k_steps
  exact next _ _ _ _ _ (by k_asm) rfl rfl rfl rfl rfl rfl (cb_drop (by assumption) keepT1)
end Mine
end

section -- M17
open PySem PySem.W PyProof.Rows
set_option maxHeartbeats 2000000
namespace Mine
local macro_rules | `(tactic| walk_at "idle 0") => `(tactic| skip)
local macro_rules | `(tactic| walk_at "idle 1") => `(tactic| skip)
local macro_rules | `(tactic| walk_at "idle 2") => `(tactic| skip)
local macro_rules | `(tactic| walk_at "idle 3") => `(tactic| skip)
local macro_rules | `(tactic| walk_at "idle 4") => `(tactic| skip)
local macro_rules | `(tactic| walk_at "idle 5") => `(tactic| skip)
local macro_rules | `(tactic| walk_at "idle 6") => `(tactic| skip)
local macro_rules | `(tactic| walk_at "idle 7") => `(tactic| skip)
local macro_rules | `(tactic| walk_at "idle 8") => `(tactic| skip)
local macro_rules | `(tactic| walk_at "idle 9") => `(tactic| skip)
local macro_rules | `(tactic| walk_at "idle 10") => `(tactic| skip)
local macro_rules | `(tactic| walk_at "idle 11") => `(tactic| skip)
local macro_rules | `(tactic| walk_at "idle 12") => `(tactic| skip)
local macro_rules | `(tactic| walk_at "idle 13") => `(tactic| skip)
local macro_rules | `(tactic| walk_at "idle 14") => `(tactic| skip)
local macro_rules | `(tactic| walk_at "idle 15") => `(tactic| skip)
local macro_rules | `(tactic| walk_at "idle 16") => `(tactic| skip)
local macro_rules | `(tactic| walk_at "idle 17") => `(tactic| skip)
local macro_rules | `(tactic| walk_at "idle 18") => `(tactic| skip)
local macro_rules | `(tactic| walk_at "idle 19") => `(tactic| skip)
local macro_rules | `(tactic| walk_at "idle 20") => `(tactic| skip)
local macro_rules | `(tactic| walk_at "idle 21") => `(tactic| skip)
local macro_rules | `(tactic| walk_at "idle 22") => `(tactic| skip)
local macro_rules | `(tactic| walk_at "idle 23") => `(tactic| skip)
local macro_rules | `(tactic| walk_at "idle 24") => `(tactic| skip)
local macro_rules | `(tactic| walk_at "idle 25") => `(tactic| skip)
local macro_rules | `(tactic| walk_at "idle 26") => `(tactic| skip)
local macro_rules | `(tactic| walk_at "idle 27") => `(tactic| skip)
local macro_rules | `(tactic| walk_at "idle 28") => `(tactic| skip)
local macro_rules | `(tactic| walk_at "idle 29") => `(tactic| skip)
local macro_rules | `(tactic| walk_at "idle 30") => `(tactic| skip)
local macro_rules | `(tactic| walk_at "idle 31") => `(tactic| skip)
theorem reset_M17 : True := by
  w_top off
  exact trivial
theorem fill31 : (PySem.Challenge.rw_fp5009_01, hd.heap_39) = (PySem.Challenge.rw_fp5009_01, hd.heap_39) := by
  k_fill
  rfl
local macro_rules | `(tactic| walk_at "call ref") => `(tactic| (k_here; refine Stop.mk ?_))
theorem seg17 {w : World} {p : Program} {loose : List Str} {mean : ExcName → Option Value} {mg mb : Str → Option Value} {fa L : Addr} {cd : Value} {Q : Flow → Shared → Prop} {E : Value → Shared → Prop} {s : Shared} {base : Heap} {m : Str → Option Value}
    {vl wl : Addr} {bh : PySem.Str} {tb : Tok} {vv vw : List Value} {vk wk : Nat} {values : List Int} {rest : List (Addr × Obj)}
    (X : (hd.heap_39 w.params).In base) (T : Top p loose mean mg mb base) (B : Below callerA base [] base) (F : Fr base L s.heap m) (hm : m (PySem.Str.ofString "values") = some (.ref vl)) (hm2 : m (PySem.Str.ofString "words") = some (.ref wl))
    (hm3 : m (PySem.Str.ofString "behind") = some (.str bh tb))
    (N : News base L s.heap ((wl, listOf vw.toArray wk) :: (vl, listOf vv.toArray vk) :: rest)) (hV : IntsAre vv values) (hr : ∀ n ∈ values, 0 ≤ n ∧ n < 4294967296) (hl : values.length ≤ 63)
    (ht : told (PySem.Str.ofString "m") values = PySem.Str.ofString "m" ++ lawPlain values) (hp : ParseIs (told (PySem.Str.ofString "m") values) values) (hpl : (lawPlain values).length ≤ 640)
    (next : ∀ (h : Heap) (tk : Nat) (m' : Str → Option Value), Fr base L h m' → m' (PySem.Str.ofString "values") = some (.ref vl) → m' (PySem.Str.ofString "words") = some (.ref wl) → m' (PySem.Str.ofString "behind") = some (.str bh tb) →
      News base L h ((wl, listOf vw.toArray wk) :: (vl, listOf vv.toArray vk) :: rest) → LawGo w fa L cd 19 Q E { s with heap := h, toks := tk }) : LawGo w fa L cd 17 Q E s := by
  unfold LawGo
  rw [show lawBody.drop 17 = _ :: lawBody.drop 18 from rfl]
  have F0 := fr_at (fr_at (fr_at F (x := PySem.Str.ofString "values") hm) (x := PySem.Str.ofString "words") hm2) (x := PySem.Str.ofString "behind") hm3
  clear F
  have es1 : (PySem.Str.ofString "m").length = 1 := by decide
  refine wpC_execs_cons (wpC_of_any ?_)
  k_steps
  refine Stop.of ?_
  refine tell_ok (by k_asm) (by k_asm) (by k_asm) (by assumption) (by k_asm) (by exact rfl) (by ktr_room) (by ktr_units) (List.mem_cons_of_mem _ List.mem_cons_self) hV hr hl ?_
  intro t1 h1 tk1 F1 N1
  k_steps
  rw [show lawBody.drop 18 = _ :: lawBody.drop 19 from rfl]
  refine wpC_execs_cons (wpC_of_any ?_)
  k_steps
  refine Stop.of ?_
  refine plain_ok (by k_asm) (by k_asm) (by k_asm) (by assumption) (by k_asm) (by exact rfl) (by ktr_room) (by ktr_units) (List.mem_cons_of_mem _ List.mem_cons_self) hV hr hl ?_
  intro t2 h2 tk2 F2 N2
  k_steps
  · rename (told (PySem.Str.ofString "m") values != _) = true => hz
    rw [ht] at hz
    simp at hz
  · refine Stop.of ?_
    refine parse_is (by k_asm) (by k_asm) (by k_asm) (by assumption) (by k_asm) (by exact rfl) (by ktr_room) (by ktr_units) hp ?_
    intro l3 vs3 n3 h3 tk3 F3 N3 I3
    k_steps
    exact next _ _ _ (by k_asm) rfl rfl rfl (cb_drop (by assumption) keepT1)
end Mine
end

section -- M19
open PySem PySem.W PyProof.Rows
set_option maxHeartbeats 2000000
namespace Mine
theorem reset_M19 : True := by
  w_top off
  exact trivial
theorem fill32 : (PySem.Challenge.rw_fp5009_01, hd.heap_39) = (PySem.Challenge.rw_fp5009_01, hd.heap_39) := by
  k_fill
  rfl
local macro_rules | `(tactic| walk_at "call ref") => `(tactic| (k_here; refine Stop.mk ?_))
theorem py256 {n : Int} (h : n < 1000) : ((256 : Int) ^ n.toNat).natAbs.log2 < 9000 := by
  have e : ((256 : Int) ^ n.toNat).natAbs = 2 ^ (8 * n.toNat) := by
    rw [Int.natAbs_pow, Nat.pow_mul]; rfl
  rw [e, Nat.log2_two_pow]; omega
local macro_rules | `(tactic| walk_at "binaryOp FloorDiv int int") => `(tactic| (k_here; (with_reducible refine floordiv_int ?kbe ?_ (Or.inl (PyProof.noPylong_of_log2 ?kbp))); (case kbe => exact Int.ne_of_gt (pow_pos_of (by decide) _)); (case kbp => exact py256 (by first | l_bnd | omega))))
def lawOctets (first : Int) : List Int := List.map (fun k' : Int => (first.fdiv (256 ^ k'.toNat)).fmod 256) (rangeKs 0 ((4 - 0 : Int)).toNat)
theorem seg19 {w : World} {p : Program} {loose : List Str} {mean : ExcName → Option Value} {mg mb : Str → Option Value} {fa L : Addr} {cd : Value} {Q : Flow → Shared → Prop} {E : Value → Shared → Prop} {s : Shared} {base : Heap} {m : Str → Option Value}
    {vl wl : Addr} {bh : PySem.Str} {tb tf : Tok} {vv vw vn : List Value} {vk wk nn : Nat} {values : List Int} {first : Int} {oF oN : Obj} {nl : Addr}
    (X : (hd.heap_39 w.params).In base) (T : Top p loose mean mg mb base) (B : Below callerA base [] base) (F : Fr base L s.heap m) (hm : m (PySem.Str.ofString "values") = some (.ref vl)) (hm2 : m (PySem.Str.ofString "words") = some (.ref wl))
    (hm3 : m (PySem.Str.ofString "behind") = some (.str bh tb))
    (N : News base L s.heap [(wl, listOf vw.toArray wk), (vl, listOf vv.toArray vk), (nl, listOf vn.toArray nn), (L + 1 + 1, oF), (L + 1, oN)]) (h1 : oF.data = .cell (some (.int first tf))) (h2 : oN.data = .cell (some (.ref nl)))
    (hV : IntsAre vv values) (hr : ∀ n ∈ values, 0 ≤ n ∧ n < 4294967296) (hl : values.length ≤ 63)
    (next : ∀ (h : Heap) (tk : Nat) (m' : Str → Option Value) (tb8 : Tok), Fr base L h m' → m' (PySem.Str.ofString "values") = some (.ref vl) → m' (PySem.Str.ofString "words") = some (.ref wl) → m' (PySem.Str.ofString "behind") = some (.str bh tb) → m' (PySem.Str.ofString "octets") = some (.bytes (byteArr (lawOctets first)) tb8) →
      News base L h [(wl, listOf vw.toArray wk), (vl, listOf vv.toArray vk), (nl, listOf vn.toArray nn), (L + 1 + 1, oF), (L + 1, oN)] → LawGo w fa L cd 20 Q E { s with heap := h, toks := tk }) : LawGo w fa L cd 19 Q E s := by
  unfold LawGo
  rw [show lawBody.drop 19 = _ :: lawBody.drop 20 from rfl]
  have F0 := fr_at (fr_at (fr_at F (x := PySem.Str.ofString "values") hm) (x := PySem.Str.ofString "words") hm2) (x := PySem.Str.ofString "behind") hm3
  clear F
  refine wpC_execs_cons (wpC_of_any ?_)
  k_steps
  exact next _ _ _ _ (by k_asm) rfl rfl rfl rfl (cb_drop (by assumption) (fun _ h => List.mem_cons_of_mem _ h))
end Mine
end

section -- M20
open PySem PySem.W PyProof.Rows
set_option maxHeartbeats 2000000
namespace Mine
local macro_rules | `(tactic| walk_at "idle 0") => `(tactic| skip)
local macro_rules | `(tactic| walk_at "idle 1") => `(tactic| skip)
local macro_rules | `(tactic| walk_at "idle 2") => `(tactic| skip)
local macro_rules | `(tactic| walk_at "idle 3") => `(tactic| skip)
local macro_rules | `(tactic| walk_at "idle 4") => `(tactic| skip)
local macro_rules | `(tactic| walk_at "idle 5") => `(tactic| skip)
local macro_rules | `(tactic| walk_at "idle 6") => `(tactic| skip)
local macro_rules | `(tactic| walk_at "idle 7") => `(tactic| skip)
local macro_rules | `(tactic| walk_at "idle 8") => `(tactic| skip)
local macro_rules | `(tactic| walk_at "idle 9") => `(tactic| skip)
local macro_rules | `(tactic| walk_at "idle 10") => `(tactic| skip)
local macro_rules | `(tactic| walk_at "idle 11") => `(tactic| skip)
local macro_rules | `(tactic| walk_at "idle 12") => `(tactic| skip)
local macro_rules | `(tactic| walk_at "idle 13") => `(tactic| skip)
local macro_rules | `(tactic| walk_at "idle 14") => `(tactic| skip)
local macro_rules | `(tactic| walk_at "idle 15") => `(tactic| skip)
theorem reset_M20 : True := by
  w_top off
  exact trivial
theorem fill33 : (PySem.Challenge.rw_fp5009_01, hd.heap_39) = (PySem.Challenge.rw_fp5009_01, hd.heap_39) := by
  k_fill
  rfl
local macro_rules | `(tactic| walk_at "call ref") => `(tactic| (k_here; refine Stop.mk ?_))
def lawSmall (first : Int) : PySem.Str := lawDigits (byteArr (lawOctets first)) (PySem.Str.ofString "0123456789abcdef")
def lawCapital (first : Int) : PySem.Str := lawDigits (byteArr (lawOctets first)) (PySem.Str.ofString "0123456789ABCDEF")
theorem octets_size (first : Int) : (byteArr (lawOctets first)).size = 4 := by
  rw [byteArr_size]; unfold lawOctets; rw [List.length_map, rangeKs_length]; rfl
theorem seg20 {w : World} {p : Program} {loose : List Str} {mean : ExcName → Option Value} {mg mb : Str → Option Value} {fa L : Addr} {cd : Value} {Q : Flow → Shared → Prop} {E : Value → Shared → Prop} {s : Shared} {base : Heap} {m : Str → Option Value}
    {vl wl : Addr} {bh : PySem.Str} {tb tb8 : Tok} {vv vw : List Value} {vk wk : Nat} {values : List Int} {first : Int} {rest : List (Addr × Obj)}
    (X : (hd.heap_39 w.params).In base) (T : Top p loose mean mg mb base) (B : Below callerA base [] base) (F : Fr base L s.heap m) (hm : m (PySem.Str.ofString "values") = some (.ref vl)) (hm2 : m (PySem.Str.ofString "words") = some (.ref wl))
    (hm3 : m (PySem.Str.ofString "behind") = some (.str bh tb)) (hm4 : m (PySem.Str.ofString "octets") = some (.bytes (byteArr (lawOctets first)) tb8))
    (N : News base L s.heap ((wl, listOf vw.toArray wk) :: (vl, listOf vv.toArray vk) :: rest)) (hV : IntsAre vv values) (hr : ∀ n ∈ values, 0 ≤ n ∧ n < 4294967296) (hl : values.length ≤ 63)
    (ht : told (hexText (byteArr (lawOctets first))) values = lawSmall first ++ lawPlain values) (hsl : (lawSmall first).length = 8) (hpl : (lawPlain values).length ≤ 640)
    (next : ∀ (h : Heap) (tk : Nat) (m' : Str → Option Value) (ts : Tok), Fr base L h m' → m' (PySem.Str.ofString "values") = some (.ref vl) → m' (PySem.Str.ofString "words") = some (.ref wl) → m' (PySem.Str.ofString "behind") = some (.str bh tb) → m' (PySem.Str.ofString "octets") = some (.bytes (byteArr (lawOctets first)) tb8) → m' (PySem.Str.ofString "small") = some (.str (lawSmall first) ts) →
      News base L h ((wl, listOf vw.toArray wk) :: (vl, listOf vv.toArray vk) :: rest) → LawGo w fa L cd 22 Q E { s with heap := h, toks := tk }) : LawGo w fa L cd 20 Q E s := by
  unfold LawGo
  rw [show lawBody.drop 20 = _ :: lawBody.drop 21 from rfl]
  have F0 := fr_at (fr_at (fr_at (fr_at F (x := PySem.Str.ofString "values") hm) (x := PySem.Str.ofString "words") hm2) (x := PySem.Str.ofString "behind") hm3) (x := PySem.Str.ofString "octets") hm4
  clear F
  refine wpC_execs_cons (wpC_of_any ?_)
  k_steps
  refine Stop.of ?_
  refine digits_ok (by k_asm) (by k_asm) (by k_asm) (by assumption) (by k_asm) (by exact rfl) (by ktr_room) (by ktr_units) (by rw [octets_size]; exact Nat.le_refl _) (by decide) ?_
  intro t1 h1 tk1 F1 N1
  k_steps
  rw [show lawBody.drop 21 = _ :: lawBody.drop 22 from rfl]
  refine wpC_execs_cons (wpC_of_any ?_)
  k_steps
  refine Stop.of ?_
  refine tell_fp (octets_size first) (by k_asm) (by k_asm) (by k_asm) (by assumption) (by k_asm) (by exact rfl) (by ktr_room) (by ktr_units) (List.mem_cons_of_mem _ List.mem_cons_self) hV hr hl ?_
  intro t2 h2 tk2 F2 N2
  k_steps
  refine Stop.of ?_
  refine plain_ok (by k_asm) (by k_asm) (by k_asm) (by assumption) (by k_asm) (by exact rfl) (by ktr_room) (by ktr_units) (List.mem_cons_of_mem _ List.mem_cons_self) hV hr hl ?_
  intro t3 h3 tk3 F3 N3
  change wpAny _ _ (binaryOp _ (.str (lawSmall first) _) _) _ _ _
  k_steps
  · rename (told _ values != _) = true => hz
    rw [ht] at hz
    simp at hz
  · exact next _ _ _ _ (by k_asm) rfl rfl rfl rfl rfl N3
end Mine
end

section -- M22
open PySem PySem.W PyProof.Rows
set_option maxHeartbeats 2000000
namespace Mine
local macro_rules | `(tactic| walk_at "idle 0") => `(tactic| skip)
local macro_rules | `(tactic| walk_at "idle 1") => `(tactic| skip)
local macro_rules | `(tactic| walk_at "idle 2") => `(tactic| skip)
local macro_rules | `(tactic| walk_at "idle 3") => `(tactic| skip)
local macro_rules | `(tactic| walk_at "idle 4") => `(tactic| skip)
local macro_rules | `(tactic| walk_at "idle 5") => `(tactic| skip)
local macro_rules | `(tactic| walk_at "idle 6") => `(tactic| skip)
local macro_rules | `(tactic| walk_at "idle 7") => `(tactic| skip)
local macro_rules | `(tactic| walk_at "idle 8") => `(tactic| skip)
local macro_rules | `(tactic| walk_at "idle 9") => `(tactic| skip)
local macro_rules | `(tactic| walk_at "idle 10") => `(tactic| skip)
local macro_rules | `(tactic| walk_at "idle 11") => `(tactic| skip)
local macro_rules | `(tactic| walk_at "idle 12") => `(tactic| skip)
local macro_rules | `(tactic| walk_at "idle 13") => `(tactic| skip)
local macro_rules | `(tactic| walk_at "idle 14") => `(tactic| skip)
local macro_rules | `(tactic| walk_at "idle 15") => `(tactic| skip)
local macro_rules | `(tactic| walk_at "idle 16") => `(tactic| skip)
local macro_rules | `(tactic| walk_at "idle 17") => `(tactic| skip)
local macro_rules | `(tactic| walk_at "idle 18") => `(tactic| skip)
local macro_rules | `(tactic| walk_at "idle 19") => `(tactic| skip)
local macro_rules | `(tactic| walk_at "idle 20") => `(tactic| skip)
local macro_rules | `(tactic| walk_at "idle 21") => `(tactic| skip)
local macro_rules | `(tactic| walk_at "idle 22") => `(tactic| skip)
local macro_rules | `(tactic| walk_at "idle 23") => `(tactic| skip)
local macro_rules | `(tactic| walk_at "idle 24") => `(tactic| skip)
local macro_rules | `(tactic| walk_at "idle 25") => `(tactic| skip)
local macro_rules | `(tactic| walk_at "idle 26") => `(tactic| skip)
local macro_rules | `(tactic| walk_at "idle 27") => `(tactic| skip)
local macro_rules | `(tactic| walk_at "idle 28") => `(tactic| skip)
local macro_rules | `(tactic| walk_at "idle 29") => `(tactic| skip)
local macro_rules | `(tactic| walk_at "idle 30") => `(tactic| skip)
local macro_rules | `(tactic| walk_at "idle 31") => `(tactic| skip)
theorem reset_M22 : True := by
  w_top off
  exact trivial
theorem fill34 : (PySem.Challenge.rw_fp5009_01, hd.heap_39) = (PySem.Challenge.rw_fp5009_01, hd.heap_39) := by
  k_fill
  rfl
local macro_rules | `(tactic| walk_at "call ref") => `(tactic| (k_here; refine Stop.mk ?_))
def lawHex (first : Int) : PySem.Str := if (first.fdiv 3).fmod 2 = 1 then lawCapital first else lawSmall first
theorem seg22 {w : World} {p : Program} {loose : List Str} {mean : ExcName → Option Value} {mg mb : Str → Option Value} {fa L : Addr} {cd : Value} {Q : Flow → Shared → Prop} {E : Value → Shared → Prop} {s : Shared} {base : Heap} {m : Str → Option Value}
    {vl wl nl : Addr} {bh : PySem.Str} {tb tb8 tf ts : Tok} {vv vw vn : List Value} {vk wk nn : Nat} {first : Int} {oF oN : Obj}
    (X : (hd.heap_39 w.params).In base) (T : Top p loose mean mg mb base) (B : Below callerA base [] base) (F : Fr base L s.heap m) (hm : m (PySem.Str.ofString "values") = some (.ref vl)) (hm2 : m (PySem.Str.ofString "words") = some (.ref wl))
    (hm3 : m (PySem.Str.ofString "behind") = some (.str bh tb)) (hm4 : m (PySem.Str.ofString "octets") = some (.bytes (byteArr (lawOctets first)) tb8)) (hm5 : m (PySem.Str.ofString "small") = some (.str (lawSmall first) ts))
    (N : News base L s.heap [(wl, listOf vw.toArray wk), (vl, listOf vv.toArray vk), (nl, listOf vn.toArray nn), (L + 1 + 1, oF), (L + 1, oN)]) (h1 : oF.data = .cell (some (.int first tf))) (h2 : oN.data = .cell (some (.ref nl)))
    (next : ∀ (h : Heap) (tk : Nat) (m' : Str → Option Value) (td : Tok), Fr base L h m' → m' (PySem.Str.ofString "values") = some (.ref vl) → m' (PySem.Str.ofString "words") = some (.ref wl) → m' (PySem.Str.ofString "behind") = some (.str bh tb) → m' (PySem.Str.ofString "octets") = some (.bytes (byteArr (lawOctets first)) tb8) → m' (PySem.Str.ofString "small") = some (.str (lawSmall first) ts) → m' (PySem.Str.ofString "digits") = some (.str (lawHex first) td) →
      News base L h [(wl, listOf vw.toArray wk), (vl, listOf vv.toArray vk), (nl, listOf vn.toArray nn), (L + 1 + 1, oF), (L + 1, oN)] → LawGo w fa L cd 23 Q E { s with heap := h, toks := tk }) : LawGo w fa L cd 22 Q E s := by
  unfold LawGo
  rw [show lawBody.drop 22 = _ :: lawBody.drop 23 from rfl]
  have F0 := fr_at (fr_at (fr_at (fr_at (fr_at F (x := PySem.Str.ofString "values") hm) (x := PySem.Str.ofString "words") hm2) (x := PySem.Str.ofString "behind") hm3) (x := PySem.Str.ofString "octets") hm4) (x := PySem.Str.ofString "small") hm5
  clear F
  refine wpC_execs_cons (wpC_of_any ?_)
  k_steps
  · refine Stop.of ?_
    refine digits_ok (by k_asm) (by k_asm) (by k_asm) (by assumption) (by k_asm) (by exact rfl) (by ktr_room) (by ktr_units) (by rw [octets_size]; exact Nat.le_refl _) (by decide) ?_
    intro t1 h1 tk1 F1 N1
    k_steps
    have eh : lawHex first = lawCapital first := if_pos (by assumption)
    exact next _ _ _ _ (by k_asm) rfl rfl rfl rfl rfl (by rw [eh]; rfl) (by assumption)
  · have eh : lawHex first = lawSmall first := if_neg (by assumption)
    exact next _ _ _ _ (by k_asm) rfl rfl rfl rfl rfl (by rw [eh]; rfl) (by k_asm)
end Mine
end

section -- M23
open PySem PySem.W PyProof.Rows
set_option maxHeartbeats 2000000
namespace Mine
theorem reset_M23 : True := by
  w_top off
  exact trivial
theorem fill35 : (PySem.Challenge.rw_fp5009_01, hd.heap_39) = (PySem.Challenge.rw_fp5009_01, hd.heap_39) := by
  k_fill
  rfl
local macro_rules | `(tactic| walk_at "binaryOp Add str str") => `(tactic| (k_here; (with_reducible show wpAny _ _ (binaryOp Operator.Add (Value.str _ _) (Value.str _ _)) _ _ _); (refine' SBL.add ?_ ?hsz; (case hsz => (rw [PySem.sizeLine_eq]; (try simp only [PySem.Str.length_append]); omega)); intro _ _ _)))
local macro_rules | `(tactic| walk_at "call builtin:str.join") => `(tactic| (k_here; (with_reducible show wpAny _ _ (call (Value.builtin "str.join") [Value.str _ _, Value.ref _]) _ _ _); (refine join_strs (by is_list) (by assumption) (by assumption) (by assumption) ?_); intro t9 k9))
local macro_rules | `(tactic| walk_at "call ref") => `(tactic| (k_here; refine Stop.mk ?_))
local macro_rules | `(tactic| walk_at "compareOp NotEq ref ref") => `(tactic| (k_here; (with_reducible show wpAny _ _ (compareOp CmpOp.NotEq (Value.ref _) (Value.ref _)) _ _ _); (refine' ks_ne (ys := []) ?ka ?kb ?kc .nil ?kd (fun x hx => nomatch hx) ?ku ?_; (case ka => is_list); (case kb => is_list); (case kc => assumption); (case kd => assumption); (case ku => ktr_units))))
def lawTail (words : List PySem.Str) (bh : PySem.Str) : PySem.Str := if words = [] then bh else PySem.Str.ofString "/" ++ Txt.join (PySem.Str.ofString "/") words ++ bh
def OriginIs (x : PySem.Str) (fs ns : List Int) : Prop := x.length ≤ 640 ∧ ∃ f r q2 r2, Txt.split x (PySem.Str.ofString "/") = f :: r ∧ r.length ≤ 640 ∧ HexIs f fs ∧ fs.length = 4 ∧
  (∀ y ∈ PySem.Str.ofString "m" :: r, y.length ≤ 640) ∧ (PySem.Str.ofString "m" :: r).length * 640 + (PySem.Str.ofString "m" :: r).length * (PySem.Str.ofString "/").length ≤ 16777216 ∧ (Txt.join (PySem.Str.ofString "/") (PySem.Str.ofString "m" :: r)).length ≤ 640 ∧
  Txt.split (Txt.rstripChars (Txt.join (PySem.Str.ofString "/") (PySem.Str.ofString "m" :: r)) (PySem.Str.ofString "/")) (PySem.Str.ofString "/") = q2 :: r2 ∧ r2.length ≤ 640 ∧ ReadsAs (if q2 = PySem.Str.ofString "m" then r2 else q2 :: r2) ns
theorem origin_is {prog : Program} {w : World} {p : Program} {loose : List Str} {mean : ExcName → Option Value} {mg mb : Str → Option Value}
    {dp un : Nat} {gd : Option (List Code)} {cn : Str} {cs : Scope} {a : Addr} {ccd : Value} {cl : List (Str × Addr)} {outer : List Env} {A₀ : Around} {base h₀ : Heap} {L : Addr} {m : Str → Option Value} {s : Shared} {Q E : Value → Shared → Prop}
    {news : List (Addr × Obj)} {x : PySem.Str} {t : Tok} {q : Addr} {fs ns : List Int}
    (B : Below A₀ base outer h₀) (F : Fr h₀ L s.heap m) (X : (hd.heap_39 w.params).In h₀) (N : News h₀ L s.heap news) (T : Top p loose mean mg mb h₀) (hk : cs.kind = .function)
    (hd' : dp + 5 < recursionLimit) (hu : un + 40 < cLine) (hq : (q, methodObj (.ref 65) (.ref 78)) ∈ news) (hx : OriginIs x fs ns)
    (hret : ∀ (x5 d5 l5 : Addr) (k1 k2 t5 : Tok) (vs : List Value) (n : Nat) (h' : Heap) (tk' : Nat), Fr h₀ L h' m → News h₀ L h' ((x5, instObj 78 d5) :: (d5, originDict w.params k1 k2 (byteArr fs) t5 l5) :: (l5, listOf vs.toArray n) :: news) → IntsAre vs ns → Q (.ref x5) { s with heap := h', toks := tk' }) :
    wpAny (model prog w) (ktrTop dp un gd cn cs L a ccd cl outer) (call (.ref q) [.str x t]) Q E s := by
  obtain ⟨x1, f, r, q2, r2, x2, x3, x4, x5, x6, x7, x8, x9, x10, x11⟩ := hx
  exact origin_ok B F X N T hk hd' hu hq x1 x2 x3 x4 x5 x6 x7 x8 x9 x10 x11 hret
theorem keepD {α : Type} {a b c d e : α} {l : List α} : ∀ p ∈ a :: b :: c :: l, p ∈ a :: b :: c :: d :: e :: l := fun p h => by
  simp only [List.mem_cons] at h ⊢
  rcases h with h | h | h | h <;> simp [h]
theorem seg23 {w : World} {p : Program} {loose : List Str} {mean : ExcName → Option Value} {mg mb : Str → Option Value} {fa L : Addr} {cd : Value} {Q : Flow → Shared → Prop} {E : Value → Shared → Prop} {s : Shared} {base : Heap} {m : Str → Option Value}
    {vl wl : Addr} {bh : PySem.Str} {tb tb8 td ts : Tok} {vv vw : List Value} {vk wk : Nat} {words : List PySem.Str} {first : Int} {rest : List (Addr × Obj)}
    (X : (hd.heap_39 w.params).In base) (T : Top p loose mean mg mb base) (B : Below callerA base [] base) (F : Fr base L s.heap m) (hm : m (PySem.Str.ofString "values") = some (.ref vl)) (hm2 : m (PySem.Str.ofString "words") = some (.ref wl))
    (hm3 : m (PySem.Str.ofString "behind") = some (.str bh tb)) (hm4 : m (PySem.Str.ofString "octets") = some (.bytes (byteArr (lawOctets first)) tb8)) (hm5 : m (PySem.Str.ofString "small") = some (.str (lawSmall first) ts)) (hm6 : m (PySem.Str.ofString "digits") = some (.str (lawHex first) td))
    (N : News base L s.heap ((wl, listOf vw.toArray wk) :: (vl, listOf vv.toArray vk) :: rest)) (hW : StrsAre vw words) (hwl : words.length ≤ 63) (hok : ∀ x ∈ words, PyData.strOk x = true)
    (hB : ∀ y ∈ words, y.length ≤ 14) (hJ : words.length * 14 + words.length * (PySem.Str.ofString "/").length ≤ 16777216) (hjl : (Txt.join (PySem.Str.ofString "/") words).length ≤ 600) (hbl : bh.length ≤ 3) (hdl : (lawHex first).length = 8) {values : List Int} (hO : OriginIs (lawHex first ++ lawTail words bh) (lawOctets first) values)
    (next : ∀ (h : Heap) (tk : Nat) (m' : Str → Option Value) (x5 d5 l5 : Addr) (k1 k2 t5 : Tok) (vs5 : List Value) (n5 : Nat), Fr base L h m' → m' (PySem.Str.ofString "values") = some (.ref vl) → m' (PySem.Str.ofString "words") = some (.ref wl) → m' (PySem.Str.ofString "behind") = some (.str bh tb) → m' (PySem.Str.ofString "octets") = some (.bytes (byteArr (lawOctets first)) tb8) → m' (PySem.Str.ofString "small") = some (.str (lawSmall first) ts) → m' (PySem.Str.ofString "origin") = some (.ref x5) →
      News base L h ((x5, instObj 78 d5) :: (d5, originDict w.params k1 k2 (byteArr (lawOctets first)) t5 l5) :: (l5, listOf vs5.toArray n5) :: (wl, listOf vw.toArray wk) :: (vl, listOf vv.toArray vk) :: rest) → IntsAre vs5 values → LawGo w fa L cd 24 Q E { s with heap := h, toks := tk }) : LawGo w fa L cd 23 Q E s := by
  unfold LawGo
  rw [show lawBody.drop 23 = _ :: lawBody.drop 24 from rfl]
  have F0 := fr_at (fr_at (fr_at (fr_at (fr_at (fr_at F (x := PySem.Str.ofString "values") hm) (x := PySem.Str.ofString "words") hm2) (x := PySem.Str.ofString "behind") hm3) (x := PySem.Str.ofString "octets") hm4) (x := PySem.Str.ofString "small") hm5) (x := PySem.Str.ofString "digits") hm6
  clear F
  have es1 : (PySem.Str.ofString "/").length = 1 := by decide
  refine wpC_execs_cons (wpC_of_any ?_)
  k_steps
  · refine Stop.of ?_
    have et : lawTail words bh = bh := if_pos (of_decide_eq_true (by assumption))
    rw [et] at hO
    refine origin_is (by k_asm) (by k_asm) (by k_asm) (by assumption) (by k_asm) (by exact rfl) (by ktr_room) (by ktr_units) (List.mem_cons_of_mem _ List.mem_cons_self) hO ?_
    intro x5 d5 l5 k1 k2 t5 vs5 n5 h1 tk1 F1 N1 I1
    k_steps
    exact next _ _ _ _ _ _ _ _ _ _ _ (by k_asm) rfl rfl rfl rfl rfl rfl (cb_drop (by assumption) keepD) I1
  · refine Stop.of ?_
    have et : lawTail words bh = PySem.Str.ofString "/" ++ Txt.join (PySem.Str.ofString "/") words ++ bh := if_neg (of_decide_eq_false (by assumption))
    rw [et] at hO
    refine origin_is (by k_asm) (by k_asm) (by k_asm) (by assumption) (by k_asm) (by exact rfl) (by ktr_room) (by ktr_units) (List.mem_cons_of_mem _ List.mem_cons_self) hO ?_
    intro x5 d5 l5 k1 k2 t5 vs5 n5 h1 tk1 F1 N1 I1
    k_steps
    exact next _ _ _ _ _ _ _ _ _ _ _ (by k_asm) rfl rfl rfl rfl rfl rfl (cb_drop (by assumption) keepD) I1
end Mine
end

section -- M24
open PySem PySem.W PyProof.Rows
set_option maxHeartbeats 2000000
namespace Mine
local macro_rules | `(tactic| walk_at "idle 0") => `(tactic| skip)
local macro_rules | `(tactic| walk_at "idle 1") => `(tactic| skip)
local macro_rules | `(tactic| walk_at "idle 2") => `(tactic| skip)
local macro_rules | `(tactic| walk_at "idle 3") => `(tactic| skip)
local macro_rules | `(tactic| walk_at "idle 4") => `(tactic| skip)
local macro_rules | `(tactic| walk_at "idle 5") => `(tactic| skip)
local macro_rules | `(tactic| walk_at "idle 6") => `(tactic| skip)
local macro_rules | `(tactic| walk_at "idle 7") => `(tactic| skip)
local macro_rules | `(tactic| walk_at "idle 8") => `(tactic| skip)
local macro_rules | `(tactic| walk_at "idle 9") => `(tactic| skip)
local macro_rules | `(tactic| walk_at "idle 10") => `(tactic| skip)
local macro_rules | `(tactic| walk_at "idle 11") => `(tactic| skip)
local macro_rules | `(tactic| walk_at "idle 12") => `(tactic| skip)
local macro_rules | `(tactic| walk_at "idle 13") => `(tactic| skip)
local macro_rules | `(tactic| walk_at "idle 14") => `(tactic| skip)
local macro_rules | `(tactic| walk_at "idle 15") => `(tactic| skip)
theorem reset_M24 : True := by
  w_top off
  exact trivial
theorem fill36 : (PySem.Challenge.rw_fp5009_01, hd.heap_39) = (PySem.Challenge.rw_fp5009_01, hd.heap_39) := by
  k_fill
  rfl
local macro_rules | `(tactic| walk_at "call ref") => `(tactic| (k_here; refine Stop.mk ?_))
local macro_rules | `(tactic| walk_at "call type:str") => `(tactic| (k_here; refine Stop.mk ?_))
theorem seg24 {w : World} {p : Program} {loose : List Str} {mean : ExcName → Option Value} {mg mb : Str → Option Value} {fa L : Addr} {cd : Value} {Q : Flow → Shared → Prop} {E : Value → Shared → Prop} {s : Shared} {base : Heap} {m : Str → Option Value}
    {vl : Addr} {tb8 ts : Tok} {vv : List Value} {vk : Nat} {first : Int} {x5 d5 l5 : Addr} {k1 k2 t5 : Tok} {vs5 : List Value} {n5 : Nat} {values : List Int} {o1 : Addr × Obj} {rest : List (Addr × Obj)}
    (X : (hd.heap_39 w.params).In base) (T : Top p loose mean mg mb base) (B : Below callerA base [] base) (F : Fr base L s.heap m) (hm : m (PySem.Str.ofString "values") = some (.ref vl)) 
    (hm4 : m (PySem.Str.ofString "octets") = some (.bytes (byteArr (lawOctets first)) tb8)) (hm5 : m (PySem.Str.ofString "small") = some (.str (lawSmall first) ts)) (hm6 : m (PySem.Str.ofString "origin") = some (.ref x5))
    (N : News base L s.heap ((x5, instObj 78 d5) :: (d5, originDict w.params k1 k2 (byteArr (lawOctets first)) t5 l5) :: (l5, listOf vs5.toArray n5) :: o1 :: (vl, listOf vv.toArray vk) :: rest)) (hI : IntsAre vs5 values) (hV : IntsAre vv values) (hl : values.length ≤ 63) (hr : ∀ n ∈ values, 0 ≤ n ∧ n < 4294967296)
    (next : ∀ (h : Heap) (tk : Nat) (m' : Str → Option Value) (tp : Tok), Fr base L h m' → m' (PySem.Str.ofString "values") = some (.ref vl) → m' (PySem.Str.ofString "octets") = some (.bytes (byteArr (lawOctets first)) tb8) → m' (PySem.Str.ofString "small") = some (.str (lawSmall first) ts) → m' (PySem.Str.ofString "spoken") = some (.str (told (hexText (byteArr (lawOctets first))) values) tp) →
      News base L h ((x5, instObj 78 d5) :: (d5, originDict w.params k1 k2 (byteArr (lawOctets first)) t5 l5) :: (l5, listOf vs5.toArray n5) :: o1 :: (vl, listOf vv.toArray vk) :: rest) → LawGo w fa L cd 26 Q E { s with heap := h, toks := tk }) : LawGo w fa L cd 24 Q E s := by
  unfold LawGo
  rw [show lawBody.drop 24 = _ :: lawBody.drop 25 from rfl]
  have F0 := fr_at (fr_at (fr_at (fr_at F (x := PySem.Str.ofString "values") hm) (x := PySem.Str.ofString "octets") hm4) (x := PySem.Str.ofString "small") hm5) (x := PySem.Str.ofString "origin") hm6
  clear F
  refine wpC_execs_cons (wpC_of_any ?_)
  k_steps
  · exfalso
    simp_all
  rw [show lawBody.drop 25 = _ :: lawBody.drop 26 from rfl]
  refine wpC_execs_cons (wpC_of_any ?_)
  k_steps
  refine Stop.of ?_
  refine spoken_ok (by k_asm) (by k_asm) (by k_asm) (by assumption) (by k_asm) (by exact rfl) (by ktr_room) (by ktr_units) (octets_size first) hI hr hl ?_
  intro t1 h1 tk1 F1 N1
  k_steps
  exact next _ _ _ _ (by k_asm) rfl rfl rfl rfl (by assumption)
end Mine
end

section -- M26
open PySem PySem.W PyProof.Rows
set_option maxHeartbeats 2000000
namespace Mine
local macro_rules | `(tactic| walk_at "idle 0") => `(tactic| skip)
local macro_rules | `(tactic| walk_at "idle 1") => `(tactic| skip)
local macro_rules | `(tactic| walk_at "idle 2") => `(tactic| skip)
local macro_rules | `(tactic| walk_at "idle 3") => `(tactic| skip)
local macro_rules | `(tactic| walk_at "idle 4") => `(tactic| skip)
local macro_rules | `(tactic| walk_at "idle 5") => `(tactic| skip)
local macro_rules | `(tactic| walk_at "idle 6") => `(tactic| skip)
local macro_rules | `(tactic| walk_at "idle 7") => `(tactic| skip)
local macro_rules | `(tactic| walk_at "idle 8") => `(tactic| skip)
local macro_rules | `(tactic| walk_at "idle 9") => `(tactic| skip)
local macro_rules | `(tactic| walk_at "idle 10") => `(tactic| skip)
local macro_rules | `(tactic| walk_at "idle 11") => `(tactic| skip)
local macro_rules | `(tactic| walk_at "idle 12") => `(tactic| skip)
local macro_rules | `(tactic| walk_at "idle 13") => `(tactic| skip)
local macro_rules | `(tactic| walk_at "idle 14") => `(tactic| skip)
local macro_rules | `(tactic| walk_at "idle 15") => `(tactic| skip)
local macro_rules | `(tactic| walk_at "idle 16") => `(tactic| skip)
local macro_rules | `(tactic| walk_at "idle 17") => `(tactic| skip)
local macro_rules | `(tactic| walk_at "idle 18") => `(tactic| skip)
local macro_rules | `(tactic| walk_at "idle 19") => `(tactic| skip)
local macro_rules | `(tactic| walk_at "idle 20") => `(tactic| skip)
local macro_rules | `(tactic| walk_at "idle 21") => `(tactic| skip)
local macro_rules | `(tactic| walk_at "idle 22") => `(tactic| skip)
local macro_rules | `(tactic| walk_at "idle 23") => `(tactic| skip)
local macro_rules | `(tactic| walk_at "idle 24") => `(tactic| skip)
local macro_rules | `(tactic| walk_at "idle 25") => `(tactic| skip)
local macro_rules | `(tactic| walk_at "idle 26") => `(tactic| skip)
local macro_rules | `(tactic| walk_at "idle 27") => `(tactic| skip)
local macro_rules | `(tactic| walk_at "idle 28") => `(tactic| skip)
local macro_rules | `(tactic| walk_at "idle 29") => `(tactic| skip)
local macro_rules | `(tactic| walk_at "idle 30") => `(tactic| skip)
local macro_rules | `(tactic| walk_at "idle 31") => `(tactic| skip)
theorem reset_M26 : True := by
  w_top off
  exact trivial
theorem fill37 : (PySem.Challenge.rw_fp5009_01, hd.heap_39) = (PySem.Challenge.rw_fp5009_01, hd.heap_39) := by
  k_fill
  rfl
local macro_rules | `(tactic| walk_at "call ref") => `(tactic| (k_here; refine Stop.mk ?_))
theorem seg26 {w : World} {p : Program} {loose : List Str} {mean : ExcName → Option Value} {mg mb : Str → Option Value} {fa L : Addr} {cd : Value} {Q : Flow → Shared → Prop} {E : Value → Shared → Prop} {s : Shared} {base : Heap} {m : Str → Option Value}
    {vl : Addr} {tb8 ts tp : Tok} {vv : List Value} {vk : Nat} {first : Int} {values : List Int} {o1 o2 o3 o4 : Addr × Obj} {rest : List (Addr × Obj)}
    (X : (hd.heap_39 w.params).In base) (T : Top p loose mean mg mb base) (B : Below callerA base [] base) (F : Fr base L s.heap m) (hm : m (PySem.Str.ofString "values") = some (.ref vl)) 
    (hm4 : m (PySem.Str.ofString "octets") = some (.bytes (byteArr (lawOctets first)) tb8)) (hm5 : m (PySem.Str.ofString "small") = some (.str (lawSmall first) ts)) (hm6 : m (PySem.Str.ofString "spoken") = some (.str (told (hexText (byteArr (lawOctets first))) values) tp))
    (N : News base L s.heap (o1 :: o2 :: o3 :: o4 :: (vl, listOf vv.toArray vk) :: rest)) (hV : IntsAre vv values) (hl : values.length ≤ 63) (hr : ∀ n ∈ values, 0 ≤ n ∧ n < 4294967296)
    (ht : told (hexText (byteArr (lawOctets first))) values = lawSmall first ++ lawPlain values) (hsl : (lawSmall first).length = 8) (hpl : (lawPlain values).length ≤ 640) (hO : OriginIs (told (hexText (byteArr (lawOctets first))) values) (lawOctets first) values)
    (next : ∀ (h : Heap) (tk : Nat) (m' : Str → Option Value), Fr base L h m' → m' (PySem.Str.ofString "small") = some (.str (lawSmall first) ts) →
      News base L h (o1 :: o2 :: o3 :: o4 :: (vl, listOf vv.toArray vk) :: rest) → LawGo w fa L cd 29 Q E { s with heap := h, toks := tk }) : LawGo w fa L cd 26 Q E s := by
  unfold LawGo
  rw [show lawBody.drop 26 = _ :: lawBody.drop 27 from rfl]
  have F0 := fr_at (fr_at (fr_at (fr_at F (x := PySem.Str.ofString "values") hm) (x := PySem.Str.ofString "octets") hm4) (x := PySem.Str.ofString "small") hm5) (x := PySem.Str.ofString "spoken") hm6
  clear F
  refine wpC_execs_cons (wpC_of_any ?_)
  k_steps
  refine Stop.of ?_
  refine plain_ok (by k_asm) (by k_asm) (by k_asm) (by assumption) (by k_asm) (by exact rfl) (by ktr_room) (by ktr_units) (by k_mem) hV hr hl ?_
  intro t3 h3 tk3 F3 N3
  k_steps
  · exfalso
    simp_all
  rw [show lawBody.drop 27 = _ :: lawBody.drop 28 from rfl]
  refine wpC_execs_cons (wpC_of_any ?_)
  k_steps
  refine Stop.of ?_
  refine origin_is (by k_asm) (by k_asm) (by k_asm) (by assumption) (by k_asm) (by exact rfl) (by ktr_room) (by ktr_units) List.mem_cons_self hO ?_
  intro x5 d5 l5 k1 k2 t5 vs5 n5 h1 tk1 F1 N1 I1
  k_steps
  rw [show lawBody.drop 28 = _ :: lawBody.drop 29 from rfl]
  refine wpC_execs_cons (wpC_of_any ?_)
  k_steps
  · exfalso
    simp_all
  exact next _ _ _ (by k_asm) rfl (cb_drop (by assumption) (fun _ h => List.mem_cons_of_mem _ (List.mem_cons_of_mem _ (List.mem_cons_of_mem _ (List.mem_cons_of_mem _ h)))))
end Mine
end

section -- M29
open PySem PySem.W PyProof.Rows
set_option maxHeartbeats 2000000
namespace Mine
theorem reset_M29 : True := by
  w_top off
  exact trivial
theorem fill38 : (PySem.Challenge.rw_fp5009_01, hd.heap_39) = (PySem.Challenge.rw_fp5009_01, hd.heap_39) := by
  k_fill
  rfl
def LenBad (x : PySem.Str) : Prop := x.length ≤ 640 ∧ ∃ f r fs, Txt.split x (PySem.Str.ofString "/") = f :: r ∧ r.length ≤ 640 ∧ HexIs f fs ∧ fs.length ≠ 4
theorem len_is {prog : Program} {w : World} {p : Program} {loose : List Str} {mean : ExcName → Option Value} {mg mb : Str → Option Value}
    {dp un : Nat} {gd : Option (List Code)} {cn : Str} {cs : Scope} {a : Addr} {ccd : Value} {cl : List (Str × Addr)} {A₀ : Around} {base h₀ : Heap} {L : Addr} {m : Str → Option Value} {s : Shared} {Q E : Value → Shared → Prop}
    {news : List (Addr × Obj)} {x : PySem.Str} {t u : Tok}
    (XB : (hd.heap_39 w.params).In base) (TB : Top p loose mean mg mb base)
    (B : Below A₀ base [] h₀) (F : Fr h₀ L s.heap m) (X : (hd.heap_39 w.params).In h₀) (N : News h₀ L s.heap news) (T : Top p loose mean mg mb h₀) (hk : cs.kind = .function)
    (hd' : dp + 7 < recursionLimit) (hu : un + 56 < cLine) (hx : LenBad x)
    (hret : ∀ (h' : Heap) (tk' : Nat), Fr h₀ L h' m → News h₀ L h' news → Q (.bool true) { s with heap := h', toks := tk' }) :
    wpC (model prog w) (ktrTop dp un gd cn cs L a ccd cl []) (call (.ref 134) [.str x t, .int 1 u]) Q E s := by
  obtain ⟨x1, f, r, fs, x2, x3, x4, x5⟩ := hx
  exact refO_len XB TB B F X N T hk hd' hu x1 x2 x3 x4 x5 hret
local macro_rules | `(tactic| walk_at "binaryOp Add str str") => `(tactic| (k_here; (with_reducible show wpAny _ _ (binaryOp Operator.Add (Value.str _ _) (Value.str _ _)) _ _ _); (refine' SBL.add ?_ ?hsz; (case hsz => (rw [PySem.sizeLine_eq]; (try simp only [PySem.Str.length_append]); omega)); intro _ _ _)))
theorem seg29 {w : World} {p : Program} {loose : List Str} {mean : ExcName → Option Value} {mg mb : Str → Option Value} {fa L : Addr} {cd : Value} {Q : Flow → Shared → Prop} {E : Value → Shared → Prop} {s : Shared} {base : Heap} {m : Str → Option Value}
    {ts : Tok} {first : Int} {led : List (Addr × Obj)}
    (X : (hd.heap_39 w.params).In base) (T : Top p loose mean mg mb base) (B : Below callerA base [] base) (F : Fr base L s.heap m) (hm5 : m (PySem.Str.ofString "small") = some (.str (lawSmall first) ts))
    (N : News base L s.heap led) (hsl : (lawSmall first).length = 8) (r1 : LenBad (Txt.slice (lawSmall first) none (some 6))) (r2 : LenBad (lawSmall first ++ PySem.Str.ofString "00")) (r3 : LenBad (PySem.Str.ofString ""))
    (next : ∀ (h : Heap) (tk : Nat) (m' : Str → Option Value), Fr base L h m' → m' (PySem.Str.ofString "small") = some (.str (lawSmall first) ts) → News base L h led → LawGo w fa L cd 30 Q E { s with heap := h, toks := tk })
    : LawGo w fa L cd 29 Q E s := by
  unfold LawGo
  rw [show lawBody.drop 29 = _ :: lawBody.drop 30 from rfl]
  have F0 := fr_at F (x := PySem.Str.ofString "small") hm5
  have es00 : (PySem.Str.ofString "00").length = 2 := by decide
  clear F
  refine wpC_execs_cons (wpC_If ?_)
  refine wpC_isTrue_or (wpC_isTrue_notCall (wpC_Call ?_))
  k_steps
  refine wpC_callWith_K (K := hd.heap_39 w.params) (by k_asm) (by rfl) ?_
  k_steps
  refine len_is (by assumption) (by assumption) (by k_asm) (by k_asm) (by k_asm) (by k_asm) (by k_asm) (by exact rfl) (by ktr_room) (by ktr_units) r1 ?_
  intro h1 tk1 F1 N1
  refine ⟨rfl, ?_⟩
  rw [if_neg (by decide)]
  refine wpC_isTrue_or (wpC_isTrue_notCall (wpC_Call ?_))
  k_steps
  refine wpC_callWith_K (K := hd.heap_39 w.params) (by k_asm) (by rfl) ?_
  k_steps
  refine len_is (by assumption) (by assumption) (by k_asm) (by k_asm) (by k_asm) (by k_asm) (by k_asm) (by exact rfl) (by ktr_room) (by ktr_units) r2 ?_
  intro h2 tk2 F2 N2
  refine ⟨rfl, ?_⟩
  rw [if_neg (by decide)]
  refine wpC_isTrue_or (wpC_isTrue_notCall (wpC_Call ?_))
  k_steps
  refine wpC_callWith_K (K := hd.heap_39 w.params) (by k_asm) (by rfl) ?_
  k_steps
  refine len_is (by assumption) (by assumption) (by k_asm) (by k_asm) (by k_asm) (by k_asm) (by k_asm) (by exact rfl) (by ktr_room) (by ktr_units) r3 ?_
  intro h3 tk3 F3 N3
  refine ⟨rfl, ?_⟩
  rw [if_neg (by decide)]
  refine wpC_isTrue_or_nil ?_
  rw [if_neg (by decide)]
  refine wpC_execs_nil ?_
  exact next _ _ _ F3 rfl N3
end Mine
end

section -- M30
open PySem PySem.W PyProof.Rows
set_option maxHeartbeats 2000000
namespace Mine
local macro_rules | `(tactic| walk_at "idle 0") => `(tactic| skip)
local macro_rules | `(tactic| walk_at "idle 1") => `(tactic| skip)
local macro_rules | `(tactic| walk_at "idle 2") => `(tactic| skip)
local macro_rules | `(tactic| walk_at "idle 3") => `(tactic| skip)
local macro_rules | `(tactic| walk_at "idle 4") => `(tactic| skip)
local macro_rules | `(tactic| walk_at "idle 5") => `(tactic| skip)
local macro_rules | `(tactic| walk_at "idle 6") => `(tactic| skip)
local macro_rules | `(tactic| walk_at "idle 7") => `(tactic| skip)
local macro_rules | `(tactic| walk_at "idle 8") => `(tactic| skip)
local macro_rules | `(tactic| walk_at "idle 9") => `(tactic| skip)
local macro_rules | `(tactic| walk_at "idle 10") => `(tactic| skip)
local macro_rules | `(tactic| walk_at "idle 11") => `(tactic| skip)
local macro_rules | `(tactic| walk_at "idle 12") => `(tactic| skip)
local macro_rules | `(tactic| walk_at "idle 13") => `(tactic| skip)
local macro_rules | `(tactic| walk_at "idle 14") => `(tactic| skip)
local macro_rules | `(tactic| walk_at "idle 15") => `(tactic| skip)
theorem reset_M30 : True := by
  w_top off
  exact trivial
theorem fill39 : (PySem.Challenge.rw_fp5009_01, hd.heap_39) = (PySem.Challenge.rw_fp5009_01, hd.heap_39) := by
  k_fill
  rfl
def HexBad (x : PySem.Str) : Prop := x.length ≤ 640 ∧ ∃ f r c1 c2, Txt.split x (PySem.Str.ofString "/") = f :: r ∧ r.length ≤ 640 ∧ f.length ≤ 640 ∧ (hexEven f).cps.all (· < 128) = true ∧ (hexOdd f).cps.all (· < 128) = true ∧ min (hexEven f).length (hexOdd f).length ≤ 640 ∧ (hexEven f).cps[0]? = some c1 ∧ (hexOdd f).cps[0]? = some c2 ∧ nib c1 < 0
theorem hexbad_is {prog : Program} {w : World} {p : Program} {loose : List Str} {mean : ExcName → Option Value} {mg mb : Str → Option Value}
    {dp un : Nat} {gd : Option (List Code)} {cn : Str} {cs : Scope} {a : Addr} {ccd : Value} {cl : List (Str × Addr)} {A₀ : Around} {base h₀ : Heap} {L : Addr} {m : Str → Option Value} {s : Shared} {Q E : Value → Shared → Prop}
    {news : List (Addr × Obj)} {x : PySem.Str} {t u : Tok}
    (XB : (hd.heap_39 w.params).In base) (TB : Top p loose mean mg mb base)
    (B : Below A₀ base [] h₀) (F : Fr h₀ L s.heap m) (X : (hd.heap_39 w.params).In h₀) (N : News h₀ L s.heap news) (T : Top p loose mean mg mb h₀) (hk : cs.kind = .function)
    (hd' : dp + 7 < recursionLimit) (hu : un + 56 < cLine) (hx : HexBad x)
    (hret : ∀ (h' : Heap) (tk' : Nat), Fr h₀ L h' m → News h₀ L h' news → Q (.bool true) { s with heap := h', toks := tk' }) :
    wpC (model prog w) (ktrTop dp un gd cn cs L a ccd cl []) (call (.ref 134) [.str x t, .int 2 u]) Q E s := by
  obtain ⟨x1, f, r, c1, c2, x2, x3, x4, x5, x6, x7, x8, x9, x10⟩ := hx
  exact refO_hex XB TB B F X N T hk hd' hu x1 x2 x3 x4 x5 x6 x7 x8 x9 x10 hret
def PathBad (x : PySem.Str) : Prop := x.length ≤ 640 ∧ ∃ f r fs q2 r2 k, Txt.split x (PySem.Str.ofString "/") = f :: r ∧ r.length ≤ 640 ∧ HexIs f fs ∧ fs.length = 4 ∧
  (∀ y ∈ PySem.Str.ofString "m" :: r, y.length ≤ 640) ∧ (PySem.Str.ofString "m" :: r).length * 640 + (PySem.Str.ofString "m" :: r).length * (PySem.Str.ofString "/").length ≤ 16777216 ∧ (Txt.join (PySem.Str.ofString "/") (PySem.Str.ofString "m" :: r)).length ≤ 640 ∧
  Txt.split (Txt.rstripChars (Txt.join (PySem.Str.ofString "/") (PySem.Str.ofString "m" :: r)) (PySem.Str.ofString "/")) (PySem.Str.ofString "/") = q2 :: r2 ∧ r2.length ≤ 640 ∧ BadAt (if q2 = PySem.Str.ofString "m" then r2 else q2 :: r2) k "ValueError"
theorem pathbad_is {prog : Program} {w : World} {p : Program} {loose : List Str} {mean : ExcName → Option Value} {mg mb : Str → Option Value}
    {dp un : Nat} {gd : Option (List Code)} {cn : Str} {cs : Scope} {a : Addr} {ccd : Value} {cl : List (Str × Addr)} {A₀ : Around} {base h₀ : Heap} {L : Addr} {m : Str → Option Value} {s : Shared} {Q E : Value → Shared → Prop}
    {news : List (Addr × Obj)} {x : PySem.Str} {t u : Tok}
    (XB : (hd.heap_39 w.params).In base) (TB : Top p loose mean mg mb base)
    (B : Below A₀ base [] h₀) (F : Fr h₀ L s.heap m) (X : (hd.heap_39 w.params).In h₀) (N : News h₀ L s.heap news) (T : Top p loose mean mg mb h₀) (hk : cs.kind = .function)
    (hd' : dp + 7 < recursionLimit) (hu : un + 56 < cLine) (hx : PathBad x)
    (hret : ∀ (h' : Heap) (tk' : Nat), Fr h₀ L h' m → News h₀ L h' news → Q (.bool true) { s with heap := h', toks := tk' }) :
    wpC (model prog w) (ktrTop dp un gd cn cs L a ccd cl []) (call (.ref 134) [.str x t, .int 2 u]) Q E s := by
  obtain ⟨x1, f, r, fs, q2, r2, k, x2, x3, x4, x5, x6, x7, x8, x9, x10, x11⟩ := hx
  exact refO_path XB TB B F X N T hk hd' hu x1 x2 x3 x4 x5 x6 x7 x8 x9 x10 x11 hret
end Mine
end

section -- M31
open PySem PySem.W PyProof.Rows
set_option maxHeartbeats 2000000
namespace Mine
local macro_rules | `(tactic| walk_at "idle 0") => `(tactic| skip)
local macro_rules | `(tactic| walk_at "idle 1") => `(tactic| skip)
local macro_rules | `(tactic| walk_at "idle 2") => `(tactic| skip)
local macro_rules | `(tactic| walk_at "idle 3") => `(tactic| skip)
local macro_rules | `(tactic| walk_at "idle 4") => `(tactic| skip)
local macro_rules | `(tactic| walk_at "idle 5") => `(tactic| skip)
local macro_rules | `(tactic| walk_at "idle 6") => `(tactic| skip)
local macro_rules | `(tactic| walk_at "idle 7") => `(tactic| skip)
local macro_rules | `(tactic| walk_at "idle 8") => `(tactic| skip)
local macro_rules | `(tactic| walk_at "idle 9") => `(tactic| skip)
local macro_rules | `(tactic| walk_at "idle 10") => `(tactic| skip)
local macro_rules | `(tactic| walk_at "idle 11") => `(tactic| skip)
local macro_rules | `(tactic| walk_at "idle 12") => `(tactic| skip)
local macro_rules | `(tactic| walk_at "idle 13") => `(tactic| skip)
local macro_rules | `(tactic| walk_at "idle 14") => `(tactic| skip)
local macro_rules | `(tactic| walk_at "idle 15") => `(tactic| skip)
local macro_rules | `(tactic| walk_at "idle 16") => `(tactic| skip)
local macro_rules | `(tactic| walk_at "idle 17") => `(tactic| skip)
local macro_rules | `(tactic| walk_at "idle 18") => `(tactic| skip)
local macro_rules | `(tactic| walk_at "idle 19") => `(tactic| skip)
local macro_rules | `(tactic| walk_at "idle 20") => `(tactic| skip)
local macro_rules | `(tactic| walk_at "idle 21") => `(tactic| skip)
local macro_rules | `(tactic| walk_at "idle 22") => `(tactic| skip)
local macro_rules | `(tactic| walk_at "idle 23") => `(tactic| skip)
local macro_rules | `(tactic| walk_at "idle 24") => `(tactic| skip)
local macro_rules | `(tactic| walk_at "idle 25") => `(tactic| skip)
local macro_rules | `(tactic| walk_at "idle 26") => `(tactic| skip)
local macro_rules | `(tactic| walk_at "idle 27") => `(tactic| skip)
local macro_rules | `(tactic| walk_at "idle 28") => `(tactic| skip)
local macro_rules | `(tactic| walk_at "idle 29") => `(tactic| skip)
local macro_rules | `(tactic| walk_at "idle 30") => `(tactic| skip)
local macro_rules | `(tactic| walk_at "idle 31") => `(tactic| skip)
theorem reset_M31 : True := by
  w_top off
  exact trivial
theorem fill40 : (PySem.Challenge.rw_fp5009_01, hd.heap_39) = (PySem.Challenge.rw_fp5009_01, hd.heap_39) := by
  k_fill
  rfl
theorem wpC_And_two {M : Model} {A : Around} {E : Value → Shared → Prop} {s : Shared} {env : Env} {x y : PySem.Expr} {pos : Pos} {Q : Value → Shared → Prop}
    (h : wpC M A (eval x env) (fun v s' => v = .bool true ∧ wpC M A (eval y env) Q E s') E s) : wpC M A (eval (.BoolOp .And [x, y] pos) env) Q E s := by
  show wpC M A (eval x env >>= fun v => standAt pos >>= fun _ => holding [v] (truthy v) >>= fun t => match PySem.BoolOp.And, t with
    | .And, false | .Or, true => pure v
    | _, _ => eval y env) Q E s
  refine wpC_bind (wpC_mono h (fun v s' hv => ?_) fun _ _ e => e)
  obtain ⟨rfl, hq⟩ := hv
  refine wpC_bind (wpC_standAt (wpC_bind (wpC_holding (wpC_of_any ?_))))
  exact wpAny_pure hq
local macro_rules | `(tactic| walk_at "binaryOp Add str str") => `(tactic| (k_here; (with_reducible show wpAny _ _ (binaryOp Operator.Add (Value.str _ _) (Value.str _ _)) _ _ _); (refine' SBL.add ?_ ?hsz; (case hsz => (rw [PySem.sizeLine_eq]; (try simp only [PySem.Str.length_append]); omega)); intro _ _ _)))
theorem seg30 {w : World} {p : Program} {loose : List Str} {mean : ExcName → Option Value} {mg mb : Str → Option Value} {fa L : Addr} {cd : Value} {Q : Flow → Shared → Prop} {E : Value → Shared → Prop} {s : Shared} {base : Heap} {m : Str → Option Value}
    {ts : Tok} {first : Int} {led : List (Addr × Obj)}
    (X : (hd.heap_39 w.params).In base) (T : Top p loose mean mg mb base) (B : Below callerA base [] base) (F : Fr base L s.heap m) (hm5 : m (PySem.Str.ofString "small") = some (.str (lawSmall first) ts))
    (N : News base L s.heap led) (hsl : (lawSmall first).length = 8) (es7 : (Txt.slice (lawSmall first) (some 1) none).length ≤ 8) (r1 : HexBad (PySem.Str.ofString "x" ++ Txt.slice (lawSmall first) (some 1) none)) (r2 : PathBad (lawSmall first ++ PySem.Str.ofString "/m/1"))
    (next : ∀ (h : Heap) (tk : Nat) (m' : Str → Option Value), Fr base L h m' → Q (.ret (.bool true)) { s with heap := h, toks := tk })
    : LawGo w fa L cd 30 Q E s := by
  unfold LawGo
  rw [show lawBody.drop 30 = _ :: lawBody.drop 31 from rfl]
  have F0 := fr_at F (x := PySem.Str.ofString "small") hm5
  have es1 : (PySem.Str.ofString "x").length = 1 := by decide
  have es4 : (PySem.Str.ofString "/m/1").length = 4 := by decide
  clear F
  refine wpC_execs_cons (wpC_Return (wpC_And_two (wpC_Call ?_)))
  k_steps
  refine wpC_callWith_K (K := hd.heap_39 w.params) (by k_asm) (by rfl) ?_
  k_steps
  refine hexbad_is (by assumption) (by assumption) (by k_asm) (by k_asm) (by k_asm) (by k_asm) (by k_asm) (by exact rfl) (by ktr_room) (by ktr_units) r1 ?_
  intro h1 tk1 F1 N1
  refine ⟨rfl, wpC_Call ?_⟩
  k_steps
  refine wpC_callWith_K (K := hd.heap_39 w.params) (by k_asm) (by rfl) ?_
  k_steps
  refine pathbad_is (by assumption) (by assumption) (by k_asm) (by k_asm) (by k_asm) (by k_asm) (by k_asm) (by exact rfl) (by ktr_room) (by ktr_units) r2 ?_
  intro h2 tk2 F2 N2
  exact next _ _ _ F2
end Mine
end

section -- Chain
open PySem PySem.W PyProof.Rows
set_option maxHeartbeats 2000000
namespace Mine
theorem reset_Chain : True := by
  w_top off
  exact trivial
theorem fill42 : (PySem.Challenge.rw_fp5009_01, hd.heap_39) = (PySem.Challenge.rw_fp5009_01, hd.heap_39) := by
  k_fill
  rfl
def vals (script : List Int) : List Int := lawValues (lawNumbers script) (lawFirst script)
def wrds (script : List Int) : List PySem.Str := lawWords (vals script) (lawFirst script)
def badRow (script : List Int) : List PySem.Str :=
  let row := lawRow (wrds script)
  let place := (((lawFirst script).fdiv 392).fmod (row.length : Int)).toNat
  let bad := lawBad.getD (((lawNumbers script).getD (-1 + ((lawNumbers script).length : Int)).toNat 0).fmod 17).toNat PySem.Str.empty
  row.set place (if bad = PySem.Str.empty ∧ place + 1 = row.length then PySem.Str.ofString "x" else bad)
structure LawPure (script : List Int) : Prop where
  vlen : (vals script).length ≤ 6
  vrange : ∀ n ∈ vals script, 0 ≤ n ∧ n < 4294967296
  wlen : (wrds script).length = (vals script).length
  wshort : ∀ y ∈ wrds script, y.length ≤ 14
  wok : ∀ x ∈ wrds script, PyData.strOk x = true
  reads : ReadsAs (wrds script) (vals script)
  joinlen : (Txt.join (PySem.Str.ofString "/") (wrds script)).length ≤ 600
  text : ParseIs (lawText (vals script) (wrds script) (lawFirst script)) (vals script)
  joined : vals script ≠ [] → ParseIs (Txt.join (PySem.Str.ofString "/") (wrds script)) (vals script)
  ref1 : RefusedIs (PySem.Str.ofString "")
  ref2 : RefusedIs (PySem.Str.ofString "/" ++ lawBehind (lawFirst script))
  ref3 : RefusedIs (PySem.Str.ofString "/1")
  rowshort : ∀ y ∈ badRow script, y.length ≤ 14
  rowjoin : (Txt.join (PySem.Str.ofString "/") (badRow script)).length ≤ 600
  rowbad : RefusedIs (PySem.Str.ofString "m/" ++ Txt.join (PySem.Str.ofString "/") (badRow script))
  told1 : told (PySem.Str.ofString "m") (vals script) = PySem.Str.ofString "m" ++ lawPlain (vals script)
  told2 : ParseIs (told (PySem.Str.ofString "m") (vals script)) (vals script)
  plen : (lawPlain (vals script)).length ≤ 640
  told3 : told (hexText (byteArr (lawOctets (lawFirst script)))) (vals script) = lawSmall (lawFirst script) ++ lawPlain (vals script)
  slen : (lawSmall (lawFirst script)).length = 8
  hlen : (lawHex (lawFirst script)).length = 8
  orig : OriginIs (lawHex (lawFirst script) ++ lawTail (wrds script) (lawBehind (lawFirst script))) (lawOctets (lawFirst script)) (vals script)
  again : OriginIs (told (hexText (byteArr (lawOctets (lawFirst script)))) (vals script)) (lawOctets (lawFirst script)) (vals script)
  len1 : LenBad (Txt.slice (lawSmall (lawFirst script)) none (some 6))
  len2 : LenBad (lawSmall (lawFirst script) ++ PySem.Str.ofString "00")
  len3 : LenBad (PySem.Str.ofString "")
  cut7 : (Txt.slice (lawSmall (lawFirst script)) (some 1) none).length ≤ 8
  hexb : HexBad (PySem.Str.ofString "x" ++ Txt.slice (lawSmall (lawFirst script)) (some 1) none)
  pathb : PathBad (lawSmall (lawFirst script) ++ PySem.Str.ofString "/m/1")
end Mine
end

section -- M15
open PySem PySem.W PyProof.Rows
set_option maxHeartbeats 2000000
namespace Mine
local macro_rules | `(tactic| walk_at "idle 0") => `(tactic| skip)
local macro_rules | `(tactic| walk_at "idle 1") => `(tactic| skip)
local macro_rules | `(tactic| walk_at "idle 2") => `(tactic| skip)
local macro_rules | `(tactic| walk_at "idle 3") => `(tactic| skip)
local macro_rules | `(tactic| walk_at "idle 4") => `(tactic| skip)
local macro_rules | `(tactic| walk_at "idle 5") => `(tactic| skip)
local macro_rules | `(tactic| walk_at "idle 6") => `(tactic| skip)
local macro_rules | `(tactic| walk_at "idle 7") => `(tactic| skip)
local macro_rules | `(tactic| walk_at "idle 8") => `(tactic| skip)
local macro_rules | `(tactic| walk_at "idle 9") => `(tactic| skip)
local macro_rules | `(tactic| walk_at "idle 10") => `(tactic| skip)
local macro_rules | `(tactic| walk_at "idle 11") => `(tactic| skip)
local macro_rules | `(tactic| walk_at "idle 12") => `(tactic| skip)
local macro_rules | `(tactic| walk_at "idle 13") => `(tactic| skip)
local macro_rules | `(tactic| walk_at "idle 14") => `(tactic| skip)
local macro_rules | `(tactic| walk_at "idle 15") => `(tactic| skip)
theorem reset_M15 : True := by
  w_top off
  exact trivial
theorem fill29 : (PySem.Challenge.rw_fp5009_01, hd.heap_39) = (PySem.Challenge.rw_fp5009_01, hd.heap_39) := by
  k_fill
  rfl
theorem strs_set {x : PySem.Str} {t : Tok} : ∀ {vs : List Value} {ws : List PySem.Str} {k : Nat}, StrsAre vs ws → StrsAre (vs.set k (.str x t)) (ws.set k x)
  | _, _, 0, h => by
    cases h with
    | nil => exact .nil
    | cons a b c => exact .cons _ _ c
  | _, _, k + 1, h => by
    cases h with
    | nil => exact .nil
    | cons a b c => exact .cons _ _ (strs_set c)
theorem str_setItem {prog : Program} {w : World} {A : Around} {E : Value → Shared → Prop} {s : Shared} {h₀ : Heap} {L D : Addr} {m : Str → Option Value} {rest : List (Addr × Obj)} {vs : List Value} {ws : List PySem.Str} {n k : Nat} {x : PySem.Str} {t u : Tok} {Q : Unit → Shared → Prop}
    (F : Fr h₀ L s.heap m) (N : News h₀ L s.heap ((D, listOf vs.toArray n) :: rest)) (b : ∀ p ∈ rest, p.1 < D) (hw : StrsAre vs ws) (hk : k < ws.length) (hl : ws.length ≤ 63)
    (h : ∀ h' vs' n', Fr h₀ L h' m → News h₀ L h' ((D, listOf vs'.toArray n') :: rest) → StrsAre vs' (ws.set k x) → Q () { s with heap := h' }) : wpAny (model prog w) A (setItem (.ref D) (.int (k : Int) t) (.str x u)) Q E s := by
  have z := N (D, listOf vs.toArray n) (.head _)
  have hz : vs.length = ws.length := hw.length
  have q1 : ((k : Nat) : Int) < 2 ^ 63 := Int.lt_of_le_of_lt (show ((k : Nat) : Int) ≤ 63 by omega) (by decide)
  have q2 : ((k : Nat) : Int) < ((vs.toArray.size : Nat) : Int) := by rw [List.size_toArray]; omega
  refine ki_setAt z.1 (Int.natCast_nonneg k) q1 q2 (h _ (vs.set k (.str x u)) n (F.change (Heap.SameBut.update ..) z.2.1 z.2.2) ?_ (strs_set hw))
  refine ki_turn (pre := []) _ N (fun p hp => nomatch hp) (fun p hp e => Nat.lt_irrefl D (by have z := b p hp; rw [e] at z; exact z)) ?_ ?_
  · simp
  · rw [if_pos (by simp)]
local macro_rules | `(tactic| walk_at "setItem ref int str") => `(tactic| (k_here; refine Stop.mk ?_))
theorem seg15 {w : World} {p : Program} {loose : List Str} {mean : ExcName → Option Value} {mg mb : Str → Option Value} {fa L : Addr} {cd : Value} {Q : Flow → Shared → Prop} {E : Value → Shared → Prop} {s : Shared} {base : Heap} {m : Str → Option Value}
    {vl wl rl : Addr} {bh bad : PySem.Str} {tb tp tq : Tok} {vr : List Value} {rk place : Nat} {row : List PySem.Str} {rest : List (Addr × Obj)}
    (X : (hd.heap_39 w.params).In base) (T : Top p loose mean mg mb base) (B : Below callerA base [] base) (F : Fr base L s.heap m) (hm : m (PySem.Str.ofString "values") = some (.ref vl)) (hm2 : m (PySem.Str.ofString "words") = some (.ref wl))
    (hm3 : m (PySem.Str.ofString "behind") = some (.str bh tb)) (hm4 : m (PySem.Str.ofString "row") = some (.ref rl)) (hm5 : m (PySem.Str.ofString "place") = some (.int (place : Int) tp)) (hm6 : m (PySem.Str.ofString "bad") = some (.str bad tq))
    (N : News base L s.heap ((rl, listOf vr.toArray rk) :: rest)) (hlt : ∀ p ∈ rest, p.1 < rl) (hR : StrsAre vr row) (hrl : row.length ≤ 63) (hp : place < row.length)
    (next : ∀ (h : Heap) (tk : Nat) (m' : Str → Option Value) (vr' : List Value) (rk' : Nat), Fr base L h m' → m' (PySem.Str.ofString "values") = some (.ref vl) → m' (PySem.Str.ofString "words") = some (.ref wl) → m' (PySem.Str.ofString "behind") = some (.str bh tb) → m' (PySem.Str.ofString "row") = some (.ref rl) →
      News base L h ((rl, listOf vr'.toArray rk') :: rest) → StrsAre vr' (row.set place (if bad = PySem.Str.empty ∧ place + 1 = row.length then PySem.Str.ofString "x" else bad)) → LawGo w fa L cd 16 Q E { s with heap := h, toks := tk }) : LawGo w fa L cd 15 Q E s := by
  unfold LawGo
  rw [show lawBody.drop 15 = _ :: lawBody.drop 16 from rfl]
  have F0 := fr_at (fr_at (fr_at (fr_at (fr_at (fr_at F (x := PySem.Str.ofString "values") hm) (x := PySem.Str.ofString "words") hm2) (x := PySem.Str.ofString "behind") hm3) (x := PySem.Str.ofString "row") hm4) (x := PySem.Str.ofString "place") hm5) (x := PySem.Str.ofString "bad") hm6
  clear F
  refine wpC_execs_cons (wpC_of_any ?_)
  k_steps
  · refine str_setItem (by assumption) (by assumption) hlt (by assumption) hp hrl ?_
    intro h' vs' n' F' N' I'
    rename (bad == _) = true => hb
    have hb' : bad = PySem.Str.empty := (show bad = PySem.Str.ofString "" by simpa using hb).trans (by decide)
    have hq : place + 1 = row.length := by
      rename (place : Int) = _ => hq
      omega
    rw [if_pos ⟨hb', hq⟩] at next
    exact next _ _ _ _ _ F' rfl rfl rfl rfl N' I'
  · refine str_setItem (by assumption) (by assumption) hlt (by assumption) hp hrl ?_
    intro h' vs' n' F' N' I'
    rename (place : Int) ≠ _ => hq
    rw [if_neg (fun z => hq (by omega))] at next
    exact next _ _ _ _ _ F' rfl rfl rfl rfl N' I'
  · refine str_setItem (by assumption) (by assumption) hlt (by assumption) hp hrl ?_
    intro h' vs' n' F' N' I'
    rename (bad == _) = false => hb
    rw [if_neg (fun z => by rw [z.1] at hb; revert hb; decide)] at next
    exact next _ _ _ _ _ F' rfl rfl rfl rfl N' I'
end Mine
end

section -- M16
open PySem PySem.W PyProof.Rows
set_option maxHeartbeats 2000000
namespace Mine
local macro_rules | `(tactic| walk_at "idle 0") => `(tactic| skip)
local macro_rules | `(tactic| walk_at "idle 1") => `(tactic| skip)
local macro_rules | `(tactic| walk_at "idle 2") => `(tactic| skip)
local macro_rules | `(tactic| walk_at "idle 3") => `(tactic| skip)
local macro_rules | `(tactic| walk_at "idle 4") => `(tactic| skip)
local macro_rules | `(tactic| walk_at "idle 5") => `(tactic| skip)
local macro_rules | `(tactic| walk_at "idle 6") => `(tactic| skip)
local macro_rules | `(tactic| walk_at "idle 7") => `(tactic| skip)
local macro_rules | `(tactic| walk_at "idle 8") => `(tactic| skip)
local macro_rules | `(tactic| walk_at "idle 9") => `(tactic| skip)
local macro_rules | `(tactic| walk_at "idle 10") => `(tactic| skip)
local macro_rules | `(tactic| walk_at "idle 11") => `(tactic| skip)
local macro_rules | `(tactic| walk_at "idle 12") => `(tactic| skip)
local macro_rules | `(tactic| walk_at "idle 13") => `(tactic| skip)
local macro_rules | `(tactic| walk_at "idle 14") => `(tactic| skip)
local macro_rules | `(tactic| walk_at "idle 15") => `(tactic| skip)
local macro_rules | `(tactic| walk_at "idle 16") => `(tactic| skip)
local macro_rules | `(tactic| walk_at "idle 17") => `(tactic| skip)
local macro_rules | `(tactic| walk_at "idle 18") => `(tactic| skip)
local macro_rules | `(tactic| walk_at "idle 19") => `(tactic| skip)
local macro_rules | `(tactic| walk_at "idle 20") => `(tactic| skip)
local macro_rules | `(tactic| walk_at "idle 21") => `(tactic| skip)
local macro_rules | `(tactic| walk_at "idle 22") => `(tactic| skip)
local macro_rules | `(tactic| walk_at "idle 23") => `(tactic| skip)
local macro_rules | `(tactic| walk_at "idle 24") => `(tactic| skip)
local macro_rules | `(tactic| walk_at "idle 25") => `(tactic| skip)
local macro_rules | `(tactic| walk_at "idle 26") => `(tactic| skip)
local macro_rules | `(tactic| walk_at "idle 27") => `(tactic| skip)
local macro_rules | `(tactic| walk_at "idle 28") => `(tactic| skip)
local macro_rules | `(tactic| walk_at "idle 29") => `(tactic| skip)
local macro_rules | `(tactic| walk_at "idle 30") => `(tactic| skip)
local macro_rules | `(tactic| walk_at "idle 31") => `(tactic| skip)
theorem reset_M16 : True := by
  w_top off
  exact trivial
theorem fill30 : (PySem.Challenge.rw_fp5009_01, hd.heap_39) = (PySem.Challenge.rw_fp5009_01, hd.heap_39) := by
  k_fill
  rfl
local macro_rules | `(tactic| walk_at "binaryOp Add str str") => `(tactic| (k_here; (with_reducible show wpAny _ _ (binaryOp Operator.Add (Value.str _ _) (Value.str _ _)) _ _ _); (refine' SBL.add ?_ ?hsz; (case hsz => (rw [PySem.sizeLine_eq]; (try simp only [PySem.Str.length_append]); omega)); intro _ _ _)))
local macro_rules | `(tactic| walk_at "call builtin:str.join") => `(tactic| (k_here; (with_reducible show wpAny _ _ (call (Value.builtin "str.join") [Value.str _ _, Value.ref _]) _ _ _); (refine join_strs (by is_list) (by assumption) (by assumption) (by assumption) ?_); intro t9 k9))
theorem seg16 {w : World} {p : Program} {loose : List Str} {mean : ExcName → Option Value} {mg mb : Str → Option Value} {fa L : Addr} {cd : Value} {Q : Flow → Shared → Prop} {E : Value → Shared → Prop} {s : Shared} {base : Heap} {m : Str → Option Value}
    {vl wl rl : Addr} {bh : PySem.Str} {tb : Tok} {vr : List Value} {rk : Nat} {row : List PySem.Str} {rest : List (Addr × Obj)}
    (X : (hd.heap_39 w.params).In base) (T : Top p loose mean mg mb base) (B : Below callerA base [] base) (F : Fr base L s.heap m) (hm : m (PySem.Str.ofString "values") = some (.ref vl)) (hm2 : m (PySem.Str.ofString "words") = some (.ref wl))
    (hm3 : m (PySem.Str.ofString "behind") = some (.str bh tb)) (hm4 : m (PySem.Str.ofString "row") = some (.ref rl))
    (N : News base L s.heap ((rl, listOf vr.toArray rk) :: rest)) (hR : StrsAre vr row)
    (hB : ∀ y ∈ row, y.length ≤ 14) (hJ : row.length * 14 + row.length * (PySem.Str.ofString "/").length ≤ 16777216) (hjl : (Txt.join (PySem.Str.ofString "/") row).length ≤ 600)
    (hbad : RefusedIs (PySem.Str.ofString "m/" ++ Txt.join (PySem.Str.ofString "/") row))
    (next : ∀ (h : Heap) (tk : Nat) (m' : Str → Option Value), Fr base L h m' → m' (PySem.Str.ofString "values") = some (.ref vl) → m' (PySem.Str.ofString "words") = some (.ref wl) → m' (PySem.Str.ofString "behind") = some (.str bh tb) →
      News base L h rest → LawGo w fa L cd 17 Q E { s with heap := h, toks := tk }) : LawGo w fa L cd 16 Q E s := by
  unfold LawGo
  rw [show lawBody.drop 16 = _ :: lawBody.drop 17 from rfl]
  have F0 := fr_at (fr_at (fr_at (fr_at F (x := PySem.Str.ofString "values") hm) (x := PySem.Str.ofString "words") hm2) (x := PySem.Str.ofString "behind") hm3) (x := PySem.Str.ofString "row") hm4
  have es2 : (PySem.Str.ofString "m/").length = 2 := by decide
  clear F
  refine wpC_execs_cons (wpC_If ?_)
  refine wpC_isTrue_notCall (wpC_Call ?_)
  k_steps
  refine wpC_callWith_K (K := hd.heap_39 w.params) (by k_asm) (by rfl) ?_
  k_steps
  refine refused_is (by assumption) (by assumption) (by k_asm) (by k_asm) (by k_asm) (by k_asm) (by k_asm) (by exact rfl) (by ktr_room) (by ktr_units) hbad ?_
  intro h1 tk1 F1 N1
  refine ⟨rfl, ?_⟩
  rw [if_neg (by decide)]
  refine wpC_execs_nil ?_
  exact next _ _ _ F1 rfl rfl rfl (cb_drop N1 (fun _ h => List.mem_cons_of_mem _ h))
end Mine
end

section -- Chain2
open PySem PySem.W PyProof.Rows
set_option maxHeartbeats 2000000
namespace Mine
theorem reset_Chain2 : True := by
  w_top off
  exact trivial
theorem fill43 : (PySem.Challenge.rw_fp5009_01, hd.heap_39) = (PySem.Challenge.rw_fp5009_01, hd.heap_39) := by
  k_fill
  rfl
theorem numbers_pos (script : List Int) : 0 < (lawNumbers script).length := by
  unfold lawNumbers; split
  · decide
  · rename_i h; exact List.length_pos_iff.mpr h
theorem numbers_le {script : List Int} (h : script.length ≤ 63) : (lawNumbers script).length ≤ 63 := by
  unfold lawNumbers; split
  · decide
  · exact h
theorem row_pos (words : List PySem.Str) : 0 < (lawRow words).length := by
  unfold lawRow; split
  · decide
  · rename_i h; exact List.length_pos_iff.mpr h
theorem row_le {words : List PySem.Str} (h : words.length ≤ 6) : (lawRow words).length ≤ 6 := by
  unfold lawRow; split
  · decide
  · exact h
theorem chain {w : World} {p : Program} {loose : List Str} {mean : ExcName → Option Value} {mg mb : Str → Option Value} {fa L : Addr} {cd : Value} {Q : Flow → Shared → Prop} {E : Value → Shared → Prop} {s : Shared} {base : Heap} {m : Str → Option Value}
    {o1 o2 : Obj} {lv : Addr} {vs : List Value} {script : List Int}
    (X : (hd.heap_39 w.params).In base) (T : Top p loose mean mg mb base) (B : Below callerA base [] base) (F : Fr base L s.heap m) (hm : m (PySem.Str.ofString "script") = some (.ref lv))
    (N : News base L s.heap [(L + 1 + 1, o1), (L + 1, o2)]) (h1 : o1.data = .cell none) (h2 : o2.data = .cell none) (hl : base.IsList lv vs.toArray) (hI : IntsAre vs script) (hlen : script.length ≤ 63)
    (hE : PassesOwn (model PySem.Challenge.rw_fp5009_01.row.prog w) (callerA.deeper (envOfC (PySem.Str.ofString "law") lawScope L fa cd)) (envOfC (PySem.Str.ofString "law") lawScope L fa cd) E)
    (P : LawPure script) (fin : ∀ (h : Heap) (tk : Nat) (m' : Str → Option Value), Fr base L h m' → Q (.ret (.bool true)) { s with heap := h, toks := tk }) : LawGo w fa L cd 1 Q E s := by
  have n1 := numbers_pos script
  have n2 := numbers_le hlen
  have v1 := P.vlen
  have w1 : (wrds script).length ≤ 6 := by rw [P.wlen]; exact v1
  have es1 : (PySem.Str.ofString "/").length = 1 := by decide
  have hJ : (wrds script).length * 14 + (wrds script).length * (PySem.Str.ofString "/").length ≤ 16777216 := by rw [es1]; omega
  have b1 := behind_len (lawFirst script)
  have r1 := row_pos (wrds script)
  have r2 := row_le w1
  refine seg1 X T B F hm N h1 h2 hl hI hlen ?_
  intro h tk m1 oF oN nl vn nn tf F N hF hN hn
  refine seg3 (s := { s with heap := h, toks := tk }) X T B F N hF hN hn n2 n1 ?_
  intro h tk m2 vl vv vk F e1 N hV
  refine seg4 (s := { s with heap := h, toks := tk }) (values := vals script) (numbers := []) X T B F e1 N hF hV (by omega) P.vrange ?_
  intro h tk m3 wl vw wk F e1 e2 N hW
  have hW : StrsAre vw (wrds script) := hW
  refine seg5 (s := { s with heap := h, toks := tk }) (words := wrds script) X T B F e1 e2 N hV hW P.reads hE ?_
  intro h tk m4 F e1 e2 N
  refine seg6 (s := { s with heap := h, toks := tk }) (words := wrds script) X T B F e1 e2 N hF hV ?_
  intro h tk m5 tb F e1 e2 e3 e4 N
  refine seg8 (s := { s with heap := h, toks := tk }) X T B F e1 e2 e3 e4 N hV hW P.wshort hJ P.joinlen ?_
  intro h tk m6 tt F e1 e2 e3 e4 N
  refine seg9 (s := { s with heap := h, toks := tk }) X T B F e1 e2 e3 e4 N hV hW P.text ?_
  intro h tk m7 F e1 e2 e3 N
  refine seg10 (s := { s with heap := h, toks := tk }) X T B F e1 e2 e3 N hV hW P.wshort hJ P.joined ?_
  intro h tk m8 F e1 e2 e3 N
  refine seg11 (s := { s with heap := h, toks := tk }) X T B F e1 e2 e3 b1 N P.ref1 P.ref2 P.ref3 ?_
  intro h tk m9 F e1 e2 e3 N
  refine seg12 (s := { s with heap := h, toks := tk }) X T B F e1 e2 e3 N hW (Nat.le_trans w1 (by decide)) P.wok ?_
  intro h tk m10 rl vr rk F e1 e2 e3 e4 N hlt hR
  have N' : News base L h ((rl, listOf vr.toArray rk) :: (nl, listOf vn.toArray nn) :: (L + 1 + 1, oF) :: (L + 1, oN) :: [(wl, listOf vw.toArray wk), (vl, listOf vv.toArray vk)]) := cb_drop N (fun p hp => by simp only [List.mem_cons] at hp ⊢; rcases hp with h | h | h | h | h | h | h <;> simp_all)
  refine seg13 (s := { s with heap := h, toks := tk }) X T B F e1 e2 e3 e4 N' hF hN hn n2 n1 hR (Nat.le_trans r2 (by decide)) r1 ?_
  intro h tk m11 tp tq F e1 e2 e3 e4 e5 e6 N'
  have q0 := Int.fmod_nonneg_of_pos ((lawFirst script).fdiv 392) (show (0:Int) < ((lawRow (wrds script)).length : Int) by omega)
  have q1 := Int.fmod_lt_of_pos ((lawFirst script).fdiv 392) (show (0:Int) < ((lawRow (wrds script)).length : Int) by omega)
  have hpl : (((((lawFirst script).fdiv 392).fmod ((lawRow (wrds script)).length : Int)).toNat : Nat) : Int) = ((lawFirst script).fdiv 392).fmod ((lawRow (wrds script)).length : Int) := Int.toNat_of_nonneg q0
  rw [← hpl] at e5
  have hlt' : ∀ p ∈ ((nl, listOf vn.toArray nn) :: (L + 1 + 1, oF) :: (L + 1, oN) :: [(wl, listOf vw.toArray wk), (vl, listOf vv.toArray vk)]), p.1 < rl := fun p hp => hlt p (by simp only [List.mem_cons] at hp ⊢; rcases hp with h | h | h | h | h | h <;> simp_all)
  refine seg15 (s := { s with heap := h, toks := tk }) X T B F e1 e2 e3 e4 e5 e6 N' hlt' hR (Nat.le_trans r2 (by decide)) (by omega) ?_
  intro h tk m12 vr rk F e1 e2 e3 e4 N' hR
  have hbl : (badRow script).length ≤ 6 := by unfold badRow; rw [List.length_set]; exact r2
  refine seg16 (s := { s with heap := h, toks := tk }) (row := badRow script) X T B F e1 e2 e3 e4 N' hR P.rowshort (by rw [es1]; omega) P.rowjoin P.rowbad ?_
  intro h tk m13 F e1 e2 e3 N'
  have N : News base L h [(wl, listOf vw.toArray wk), (vl, listOf vv.toArray vk), (nl, listOf vn.toArray nn), (L + 1 + 1, oF), (L + 1, oN)] := cb_drop N' (fun p hp => by simp only [List.mem_cons] at hp ⊢; rcases hp with h | h | h | h | h | h <;> simp_all)
  refine seg17 (s := { s with heap := h, toks := tk }) X T B F e1 e2 e3 N hV P.vrange (Nat.le_trans v1 (by decide)) P.told1 P.told2 P.plen ?_
  intro h tk m14 F e1 e2 e3 N
  refine seg19 (s := { s with heap := h, toks := tk }) X T B F e1 e2 e3 N hF hN hV P.vrange (Nat.le_trans v1 (by decide)) ?_
  intro h tk m15 t8 F e1 e2 e3 e4 N
  refine seg20 (s := { s with heap := h, toks := tk }) X T B F e1 e2 e3 e4 N hV P.vrange (Nat.le_trans v1 (by decide)) P.told3 P.slen P.plen ?_
  intro h tk m16 ts F e1 e2 e3 e4 e5 N
  refine seg22 (s := { s with heap := h, toks := tk }) X T B F e1 e2 e3 e4 e5 N hF hN ?_
  intro h tk m17 td F e1 e2 e3 e4 e5 e6 N
  refine seg23 (s := { s with heap := h, toks := tk }) X T B F e1 e2 e3 e4 e5 e6 N hW (Nat.le_trans w1 (by decide)) P.wok P.wshort hJ P.joinlen b1 P.hlen P.orig ?_
  intro h tk m18 x5 d5 l5 k1 k2 t5 vs5 n5 F e1 e2 e3 e4 e5 e6 N hI5
  refine seg24 (s := { s with heap := h, toks := tk }) X T B F e1 e4 e5 e6 N hI5 hV (Nat.le_trans v1 (by decide)) P.vrange ?_
  intro h tk m19 tp2 F e1 e4 e5 e6 N
  refine seg26 (s := { s with heap := h, toks := tk }) X T B F e1 e4 e5 e6 N hV (Nat.le_trans v1 (by decide)) P.vrange P.told3 P.slen P.plen P.again ?_
  intro h tk m20 F e5 N
  refine seg29 (s := { s with heap := h, toks := tk }) X T B F e5 N P.slen P.len1 P.len2 P.len3 ?_
  intro h tk m21 F e5 N
  refine seg30 (s := { s with heap := h, toks := tk }) X T B F e5 N P.slen P.cut7 P.hexb P.pathb ?_
  intro h tk m22 F
  exact fin h tk m22 F
end Mine
end

section -- P1
open PySem PySem.W PyProof.Rows
namespace Mine
open PySem.NumText
abbrev Sl : PySem.Str := PySem.Str.ofString "/"
abbrev pcl (x : PySem.Str) : List Nat := x.cps.toList

theorem pcl_inj {x y : PySem.Str} (h : pcl x = pcl y) : x = y := PySem.Str.ext' (Array.toList_inj.mp h)
theorem pcl_app (x y : PySem.Str) : pcl (x ++ y) = pcl x ++ pcl y := by
  show (x ++ y).cps.toList = _
  rw [PySem.Str.cps_append, Array.toList_append]
theorem pcl_len (x : PySem.Str) : x.length = (pcl x).length := (Array.length_toList).symm
theorem pcl_sl : pcl Sl = [47] := by decide
theorem sl_eq : Sl = (⟨#[47]⟩ : PySem.Str) := by decide
theorem pcl_join2 (x y : PySem.Str) (r : List PySem.Str) : pcl (PySem.Str.join Sl (x :: y :: r)) = pcl x ++ 47 :: pcl (PySem.Str.join Sl (y :: r)) := by
  show pcl (x ++ Sl ++ PySem.Str.join Sl (y :: r)) = _
  rw [pcl_app, pcl_app, pcl_sl]
  simp
theorem txt_join (l : List PySem.Str) (y : PySem.Str) : Txt.join y l = PySem.Str.join y l := StrLaws.glued_eq_join y l

theorem free_app : ∀ {a b r t : List Nat}, 47 ∉ a → 47 ∉ b → a ++ 47 :: r = b ++ 47 :: t → a = b ∧ r = t
  | [], [], _, _, _, _, h => ⟨rfl, by simpa using h⟩
  | [], c :: b, _, _, _, hb, h => by
    have : 47 = c := by simpa using (List.cons.inj h).1
    exact absurd (this ▸ List.mem_cons_self) hb
  | c :: a, [], _, _, ha, _, h => by
    have : c = 47 := by simpa using (List.cons.inj h).1
    exact absurd (this ▸ List.mem_cons_self) ha
  | c :: a, d :: b, r, t, ha, hb, h => by
    obtain ⟨h1, h2⟩ := List.cons.inj h
    obtain ⟨h3, h4⟩ := free_app (fun x => ha (List.mem_cons_of_mem _ x)) (fun x => hb (List.mem_cons_of_mem _ x)) h2
    exact ⟨by rw [h1, h3], h4⟩
theorem join_uniq : ∀ (ps qs : List PySem.Str), ps ≠ [] → qs ≠ [] → (∀ p ∈ ps, 47 ∉ pcl p) → (∀ q ∈ qs, 47 ∉ pcl q) → PySem.Str.join Sl ps = PySem.Str.join Sl qs → ps = qs
  | [], _, h, _, _, _, _ => absurd rfl h
  | _, [], _, h, _, _, _ => absurd rfl h
  | [p], [q], _, _, _, _, h => by
    have : p = q := h
    rw [this]
  | [p], q :: q' :: r, _, _, hp, _, h => by
    have e : pcl p = pcl q ++ 47 :: pcl (PySem.Str.join Sl (q' :: r)) := (congrArg pcl h).trans (pcl_join2 q q' r)
    exact absurd (by rw [e]; simp) (hp p List.mem_cons_self)
  | p :: p' :: r, [q], _, _, _, hq, h => by
    have e : pcl q = pcl p ++ 47 :: pcl (PySem.Str.join Sl (p' :: r)) := (congrArg pcl h.symm).trans (pcl_join2 p p' r)
    exact absurd (by rw [e]; simp) (hq q List.mem_cons_self)
  | p :: p' :: r, q :: q' :: t, _, _, hp, hq, h => by
    have e := congrArg pcl h
    rw [pcl_join2, pcl_join2] at e
    obtain ⟨e1, e2⟩ := free_app (hp p List.mem_cons_self) (hq q List.mem_cons_self) e
    rw [pcl_inj e1, join_uniq (p' :: r) (q' :: t) (by simp) (by simp) (fun x hx => hp x (List.mem_cons_of_mem _ hx)) (fun x hx => hq x (List.mem_cons_of_mem _ hx)) (pcl_inj e2)]

theorem split_ne (x : PySem.Str) : Txt.split x Sl ≠ [] := by
  unfold Txt.split
  split
  · simp
  · split
    · simp
    · rw [StrLaws.partsBetween_eq]
      obtain ⟨p, r, e⟩ := StrLaws.partsFrom_ne x Sl.length 0 (Builtin.Str.occurrences x Sl 0 x.length (x.length + 1))
      rw [e]; simp
/-- a text glued of words without a stroke falls into these words -/
theorem split_join (qs : List PySem.Str) (h : qs ≠ []) (hf : ∀ q ∈ qs, 47 ∉ pcl q) : Txt.split (Txt.join Sl qs) Sl = qs := by
  rw [txt_join]
  refine join_uniq _ _ (split_ne _) h (fun p hp => ?_) hf (StrLaws.join_split _ _)
  rw [sl_eq] at hp
  exact StrLaws.split_free _ 47 p hp

theorem drop_while_eq (p : Nat → Bool) : ∀ l : List Nat, l.drop (l.takeWhile p).length = l.dropWhile p
  | [] => rfl
  | c :: r => by
    rw [List.takeWhile_cons, List.dropWhile_cons]
    split
    · rw [List.length_cons, List.drop_succ_cons, drop_while_eq p r]
    · rfl
theorem sl_has (c : Nat) : Sl.cps.contains c = (c == 47) := by
  rw [sl_eq]
  simp
  by_cases h : c = 47 <;> simp [h]
theorem rstrip_pcl (x : PySem.Str) : pcl (Txt.rstripChars x Sl) = ((pcl x).reverse.dropWhile (· == 47)).reverse := by
  unfold Txt.rstripChars
  rw [PyProof.Rows.stripBy_eq]
  have eg : Sl.cps.contains = (· == 47) := funext sl_has
  rw [eg]
  show (Builtin.Str.strSub x 0 (x.length - (((pcl x).drop 0).reverse.takeWhile (· == 47)).length)).cps.toList = _
  rw [StrLaws.strSub_toList, List.drop_zero, Nat.sub_zero, ← drop_while_eq, List.reverse_drop, List.length_reverse, List.reverse_reverse, pcl_len]
theorem drop_rep : ∀ (k : Nat) (l : List Nat), (List.replicate k 47 ++ l).dropWhile (· == 47) = l.dropWhile (· == 47)
  | 0, _ => rfl
  | k + 1, l => by
    rw [List.replicate_succ, List.cons_append, List.dropWhile_cons, if_pos (by rfl), drop_rep k l]
/-- the strokes behind a text fall off -/
theorem rstrip_of {x : PySem.Str} {a : List Nat} {k : Nat} (h : pcl x = a ++ List.replicate k 47) (ha : a = [] ∨ ∃ b c, a = b ++ [c] ∧ c ≠ 47) : pcl (Txt.rstripChars x Sl) = a := by
  rw [rstrip_pcl, h, List.reverse_append, List.reverse_replicate, drop_rep]
  rcases ha with rfl | ⟨b, c, rfl, hc⟩
  · rfl
  · rw [List.reverse_append, List.reverse_singleton, List.singleton_append, List.dropWhile_cons, if_neg (by simpa using hc)]
    simp

/-! numbers -/
theorem num_pcl {n : Int} (h0 : 0 ≤ n) (h1 : n < 10 ^ 10) : AllDigits (pcl (PySem.Str.ofString (toString n))) ∧ pcl (PySem.Str.ofString (toString n)) ≠ [] ∧ (pcl (PySem.Str.ofString (toString n))).length ≤ 10 ∧ ((digitsVal (pcl (PySem.Str.ofString (toString n))) : Nat) : Int) = n := by
  have hl := KT.len_num h0 h1
  obtain ⟨m, rfl⟩ := Int.eq_ofNat_of_zero_le h0
  have e : pcl (PySem.Str.ofString (toString ((m : Nat) : Int))) = (Nat.toDigits 10 m).map Char.toNat := KIN.signs_num m
  refine ⟨fun c hc => ?_, fun hn => ?_, by rw [← pcl_len]; exact hl, ?_⟩
  · rw [e] at hc
    obtain ⟨ch, hch, e⟩ := List.mem_map.mp hc
    have r := digit_range (Nat.isDigit_of_mem_toDigits (by decide) (by decide) hch)
    rw [← e]
    exact r
  · rw [e] at hn
    have := List.map_eq_nil_iff.mp hn
    exact Nat.toDigits_ne_nil this
  · rw [e, KIN.val_back]
theorem zeros_val (ds : List Nat) : ∀ k : Nat, digitsVal (List.replicate k 48 ++ ds) = digitsVal ds
  | 0 => rfl
  | k + 1 => by
    rw [List.replicate_succ, List.cons_append]
    exact zeros_val ds k
theorem zeros_pcl {k : Int} (h0 : 0 ≤ k) (h1 : k < 3) : pcl (Txt.mul (PySem.Str.ofString "0") k) = List.replicate k.toNat 48 := by
  have : k = 0 ∨ k = 1 ∨ k = 2 := by omega
  rcases this with rfl | rfl | rfl <;> decide
theorem slashes_pcl {k : Int} (h0 : 0 ≤ k) (h1 : k < 4) : pcl (Txt.mul Sl k) = List.replicate k.toNat 47 := by
  have : k = 0 ∨ k = 1 ∨ k = 2 ∨ k = 3 := by omega
  rcases this with rfl | rfl | rfl | rfl <;> decide
theorem all_zeros {ds : List Nat} (h : AllDigits ds) (k : Nat) : AllDigits (List.replicate k 48 ++ ds) := fun c hc => by
  rcases List.mem_append.mp hc with hc | hc
  · have := (List.mem_replicate.mp hc).2
    omega
  · exact h c hc
/-- the last sign of a text -/
theorem item_last {x : PySem.Str} {a : List Nat} {c : Nat} (h : pcl x = a ++ [c]) : Txt.item x (-1) = ⟨#[c]⟩ := by
  have hl : x.length = a.length + 1 := by rw [pcl_len, h]; simp
  have hn : x.cps[((-1 : Int) + x.length).toNat]? = some c := by
    have e : ((-1 : Int) + x.length).toNat = a.length := by omega
    rw [e, ← Array.getElem?_toList]
    show (pcl x)[a.length]? = some c
    rw [h]; simp
  unfold Txt.item Txt.charAt
  rw [StrLaws.at_neg (by decide) (by omega) hn]
  rfl
end Mine
end

section -- P2
open PySem PySem.W PyProof.Rows
namespace Mine
open PySem.NumText

theorem mark_of {x : PySem.Str} {a : List Nat} {c : Nat} (hx : pcl x = a ++ [c]) : isMark x = (decide (c = 104) || decide (c = 72) || decide (c = 39)) := by
  unfold isMark
  rw [item_last hx, show PySem.Str.ofString "h" = (⟨#[104]⟩ : PySem.Str) by decide, show PySem.Str.ofString "H" = (⟨#[72]⟩ : PySem.Str) by decide, show PySem.Str.ofString "'" = (⟨#[39]⟩ : PySem.Str) by decide]
  simp
theorem der_mark {x : PySem.Str} {a : List Nat} {c : Nat} (hx : pcl x = a ++ [c]) (hc : c = 104 ∨ c = 72 ∨ c = 39) (hd : AllDigits a) (hne : a ≠ []) (hl : x.length ≤ 4300) : derItem x = some (((digitsVal a : Nat) : Int) + 2147483648) := by
  have hm : isMark x = true := by rw [mark_of hx]; simp; omega
  have h0 : 0 < x.length := by rw [pcl_len, hx]; simp
  have es : pcl (Txt.slice x none (some (-1))) = a := by
    show (Txt.slice x none (some (-1))).cps.toList = a
    rw [slice_init h0]
    show (pcl x).dropLast = a
    rw [hx]; simp
  unfold derItem
  rw [hm, if_pos rfl]
  have := intText_digits (x := Txt.slice x none (some (-1))) (by rw [show (Txt.slice x none (some (-1))).cps.toList = a from es]; exact hd) (by rw [show (Txt.slice x none (some (-1))).cps.toList = a from es]; exact hne) (Nat.le_trans (Txt.slice_le _ _ _) hl)
  rw [this, show (Txt.slice x none (some (-1))).cps.toList = a from es]
  rfl
theorem der_plain {x : PySem.Str} (hd : AllDigits (pcl x)) (hne : pcl x ≠ []) (hl : x.length ≤ 4300) : derItem x = some ((digitsVal (pcl x) : Nat) : Int) := by
  have hx : pcl x = (pcl x).dropLast ++ [(pcl x).getLast hne] := (List.dropLast_concat_getLast hne).symm
  have hg := hd _ (List.getLast_mem hne)
  have hm : isMark x = false := by rw [mark_of hx, decide_eq_false (by omega), decide_eq_false (by omega), decide_eq_false (by omega)]; rfl
  unfold derItem
  rw [hm, if_neg (by decide)]
  exact intText_digits hd hne hl

/-- a word that the path reader reads as n -/
structure WordIs (x : PySem.Str) (n : Int) : Prop where
  free : 47 ∉ pcl x
  pos : 0 < x.length
  len : x.length ≤ 13
  der : derItem x = some n
  ascii : Plain x
  nm : x ≠ PySem.Str.ofString "m"
theorem first_ne_m {x : PySem.Str} (hd : ∀ c, (pcl x).head? = some c → c ≤ 57) : x ≠ PySem.Str.ofString "m" := fun e => by
  rw [e] at hd
  have := hd 109 (by decide)
  omega
theorem word_mark {x : PySem.Str} {k : Nat} {ds : List Nat} {c : Nat} {n : Int} (hx : pcl x = List.replicate k 48 ++ ds ++ [c]) (hk : k ≤ 2) (hd : AllDigits ds) (hne : ds ≠ []) (hl : ds.length ≤ 10) (hc : c = 104 ∨ c = 72 ∨ c = 39)
    (hv : ((digitsVal ds : Nat) : Int) + 2147483648 = n) : WordIs x n := by
  have hz := all_zeros hd k
  have hlen : x.length = k + ds.length + 1 := by rw [pcl_len, hx]; simp; omega
  refine ⟨fun h => ?_, by omega, by omega, ?_, fun d hm => ?_, first_ne_m fun d hm => ?_⟩
  · rw [hx] at h
    rcases List.mem_append.mp h with h | h
    · have := hz _ h; omega
    · have := List.mem_singleton.mp h; omega
  · rw [der_mark hx hc hz (by simp [hne]) (by omega), zeros_val, hv]
  · have h : d ∈ pcl x := hm
    rw [hx] at h
    rcases List.mem_append.mp h with h | h
    · have := hz _ h; omega
    · have := List.mem_singleton.mp h; omega
  · rw [hx, List.head?_append, Option.or_eq_some_iff] at hm
    rcases hm with hm | ⟨hm, _⟩
    · exact (hz d (List.mem_of_head? hm)).2
    · rw [List.head?_eq_none_iff] at hm
      exact absurd hm (by simp [hne])
theorem word_plain {x : PySem.Str} {k : Nat} {ds : List Nat} {n : Int} (hx : pcl x = List.replicate k 48 ++ ds) (hk : k ≤ 2) (hd : AllDigits ds) (hne : ds ≠ []) (hl : ds.length ≤ 10)
    (hv : ((digitsVal ds : Nat) : Int) = n) : WordIs x n := by
  have hz := all_zeros hd k
  have hz' : AllDigits (pcl x) := hx ▸ hz
  have hlen : x.length = k + ds.length := by rw [pcl_len, hx]; simp
  have hp := List.length_pos_iff.mpr hne
  refine ⟨fun h => ?_, by omega, by omega, ?_, fun d hm => ?_, first_ne_m fun d hm => ?_⟩
  · have := hz' _ h; omega
  · rw [der_plain hz' (by rw [hx]; simp [hne]) (by omega), hx, zeros_val, hv]
  · have := hz' d hm; omega
  · exact (hz' d (List.mem_of_head? hm)).2
theorem mark_is (turn : Int) : ∃ c, lawMark turn = (⟨#[c]⟩ : PySem.Str) ∧ (c = 104 ∨ c = 72 ∨ c = 39) := by
  have h0 := Int.fmod_nonneg_of_pos (turn.fdiv 3) (show (0:Int) < 3 by decide)
  have h1 := Int.fmod_lt_of_pos (turn.fdiv 3) (show (0:Int) < 3 by decide)
  unfold lawMark
  generalize (turn.fdiv 3).fmod 3 = k at h0 h1
  have : k = 0 ∨ k = 1 ∨ k = 2 := by omega
  rcases this with rfl | rfl | rfl
  · exact ⟨104, by decide, by simp⟩
  · exact ⟨72, by decide, by simp⟩
  · exact ⟨39, by decide, by simp⟩
theorem spelt_is {n : Int} (turn : Int) (h0 : 0 ≤ n) (h1 : n < 4294967296) : WordIs (lawSpelt n turn) n := by
  have f0 := Int.fmod_nonneg_of_pos turn (show (0:Int) < 3 by decide)
  have f1 := Int.fmod_lt_of_pos turn (show (0:Int) < 3 by decide)
  unfold lawSpelt
  split
  · obtain ⟨d1, d2, d3, d4⟩ := num_pcl (n := n - 2147483648) (by omega) (by omega)
    obtain ⟨c, ec, hc⟩ := mark_is turn
    refine word_mark (k := (turn.fmod 3).toNat) (c := c) ?_ (by omega) d1 d2 d3 hc (by rw [d4]; omega)
    rw [pcl_app, pcl_app, ec]
    unfold lawFront
    rw [zeros_pcl f0 f1]
    rfl
  · obtain ⟨d1, d2, d3, d4⟩ := num_pcl (n := n) (by omega) (by omega)
    refine word_plain (k := (turn.fmod 3).toNat) ?_ (by omega) d1 d2 d3 d4
    rw [pcl_app]
    unfold lawFront
    rw [zeros_pcl f0 f1]
    rfl
def plainWord (n : Int) : PySem.Str := if 2147483648 ≤ n then numText (n - 2147483648) ++ PySem.Str.ofString "h" else numText n
theorem plain_is {n : Int} (h0 : 0 ≤ n) (h1 : n < 4294967296) : WordIs (plainWord n) n := by
  unfold plainWord
  split
  · obtain ⟨d1, d2, d3, d4⟩ := num_pcl (n := n - 2147483648) (by omega) (by omega)
    refine word_mark (k := 0) (c := 104) ?_ (by omega) d1 d2 d3 (by simp) (by rw [d4]; omega)
    rw [pcl_app]
    rfl
  · obtain ⟨d1, d2, d3, d4⟩ := num_pcl (n := n) (by omega) (by omega)
    exact word_plain (k := 0) rfl (by omega) d1 d2 d3 d4
/-- words and what they are read as -/
inductive WordsAre : List PySem.Str → List Int → Prop
  | nil : WordsAre [] []
  | cons {x : PySem.Str} {n : Int} {xs : List PySem.Str} {ns : List Int} : WordIs x n → WordsAre xs ns → WordsAre (x :: xs) (n :: ns)
theorem WordsAre.length : ∀ {xs : List PySem.Str} {ns : List Int}, WordsAre xs ns → xs.length = ns.length
  | _, _, .nil => rfl
  | _, _, .cons _ b => by rw [List.length_cons, List.length_cons, b.length]
theorem WordsAre.all : ∀ {xs : List PySem.Str} {ns : List Int}, WordsAre xs ns → ∀ x ∈ xs, ∃ n, WordIs x n
  | _, _, .nil, x, h => nomatch h
  | _, _, .cons a b, x, h => by
    rcases List.mem_cons.mp h with rfl | h
    · exact ⟨_, a⟩
    · exact b.all x h
theorem WordsAre.at : ∀ {xs : List PySem.Str} {ns : List Int}, WordsAre xs ns → ∀ (i : Nat) (x : PySem.Str), xs[i]? = some x → ∃ n, ns[i]? = some n ∧ WordIs x n
  | _, _, .nil, i, x, h => by simp at h
  | _, _, .cons a b, 0, x, h => by
    have e := Option.some.inj h
    subst e
    exact ⟨_, rfl, a⟩
  | _, _, .cons a b, i + 1, x, h => b.at i x h
theorem WordsAre.reads {xs : List PySem.Str} {ns : List Int} (h : WordsAre xs ns) : ReadsAs xs ns :=
  ⟨h.length, fun i q hq => by
    obtain ⟨n, h1, h2⟩ := h.at i q hq
    exact ⟨h2.pos, Nat.le_trans h2.len (by decide), n, h1, h2.der⟩⟩
theorem WordsAre.free {xs : List PySem.Str} {ns : List Int} (h : WordsAre xs ns) : ∀ x ∈ xs, 47 ∉ pcl x := fun x hx => by
  obtain ⟨n, hw⟩ := h.all x hx
  exact hw.free
theorem words_map {f : Int → PySem.Str} : ∀ {ns : List Int}, (∀ n ∈ ns, WordIs (f n) n) → WordsAre (ns.map f) ns
  | [], _ => .nil
  | n :: _, h => .cons (h n List.mem_cons_self) (words_map fun k hk => h k (List.mem_cons_of_mem _ hk))
end Mine
end

section -- P3
open PySem PySem.W PyProof.Rows
namespace Mine
open PySem.NumText

/-- words, each with a stroke ahead -/
def slashed (ws : List PySem.Str) : List Nat := ws.flatMap fun w => 47 :: pcl w
theorem slashed_cons (x : PySem.Str) (ws : List PySem.Str) : slashed (x :: ws) = 47 :: pcl x ++ slashed ws := by
  unfold slashed; rw [List.flatMap_cons]
theorem slashed_app (a b : List PySem.Str) : slashed (a ++ b) = slashed a ++ slashed b := by
  unfold slashed; rw [List.flatMap_append]
theorem slashed_none : ∀ k : Nat, slashed (List.replicate k PySem.Str.empty) = List.replicate k 47
  | 0 => rfl
  | k + 1 => by
    rw [List.replicate_succ, slashed_cons, slashed_none k, List.replicate_succ]
    rfl
theorem join_cons : ∀ (ws : List PySem.Str) (x : PySem.Str), pcl (Txt.join Sl (x :: ws)) = pcl x ++ slashed ws
  | [], x => by rw [txt_join]; show pcl x = pcl x ++ []; simp
  | y :: r, x => by
    have ih := join_cons r y
    rw [txt_join] at ih ⊢
    rw [pcl_join2, ih, slashed_cons]
    simp
theorem slashed_len : ∀ {ws : List PySem.Str}, (∀ w ∈ ws, w.length ≤ 14) → (slashed ws).length ≤ 15 * ws.length
  | [], _ => Nat.le_refl _
  | x :: r, h => by
    have ih := slashed_len fun w hw => h w (List.mem_cons_of_mem _ hw)
    have hx := h x List.mem_cons_self
    rw [pcl_len] at hx
    rw [slashed_cons, List.length_append, List.length_cons, List.length_cons]
    omega
theorem slashed_last : ∀ {ws : List PySem.Str} (h : ws ≠ []), ∃ b, slashed ws = b ++ pcl (ws.getLast h)
  | [], h => absurd rfl h
  | [x], _ => ⟨[47], by rw [slashed_cons]; show 47 :: pcl x ++ [] = _; simp⟩
  | x :: y :: r, _ => by
    obtain ⟨b, e⟩ := slashed_last (ws := y :: r) (by simp)
    exact ⟨47 :: pcl x ++ b, by rw [slashed_cons, e, List.getLast_cons (a := x) (l := y :: r) (by simp), List.append_assoc]⟩
theorem last_ok {a : List Nat} {w : PySem.Str} (hf : 47 ∉ pcl w) (h0 : 0 < w.length) (b : List Nat) (e : a = b ++ pcl w) : ∃ b c, a = b ++ [c] ∧ c ≠ 47 := by
  have hne : pcl w ≠ [] := by
    intro z
    rw [pcl_len, z] at h0
    exact absurd h0 (by decide)
  refine ⟨b ++ (pcl w).dropLast, (pcl w).getLast hne, ?_, fun z => hf (z ▸ List.getLast_mem hne)⟩
  rw [e, List.append_assoc, List.dropLast_concat_getLast hne]
/-- a text of words, strokes between and behind: stripped and split it is the words again -/
theorem strip_split {y q : PySem.Str} {ws : List PySem.Str} {k : Nat} (hy : pcl y = pcl q ++ slashed ws ++ List.replicate k 47) (hq : 47 ∉ pcl q) (hf : ∀ w ∈ ws, 47 ∉ pcl w)
    (hl : 0 < ((q :: ws).getLast (by simp)).length) : Txt.split (Txt.rstripChars y Sl) Sl = q :: ws := by
  have hfr : ∀ w ∈ q :: ws, 47 ∉ pcl w := fun w hw => by
    rcases List.mem_cons.mp hw with rfl | hw
    · exact hq
    · exact hf w hw
  have e : pcl (Txt.rstripChars y Sl) = pcl (Txt.join Sl (q :: ws)) := by
    rw [join_cons]
    refine rstrip_of hy (.inr ?_)
    cases ws with
    | nil => exact last_ok (hfr _ (List.getLast_mem (by simp))) hl [] (by simp [slashed])
    | cons x r =>
      obtain ⟨b, eb⟩ := slashed_last (ws := x :: r) (by simp)
      exact last_ok (hfr _ (List.getLast_mem (by simp))) hl (pcl q ++ b) (by rw [eb, List.getLast_cons (a := q) (l := x :: r) (by simp), List.append_assoc])
  rw [pcl_inj e]
  exact split_join _ (by simp) hfr
theorem m_free : 47 ∉ pcl (PySem.Str.ofString "m") := by decide
theorem m_pcl : pcl (PySem.Str.ofString "m") = [109] := by decide
theorem last_pos {q : PySem.Str} {ws : List PySem.Str} (h0 : 0 < q.length) (h : ∀ w ∈ ws, 0 < w.length) : 0 < ((q :: ws).getLast (by simp)).length := by
  have hm := List.getLast_mem (l := q :: ws) (by simp)
  rcases List.mem_cons.mp hm with e | e
  · rw [e]; exact h0
  · exact h _ e
theorem words_pos {ws : List PySem.Str} {ns : List Int} (h : WordsAre ws ns) : ∀ w ∈ ws, 0 < w.length := fun w hw => by
  obtain ⟨n, x⟩ := h.all w hw
  exact x.pos
theorem words_short {ws : List PySem.Str} {ns : List Int} (h : WordsAre ws ns) : ∀ w ∈ ws, w.length ≤ 14 := fun w hw => by
  obtain ⟨n, x⟩ := h.all w hw
  exact Nat.le_succ_of_le x.len
theorem parse_m {y : PySem.Str} {ws : List PySem.Str} {ns : List Int} {k : Nat} (hw : WordsAre ws ns) (hn : ws.length ≤ 6) (hk : k ≤ 3) (hy : pcl y = 109 :: slashed ws ++ List.replicate k 47) : ParseIs y ns := by
  have hs := slashed_len (words_short hw)
  refine ⟨by rw [pcl_len, hy]; simp only [List.length_append, List.length_cons, List.length_replicate]; omega, PySem.Str.ofString "m", ws, strip_split (k := k) (by rw [m_pcl]; exact hy) m_free hw.free (last_pos (by decide) (words_pos hw)), by omega, ?_⟩
  rw [if_pos rfl]
  exact hw.reads
theorem parse_bare {y x : PySem.Str} {ws : List PySem.Str} {ns : List Int} {k : Nat} (hw : WordsAre (x :: ws) ns) (hn : (x :: ws).length ≤ 6) (hk : k ≤ 3) (hy : pcl y = pcl x ++ slashed ws ++ List.replicate k 47) : ParseIs y ns := by
  have hs := slashed_len (fun w hm => words_short hw w (List.mem_cons_of_mem _ hm))
  have hx := words_short hw x List.mem_cons_self
  obtain ⟨n, hxw⟩ := hw.all x List.mem_cons_self
  rw [pcl_len] at hx
  rw [List.length_cons] at hn
  refine ⟨by rw [pcl_len, hy]; simp only [List.length_append, List.length_cons, List.length_replicate]; omega, x, ws, strip_split hy hxw.free (fun w hm => hw.free w (List.mem_cons_of_mem _ hm)) (last_pos hxw.pos fun w hm => words_pos hw w (List.mem_cons_of_mem _ hm)), by omega, ?_⟩
  rw [if_neg hxw.nm]
  exact hw.reads
/-- an origin's text -/
theorem origin_of {x f : PySem.Str} {fs : List Int} {ws : List PySem.Str} {ns : List Int} {k : Nat} (hx : pcl x = pcl f ++ slashed ws ++ List.replicate k 47) (hf : HexIs f fs) (h4 : fs.length = 4) (hfr : 47 ∉ pcl f) (hfl : f.length ≤ 8)
    (hw : WordsAre ws ns) (hn : ws.length ≤ 6) (hk : k ≤ 3) : OriginIs x fs ns := by
  have hs := slashed_len (words_short hw)
  rw [pcl_len] at hfl
  have e : pcl x = pcl (Txt.join Sl (f :: (ws ++ List.replicate k PySem.Str.empty))) := by
    rw [join_cons, slashed_app, slashed_none, hx, List.append_assoc]
  have hr : ∀ w ∈ ws ++ List.replicate k PySem.Str.empty, 47 ∉ pcl w ∧ w.length ≤ 14 := fun w hm => by
    rcases List.mem_append.mp hm with hm | hm
    · exact ⟨hw.free w hm, words_short hw w hm⟩
    · rw [(List.mem_replicate.mp hm).2]; decide
  have hrl : (ws ++ List.replicate k PySem.Str.empty).length ≤ 9 := by simp; omega
  have ej : pcl (Txt.join Sl (PySem.Str.ofString "m" :: (ws ++ List.replicate k PySem.Str.empty))) = 109 :: slashed ws ++ List.replicate k 47 := by
    rw [join_cons, slashed_app, slashed_none, m_pcl]; simp
  refine ⟨by rw [pcl_len, hx]; simp only [List.length_append, List.length_cons, List.length_replicate]; omega, f, ws ++ List.replicate k PySem.Str.empty, PySem.Str.ofString "m", ws, ?_, by omega, hf, h4, fun y hy => ?_, ?_, ?_, ?_, by omega, ?_⟩
  · rw [pcl_inj e]
    refine split_join _ (by simp) fun w hm => ?_
    rcases List.mem_cons.mp hm with rfl | hm
    · exact hfr
    · exact (hr w hm).1
  · rcases List.mem_cons.mp hy with rfl | hy
    · decide
    · exact Nat.le_trans (hr y hy).2 (by decide)
  · have es : (PySem.Str.ofString "/").length = 1 := by decide
    rw [es, List.length_cons]; omega
  · rw [pcl_len, ej]; simp only [List.length_append, List.length_cons, List.length_replicate]; omega
  · exact strip_split (k := k) (by rw [ej, m_pcl]; rfl) m_free hw.free (last_pos (by decide) (words_pos hw))
  · rw [if_pos rfl]; exact hw.reads
end Mine
end

section -- P4
open PySem PySem.W PyProof.Rows
namespace Mine
open PySem.NumText

/-! lower case of a plain text -/
def low (c : Nat) : Nat := if 65 ≤ c ∧ c ≤ 90 then c + 32 else c
theorem lower_one : ∀ c, c < 128 → Unicode.lowerOf c = [low c] := by decide +kernel
theorem flat_one {α β : Type} (f : α → β) : ∀ l : List α, (l.map fun c => [f c]).flatten = l.map f
  | [] => rfl
  | a :: l => by rw [List.map_cons, List.flatten_cons, flat_one f l]; rfl
theorem lower_pcl {x : PySem.Str} (h : ∀ c ∈ pcl x, c < 128) : pcl (Txt.lower x) = (pcl x).map low := by
  show ((x.cps.mapIdx fun i c => (Unicode.lowerAt x.cps i).toArray).flatten).toList = _
  rw [Array.toList_flatten, Array.toList_mapIdx]
  have e : (x.cps.toList.mapIdx fun i _ => (Unicode.lowerAt x.cps i).toArray) = (pcl x).map fun c => #[low c] := by
    refine List.ext_getElem? fun i => ?_
    rw [List.getElem?_mapIdx, List.getElem?_map]
    cases hc : (pcl x)[i]? with
    | none => rfl
    | some c =>
      have hc' : x.cps[i]? = some c := by rw [← Array.getElem?_toList]; exact hc
      have hb := h c (List.mem_of_getElem? hc)
      have e1 : Unicode.lowerAt x.cps i = [low c] := by
        unfold Unicode.lowerAt
        rw [hc']
        have h3 : (c == 0x3A3) = false := by rw [beq_eq_false_iff_ne]; omega
        simp only [h3, Bool.false_and]
        exact lower_one c hb
      simp [e1]
  rw [e, List.map_map]
  exact flat_one low (pcl x)
theorem low_small {c : Nat} (h : c < 128) : low c < 128 := by unfold low; split <;> omega

/-! every other sign -/
def pairs (ps : List (Nat × Nat)) : List Nat := ps.flatMap fun p => [p.1, p.2]
theorem pairs_len : ∀ ps : List (Nat × Nat), (pairs ps).length = 2 * ps.length
  | [] => rfl
  | p :: r => by
    have := pairs_len r
    unfold pairs at this ⊢
    rw [List.flatMap_cons, List.length_append, this]
    simp only [List.length_cons, List.length_nil]
    omega
theorem picks_of {l m : List Nat} {g : Nat → Nat} (h : ∀ (k c : Nat), m[k]? = some c → l[g k]? = some c) : ∀ n : Nat, n ≤ m.length → ((List.range n).map g).filterMap (l[·]?) = m.take n
  | 0, _ => rfl
  | n + 1, hn => by
    have hk : n < m.length := by omega
    have e := h n _ (List.getElem?_eq_getElem hk)
    rw [List.range_succ, List.map_append, List.filterMap_append, picks_of h n (by omega), List.take_add_one, List.getElem?_eq_getElem hk]
    simp [e]
theorem pick_even (ps : List (Nat × Nat)) : ((List.range ps.length).map fun k => 2 * k).filterMap ((pairs ps)[·]?) = ps.map (·.1) := by
  have z := picks_of (l := pairs ps) (m := ps.map (·.1)) (g := fun k => 2 * k) (fun k c hc => by
    rw [List.getElem?_map, Option.map_eq_some_iff] at hc
    obtain ⟨p, hp, rfl⟩ := hc
    exact (flat2_get (fun p : Nat × Nat => p.1) (fun p => p.2) ps k p hp).1) ps.length (by simp)
  rw [z]
  exact List.take_of_length_le (by simp)
theorem pick_odd (ps : List (Nat × Nat)) : ((List.range ps.length).map fun k => 2 * k + 1).filterMap ((pairs ps)[·]?) = ps.map (·.2) := by
  have z := picks_of (l := pairs ps) (m := ps.map (·.2)) (g := fun k => 2 * k + 1) (fun k c hc => by
    rw [List.getElem?_map, Option.map_eq_some_iff] at hc
    obtain ⟨p, hp, rfl⟩ := hc
    exact (flat2_get (fun p : Nat × Nat => p.1) (fun p => p.2) ps k p hp).2) ps.length (by simp)
  rw [z]
  exact List.take_of_length_le (by simp)
theorem range_even (n : Nat) : Builtin.Str.strSliceIndices none none 2 (2 * n) = (List.range n).map fun k => 2 * k := by
  unfold Builtin.Str.strSliceIndices sliceRange
  simp only [show ((2 : Int) > 0) = True from by simp, if_true]
  by_cases h : (0 : Int) < ((2 * n : Nat) : Int)
  · rw [if_pos h]
    have e : ((((2 * n : Nat) : Int) - 0 + 2 - 1) / 2).toNat = n := by omega
    rw [e]
    refine List.map_congr_left fun k _ => ?_
    omega
  · rw [if_neg h]
    have : n = 0 := by omega
    subst this
    rfl
theorem range_odd (n : Nat) : Builtin.Str.strSliceIndices (some 1) none 2 (2 * n) = (List.range n).map fun k => 2 * k + 1 := by
  unfold Builtin.Str.strSliceIndices sliceRange
  simp only [show ((2 : Int) > 0) = True from by simp, if_true, show ¬ ((1 : Int) < 0) from by decide, if_false]
  by_cases h0 : n = 0
  · subst h0; rfl
  · have e1 : max (0 : Int) (min 1 ((2 * n : Nat) : Int)) = 1 := by omega
    rw [e1, if_pos (by omega)]
    have e : ((((2 * n : Nat) : Int) - 1 + 2 - 1) / 2).toNat = n := by omega
    rw [e]
    refine List.map_congr_left fun k _ => ?_
    omega
theorem sliceBy_pcl (x : PySem.Str) (l : Option (Int × Tok)) : pcl (Txt.sliceBy x l none (2, 0)) = (Builtin.Str.strSliceIndices (l.map (·.1)) none 2 x.length).filterMap ((pcl x)[·]?) := by
  unfold Txt.sliceBy
  rw [if_neg (by simp)]
  show (List.filterMap _ _).toArray.toList = _
  show List.filterMap (x.cps[·]?) (Builtin.Str.strSliceIndices _ _ _ _) = _
  congr 1
  funext k
  exact Array.getElem?_toList.symm
theorem hex_pcl {f : PySem.Str} {ps : List (Nat × Nat)} (h : pcl f = pairs ps) (hb : ∀ p ∈ ps, p.1 < 128 ∧ p.2 < 128) : pcl (hexEven f) = ps.map (fun p => low p.1) ∧ pcl (hexOdd f) = ps.map fun p => low p.2 := by
  have ha : ∀ c ∈ pcl f, c < 128 := fun c hc => by
    rw [h] at hc
    unfold pairs at hc
    obtain ⟨p, hp, hc⟩ := List.mem_flatMap.mp hc
    have := hb p hp
    rcases List.mem_cons.mp hc with rfl | hc
    · exact this.1
    · rw [List.mem_singleton.mp hc]; exact this.2
  have el : pcl (Txt.lower f) = pairs (ps.map fun p => (low p.1, low p.2)) := by
    rw [lower_pcl ha, h]
    unfold pairs
    rw [List.map_flatMap, List.flatMap_map]
    rfl
  have en : (Txt.lower f).length = 2 * (ps.map fun p : Nat × Nat => (low p.1, low p.2)).length := by rw [pcl_len, el, pairs_len]
  constructor
  · unfold hexEven
    rw [sliceBy_pcl, en, el]
    show List.filterMap _ (Builtin.Str.strSliceIndices none none 2 _) = _
    rw [range_even, pick_even, List.map_map]
    rfl
  · unfold hexOdd
    rw [sliceBy_pcl, en, el]
    show List.filterMap _ (Builtin.Str.strSliceIndices (some 1) none 2 _) = _
    rw [range_odd, pick_odd, List.map_map]
    rfl

/-! octets and their digits -/
def hxs (d : Nat) : Nat := if d < 10 then 48 + d else 87 + d
def hxc (d : Nat) : Nat := if d < 10 then 48 + d else 55 + d
def octPairs (g : Nat → Nat) (os : List Nat) : List (Nat × Nat) := os.map fun o => (g (o / 16), g (o % 16))
theorem nib_low : ∀ d : Nat, d < 16 → nib (low (hxs d)) = (d : Int) ∧ nib (low (hxc d)) = (d : Int) ∧ hxs d < 128 ∧ hxc d < 128 ∧ hxs d ≠ 47 ∧ hxc d ≠ 47 := by decide +kernel
theorem oct_small : ∀ o : Nat, o < 256 → pcl (lawOctet (PySem.Str.ofString "0123456789abcdef") (o : Int)) = [hxs (o / 16), hxs (o % 16)] := by decide +kernel
theorem oct_cap : ∀ o : Nat, o < 256 → pcl (lawOctet (PySem.Str.ofString "0123456789ABCDEF") (o : Int)) = [hxc (o / 16), hxc (o % 16)] := by decide +kernel
theorem oct_text : ∀ o : Nat, o < 256 → (hexAt (o : Int) 1).toNat.toUInt8.toNat = hxs (o / 16) ∧ (hexAt (o : Int) 0).toNat.toUInt8.toNat = hxs (o % 16) := by decide +kernel
theorem join_none : ∀ l : List PySem.Str, pcl (Txt.join (PySem.Str.ofString "") l) = l.flatMap pcl
  | [] => by decide
  | [x] => by rw [txt_join]; show pcl x = _; simp
  | x :: y :: r => by
    have ih := join_none (y :: r)
    rw [txt_join] at ih ⊢
    show pcl (x ++ PySem.Str.ofString "" ++ PySem.Str.join (PySem.Str.ofString "") (y :: r)) = _
    rw [pcl_app, pcl_app, ih, show pcl (PySem.Str.ofString "") = [] by decide, List.append_nil]
    rfl
theorem ints_back {os : List Nat} (h : ∀ o ∈ os, o < 256) : KBw.bInts (byteArr (os.map fun o : Nat => (o : Int))) = os.map fun o : Nat => (o : Int) := by
  unfold KBw.bInts byteArr
  rw [List.map_map, List.map_map]
  refine List.map_congr_left fun o ho => ?_
  have := h o ho
  simp only [Function.comp]
  show (((o : Int).toNat.toUInt8.toNat : Nat) : Int) = (o : Int)
  rw [Int.toNat_natCast, show o.toUInt8.toNat = o % 256 from UInt8.toNat_ofNat', Nat.mod_eq_of_lt this]
theorem digits_pcl {tab : PySem.Str} {g : Nat → Nat} (ht : ∀ o : Nat, o < 256 → pcl (lawOctet tab (o : Int)) = [g (o / 16), g (o % 16)]) {os : List Nat} (h : ∀ o ∈ os, o < 256) :
    pcl (lawDigits (byteArr (os.map fun o : Nat => (o : Int))) tab) = pairs (octPairs g os) := by
  unfold lawDigits
  rw [join_none, ints_back h]
  unfold pairs octPairs
  induction os with
  | nil => rfl
  | cons o r ih =>
    rw [List.map_cons, List.map_cons, List.flatMap_cons, ht o (h o List.mem_cons_self), ih fun k hk => h k (List.mem_cons_of_mem _ hk)]
    rfl
theorem hexText_pcl {os : List Nat} (h : ∀ o ∈ os, o < 256) : pcl (hexText (byteArr (os.map fun o : Nat => (o : Int)))) = pairs (octPairs hxs os) := by
  show (byteArr (hexInts _)).toList.map (·.toNat) = _
  unfold hexInts
  rw [ints_back h]
  show ((List.flatMap _ _).map fun n : Int => n.toNat.toUInt8).map (·.toNat) = _
  unfold pairs octPairs
  induction os with
  | nil => rfl
  | cons o r ih =>
    have e := oct_text o (h o List.mem_cons_self)
    rw [List.map_cons, List.flatMap_cons, List.map_append, List.map_append, ih fun k hk => h k (List.mem_cons_of_mem _ hk)]
    simp only [List.map_cons, List.map_nil, e.1, e.2]
    rfl
theorem hex_is {f : PySem.Str} {os : List Nat} {g : Nat → Nat} (hg : ∀ d, d < 16 → nib (low (g d)) = (d : Int) ∧ g d < 128) (hf : pcl f = pairs (octPairs g os)) (h : ∀ o ∈ os, o < 256) (hn : os.length ≤ 6) : HexIs f (os.map fun o : Nat => (o : Int)) := by
  have hb : ∀ p ∈ octPairs g os, p.1 < 128 ∧ p.2 < 128 := fun p hp => by
    obtain ⟨o, ho, rfl⟩ := List.mem_map.mp hp
    have := h o ho
    exact ⟨(hg _ (by omega)).2, (hg _ (by omega)).2⟩
  obtain ⟨e1, e2⟩ := hex_pcl hf hb
  have hl : (octPairs g os).length = os.length := by unfold octPairs; rw [List.length_map]
  have n1 : (hexEven f).length = os.length := by rw [pcl_len, e1, List.length_map, hl]
  have n2 : (hexOdd f).length = os.length := by rw [pcl_len, e2, List.length_map, hl]
  refine ⟨by rw [pcl_len, hf, pairs_len, hl]; omega, ?_, ?_, by rw [n1, n2]; omega, by rw [n1, n2, List.length_map]; omega, fun i c1 c2 h1 h2 => ?_, fun n hn => ?_⟩
  · rw [← Array.all_toList, List.all_eq_true]
    intro c hc
    have hc : c ∈ pcl (hexEven f) := hc
    rw [e1] at hc
    obtain ⟨p, hp, rfl⟩ := List.mem_map.mp hc
    exact decide_eq_true (low_small (hb p hp).1)
  · rw [← Array.all_toList, List.all_eq_true]
    intro c hc
    have hc : c ∈ pcl (hexOdd f) := hc
    rw [e2] at hc
    obtain ⟨p, hp, rfl⟩ := List.mem_map.mp hc
    exact decide_eq_true (low_small (hb p hp).2)
  · rw [← Array.getElem?_toList] at h1 h2
    have h1 : (pcl (hexEven f))[i]? = some c1 := h1
    have h2 : (pcl (hexOdd f))[i]? = some c2 := h2
    rw [e1] at h1
    rw [e2] at h2
    unfold octPairs at h1 h2
    rw [List.map_map, List.getElem?_map, Option.map_eq_some_iff] at h1 h2
    obtain ⟨o, ho, rfl⟩ := h1
    obtain ⟨o', ho', rfl⟩ := h2
    obtain rfl : o = o' := Option.some.inj (ho.symm.trans ho')
    have := h o (List.mem_of_getElem? ho)
    have g1 := (hg (o / 16) (by omega)).1
    have g2 := (hg (o % 16) (by omega)).1
    refine ⟨?_, ?_, ?_⟩
    · show 0 ≤ nib (low (g (o / 16)))
      rw [g1]; omega
    · show 0 ≤ nib (low (g (o % 16)))
      rw [g2]; omega
    · rw [List.getElem?_map, ho]
      show some (o : Int) = some (16 * nib (low (g (o / 16))) + nib (low (g (o % 16))))
      rw [g1, g2]
      congr 1
      omega
  · obtain ⟨o, ho, rfl⟩ := List.mem_map.mp hn
    have := h o ho
    omega
theorem hex_free {f : PySem.Str} {os : List Nat} {g : Nat → Nat} (hg : ∀ d, d < 16 → g d ≠ 47) (hf : pcl f = pairs (octPairs g os)) (h : ∀ o ∈ os, o < 256) : 47 ∉ pcl f := fun hm => by
  rw [hf] at hm
  unfold pairs octPairs at hm
  obtain ⟨p, hp, hc⟩ := List.mem_flatMap.mp hm
  obtain ⟨o, ho, rfl⟩ := List.mem_map.mp hp
  have := h o ho
  rcases List.mem_cons.mp hc with e | hc
  · exact hg _ (by omega) e.symm
  · exact hg _ (by omega) (List.mem_singleton.mp hc).symm
theorem hxs_ok (d : Nat) (h : d < 16) : nib (low (hxs d)) = (d : Int) ∧ hxs d < 128 := ⟨(nib_low d h).1, (nib_low d h).2.2.1⟩
theorem hxc_ok (d : Nat) (h : d < 16) : nib (low (hxc d)) = (d : Int) ∧ hxc d < 128 := ⟨(nib_low d h).2.1, (nib_low d h).2.2.2.1⟩
theorem hxs_free (d : Nat) (h : d < 16) : hxs d ≠ 47 := (nib_low d h).2.2.2.2.1
theorem hxc_free (d : Nat) (h : d < 16) : hxc d ≠ 47 := (nib_low d h).2.2.2.2.2

/-- the law's octets, as naturals -/
theorem octets_are (first : Int) : ∃ a b c d : Nat, a < 256 ∧ b < 256 ∧ c < 256 ∧ d < 256 ∧ lawOctets first = [a, b, c, d].map fun o : Nat => (o : Int) := by
  have key : ∀ z : Int, ∃ a : Nat, a < 256 ∧ z.fmod 256 = (a : Int) := fun z => by
    have h0 := Int.fmod_nonneg_of_pos z (show (0:Int) < 256 by decide)
    have h1 := Int.fmod_lt_of_pos z (show (0:Int) < 256 by decide)
    exact ⟨(z.fmod 256).toNat, by omega, by omega⟩
  obtain ⟨a, ha, ea⟩ := key (first.fdiv (256 ^ Int.toNat 0))
  obtain ⟨b, hb, eb⟩ := key (first.fdiv (256 ^ Int.toNat 1))
  obtain ⟨c, hc, ec⟩ := key (first.fdiv (256 ^ Int.toNat 2))
  obtain ⟨d, hd, ed⟩ := key (first.fdiv (256 ^ Int.toNat 3))
  refine ⟨a, b, c, d, ha, hb, hc, hd, ?_⟩
  unfold lawOctets
  rw [show rangeKs 0 ((4 - 0 : Int)).toNat = [0, 1, 2, 3] by decide]
  simp only [List.map_cons, List.map_nil, ea, eb, ec, ed]
end Mine
end

section -- P5
open PySem PySem.W PyProof.Rows
namespace Mine
open PySem.NumText

theorem value_range (n : Int) : 0 ≤ lawValue n ∧ lawValue n < 4294967296 := by
  have a0 := Int.fmod_nonneg_of_pos (n.fdiv 4) (show (0:Int) < 100 by decide)
  have a1 := Int.fmod_lt_of_pos (n.fdiv 4) (show (0:Int) < 100 by decide)
  have b0 := Int.fmod_nonneg_of_pos (n.fdiv 4) (show (0:Int) < 4294967296 by decide)
  have b1 := Int.fmod_lt_of_pos (n.fdiv 4) (show (0:Int) < 4294967296 by decide)
  have c0 := Int.fmod_nonneg_of_pos (n.fdiv 4) (show (0:Int) < 6 by decide)
  have c1 := Int.fmod_lt_of_pos (n.fdiv 4) (show (0:Int) < 6 by decide)
  unfold lawValue
  split
  · omega
  · split
    · omega
    · split
      · generalize (n.fdiv 4).fmod 6 = k at c0 c1
        have : k = 0 ∨ k = 1 ∨ k = 2 ∨ k = 3 ∨ k = 4 ∨ k = 5 := by omega
        rcases this with rfl | rfl | rfl | rfl | rfl | rfl <;> decide
      · omega
theorem values_ok (numbers : List Int) (first : Int) : (lawValues numbers first).length ≤ 6 ∧ ∀ n ∈ lawValues numbers first, 0 ≤ n ∧ n < 4294967296 := by
  have c0 := Int.fmod_nonneg_of_pos first (show (0:Int) < 7 by decide)
  have c1 := Int.fmod_lt_of_pos first (show (0:Int) < 7 by decide)
  unfold lawValues
  refine ⟨by rw [List.length_map, rangeKs_length]; omega, fun n hn => ?_⟩
  obtain ⟨k, _, rfl⟩ := List.mem_map.mp hn
  exact value_range _
theorem words_turns : ∀ (vs : List Int) (f : Nat → Int → PySem.Str), (∀ i n, n ∈ vs → WordIs (f i n) n) → WordsAre ((List.range vs.length).map fun i => f i (vs.getD i 0)) vs
  | [], _, _ => .nil
  | v :: r, f, h => by
    rw [List.length_cons, List.range_succ_eq_map, List.map_cons, List.map_map]
    exact .cons (h 0 v List.mem_cons_self) (words_turns r (fun i => f (i + 1)) fun i n hn => h (i + 1) n (List.mem_cons_of_mem _ hn))
theorem words_law {vs : List Int} (first : Int) (h : ∀ n ∈ vs, 0 ≤ n ∧ n < 4294967296) : WordsAre (lawWords vs first) vs :=
  words_turns vs (fun i n => lawSpelt n (first.fdiv 7 + 5 * (i : Int))) fun _ n hn => spelt_is _ (h n hn).1 (h n hn).2
theorem behind_pcl (first : Int) : ∃ k, k ≤ 3 ∧ pcl (lawBehind first) = List.replicate k 47 := by
  have h0 := Int.fmod_nonneg_of_pos (first.fdiv 49) (show (0:Int) < 4 by decide)
  have h1 := Int.fmod_lt_of_pos (first.fdiv 49) (show (0:Int) < 4 by decide)
  exact ⟨((first.fdiv 49).fmod 4).toNat, by omega, slashes_pcl h0 h1⟩
theorem told_one_pcl (n : Int) : pcl (toldOne n) = 47 :: pcl (plainWord n) := by
  unfold toldOne plainWord
  split
  · rw [pcl_app, pcl_app, pcl_app, pcl_sl]; rfl
  · rw [pcl_app, pcl_sl]; rfl
theorem told_pcl : ∀ (ns : List Int) (f : PySem.Str), pcl (told f ns) = pcl f ++ slashed (ns.map plainWord)
  | [], f => by show pcl f = pcl f ++ []; simp
  | n :: r, f => by
    have ih := told_pcl r (f ++ toldOne n)
    show pcl (told (f ++ toldOne n) r) = _
    rw [ih, pcl_app, told_one_pcl, List.map_cons, slashed_cons, List.append_assoc]
theorem plain_pcl (ns : List Int) : pcl (lawPlain ns) = slashed (ns.map plainWord) := by
  unfold lawPlain slashed
  rw [join_none, List.flatMap_map, List.flatMap_map]
  congr 1
  funext n
  show pcl (PySem.Str.ofString "/" ++ plainWord n) = _
  rw [pcl_app, pcl_sl]
  rfl
theorem tail_pcl {words : List PySem.Str} {bh : PySem.Str} {k : Nat} (h : pcl bh = List.replicate k 47) : pcl (lawTail words bh) = slashed words ++ List.replicate k 47 := by
  unfold lawTail
  cases words with
  | nil => rw [if_pos rfl, h]; rfl
  | cons x r => rw [if_neg (by simp), pcl_app, pcl_app, join_cons, h, pcl_sl, slashed_cons]; simp

/-! refusals -/
theorem refused_strokes {y : PySem.Str} {k : Nat} (h : pcl y = List.replicate k 47) (hk : k ≤ 4) : RefusedIs y := by
  have e : Txt.rstripChars y Sl = PySem.Str.empty := pcl_inj ((rstrip_of (a := []) (k := k) (by rw [h]; rfl) (.inl rfl)).trans rfl)
  refine ⟨by rw [pcl_len, h, List.length_replicate]; omega, PySem.Str.empty, [], 0, "IndexError", ?_, by decide, ?_⟩
  · rw [e]
    exact split_join [PySem.Str.empty] (by simp) (fun q hq => by rw [List.mem_singleton.mp hq]; decide)
  · rw [if_neg (by decide)]
    exact ⟨fun i y hi => absurd hi (Nat.not_lt_zero i), PySem.Str.empty, rfl, .inl ⟨rfl, rfl⟩⟩
theorem refused_one : RefusedIs (PySem.Str.ofString "/1") := by
  refine ⟨by decide, PySem.Str.empty, [PySem.Str.ofString "1"], 0, "IndexError", strip_split (k := 0) (by decide) (by decide) (fun w hw => by rw [List.mem_singleton.mp hw]; decide) (by decide), by decide, ?_⟩
  rw [if_neg (by decide)]
  exact ⟨fun i y hi => absurd hi (Nat.not_lt_zero i), PySem.Str.empty, rfl, .inl ⟨rfl, rfl⟩⟩
def badCheck (b : PySem.Str) : Bool := decide (47 ∉ pcl b) && decide (b.length ≤ 14) && (decide (b.length = 0) || (decide (0 < b.length) && decide (∀ c ∈ pcl b, 0 < c ∧ c < 128) && decide (derItem b = none)))
theorem bad_all : lawBad.all badCheck = true := by decide +kernel
theorem bad_x : badCheck (PySem.Str.ofString "x") = true := by decide +kernel
theorem bad_empty : ∀ b : PySem.Str, b.length = 0 → b = PySem.Str.empty := fun b h => pcl_inj (by
  rw [pcl_len] at h
  rw [List.length_eq_zero_iff.mp h]; rfl)
theorem refused_row {row : List PySem.Str} {ns : List Int} {place : Nat} {b : PySem.Str} (hw : WordsAre row ns) (hn : row.length ≤ 6) (hp : place < row.length) (hb : badCheck b = true) (hl : place + 1 = row.length → 0 < b.length) :
    (∀ y ∈ row.set place b, y.length ≤ 14) ∧ (Txt.join (PySem.Str.ofString "/") (row.set place b)).length ≤ 600 ∧ RefusedIs (PySem.Str.ofString "m/" ++ Txt.join (PySem.Str.ofString "/") (row.set place b)) := by
  unfold badCheck at hb
  simp only [Bool.and_eq_true, Bool.or_eq_true, decide_eq_true_eq] at hb
  obtain ⟨⟨b1, b2⟩, b3⟩ := hb
  have hlen : (row.set place b).length = row.length := List.length_set
  have hat : (row.set place b)[place]? = some b := by rw [List.getElem?_set_self hp]
  have hsh : ∀ y ∈ row.set place b, y.length ≤ 14 := fun y hy => by
    rcases List.mem_or_eq_of_mem_set hy with h | h
    · exact words_short hw y h
    · rw [h]; exact b2
  have hfr : ∀ y ∈ row.set place b, 47 ∉ pcl y := fun y hy => by
    rcases List.mem_or_eq_of_mem_set hy with h | h
    · exact hw.free y h
    · rw [h]; exact b1
  have hs := slashed_len hsh
  have hne : row.set place b ≠ [] := fun e => by rw [e] at hlen; rw [← hlen] at hp; exact absurd hp (Nat.not_lt_zero _)
  have hjl : pcl (PySem.Str.ofString "m/" ++ Txt.join (PySem.Str.ofString "/") (row.set place b)) = 109 :: slashed (row.set place b) ∧ (Txt.join (PySem.Str.ofString "/") (row.set place b)).length ≤ 600 := by
    cases hrow : row.set place b with
    | nil => exact absurd hrow hne
    | cons x r =>
      have ej := join_cons r x
      rw [hrow] at hs hlen
      rw [slashed_cons] at hs
      simp only [List.length_append, List.length_cons] at hs hlen
      refine ⟨?_, ?_⟩
      · rw [pcl_app, ej, show pcl (PySem.Str.ofString "m/") = [109, 47] by decide, slashed_cons]; rfl
      · rw [pcl_len, ej, List.length_append]; omega
  have hlast : 0 < ((PySem.Str.ofString "m" :: row.set place b).getLast (by simp)).length := by
    rw [List.getLast_cons (l := row.set place b) hne, List.getLast_eq_getElem]
    have hi : (row.set place b).length - 1 < (row.set place b).length := by omega
    rw [List.getElem_set]
    split
    · exact hl (by omega)
    · exact words_pos hw _ (List.getElem_mem _)
  refine ⟨hsh, hjl.2, ?_⟩
  have key : ∀ cls, ((b.length = 0 ∧ cls = "IndexError") ∨ (0 < b.length ∧ b.length ≤ 640 ∧ Plain b ∧ derItem b = none ∧ cls = "ValueError")) → RefusedIs (PySem.Str.ofString "m/" ++ Txt.join (PySem.Str.ofString "/") (row.set place b)) := fun cls hc => by
    refine ⟨by rw [pcl_len, hjl.1, List.length_cons]; omega, PySem.Str.ofString "m", row.set place b, place, cls, strip_split (k := 0) (by rw [hjl.1, m_pcl]; simp) m_free hfr hlast, by omega, ?_⟩
    rw [if_pos rfl]
    refine ⟨fun i y hi hy => ?_, b, hat, hc⟩
    rw [List.getElem?_set_ne (by omega)] at hy
    obtain ⟨n, _, hwd⟩ := hw.at i y hy
    exact ⟨hwd.pos, Nat.le_trans hwd.len (by decide), n, hwd.der⟩
  rcases b3 with h | ⟨⟨h1, h2⟩, h3⟩
  · exact key "IndexError" (.inl ⟨h, rfl⟩)
  · exact key "ValueError" (.inr ⟨h1, by omega, h2, h3, rfl⟩)
theorem row_words {words : List PySem.Str} {ns : List Int} (h : WordsAre words ns) : ∃ ks, WordsAre (lawRow words) ks := by
  unfold lawRow
  split
  · refine ⟨[1, 2], .cons ?_ (.cons ?_ .nil)⟩
    · exact word_plain (k := 0) (ds := [49]) (by decide) (by decide) (show ∀ c ∈ [49], 48 ≤ c ∧ c ≤ 57 by decide) (by decide) (by decide) (by decide)
    · exact word_plain (k := 0) (ds := [50]) (by decide) (by decide) (show ∀ c ∈ [50], 48 ≤ c ∧ c ≤ 57 by decide) (by decide) (by decide) (by decide)
  · exact ⟨ns, h⟩
theorem text_ok {words : List PySem.Str} {vs : List Int} (first : Int) (hw : WordsAre words vs) (hn : vs.length ≤ 6) : ParseIs (lawText vs words first) vs := by
  obtain ⟨k, hk, hb⟩ := behind_pcl first
  have hl := hw.length
  cases hw with
  | nil =>
    refine parse_m (ws := []) (k := k) .nil (by decide) hk ?_
    unfold lawText
    rw [if_pos rfl, pcl_app, pcl_app, hb, m_pcl]
    rfl
  | cons a b =>
    rename_i x n xs ns
    have hw : WordsAre (x :: xs) (n :: ns) := .cons a b
    by_cases hh : lawHead (n :: ns) first = true
    · refine parse_m (ws := x :: xs) (k := k) hw (by rw [hl]; exact hn) hk ?_
      unfold lawText
      rw [if_neg (by simp), if_pos hh, pcl_app, pcl_app, hb, join_cons, slashed_cons, show pcl (PySem.Str.ofString "m/") = [109, 47] by decide]
      simp
    · refine parse_bare (x := x) (ws := xs) (k := k) hw (by rw [hl]; exact hn) hk ?_
      unfold lawText
      rw [if_neg (by simp), if_neg hh, pcl_app, pcl_app, hb, join_cons, show pcl (PySem.Str.ofString "") = [] by decide]
      rfl
theorem joined_ok {words : List PySem.Str} {vs : List Int} (hw : WordsAre words vs) (hn : vs.length ≤ 6) (hne : vs ≠ []) : ParseIs (Txt.join (PySem.Str.ofString "/") words) vs := by
  have hl := hw.length
  cases hw with
  | nil => exact absurd rfl hne
  | cons a b =>
    rename_i x n xs ns
    refine parse_bare (x := x) (ws := xs) (k := 0) (.cons a b) (by rw [hl]; exact hn) (by decide) ?_
    rw [join_cons]
    simp
theorem join_small {words : List PySem.Str} {vs : List Int} (hw : WordsAre words vs) (hn : words.length ≤ 6) : (Txt.join (PySem.Str.ofString "/") words).length ≤ 600 := by
  cases words with
  | nil => decide
  | cons x r =>
    have hs := slashed_len (words_short hw)
    rw [slashed_cons, List.length_append, List.length_cons] at hs
    rw [pcl_len, join_cons, List.length_append]
    omega
theorem len_bad {x : PySem.Str} {os : List Nat} (hx : pcl x = pairs (octPairs hxs os)) (h : ∀ o ∈ os, o < 256) (hn : os.length ≤ 6) (h4 : os.length ≠ 4) : LenBad x := by
  have hl : (octPairs hxs os).length = os.length := by unfold octPairs; rw [List.length_map]
  refine ⟨by rw [pcl_len, hx, pairs_len, hl]; omega, x, [], os.map fun o : Nat => (o : Int), ?_, by decide, hex_is hxs_ok hx h hn, by rw [List.length_map]; exact h4⟩
  exact split_join [x] (by simp) fun q hq => by rw [List.mem_singleton.mp hq]; exact hex_free hxs_free hx h
theorem path_bad {f : PySem.Str} {os : List Nat} (hf : pcl f = pairs (octPairs hxs os)) (h : ∀ o ∈ os, o < 256) (hn : os.length = 4) : PathBad (f ++ PySem.Str.ofString "/m/1") := by
  have hl : (octPairs hxs os).length = os.length := by unfold octPairs; rw [List.length_map]
  have hfl : f.length = 8 := by rw [pcl_len, hf, pairs_len, hl, hn]
  have e : f ++ PySem.Str.ofString "/m/1" = Txt.join Sl (f :: [PySem.Str.ofString "m", PySem.Str.ofString "1"]) := pcl_inj (by
    rw [pcl_app, join_cons]
    congr 1)
  refine ⟨by rw [PySem.Str.length_append, hfl]; decide, f, [PySem.Str.ofString "m", PySem.Str.ofString "1"], os.map fun o : Nat => (o : Int), PySem.Str.ofString "m", [PySem.Str.ofString "m", PySem.Str.ofString "1"], 0, ?_, by decide, hex_is hxs_ok hf h (by omega), by rw [List.length_map]; exact hn, by decide, by decide, by decide, ?_, by decide, ?_⟩
  · rw [e]
    refine split_join _ (by simp) fun q hq => ?_
    rcases List.mem_cons.mp hq with rfl | hq
    · exact hex_free hxs_free hf h
    · exact (show ∀ q ∈ [PySem.Str.ofString "m", PySem.Str.ofString "1"], 47 ∉ pcl q by decide) q hq
  · exact strip_split (k := 0) (by decide) (by decide) (by decide) (by decide)
  · rw [if_pos rfl]
    refine ⟨fun i y hi => absurd hi (Nat.not_lt_zero i), PySem.Str.ofString "m", rfl, .inr ⟨by decide, by decide, ?_, by decide +kernel, rfl⟩⟩
    show ∀ c ∈ pcl (PySem.Str.ofString "m"), 0 < c ∧ c < 128
    decide
theorem slice_from1 {x : PySem.Str} (h : 1 ≤ x.length) : pcl (Txt.slice x (some 1) none) = (pcl x).drop 1 := by
  have hn : x.cps.toList.length = x.length := Array.length_toList
  rw [slice_text, StrLaws.sliceText_from (by omega)]
  show List.take _ (List.drop (Int.toNat 1) (pcl x)) = _
  rw [show Int.toNat 1 = 1 from rfl]
  exact List.take_of_length_le (by rw [List.length_drop]; show (pcl x).length - 1 ≤ _; have : (pcl x).length = x.cps.toList.length := rfl; omega)
theorem slice_to6 {x : PySem.Str} (h : 6 ≤ x.length) : pcl (Txt.slice x none (some 6)) = (pcl x).take 6 := by
  have hn : x.cps.toList.length = x.length := Array.length_toList
  rw [slice_text, StrLaws.sliceText_to (by omega)]
  rfl
theorem hex_bad {y : PySem.Str} {c : Nat} {ps : List (Nat × Nat)} (hy : pcl y = pairs ((120, c) :: ps)) (hb : ∀ p ∈ ((120, c) :: ps : List (Nat × Nat)), p.1 < 128 ∧ p.2 < 128) (hf : 47 ∉ pcl y) (hn : ps.length ≤ 6) : HexBad y := by
  obtain ⟨e1, e2⟩ := hex_pcl hy hb
  have hl : y.length ≤ 640 := by rw [pcl_len, hy, pairs_len, List.length_cons]; omega
  refine ⟨hl, y, [], low 120, low c, ?_, by decide, hl, ?_, ?_, ?_, ?_, ?_, by decide +kernel⟩
  · exact split_join [y] (by simp) fun q hq => by rw [List.mem_singleton.mp hq]; exact hf
  · rw [← Array.all_toList, List.all_eq_true]
    intro d hd
    have hd : d ∈ pcl (hexEven y) := hd
    rw [e1] at hd
    obtain ⟨p, hp, rfl⟩ := List.mem_map.mp hd
    exact decide_eq_true (low_small (hb p hp).1)
  · rw [← Array.all_toList, List.all_eq_true]
    intro d hd
    have hd : d ∈ pcl (hexOdd y) := hd
    rw [e2] at hd
    obtain ⟨p, hp, rfl⟩ := List.mem_map.mp hd
    exact decide_eq_true (low_small (hb p hp).2)
  · have : (hexEven y).length = ps.length + 1 := by rw [pcl_len, e1, List.length_map, List.length_cons]
    omega
  · rw [← Array.getElem?_toList]
    show (pcl (hexEven y))[0]? = _
    rw [e1]; rfl
  · rw [← Array.getElem?_toList]
    show (pcl (hexOdd y))[0]? = _
    rw [e2]; rfl

theorem law_pure (script : List Int) : LawPure script := by
  obtain ⟨v1, v2⟩ := values_ok (lawNumbers script) (lawFirst script)
  have hw : WordsAre (wrds script) (vals script) := words_law (lawFirst script) v2
  have hwl := hw.length
  have hw6 : (wrds script).length ≤ 6 := by rw [hwl]; exact v1
  have hp : WordsAre ((vals script).map plainWord) (vals script) := words_map fun n hn => plain_is (v2 n hn).1 (v2 n hn).2
  have hp6 : ((vals script).map plainWord).length ≤ 6 := by rw [hp.length]; exact v1
  have hps := slashed_len (words_short hp)
  obtain ⟨k, hk, hb⟩ := behind_pcl (lawFirst script)
  obtain ⟨a, b, c, d, ha, hb', hc, hd, ho⟩ := octets_are (lawFirst script)
  have hos : ∀ o ∈ [a, b, c, d], o < 256 := fun o h => by
    simp only [List.mem_cons, List.not_mem_nil, or_false] at h
    rcases h with rfl | rfl | rfl | rfl <;> assumption
  have hsm : pcl (lawSmall (lawFirst script)) = pairs (octPairs hxs [a, b, c, d]) := by unfold lawSmall; rw [ho]; exact digits_pcl oct_small hos
  have hca : pcl (lawCapital (lawFirst script)) = pairs (octPairs hxc [a, b, c, d]) := by unfold lawCapital; rw [ho]; exact digits_pcl oct_cap hos
  have hht : pcl (hexText (byteArr (lawOctets (lawFirst script)))) = pairs (octPairs hxs [a, b, c, d]) := by rw [ho]; exact hexText_pcl hos
  have sl8 : (lawSmall (lawFirst script)).length = 8 := by rw [pcl_len, hsm]; rfl
  have t3 : told (hexText (byteArr (lawOctets (lawFirst script)))) (vals script) = lawSmall (lawFirst script) ++ lawPlain (vals script) :=
    pcl_inj (by rw [told_pcl, pcl_app, plain_pcl, hht, hsm])
  obtain ⟨ks, hr⟩ := row_words hw
  have rp := row_pos (wrds script)
  have r6 := row_le hw6
  have q0 := Int.fmod_nonneg_of_pos ((lawFirst script).fdiv 392) (show (0:Int) < ((lawRow (wrds script)).length : Int) by omega)
  have q1 := Int.fmod_lt_of_pos ((lawFirst script).fdiv 392) (show (0:Int) < ((lawRow (wrds script)).length : Int) by omega)
  have z0 := Int.fmod_nonneg_of_pos ((lawNumbers script).getD (-1 + ((lawNumbers script).length : Int)).toNat 0) (show (0:Int) < 17 by decide)
  have z1 := Int.fmod_lt_of_pos ((lawNumbers script).getD (-1 + ((lawNumbers script).length : Int)).toNat 0) (show (0:Int) < 17 by decide)
  have row := fun (bad : PySem.Str) (hbad : badCheck bad = true) (place : Nat) (hpl : place < (lawRow (wrds script)).length) =>
    refused_row (b := if bad = PySem.Str.empty ∧ place + 1 = (lawRow (wrds script)).length then PySem.Str.ofString "x" else bad) hr r6 hpl (by split; exact bad_x; exact hbad) (fun he => by
      split
      · decide
      · rename_i hn
        refine Nat.pos_of_ne_zero fun h0 => hn ⟨bad_empty _ h0, he⟩)
  have rowF := row (lawBad.getD (((lawNumbers script).getD (-1 + ((lawNumbers script).length : Int)).toNat 0).fmod 17).toNat PySem.Str.empty) (by
      have hi : (((lawNumbers script).getD (-1 + ((lawNumbers script).length : Int)).toNat 0).fmod 17).toNat < lawBad.length := by
        rw [show lawBad.length = 17 by decide]; omega
      rw [List.getD_eq_getElem?_getD, List.getElem?_eq_getElem hi]
      exact List.all_eq_true.mp bad_all _ (List.getElem_mem hi))
    (((lawFirst script).fdiv 392).fmod ((lawRow (wrds script)).length : Int)).toNat (by omega)
  exact
  { vlen := v1
    vrange := v2
    wlen := hwl
    wshort := words_short hw
    wok := fun x hx => by
      obtain ⟨n, h⟩ := hw.all x hx
      show x.cps.all _ = true
      rw [← Array.all_toList, List.all_eq_true]
      exact fun c hc => decide_eq_true (Nat.lt_trans (h.ascii c hc).2 (by decide))
    reads := hw.reads
    joinlen := join_small hw hw6
    text := text_ok _ hw v1
    joined := joined_ok hw v1
    ref1 := refused_strokes (k := 0) (by decide) (by decide)
    ref2 := refused_strokes (k := k + 1) (by rw [pcl_app, hb]; rfl) (by omega)
    ref3 := refused_one
    rowshort := rowF.1
    rowjoin := rowF.2.1
    rowbad := rowF.2.2
    told1 := pcl_inj (by rw [told_pcl, pcl_app, plain_pcl])
    told2 := parse_m (k := 0) hp hp6 (by decide) (by rw [told_pcl, m_pcl]; simp)
    plen := by rw [pcl_len, plain_pcl]; omega
    told3 := t3
    slen := sl8
    hlen := by
      unfold lawHex
      split
      · rw [pcl_len, hca]; rfl
      · exact sl8
    orig := by
      rw [ho]
      have hx : pcl (lawHex (lawFirst script) ++ lawTail (wrds script) (lawBehind (lawFirst script))) = pcl (lawHex (lawFirst script)) ++ slashed (wrds script) ++ List.replicate k 47 := by
        rw [pcl_app, tail_pcl hb, List.append_assoc]
      refine origin_of hx ?_ rfl ?_ ?_ hw hw6 hk
      · unfold lawHex
        split
        · exact hex_is hxc_ok hca hos (show 4 ≤ 6 by decide)
        · exact hex_is hxs_ok hsm hos (show 4 ≤ 6 by decide)
      · unfold lawHex
        split
        · exact hex_free hxc_free hca hos
        · exact hex_free hxs_free hsm hos
      · unfold lawHex
        split
        · rw [pcl_len, hca]; exact Nat.le_refl 8
        · exact Nat.le_of_eq sl8
    again := by
      rw [t3, ho]
      exact origin_of (f := lawSmall (lawFirst script)) (k := 0) (by rw [pcl_app, plain_pcl]; simp) (hex_is hxs_ok hsm hos (show 4 ≤ 6 by decide)) rfl (hex_free hxs_free hsm hos) (Nat.le_of_eq sl8) hp hp6 (by decide)
    len1 := len_bad (os := [a, b, c]) (by rw [slice_to6 (by omega), hsm]; rfl) (fun o h => hos o (by simp only [List.mem_cons] at h ⊢; rcases h with h | h | h | h <;> simp_all)) (show 3 ≤ 6 by decide) (show 3 ≠ 4 by decide)
    len2 := len_bad (os := [a, b, c, d, 0]) (by rw [pcl_app, hsm]; rfl) (fun o h => by
      simp only [List.mem_cons, List.not_mem_nil, or_false] at h
      rcases h with rfl | rfl | rfl | rfl | rfl
      all_goals first | assumption | decide) (show 5 ≤ 6 by decide) (show 5 ≠ 4 by decide)
    len3 := len_bad (os := []) (by decide) (fun o h => nomatch h) (by decide) (by decide)
    cut7 := Nat.le_trans (Txt.slice_le _ _ _) (Nat.le_of_eq sl8)
    hexb := by
      have hx : pcl (PySem.Str.ofString "x" ++ Txt.slice (lawSmall (lawFirst script)) (some 1) none) = pairs ((120, hxs (a % 16)) :: octPairs hxs [b, c, d]) := by
        rw [pcl_app, slice_from1 (by omega), hsm]; rfl
      have hbn : ∀ p ∈ ((120, hxs (a % 16)) :: octPairs hxs [b, c, d] : List (Nat × Nat)), p.1 < 128 ∧ p.2 < 128 ∧ p.1 ≠ 47 ∧ p.2 ≠ 47 := fun p hp => by
        rcases List.mem_cons.mp hp with rfl | hp
        · exact ⟨show 120 < 128 by decide, (hxs_ok _ (by omega)).2, show 120 ≠ 47 by decide, hxs_free _ (by omega)⟩
        · obtain ⟨o, ho, rfl⟩ := List.mem_map.mp hp
          have : o < 256 := hos o (List.mem_cons_of_mem _ ho)
          exact ⟨(hxs_ok _ (by omega)).2, (hxs_ok _ (by omega)).2, hxs_free _ (by omega), hxs_free _ (by omega)⟩
      refine hex_bad hx (fun p hp => ⟨(hbn p hp).1, (hbn p hp).2.1⟩) (fun hm => ?_) (show 3 ≤ 6 by decide)
      rw [hx] at hm
      obtain ⟨p, hp, hm⟩ := List.mem_flatMap.mp hm
      rcases List.mem_cons.mp hm with e | hm
      · exact (hbn p hp).2.2.1 e.symm
      · exact (hbn p hp).2.2.2 (List.mem_singleton.mp hm).symm
    pathb := path_bad hsm hos rfl }
end Mine
end

section -- Main
open PySem PySem.W PyProof.Rows
set_option maxHeartbeats 2000000
namespace Mine
local macro_rules | `(tactic| walk_at "idle 0") => `(tactic| skip)
local macro_rules | `(tactic| walk_at "idle 1") => `(tactic| skip)
local macro_rules | `(tactic| walk_at "idle 2") => `(tactic| skip)
local macro_rules | `(tactic| walk_at "idle 3") => `(tactic| skip)
local macro_rules | `(tactic| walk_at "idle 4") => `(tactic| skip)
local macro_rules | `(tactic| walk_at "idle 5") => `(tactic| skip)
local macro_rules | `(tactic| walk_at "idle 6") => `(tactic| skip)
local macro_rules | `(tactic| walk_at "idle 7") => `(tactic| skip)
local macro_rules | `(tactic| walk_at "idle 8") => `(tactic| skip)
local macro_rules | `(tactic| walk_at "idle 9") => `(tactic| skip)
local macro_rules | `(tactic| walk_at "idle 10") => `(tactic| skip)
local macro_rules | `(tactic| walk_at "idle 11") => `(tactic| skip)
local macro_rules | `(tactic| walk_at "idle 12") => `(tactic| skip)
local macro_rules | `(tactic| walk_at "idle 13") => `(tactic| skip)
local macro_rules | `(tactic| walk_at "idle 14") => `(tactic| skip)
local macro_rules | `(tactic| walk_at "idle 15") => `(tactic| skip)
theorem reset_Main : True := by
  w_top off
  exact trivial
theorem fill41 : (PySem.Challenge.rw_fp5009_01, hd.heap_39) = (PySem.Challenge.rw_fp5009_01, hd.heap_39) := by
  k_fill
  rfl
local macro_rules | `(tactic| walk_at "call ref") => `(tactic| (k_here; refine Stop.mk ?_))
theorem first_words : WordsAre (["44h", "1'", "0H", "0", "32"].map PySem.Str.ofString) [2147483692, 2147483649, 2147483648, 0, 32] := by
  simp only [List.map_cons, List.map_nil]
  refine .cons ?_ (.cons ?_ (.cons ?_ (.cons ?_ (.cons ?_ .nil))))
  · exact word_mark (k := 0) (ds := [52, 52]) (c := 104) (by decide) (by decide) (show ∀ c ∈ [52, 52], 48 ≤ c ∧ c ≤ 57 by decide) (by decide) (by decide) (by decide) (by decide)
  · exact word_mark (k := 0) (ds := [49]) (c := 39) (by decide) (by decide) (show ∀ c ∈ [49], 48 ≤ c ∧ c ≤ 57 by decide) (by decide) (by decide) (by decide) (by decide)
  · exact word_mark (k := 0) (ds := [48]) (c := 72) (by decide) (by decide) (show ∀ c ∈ [48], 48 ≤ c ∧ c ≤ 57 by decide) (by decide) (by decide) (by decide) (by decide)
  · exact word_plain (k := 0) (ds := [48]) (by decide) (by decide) (show ∀ c ∈ [48], 48 ≤ c ∧ c ≤ 57 by decide) (by decide) (by decide) (by decide)
  · exact word_plain (k := 0) (ds := [51, 50]) (by decide) (by decide) (show ∀ c ∈ [51, 50], 48 ≤ c ∧ c ≤ 57 by decide) (by decide) (by decide) (by decide)
theorem first_parse : ParseIs (PySem.Str.ofString "m/44h/1'/0H/0/32") [2147483692, 2147483649, 2147483648, 0, 32] :=
  parse_m (k := 0) first_words (by decide) (by decide) (by decide)
theorem law_holds : PySem.Challenge.rw_fp5009_01.Holds := by
  refine hd ?_
  intro w s₀ s₁ mg mb G Y fa o pm cd doc dV kV ho hd hcd hD hmg hg args vals as hpre hlay hrd hwl hlo
  have KX := kIn_of Y
  have X := (Ground.X G).1
  have V := (Ground.X G).2
  refine Ground.open G ?_
  intro T B D TE TW
  try (refine guard_noD D (by decide +kernel) ?_; clear D)
  clear hmg
  wrow_args hpre hlay hrd hwl hlo
  all_goals refine enter_callC ?_
  all_goals w_top on
  have K0 := below_caller (Top.heap T)
  have he := Dflts.none hD rfl; subst he; have he := Dflts.noKw hD; subst he
  refine call_cellsC (by decide) ho (fd_plain hd) (Top.nolimit T) hcd rfl (kinds_of (by kinds_ok)) (by decide) fun h₁ tk₁ cells F N0 X0 => ?_
  obtain ⟨oF, oN, hce, hF1, hF2⟩ := PyProof.Rows.CellsAre.two X0
  subst hce
  clear hd hD hcd X0
  show LawGo w fa _ cd 0 _ _ _
  unfold LawGo
  rw [show lawBody.drop 0 = _ :: lawBody.drop 1 from rfl]
  refine wpC_execs_cons (wpC_of_any ?_)
  k_steps
  refine Stop.of ?_
  refine parse_is (by k_asm) (by k_asm) (by k_asm) (by k_asm) (by k_asm) (by exact rfl) (by ktr_room) (by ktr_units) first_parse ?_
  intro l vs n h' tk' F' N' I'
  k_steps
  refine chain (vs := _) (lv := _) (script := _) KX T K0 (by k_asm) (by rfl) (cb_drop (by assumption) (fun _ h => List.mem_cons_of_mem _ (List.mem_cons_of_mem _ h))) (hF1.trans rfl) (hF2.trans rfl) (by assumption) (by assumption) (by omega) (by with_unfolding_all passes_own) (law_pure _) ?_
  intro h tk m' F9
  exact GoodW.toG (goodW_bool F9 hg (raisesW_false (by wrow_none_raised)) (by wrow_post))
end Mine
end

theorem PySem.Challenge.cw_fp5009_01_holds : PySem.Challenge.rw_fp5009_01.Holds :=
  Mine.law_holds
