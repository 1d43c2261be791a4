import PyProof.Rows.All
import Wide.All
import OpenK.AllK
import Wide.FinOn
import Open.Fast
import Open.Tops
import Lean
import PySem.Challenge.RW_iw0004_01
set_option Elab.async false
set_option linter.all false
-- WpC
section
open PySem PySem.W PyProof.Rows PySem.Calls PySem.Spec
open Sem (wp)
namespace Mine
/-- the claim's caller stands in the stack -/
def hasC (Γ : PySem.Ctx) : Prop := Γ.code.isCaller = true ∨ Γ.below.any (fun x => x.1.isCaller) = true
def hasB (Γ : PySem.Ctx) : Prop := Γ.below.any (fun x => x.1.isCaller) = true
/-- wpAny over the contexts that hold the claim's caller -/
def wpC {α : Type} (M : Model) (A : Around) (t : Sem α) (Q : α → Shared → Prop) (E : Value → Shared → Prop) (s : Shared) : Prop :=
  ∀ Γ p, Γ.In A → hasC Γ → wp M Γ t (fun a _ s' => Q a s') (fun e _ s' => E e s') p s
def codeC (M : Model) (A : Around) (c : Code) (R : Result → Shared → Prop) (s : Shared) : Prop :=
  ∀ Γ p, Γ.code = c → Γ.Below A → hasB Γ → wpCode M Γ R p s
section
variable {α β : Type} {M : Model} {A : Around} {E : Value → Shared → Prop} {s : Shared}
theorem hasB_enter {Γ : PySem.Ctx} (h : hasC Γ) (c : Code) (hd : Option Value) (p : Pos) : hasB (Γ.enter c hd p) := by
  show (((Γ.code, p) :: Γ.below).any fun x => x.1.isCaller) = true
  rw [List.any_cons, Bool.or_eq_true]
  exact h
theorem wpC_of_any {t : Sem α} {Q : α → Shared → Prop} (h : wpAny M A t Q E s) : wpC M A t Q E s := fun Γ p hΓ _ => h Γ p hΓ
theorem wpC_mono {t : Sem α} {Q Q' : α → Shared → Prop} {E' : Value → Shared → Prop} (h : wpC M A t Q E s) (hQ : ∀ a s, Q a s → Q' a s) (hE : ∀ e s, E e s → E' e s) : wpC M A t Q' E' s :=
  fun Γ p hΓ hc => Sem.wp_mono M Γ t (fun a _ s => hQ a s) (fun e _ s => hE e s) p s (h Γ p hΓ hc)
theorem wpC_pure {a : α} {Q : α → Shared → Prop} (h : Q a s) : wpC M A (pure a) Q E s := wpC_of_any (wpAny_pure h)
theorem wpC_bind {m : Sem α} {f : α → Sem β} {Q : β → Shared → Prop} (h : wpC M A m (fun a s' => wpC M A (f a) Q E s') E s) : wpC M A (m >>= f) Q E s := fun Γ p hΓ hc => by
  rw [Sem.wp_bind']
  exact Sem.wp_mono M Γ m (fun a p' s' h' => h' Γ p' hΓ hc) (fun _ _ _ h' => h') p s (h Γ p hΓ hc)
theorem wpC_bindA {m : Sem α} {f : α → Sem β} {Q : β → Shared → Prop} (h : wpAny M A m (fun a s' => wpC M A (f a) Q E s') E s) : wpC M A (m >>= f) Q E s := wpC_bind (wpC_of_any h)
theorem wpC_tryCatch {m : Sem α} {k : Value → Sem α} {Q : α → Shared → Prop} (h : wpC M A m Q (fun e s' => wpC M A (k e) Q E s') s) : wpC M A (tryCatch m k) Q E s := fun Γ p hΓ hc => by
  rw [Sem.wp_tryCatch']
  exact Sem.wp_mono M Γ m (fun _ _ _ h' => h') (fun e p' s' h' => h' Γ p' hΓ hc) p s (h Γ p hΓ hc)
theorem wpC_onRaise {m : Sem α} {k : Value → Sem Unit} {Q : α → Shared → Prop}
    (h : wpC M A m Q (fun e s' => wpC M A (k e) (fun _ s'' => E e s'') E s') s) : wpC M A (m.onRaise k) Q E s := fun Γ p hΓ hc => by
  rw [Sem.wp_onRaise]
  exact Sem.wp_mono M Γ m (fun _ _ _ h' => h') (fun e p' s' h' => h' Γ p' hΓ hc) p s (h Γ p hΓ hc)
theorem wpC_holding {vs : List Value} {m : Sem α} {Q : α → Shared → Prop} (h : wpC M A m Q E s) : wpC M A (holding vs m) Q E s :=
  fun Γ p hΓ hc => by rw [Sem.wp_holding]; exact h Γ p hΓ hc
theorem wpC_keep {vs : List Value} {m : Sem α} {Q : α → Shared → Prop} (h : wpC M A m Q E s) : wpC M A (m.keep vs) Q E s :=
  fun Γ p hΓ hc => by rw [Sem.wp_keep]; exact h Γ p hΓ hc
theorem wpC_runValue {c : Code} {Q : Value → Shared → Prop}
    (hc : codeC M A c (fun r s' => match r with | .ok (.ret v) => Q v s' | .ok _ => False | .error e => E e s') s) : wpC M A (runValue c) Q E s :=
  fun Γ p hΓ hC => by rw [Sem.wp_runValue]; exact hc _ p rfl (hΓ.enter c none p (by intro x; cases x)) (hasB_enter hC c none p)
theorem wpC_call {f : Value} {pos : List Value} {kw : List (Str × Value)} {Q : Value → Shared → Prop}
    (hc : codeC M A (.call f ⟨pos, kw⟩) (fun r s' => match r with | .ok (.ret v) => Q v s' | .ok _ => False | .error e => E e s') s) : wpC M A (call f pos kw) Q E s := wpC_runValue hc
theorem codeC_of_any {c : Code} {R : Result → Shared → Prop} (h : codeAny M A c R s) : codeC M A c R s := fun Γ p hc hΓ _ => h Γ p hc hΓ
theorem codeC_mono {c : Code} {R R' : Result → Shared → Prop} (h : codeC M A c R s) (hR : ∀ r s, R r s → R' r s) : codeC M A c R' s :=
  fun Γ p hc hΓ hb => wpCode_mono hR (h Γ p hc hΓ hb)
theorem codeC_of_tree {c : Code} {R : Result → Shared → Prop}
    (h : wpC M (A.under c) (M.den c) (fun fin s' => match fin with | .done f => R (.ok f) s' | .again c' => c'.quiet = true ∧ codeC M A c' R s') (fun e s' => R (.error e) s') s) : codeC M A c R s := fun Γ p hc hΓ hb => by
  rw [wpCode_iff_wp, hc]
  refine Sem.wp_mono M Γ _ (fun fin p' s' h' => ?_) (fun _ _ _ h' => h') p s (h Γ p (hc ▸ hΓ.in) (.inr hb))
  cases fin with
  | done f => exact h'
  | again c' => exact ⟨h'.1, h'.2 (Γ.goto c') p' rfl (hΓ.goto c') hb⟩

/-- the posts as letters: what stands of them in a long walk is small -/
theorem wpC_abs {t : Sem α} {Q : α → Shared → Prop} (h : ∀ (Q0 : α → Shared → Prop) (E0 : Value → Shared → Prop), (∀ a s', Q a s' → Q0 a s') → (∀ e s', E e s' → E0 e s') → wpC M A t Q0 E0 s) : wpC M A t Q E s := h Q E (fun _ _ x => x) fun _ _ x => x
theorem wpAny_abs {t : Sem α} {Q : α → Shared → Prop} (h : ∀ (Q0 : α → Shared → Prop) (E0 : Value → Shared → Prop), (∀ a s', Q a s' → Q0 a s') → (∀ e s', E e s' → E0 e s') → wpAny M A t Q0 E0 s) : wpAny M A t Q E s := h Q E (fun _ _ x => x) fun _ _ x => x
theorem wpC_absQ {t : Sem α} {Q : α → Shared → Prop} (h : ∀ (Q0 : α → Shared → Prop), (∀ a s', Q a s' → Q0 a s') → wpC M A t Q0 E s) : wpC M A t Q E s := h Q (fun _ _ x => x)
theorem wpAny_absQ {t : Sem α} {Q : α → Shared → Prop} (h : ∀ (Q0 : α → Shared → Prop), (∀ a s', Q a s' → Q0 a s') → wpAny M A t Q0 E s) : wpAny M A t Q E s := h Q (fun _ _ x => x)

-- statements
theorem wpC_execs_cons {env : Env} {st rest} {Q : Flow → Shared → Prop}
    (h : wpC M A (exec st env) (fun f s' => match f with | .next => wpC M A (execs rest env) Q E s' | f => Q f s') E s) : wpC M A (execs (st :: rest) env) Q E s := fun Γ p hΓ hc => by
  rw [execs_cons, Sem.wp_bind']
  refine Sem.wp_mono M Γ _ (fun f p' s' h' => ?_) (fun _ _ _ h' => h') _ _ (h Γ p hΓ hc)
  cases f <;> first | exact h' Γ p' hΓ hc | exact h'
theorem wpC_execs_nil {env : Env} {Q : Flow → Shared → Prop} (h : Q .next s) : wpC M A (execs [] env) Q E s := wpC_of_any (wpAny_execs_nil h)
theorem wpC_If {env : Env} {test body orelse pos} {Q : Flow → Shared → Prop}
    (h : wpC M A (isTrue test env (eval test env)) (fun b s₂ => if b then wpC M A (execs body env) Q E s₂ else wpC M A (execs orelse env) Q E s₂) E s) : wpC M A (exec (.If test body orelse pos) env) Q E s := fun Γ p hΓ hc => by
  simp only [exec_If, Sem.wp_bind', Sem.wp_cmd_standAt]
  refine Sem.wp_mono M Γ _ (fun b p₂ s₂ h₂ => ?_) (fun _ _ _ h' => h') _ _ (h Γ _ hΓ hc)
  cases b <;> exact h₂ Γ p₂ hΓ hc
theorem wpC_Assign_Name {env : Env} {x pos' value pos} {Q : Flow → Shared → Prop}
    (h : wpC M A (eval value env) (fun v s₁ => wpAny M A (storeName env x v) (fun _ => Q .next) E s₁) E s)
    (hs : swapsWith value (some (.Name x pos')) pos.line env = pure false := by rfl) : wpC M A (exec (.Assign [.Name x pos'] value pos) env) Q E s := fun Γ p hΓ hc => by
  simp only [exec_Assign_Name env x pos' value pos hs, Sem.wp_bind', Sem.wp_cmd_standAt, Sem.wp_bindName, Sem.wp_pure']
  exact Sem.wp_mono M Γ _ (fun v _ s₁ h₁ => h₁ Γ _ hΓ) (fun _ _ _ h' => h') _ _ (h Γ _ hΓ hc)
theorem wpC_Return_some {env : Env} {e pos} {Q : Flow → Shared → Prop} (h : wpC M A (eval e env) (fun v => Q (.ret v)) E s) : wpC M A (exec (.Return (some e) pos) env) Q E s := fun Γ p hΓ hc => by
  simp only [exec_Return_some, Sem.wp_bind', Sem.wp_cmd_standAt, Sem.wp_pure']; exact h Γ _ hΓ hc
theorem wpC_isTrue_or {env : Env} {x rest pos whole} {Q : Bool → Shared → Prop}
    (h : wpC M A (isTrue x env (eval x env)) (fun c s' => if c then Q true s' else wpC M A (isTrue (.BoolOp .Or rest pos) env whole) Q E s') E s) : wpC M A (isTrue (.BoolOp .Or (x :: rest) pos) env whole) Q E s := by
  show wpC M A (do
    match BoolOp.Or, ← isTrue x env (eval x env) with
    | .And, false => pure false
    | .Or, true => pure true
    | _, _ => allTrue .Or rest env) Q E s
  refine wpC_bind (wpC_mono h (fun c s' h' => ?_) fun _ _ x => x)
  cases c with
  | false => exact h'
  | true => exact wpC_pure h'
theorem wpC_isTrue_or_nil {env : Env} {pos whole} {Q : Bool → Shared → Prop} (h : Q false s) : wpC M A (isTrue (.BoolOp .Or [] pos) env whole) Q E s := wpC_pure (a := false) h
theorem wpC_isTrue_Compare1 {env : Env} {l op r pos whole} {Q : Bool → Shared → Prop}
    (h : wpC M A (eval l env) (fun a s₁ => wpC M A (eval r env) (fun b s₂ => wpAny M A (compareOp op a b) (fun c s₃ => wpAny M A (truthy c) Q E s₃) E s₂) E s₁) E s)
    (hm : behindInMarks op r = false := by with_unfolding_all rfl) : wpC M A (isTrue (.Compare l [op] [r] pos) env whole) Q E s := fun Γ p hΓ hc => by
  simp only [isTrue_Compare1, markedBehindIn_of_false hm, Sem.wp_bind', Sem.wp_holding, Sem.wp_cmd_standAt, Sem.wp_operate]
  exact Sem.wp_mono M Γ _ (fun a p₁ s₁ h₁ => Sem.wp_mono M Γ _ (fun b _ s₂ h₂ => Sem.wp_mono M Γ _ (fun c p₃ s₃ h₃ => h₃ Γ p₃ hΓ)
    (fun _ _ _ h' => h') _ _ (h₂ Γ _ hΓ)) (fun _ _ _ h' => h') _ _ (h₁ Γ p₁ hΓ hc)) (fun _ _ _ h' => h') _ _ (h Γ p hΓ hc)
theorem wpC_Call_Name {env : Env} {x : Str} {p pos : Pos} {args : List Expr} {trees : List (Bool × Sem Value)} {Q : Value → Shared → Prop} (ht : backTo pos (starEach args env) = trees)
    (h : wpAny M A (eval (.Name x p) env) (fun f s₁ => wpC M A (callWith pos f [] trees []) Q E s₁) E s) : wpC M A (eval (.Call (.Name x p) args [] pos) env) Q E s := by
  subst ht
  exact wpC_bindA h
theorem wpC_callWith_type {pos : Pos} {T : String} {args : List (Bool × Sem Value)} {Q : Value → Shared → Prop} (hplain : args.any (·.1) = false)
    (h : wpAny M A (evalArgs (.type T) true args []) (fun a s₁ => wpC M A (call (.type T) a.pos a.kw) Q E s₁) E s) : wpC M A (callWith pos (.type T) [] args []) Q E s := by
  unfold callWith
  refine wpC_bindA (wpAny_holding (wpAny_mono h (fun a s₁ h₁ => ?_) fun _ _ x => x))
  refine wpC_bindA (wpAny_standAt ?_)
  simp only [hplain, List.any_nil, Bool.or_false, List.nil_append]
  refine wpC_bindA (wpAny_pure ?_)
  exact wpC_bind (wpC_mono h₁ (fun r s₂ hr => wpC_of_any (wpAny_bind (wpAny_holding (wpAny_point (wpAny_pure hr))))) fun _ _ x => x)
theorem wpC_callWith_function {pos : Pos} {a : Addr} {o : Obj} {fd : FuncData} {args : List (Bool × Sem Value)} {Q : Value → Shared → Prop} (hplain : args.any (·.1) = false)
    (h : wpAny M A (evalArgs (.ref a) true args []) (fun x s₁ => (s₁.heap.get? a = some o ∧ o.data = .func fd) ∧ wpC M A (call (.ref a) x.pos x.kw) Q E s₁) E s) : wpC M A (callWith pos (.ref a) [] args []) Q E s := by
  unfold callWith
  refine wpC_bindA (wpAny_holding (wpAny_mono h (fun x s₁ h₁ => ?_) fun _ _ x => x))
  refine wpC_bindA (wpAny_standAt ?_)
  have tail : ∀ {t : Sem Value}, wpC M A t Q E s₁ → wpC M A (t >>= fun r => holding [r] point >>= fun _ => pure r) Q E s₁ :=
    fun ht => wpC_bind (wpC_mono ht (fun r s₂ hr => wpC_of_any (wpAny_bind (wpAny_holding (wpAny_point (wpAny_pure hr))))) fun _ _ x => x)
  simp only [hplain, List.any_nil, Bool.or_false, List.nil_append]
  refine wpC_bindA (m := keeperOf (.ref a)) ?_
  unfold keeperOf
  refine wpAny_bind (wpAny_load h₁.1.1 ?_)
  rw [h₁.1.2]
  refine wpAny_pure ?_
  dsimp only
  split
  · exact tail h₁.2
  · exact tail (by unfold callMarked; exact wpC_keep h₁.2)
end

section
variable {prog : Program} {w : World} {A : Around} {E : Value → Shared → Prop} {s : Shared} {R : Result → Shared → Prop}
theorem codeC_func {body : List Stmt} {env : Env}
    (h : wpC (model prog w) (A.deeper env) (execs body env) (fun f s' => R (.ok (.ret (match f with | .ret v => v | _ => .none))) s')
      (fun e s' => wpAny (model prog w) (A.deeper env) («leaving» env e) (fun _ s'' => R (.error e) s'') (fun e' s'' => R (.error e') s'') s') s) : codeC (model prog w) A (.func body env) R s := by
  refine codeC_of_tree ?_
  show wpC _ (A.deeper env) (do point; match ← (execs body env).onRaise («leaving» env) with | .ret v => ret v | _ => ret .none) _ _ s
  refine wpC_bindA (wpAny_point (wpC_bind (wpC_onRaise (wpC_mono h (fun f s' h' => ?_) fun _ _ h' => wpC_of_any h'))))
  cases f <;> exact wpC_pure h'
theorem codeC_call_def {a : Addr} {o : Obj} {fd : FuncData} {body : List Stmt} {args : Args} {binds : List (Str × Value)}
    (hroom : A.depth < recursionLimit) (ho : s.heap.get? a = some o) (hdata : o.data = .func fd) (hlim : s.heap.NoLimit) (hcd : s.heap.CodeRec fd.code fd.qualname) (hbody : fd.body = .stmts body) (hbind : BindsTo s fd args binds)
    (hcell : ∀ x ∈ fd.scope.names, x.2 ≠ .cell) (hloc : ∀ x ∈ binds, fd.scope.names.lookup x.1 = some .local)
    (h : ∀ h₀, h₀.Ns s.heap.objs.size (fun x => binds.reverse.lookup x) → (∀ b o, s.heap.get? b = some o → h₀.get? b = some o) →
      wpC (model prog w) (A.deeper (callEnv fd s.heap.objs.size a)) (execs body (callEnv fd s.heap.objs.size a)) (fun f s' => R (.ok (.ret (match f with | .ret v => v | _ => .none))) s')
        (fun e s' => wpAny (model prog w) (A.deeper (callEnv fd s.heap.objs.size a)) («leaving» (callEnv fd s.heap.objs.size a) e) (fun _ s'' => R (.error e) s'') (fun e' s'' => R (.error e') s'') s')
        { s with heap := h₀, toks := s.toks + binds.length })
    (hco : fd.scope.isCoroutine = false) (hgen : fd.scope.isGenerator = false) (hk : fd.scope.kind = .function) : codeC (model prog w) A (.call (.ref a) args) R s := by
  refine codeC_of_tree (wpC_of_any ?_)
  show wpAny _ A.in1 (callAny (.ref a) args) _ _ s
  simp only [callAny]
  refine wpAny_bind (wpAny_load ho ?_)
  obtain ⟨c, oc, vs, tq, hc, hoc, hdc, hq⟩ := hcd
  simp only [hdata, callFunction, hco, hgen, hbody, hc]
  refine wpAny_bind (m := field (.ref c) 1) (wpAny_field hoc hdc hq (wpAny_bind (wpAny_pure ?_)))
  refine wpAny_bind (hbind _ _ _ _ ?_)
  refine wpAny_bind (wpAny_newFunctionEnv hcell hloc (fun h₀ hns₀ hsb₀ => ?_) hk)
  refine wpAny_bind (wpAny_enterFrame (hlim.fresh _ hsb₀) hroom (wpAny_pure ⟨rfl, ?_⟩))
  have := codeC_func (h h₀ hns₀ fun b o e => hsb₀.extBut b o (Nat.ne_of_lt (Heap.lt_size e)) (Heap.get?_push_of_some _ e))
  simp only [callEnv, hc] at this
  exact this
end
end Mine
end
-- WpC2
section
open PySem PySem.W PyProof.Rows PySem.Calls PySem.Spec
open Sem (wp)
namespace Mine
section
variable {prog : Program} {w : World} {A₀ A : Around} {s : Shared} {base h₀ : Heap} {outer : List Env} {L : Addr} {m : Str → Option Value} {env : Env} {news : List (Addr × Obj)} {K : Frag} {p : Program} {loose : List Str} {mean : ExcName → Option Value} {mg mb : Str → Option Value}
  {R : Result → Shared → Prop} {name qual : Str} {params : Arguments} {body : List Stmt} {scope : Scope} {dV kV doc pm cdv ct oc : Value} {an od : Option Addr} {osl : Array (Option Value)} {f : Addr} {args : Args} {binds : List (Str × Value)}
/-- code_def where the caller is known -/
theorem codeC_def (B : Below A₀ base outer h₀) (F : Fr h₀ L s.heap m) (X₀ : K.In h₀) (N : News h₀ L s.heap news) (T : Top p loose mean mg mb h₀) (hA : A.frames = some (env :: outer)) (hf : env.frame = some L) (hke : env.scope.kind = .function)
    (ho : K.lookup f = some ⟨oc, od, .func (fnOf name qual params body scope dV kV doc pm an cdv ct), osl⟩) (hcd : codeIn K cdv qual = true) (hroom : A.depth < recursionLimit)
    (hbind : BindsTo s (fnOf name qual params body scope dV kV doc pm an cdv ct) args binds) (hloc : ∀ y ∈ binds, scope.names.lookup y.1 = some .local)
    (h : ∀ g L' h₁, Fr h₀ L g m → Fr g L' h₁ (fun y => binds.reverse.lookup y) → News g L' h₁ news → Below A base (env :: outer) g → K.In g → Top p loose mean mg mb g →
      wpC (model prog w) (A.deeper (envOf qual scope L' f cdv)) (execs body (envOf qual scope L' f cdv))
        (fun fl s' => LeaveK h₀ L m g R (match fl with | .ret v => v | _ => .none) s')
        (fun e s' => wpAny (model prog w) (A.deeper (envOf qual scope L' f cdv)) («leaving» (envOf qual scope L' f cdv) e) (fun _ s'' => R (.error e) s'') (fun e' s'' => R (.error e') s'') s')
        { s with heap := h₁, toks := s.toks + binds.length })
    (hco : scope.isCoroutine = false) (hgen : scope.isGenerator = false) (hk : scope.kind = .function) (hcell : ∀ x ∈ scope.names, x.2 ≠ .cell) : codeC (model prog w) A (.call (.ref f) args) R s := by
  have X := X₀.keeps F.keep
  obtain ⟨FG, BG, st, lv⟩ := groundX (R := R) B F N hA hf hke
  refine codeC_call_def (fd := fnOf name qual params body scope dV kV doc pm an cdv ct) (body := body) (binds := binds) hroom (X _ _ ho) rfl (T.nolimit.keeps F.keep) (codeRec_of X hcd) rfl hbind hcell hloc (fun h₁ hns hk₁ => ?_) hco hgen hk
  exact wpC_mono (h _ s.heap.objs.size h₁ FG ⟨hns, fun b o e => hk₁ b o (of_hideAll _ e), Nat.le_of_eq (hideAll_size _ _)⟩
    (fun q hq => ⟨hk₁ _ _ (N q hq).1, Nat.ne_of_lt (Heap.lt_size (N q hq).1), hideAll_none _ (List.mem_map_of_mem hq)⟩) BG (X₀.keeps st) (T.keeps st)) (fun fl s' hl => lv _ _ hl) fun _ _ y => y
/-- code_top where the caller is known -/
theorem codeC_top (B : Below A₀ h₀ [] h₀) (F : Fr h₀ L s.heap m) (X₀ : K.In h₀) (N : News h₀ L s.heap news) (T : Top p loose mean mg mb h₀) (hA : A.frames = some [env]) (hf : env.frame = some L) (hke : env.scope.kind = .function)
    (ho : K.lookup f = some ⟨oc, od, .func (fnOf name qual params body scope dV kV doc pm an cdv ct), osl⟩) (hcd : codeIn K cdv qual = true) (hroom : A.depth < recursionLimit)
    (hbind : BindsTo s (fnOf name qual params body scope dV kV doc pm an cdv ct) args binds) (hloc : ∀ y ∈ binds, scope.names.lookup y.1 = some .local)
    (h : ∀ g L' h₁, Fr h₀ L g m → Fr g L' h₁ (fun y => binds.reverse.lookup y) → News g L' h₁ news → Below A h₀ [env] g → K.In g → Top p loose mean mg mb g → KtsDicts ([env].filterMap (·.frame)) g →
      wpC (model prog w) (A.deeper (envOf qual scope L' f cdv)) (execs body (envOf qual scope L' f cdv))
        (fun fl s' => LeaveS0 ([env].filterMap (·.frame)) h₀ L m g R (match fl with | .ret v => v | _ => .none) s')
        (fun e s' => wpAny (model prog w) (A.deeper (envOf qual scope L' f cdv)) («leaving» (envOf qual scope L' f cdv) e) (fun _ s'' => R (.error e) s'') (fun e' s'' => R (.error e') s'') s')
        { s with heap := h₁, toks := s.toks + binds.length })
    (hco : scope.isCoroutine = false) (hgen : scope.isGenerator = false) (hk : scope.kind = .function) (hcell : ∀ x ∈ scope.names, x.2 ≠ .cell) : codeC (model prog w) A (.call (.ref f) args) R s := by
  have X := X₀.keeps F.keep
  obtain ⟨FG, BG, st, -⟩ := groundX (R := R) B F N hA hf hke
  refine codeC_call_def (fd := fnOf name qual params body scope dV kV doc pm an cdv ct) (body := body) (binds := binds) hroom (X _ _ ho) rfl (T.nolimit.keeps F.keep) (codeRec_of X hcd) rfl hbind hcell hloc (fun h₁ hns hk₁ => ?_) hco hgen hk
  have hfs : [env].filterMap (·.frame) = [L] := by simp [hf]
  obtain ⟨oL, es, ep, hLg, hLd, hLk, hLf⟩ := FG.ns
  refine wpC_mono (h _ s.heap.objs.size h₁ FG ⟨hns, fun b o e => hk₁ b o (of_hideAll _ e), Nat.le_of_eq (hideAll_size _ _)⟩
    (fun q hq => ⟨hk₁ _ _ (N q hq).1, Nat.ne_of_lt (Heap.lt_size (N q hq).1), hideAll_none _ (List.mem_map_of_mem hq)⟩) BG (X₀.keeps st) (T.keeps st) (fun b hb => by
      rw [hfs, List.mem_singleton] at hb
      subst hb
      exact ⟨oL, es, ep, hLg, hLd⟩)) (fun fl s' hl => ?_) fun _ _ y => y
  obtain ⟨g', L', m', news', T', F', N', k⟩ := hl
  rw [hfs] at T'
  have nL₀ : h₀.get? L = none := kts_self F
  obtain ⟨sl, hs⟩ := T'.up hLg
  have up : ∀ b o, h₀.get? b = some o → g'.get? b = some o := fun b o e => T'.other b o (st b o e) (fun q => by
    rw [List.mem_singleton] at q
    rw [q, nL₀] at e
    cases e)
  refine k ⟨⟨_, es, ep, F'.keep _ _ hs, hLd, hLk, hLf⟩, fun b o e => F'.keep b o (up b o e), F.above⟩ fun q hq => ⟨(N' q hq).1, fun e => ?_, ?_⟩
  · have := (N' q hq).2.2
    rw [e, hs] at this
    cases this
  · cases e : h₀.get? q.1 with
    | none => rfl
    | some o =>
      have := (N' q hq).2.2
      rw [up _ _ e] at this
      cases this
/-- the outermost call, of a def with cells, where the caller is known -/
theorem codeC_cells {fo : Obj} {args : List Value} (hlim : s.heap.NoLimit) (ho : s.heap.get? f = some fo) (hd : fo.data = .func { docDef name params body scope pm cdv doc with defaults := dV, kwdefaults := kV }) (hcd : s.heap.CodeRec cdv name) (hroom : A.depth < recursionLimit)
    (hbind : BindsTo s { docDef name params body scope pm cdv doc with defaults := dV, kwdefaults := kV } ⟨args, []⟩ binds)
    (hkind : ∀ n, ∀ x ∈ binds, scope.names.lookup x.1 = some .local ∨ (scope.names.lookup x.1 = some .cell ∧ ((cellsFrom n scope.names []).lookup x.1).isSome = true))
    (hnd : ((cellsFrom 0 scope.names []).map (·.1)).Nodup)
    (h : ∀ h₁ tk cells, Fr s.heap s.heap.objs.size h₁ (bindL (envOfC name scope s.heap.objs.size f cdv).kindOf binds fun _ => none) → News s.heap s.heap.objs.size h₁ cells →
      CellsAre (bindC (envOfC name scope s.heap.objs.size f cdv).kindOf binds fun _ => none) (cellsFrom (s.heap.objs.size + 1) scope.names []) cells →
      wpC (model prog w) (A.deeper (envOfC name scope s.heap.objs.size f cdv)) (execs body (envOfC name scope s.heap.objs.size f cdv))
        (fun fl s' => R (.ok (.ret (match fl with | .ret v => v | _ => .none))) s')
        (fun e s' => wpAny (model prog w) (A.deeper (envOfC name scope s.heap.objs.size f cdv)) («leaving» (envOfC name scope s.heap.objs.size f cdv) e) (fun _ s'' => R (.error e) s'') (fun e' s'' => R (.error e') s'') s')
        { s with heap := h₁, toks := tk })
    (hco : scope.isCoroutine = false) (hgen : scope.isGenerator = false) (hk : scope.kind = .function) : codeC (model prog w) A (.call (.ref f) ⟨args, []⟩) R s := by
  refine codeC_of_tree (wpC_of_any ?_)
  show wpAny _ A.in1 (callAny (.ref f) ⟨args, []⟩) _ _ s
  simp only [callAny]
  refine wpAny_bind (wpAny_load ho ?_)
  obtain ⟨c, oc, vs, tq, hc, hoc, hdc, hq⟩ := hcd
  subst hc
  simp only [hd, docDef, callFunction, hco, hgen]
  refine wpAny_bind (m := field (.ref c) 1) (wpAny_field hoc hdc hq (wpAny_bind (wpAny_pure ?_)))
  refine wpAny_bind (hbind _ _ _ _ ?_)
  refine wpAny_bind (wpAny_newFunctionEnv_cells hk (hkind _) fun env' he s' x => ?_)
  subst he
  refine wpAny_bind (wpAny_enterFrame (hlim.keeps x.toInCall.keep) hroom (wpAny_pure ⟨rfl, codeC_func ?_⟩))
  obtain ⟨h₁, tk, rfl, _⟩ := x.done
  obtain ⟨cells, NC, Y⟩ := Cl.news (h₀ := s.heap) (Nat.le_refl _) fun n c hm => ⟨x.cell n c (lookup_of_mem_nodup (cellsFrom_names scope.names 0 (s.heap.objs.size + 1) [] [] rfl ▸ hnd) hm), x.above n c hm⟩
  exact h h₁ tk cells ⟨x.toInCall.ns, x.toInCall.keep, Nat.le_refl _⟩ NC Y
end
section
variable {prog : Program} {w : World} {A : Around} {E : Value → Shared → Prop} {s : Shared} {env : Env}
theorem wpC_attempt {α : Type} {M : Model} {m : Sem α} {Q : Except Value α → Shared → Prop} (h : wpC M A m (fun a => Q (.ok a)) (fun e => Q (.error e)) s) : wpC M A m.attempt Q E s := fun Γ p hΓ hc => by rw [Sem.wp_attempt]; exact h Γ p hΓ hc
theorem wpC_Try_except {M : Model} {body orelse : List Stmt} {h₀ : ExceptHandler} {hs : List ExceptHandler} {pos : Pos} {Q : Flow → Shared → Prop}
    (h : wpC M A (execs body env) (fun f s₁ => match f with | .next => wpAny M A (execs orelse env) Q E s₁ | f => Q f s₁)
      (fun e s₁ => wpAny M A (noteFrame e env) (fun _ s₂ => wpAny M A (setFlight e none) (fun _ s₃ => wpAny M A (handleBy e env (h₀ :: hs)) Q E s₃) E s₂) E s₁) s) :
    wpC M A (exec (.Try body (h₀ :: hs) orelse [] pos) env) Q E s := by
  rw [arm_exec_Try]
  refine wpC_bindA (wpAny_standAt ?_)
  unfold tryStmt
  simp only [List.isEmpty_nil, if_true, List.isEmpty_cons, Bool.false_and, Bool.false_eq_true, if_false]
  refine wpC_bind (wpC_attempt (wpC_mono h (fun f s₁ h₁ => ?_) fun e s₁ h₁ => ?_))
  · cases f <;> first | exact wpC_of_any h₁ | exact wpC_pure h₁
  · exact wpC_bindA (wpAny_mono h₁ (fun _ _ h₂ => wpC_bindA (wpAny_mono h₂ (fun _ _ h₃ => wpC_of_any h₃) fun _ _ x => x)) fun _ _ x => x)

theorem codeC_loop {M : Model} {c : Code} {R : Result → Shared → Prop} (hq : c.quiet = true) (I : Nat → Shared → Prop)
    (turn : ∀ n s, I n s → wpC M (A.under c) (M.den c)
      (fun fin s' => match fin with
        | .done f => R (.ok f) s'
        | .again c' => (c' = c ∧ ∃ m, m < n ∧ I m s') ∨ (c'.quiet = true ∧ codeC M A c' R s')) (fun e s' => R (.error e) s') s)
    (n : Nat) (h : I n s) : codeC M A c R s := by
  induction n using Nat.strongRecOn generalizing s with
  | ind n ih =>
    refine codeC_of_tree (wpC_mono (turn n s h) (fun fin s' hf => ?_) fun _ _ h' => h')
    cases fin with
    | done f => exact hf
    | again c' =>
      rcases hf with ⟨rfl, k, hk, hI⟩ | hf
      · exact ⟨hq, ih k hk hI⟩
      · exact hf
theorem codeC_forLoop {R : Result → Shared → Prop} {target it body env} (I : Nat → Shared → Prop)
    (turn : ∀ n s, I n s → wpAny (model prog w) A (pyNext it) (fun r s₁ => match r with
      | none => R (.ok .next) s₁
      | some v => wpAny (model prog w) A (assign target env v) (fun _ s₂ => wpC (model prog w) A (execs body env) (fun f s₃ => match f with
          | .next | .cont => ∃ m, m < n ∧ I m s₃
          | .brk => R (.ok .next) s₃
          | .ret v => R (.ok (.ret v)) s₃) (notedBy (model prog w) A env fun e s' => R (.error e) s') s₂) (notedBy (model prog w) A env fun e s' => R (.error e) s') s₁) (notedBy (model prog w) A env fun e s' => R (.error e) s') s)
    (n : Nat) (h : I n s) (ht : ∀ v, letOwnedTupleGo target it v = pure ()) : codeC (model prog w) A (.forLoop target it body [] env) R s := by
  refine codeC_loop rfl I (fun n s hI => ?_) n h
  show wpC _ A ((forTurn target it body [] env).onRaise (fun x => do noteFrame x env; theTreesLotGoes x)) _ _ s
  refine wpC_onRaise (wpC_mono (E := notedBy (model prog w) A env fun e s' => R (.error e) s') ?_ (fun _ _ q => q) fun _ _ hx => wpC_of_any (wpAny_bind (wpAny_mono hx (fun _ _ e => wpAny_theTreesLotGoes e) fun _ _ e => e)))
  simp only [forTurn]
  refine wpC_bindA (wpAny_standAt (wpC_bindA (wpAny_onRaise (wpAny_mono (turn n s hI) (fun r s₁ h₁ => ?_) fun _ _ h' => wpAny_standAt h'))))
  cases r with
  | none => exact wpC_pure (.inr ⟨rfl, codeC_of_any (codeAny_block (wpAny_execs_nil h₁))⟩)
  | some v =>
    refine wpC_bindA (wpAny_of_eq (ht v) ?_)
    refine wpC_bindA (wpAny_mono h₁ (fun _ s₂ h₂ => wpC_bind (wpC_mono h₂ (fun f s₃ h₃ => ?_) fun _ _ h' => h')) fun _ _ h' => h')
    cases f with
    | next => exact wpC_pure (.inl ⟨rfl, h₃⟩)
    | cont => exact wpC_pure (.inl ⟨rfl, h₃⟩)
    | brk => exact wpC_pure h₃
    | ret v => exact wpC_pure h₃
theorem wpC_runOwn {M : Model} {c : Code} {Q : Flow → Shared → Prop} (hc : codeC M A c (fun r s' => match r with | .ok f => Q f s' | .error e => cameBackBy M A env E e s') s) : wpC M A (runOwn c env) Q E s := by
  unfold runOwn
  refine wpC_onRaise (k := fun x => _) ?_
  intro Γ p hΓ hC
  rw [Sem.wp_run]
  refine wpCode_mono (fun r s' hr => ?_) (hc _ p rfl (hΓ.enter c none p (by intro x; cases x)) (hasB_enter hC c none p))
  cases r with
  | ok f => exact hr
  | error e => exact wpC_of_any hr
theorem wpC_For {M : Model} {target iter body orelse pos} {Q : Flow → Shared → Prop}
    (h : wpAny M A (eval iter env) (fun x s₁ => wpAny M A (pyIter x) (fun it s₂ =>
      codeC M A (.forLoop target it body orelse env) (fun r s' => match r with | .ok f => Q f s' | .error e => cameBackBy M A env E e s') s₂) E s₁) E s)
    (hs : ∀ x, foldedSetIterable iter env x = pure x) : wpC M A (exec (.For target iter body orelse pos) env) Q E s := by
  rw [exec_For]
  exact wpC_bindA (wpAny_standAt (wpC_bindA (wpAny_mono h (fun x s₁ h₁ => wpC_bindA (wpAny_of_eq (hs x) (wpC_bindA (wpAny_standAt (wpC_bindA (wpAny_holding
    (wpAny_mono h₁ (fun it s₂ h₂ => wpC_runOwn h₂) fun _ _ h' => h'))))))) fun _ _ h' => h')))

/-- a for over a made list, turn by turn: what stands of the frame but the loop's own name, and of the ledger -/
theorem wpC_For_list {h₀ : Heap} {m : Str → Option Value} {news : List (Addr × Obj)} {x : Str} {pt : Pos} {iter : Expr} {body : List Stmt} {pos : Pos} {D : Addr} {vs : List Value} {n0 : Nat} {Q : Flow → Shared → Prop} (hh : A.handled = none)
    (J : Nat → Prop) (hJ : J 0)
    (hx : env.kindOf x = some .local) (hp : (env.scope.kind == .class || (env.scope.kind == .module && env.locals != env.globals)) = false)
    (hs : ∀ x, foldedSetIterable iter env x = pure x) (ht : ∀ it v, letOwnedTupleGo (.Name x pt) it v = pure ())
    (h : wpAny (model prog w) A (eval iter env) (fun v s₁ => v = .ref D ∧ Fr h₀ env.locals s₁.heap m ∧ News h₀ env.locals s₁.heap news ∧ (D, listOf vs.toArray n0) ∈ news ∧ s₁.gens = s.gens ∧ s₁.drawn = s.drawn ∧ s₁.os = s.os) E s)
    (step : ∀ i v h' tk it o E', vs[i]? = some v → J i → (∀ p ∈ news, p.1 ≠ it) → Fr h₀ env.locals h' (fun y => if y = x then some v else m y) → News h₀ env.locals h' ((it, o) :: news) →
      wpC (model prog w) A (execs body env) (fun f s₃ => (f = .next ∨ f = .cont) ∧ J (i + 1) ∧ ∃ h₃ tk₃ v', s₃ = { s with heap := h₃, toks := tk₃ } ∧ Fr h₀ env.locals h₃ (fun y => if y = x then some v' else m y) ∧ News h₀ env.locals h₃ ((it, o) :: news)) E' { s with heap := h', toks := tk })
    (done : ∀ h' tk ov, J vs.length → Fr h₀ env.locals h' (fun y => if y = x then ov else m y) → News h₀ env.locals h' news → Q .next { s with heap := h', toks := tk }) :
    wpC (model prog w) A (exec (.For (.Name x pt) iter body [] pos) env) Q E s := by
  have hflip : ∀ {ov ov' : Option Value}, (fun y => if y = x then ov' else (fun y => if y = x then ov else m y) y) = (fun y => if y = x then ov' else m y) := by
    intro ov ov'
    funext y
    by_cases h : y = x
    · simp [h]
    · simp [h]
  refine wpC_For (wpAny_mono h (fun v s₁ h₁ => ?_) fun _ _ e => e) hs
  obtain ⟨rfl, F, N, hm, hg, hd, ho⟩ := h₁
  obtain ⟨hp₁, g₁, d₁, t₁, o₁⟩ := s₁
  simp only at hg hd ho F N
  subst hg hd ho
  have hl := N.isList hm
  refine wpAny_pyIter_list hl ?_
  have itN : ∀ p ∈ news, p.1 ≠ hp₁.objs.size := fun p hp => Nat.ne_of_lt (Heap.lt_size (N p hp).1)
  have it0 : h₀.get? hp₁.objs.size = none := by
    cases q : h₀.get? hp₁.objs.size with
    | none => rfl
    | some o => exact absurd (Heap.lt_size (F.keep _ _ q)) (Nat.lt_irrefl _)
  have itL : hp₁.objs.size ≠ env.locals := by
    obtain ⟨oL, _, _, hL, _⟩ := F.ns
    exact Nat.ne_of_gt (Heap.lt_size hL)
  generalize hit : hp₁.objs.size = it at *
  refine codeC_forLoop (fun k s' => ∃ h' tk i o ov, s' = { s with heap := h', toks := tk } ∧ k = vs.length - i ∧ i ≤ vs.length ∧ J i ∧ h'.IsListIter it D i ∧ Fr h₀ env.locals h' (fun y => if y = x then ov else m y) ∧ News h₀ env.locals h' ((it, o) :: news)) ?_ vs.length
    ⟨_, _, 0, { cls := .type "list_iterator", data := .fields #[.ref D, .int 0 0] }, m x, rfl, rfl, Nat.zero_le _, hJ, ?i1, ?i2, ?i3⟩ (ht _)
  case i1 => exact ⟨_, by rw [← hit]; exact Heap.get?_push_size _ rfl, rfl, rfl⟩
  case i2 =>
    have e : (fun y => if y = x then m x else m y) = m := by
      funext y
      by_cases h : y = x
      · simp [h]
      · simp [h]
    rw [e]
    exact F.push _
  case i3 => rw [← hit]; exact News.push F N _
  rintro k s' ⟨h', tk, i, o, ov, rfl, rfl, hi, hJi, hli, F', N'⟩
  have hl' : h'.IsList D vs.toArray := N'.isList (.tail _ hm)
  have frame : ∀ {h'' : Heap} {o'' : Obj}, (∀ b, b ≠ it → h''.get? b = h'.get? b) → h''.get? it = some o'' → Fr h₀ env.locals h'' (fun y => if y = x then ov else m y) ∧ News h₀ env.locals h'' ((it, o'') :: news) := by
    intro h'' o'' hb hb'
    refine ⟨⟨F'.ns.at' fun o q => (hb _ (Ne.symm itL)).trans q, fun b o q => (hb b (fun e => by rw [e, it0] at q; cases q)).trans (F'.keep b o q), F'.above⟩, fun p hp => ?_⟩
    rcases List.mem_cons.mp hp with rfl | hp
    · exact ⟨hb', itL, it0⟩
    · have := N' p (.tail _ hp)
      exact ⟨(hb _ (itN p hp)).trans this.1, this.2⟩
  cases hv : vs[i]? with
  | none =>
    have hsz : i = vs.length := Nat.le_antisymm hi (by simpa using hv)
    refine wpAny_pyNext_list_end (items := vs.toArray) hh hli hl' (by simpa using hv) fun h'' hx'' => ?_
    refine done h'' _ ov (hsz ▸ hJi) ⟨F'.ns.at' fun o q => hx'' _ _ (Ne.symm itL) q, fun b o q => hx'' _ _ (fun e => by rw [e, it0] at q; cases q) (F'.keep b o q), F'.above⟩ fun p hp => ?_
    have := N' p (.tail _ hp)
    exact ⟨hx'' _ _ (itN p hp) this.1, this.2⟩
  | some v =>
    have hlt : i < vs.length := (List.getElem?_eq_some_iff.mp hv).1
    refine wpAny_pyNext_list_item (items := vs.toArray) hli hl' (by simpa using hv) fun h'' hli' hsb => ?_
    obtain ⟨o'', ho'', hc'', hd''⟩ := id hli'
    obtain ⟨F₂, N₂⟩ := frame hsb.2 ho''
    refine wpAny_assign_Name (wpAny_storeName_local hx F₂.ns (fun h₃ hn hs₃ => ?_) hp)
    have F₃ := F₂.set hn hs₃
    rw [hflip] at F₃
    have N₃ := N₂.set hs₃
    refine wpC_mono (step i v h₃ _ it o'' _ hv hJi itN F₃ N₃) (fun f s₃ hf => ?_) fun _ _ e => e
    obtain ⟨hf, hJ', h₄, tk₄, v', rfl, F₄, N₄⟩ := hf
    have hli₄ : h₄.IsListIter it D (i + 1) := ⟨o'', (N₄ _ (.head _)).1, hc'', hd''⟩
    rcases hf with rfl | rfl
    · exact ⟨vs.length - (i + 1), by omega, h₄, tk₄, i + 1, o'', some v', rfl, rfl, by omega, hJ', hli₄, F₄, N₄⟩
    · exact ⟨vs.length - (i + 1), by omega, h₄, tk₄, i + 1, o'', some v', rfl, rfl, by omega, hJ', hli₄, F₄, N₄⟩
end
end Mine
end
-- Tp
section
open PySem PySem.W PyProof.Rows
namespace Mine
/-- the program's statements by number -/
def nth : List Stmt → Nat → Stmt
  | [], _ => default
  | a :: _, 0 => a
  | _ :: r, n + 1 => nth r n
def st0 : Stmt := nth PySem.Challenge.pw_iw0004_01.main.body 0
def st1 : Stmt := nth PySem.Challenge.pw_iw0004_01.main.body 1
def st2 : Stmt := nth PySem.Challenge.pw_iw0004_01.main.body 2
def st3 : Stmt := nth PySem.Challenge.pw_iw0004_01.main.body 3
def st4 : Stmt := nth PySem.Challenge.pw_iw0004_01.main.body 4
def st5 : Stmt := nth PySem.Challenge.pw_iw0004_01.main.body 5
def st6 : Stmt := nth PySem.Challenge.pw_iw0004_01.main.body 6
def st7 : Stmt := nth PySem.Challenge.pw_iw0004_01.main.body 7
def st8 : Stmt := nth PySem.Challenge.pw_iw0004_01.main.body 8
def st9 : Stmt := nth PySem.Challenge.pw_iw0004_01.main.body 9
def st10 : Stmt := nth PySem.Challenge.pw_iw0004_01.main.body 10
def st11 : Stmt := nth PySem.Challenge.pw_iw0004_01.main.body 11
def st12 : Stmt := nth PySem.Challenge.pw_iw0004_01.main.body 12
def st13 : Stmt := nth PySem.Challenge.pw_iw0004_01.main.body 13
def st14 : Stmt := nth PySem.Challenge.pw_iw0004_01.main.body 14
def st15 : Stmt := nth PySem.Challenge.pw_iw0004_01.main.body 15
def st16 : Stmt := nth PySem.Challenge.pw_iw0004_01.main.body 16
def st17 : Stmt := nth PySem.Challenge.pw_iw0004_01.main.body 17
def st18 : Stmt := nth PySem.Challenge.pw_iw0004_01.main.body 18
def st19 : Stmt := nth PySem.Challenge.pw_iw0004_01.main.body 19
def st20 : Stmt := nth PySem.Challenge.pw_iw0004_01.main.body 20
def st21 : Stmt := nth PySem.Challenge.pw_iw0004_01.main.body 21
def st22 : Stmt := nth PySem.Challenge.pw_iw0004_01.main.body 22
def st23 : Stmt := nth PySem.Challenge.pw_iw0004_01.main.body 23
def st24 : Stmt := nth PySem.Challenge.pw_iw0004_01.main.body 24
def st25 : Stmt := nth PySem.Challenge.pw_iw0004_01.main.body 25
def st26 : Stmt := nth PySem.Challenge.pw_iw0004_01.main.body 26
def st27 : Stmt := nth PySem.Challenge.pw_iw0004_01.main.body 27
/-- the program, its statements by name -/
def pw2 : Program := { PySem.Challenge.pw_iw0004_01 with main := { PySem.Challenge.pw_iw0004_01.main with body := [st0, st1, st2, st3, st4, st5, st6, st7, st8, st9, st10, st11, st12, st13, st14, st15, st16, st17, st18, st19, st20, st21, st22, st23, st24, st25, st26, st27] } }
/-- the row over it -/
def rw2 : OpenLaw := { PySem.Challenge.rw_iw0004_01 with prog := pw2 }
theorem pw2_eq : pw2 = PySem.Challenge.pw_iw0004_01 := rfl
theorem rw2_eq : rw2 = PySem.Challenge.rw_iw0004_01 := rfl
set_option maxRecDepth 100000 in
set_option maxHeartbeats 8000000 in
open_shared top for Mine.pw2 leaving 0
/-- the addresses that the walk reads -/
def adr : List Nat := [nat_lit 2, nat_lit 3, nat_lit 15, nat_lit 17, nat_lit 18, nat_lit 20, nat_lit 21, nat_lit 22, nat_lit 24, nat_lit 25, nat_lit 27, nat_lit 28, nat_lit 29, nat_lit 31, nat_lit 32, nat_lit 34, nat_lit 35, nat_lit 36, nat_lit 37, nat_lit 39, nat_lit 40, nat_lit 42, nat_lit 43, nat_lit 44, nat_lit 45, nat_lit 47, nat_lit 48, nat_lit 50, nat_lit 51, nat_lit 52, nat_lit 53, nat_lit 55, nat_lit 56, nat_lit 58, nat_lit 59, nat_lit 60, nat_lit 61, nat_lit 63, nat_lit 64, nat_lit 66, nat_lit 67, nat_lit 68, nat_lit 69, nat_lit 71, nat_lit 72, nat_lit 74, nat_lit 75, nat_lit 76, nat_lit 77, nat_lit 79, nat_lit 80, nat_lit 82, nat_lit 83, nat_lit 84, nat_lit 85, nat_lit 87, nat_lit 88, nat_lit 90, nat_lit 91, nat_lit 92, nat_lit 93, nat_lit 95, nat_lit 96, nat_lit 98, nat_lit 99, nat_lit 100, nat_lit 101, nat_lit 103, nat_lit 104, nat_lit 106, nat_lit 107, nat_lit 108, nat_lit 110, nat_lit 111, nat_lit 113, nat_lit 114, nat_lit 115, nat_lit 117, nat_lit 118, nat_lit 120, nat_lit 121, nat_lit 122, nat_lit 124, nat_lit 125, nat_lit 127, nat_lit 128, nat_lit 129, nat_lit 131, nat_lit 132, nat_lit 134, nat_lit 135, nat_lit 136, nat_lit 138, nat_lit 139, nat_lit 141, nat_lit 142, nat_lit 143, nat_lit 145, nat_lit 146, nat_lit 148, nat_lit 149, nat_lit 150, nat_lit 152, nat_lit 153, nat_lit 155, nat_lit 156, nat_lit 157, nat_lit 159, nat_lit 160, nat_lit 162, nat_lit 163, nat_lit 164, nat_lit 167, nat_lit 168]
end Mine
end
-- HeadC
section
open PySem PySem.W PyProof.Rows PySem.Calls PySem.Spec
open Sem (wp)
namespace Mine
/-- a tree that is run under the claim's caller alone -/
def guardT {α : Type} (t : Sem α) (b : α) : Sem α := do
  let st ← stack
  if (st.any fun x => x.1.isCaller) = true then t else pure b
theorem guard_wp {α : Type} {M : Model} {A : Around} {t : Sem α} {b : α} {Q : α → Shared → Prop} {E : Value → Shared → Prop} {s : Shared} (h : wpC M A t Q E s) (hb : Q b s) : wpAny M A (guardT t b) Q E s := fun Γ p hΓ => by
  show wp M Γ (if (((Γ.code, p) :: Γ.below).any fun x => x.1.isCaller) = true then t else pure b) _ _ p s
  by_cases hc : (((Γ.code, p) :: Γ.below).any fun x => x.1.isCaller) = true
  · rw [if_pos hc]
    rw [List.any_cons, Bool.or_eq_true] at hc
    exact h Γ p hΓ hc
  · rw [if_neg hc]
    exact hb
theorem guard_of {α β : Type} {M : Model} {A : Around} {t : Sem α} {b : α} {t' : Sem β} {b' : β} {Q : α → Shared → Prop} {Q' : β → Shared → Prop} {E : Value → Shared → Prop} {s : Shared} (h : wpAny M A (guardT t b) Q E s)
    (hb : Q b s → Q' b' s) (ht : ∀ Γ p, wp M Γ t (fun a _ s' => Q a s') (fun e _ s' => E e s') p s → wp M Γ t' (fun a _ s' => Q' a s') (fun e _ s' => E e s') p s) : wpAny M A (guardT t' b') Q' E s := fun Γ p hΓ => by
  have h' : wp M Γ (if (((Γ.code, p) :: Γ.below).any fun x => x.1.isCaller) = true then t else pure b) (fun a _ s' => Q a s') (fun e _ s' => E e s') p s := h Γ p hΓ
  show wp M Γ (if (((Γ.code, p) :: Γ.below).any fun x => x.1.isCaller) = true then t' else pure b') _ _ p s
  by_cases hc : (((Γ.code, p) :: Γ.below).any fun x => x.1.isCaller) = true
  · rw [if_pos hc] at h' ⊢
    exact ht Γ p h'
  · rw [if_neg hc] at h' ⊢
    exact hb h'

theorem sched_guard {prog : Program} {w : World} {t : Sem Fin} {b : Fin} {s s' : Shared} {n : Nat} {o : Outcome} (hz : s.asleep)
    (h : schedN (denote table) prog w n (.single s ⟨guardT t b, .builtin "claim.caller" {}, default, []⟩) = .halted o s') :
    ∃ k, schedN (denote table) prog w k (.single s ⟨t, .builtin "claim.caller" {}, default, []⟩) = .halted o s' := by
  cases n with
  | zero => simp [schedN] at h
  | succ k =>
    refine ⟨k, ?_⟩
    have e : step (denote table) prog w s ⟨guardT t b, .builtin "claim.caller" {}, default, []⟩ = .go s ⟨t, .builtin "claim.caller" {}, default, []⟩ := by
      obtain ⟨heap, gens, drawn, toks, os⟩ := s
      rfl
    have q := sstep_single (den := denote table) prog w s ⟨guardT t b, .builtin "claim.caller" {}, default, []⟩ rfl hz
    rw [e] at q
    simp only [schedN] at h
    rcases q with q | q
    · rw [q] at h
      exact h
    · cases q

abbrev WalkOC (q : Program) (loose : List Str) (XP : (Str → Option Value) → Heap → Prop) (YP : World → Heap → Prop) (r : RowW) (d : DefRec) (kwd : List (Str × Expr)) (run : Value → List Value → Sem Value) : Prop :=
  ∀ (w : World) (s₀ s₁ : Shared) (mg mb : Str → Option Value), Ground q loose r.records XP w s₀ mg mb s₁.heap → YP w s₁.heap → ∀ (a : Addr) (o : Obj) (pm cd doc dV kV : Value), s₁.heap.get? a = some o →
    o.data = .func { docDef d.name d.params d.body d.scope pm cd doc with defaults := dV, kwdefaults := kV } → s₁.heap.CodeRec cd d.name → Dflts mg s₁.heap d.params kwd dV kV → mg d.name = some (.ref a) → s₁.gens = #[] →
    ∀ (args : List WData) (vals : List Value) (as : List Addr), r.claim.pre args = true → WData.layableAll args = true → ReadsAllW r.records (classAt s₀.heap) s₁.heap vals args as → WellAll w.params s₁.heap vals args → (∀ a ∈ as, (a == sysModules) = false) →
      wpC (model r.prog w) callerA (run (.ref a) vals) (fun v s' => GoodWG r.claim (classAt s₀.heap) (ExcName.means s₀.heap) args s₁ (.ok (.ret v)) s')
        (fun e s' => GoodWG r.claim (classAt s₀.heap) (ExcName.means s₀.heap) args s₁ (.error e) s') s₁ ∧ GoodWG r.claim (classAt s₀.heap) (ExcName.means s₀.heap) args s₁ (.ok (.ret (.bool true))) s₁

/-- the head, under the claim's caller -/
theorem PySem.W.holds_open {r : OpenRow} {q : Program} {loose : List Str} {Xt : Shared → Bool} {XP : (Str → Option Value) → Heap → Prop} {Yf : Shared → List (Option Obj)} {Ya : World → List (Option Obj)} {YP : World → Heap → Prop} {d : DefRec} {kwd : List (Str × Expr)} {N : Nat}
    (left : LeftO r.prog q loose Xt (fun s => adr.map s.heap.get?) (fun w => adr.map fun a => (top.tree_163 w.params).get a) N) (hY : ∀ w s, Yf s = Ya w → YP w s.heap) (hYk : ∀ w h h', YP w h → (∀ b o, h.get? b = some o → h'.get? b = some o) → YP w h')
    (hX : ∀ s, Xt s = true → XP (s.heap.nsMap mainGlobals) s.heap) (hXk : ∀ mg h h', XP mg h → (∀ b o, h.get? b = some o → h'.get? b = some o) → XP mg h')
    (hdef : defOf q r.name = some (d, kwd)) (hp : r.prog.theDef r.name = some (d.params, d.body, d.scope)) (hk : kwWritten? d.params.kwonlyargs d.params.kw_defaults = some kwd) (hRf : ∀ s, Xt s = true → RecFacts r.records s.heap) (hwr : (!r.writes || r.records.isEmpty) = true)
    (k1 : r.wellSaid = true) (ok : (chainsOk q && opensWell r.prog && (frees r.toRowW && r.within.isEmpty)) = true) (hb : r.prog.bare) (hw : r.toRowW.promised)
    (call : WalkOC q loose XP YP r.toRowW d kwd fun f vs => PySem.call f vs)
    (hf : Yf = fun s => adr.map s.heap.get? := by rfl) (ha : Ya = fun w => adr.map fun a => (top.tree_163 w.params).get a := by kernel_rfl) : r.Holds := by
  have H := open_anyG (r := r.toRowW) (writes := r.writes) (kps := r.keeps) (defs := if r.pinned then [r.name] else []) (run := fun f vs => guardT (PySem.call f vs) (.bool true)) (tree := fun vs => guardT (do match ← nsGet mainNs r.name with
      | some f => do ret (← PySem.call f vs)
      | none => unsupported "claim.caller:no-such-global") (.done (.ret (.bool true)))) left (fun w s e => hY w s ((congrFun hf s).trans (e.trans (congrFun ha w).symm))) hYk hX hXk hRf hwr ok hb hw
    (fun vs w s mg f Q E hg hf h => guard_of h id fun Γ p h' => ?ht)
    (fun w s hg G n hn => ?pin) fun w s₀ s₁ mg mb G Y args vs as hpre hlay L low => ?call
  case call =>
    obtain ⟨a, o, pm, cd, doc, dV, kV, h1, h2, h3, h4, h5⟩ := G.fn hdef
    have z := call w s₀ s₁ mg mb G Y a o pm cd doc dV kV h2 h3 h4 h5 (defOf_name hdef ▸ h1) L.gens args vs as hpre hlay L.reads L.well (L.low low)
    exact ⟨.ref a, h1, guard_wp z.1 z.2⟩
  case ht =>
    rw [Sem.wp_bind']
    refine (Sem.wp_nsGet (model r.prog w) Γ _ p s (a := mainGlobals) hg r.name _).mpr ?_
    rw [hf]
    dsimp only
    rw [Sem.wp_bind']
    exact Sem.wp_mono _ Γ _ (fun _ _ _ x => x) (fun _ _ _ x => x) p s h'
  case pin =>
    obtain rfl : n = r.name := by split at hn <;> simp_all
    exact pinned_of_view hg G hdef hp hk
  refine ⟨k1, hw, H.1, H.2.1, fun w => ⟨(H.2.2 w).1, fun s hs => ?_⟩⟩
  obtain ⟨s₀, hf, hg, s₁, hT, h1, h2, h3, hc⟩ := (H.2.2 w).2 s hs
  refine ⟨s₀, hf, hg, s₁, hT, h1, h2, h3, fun args hpre hlay ord hord => ?_⟩
  obtain ⟨vs, s₂, hl, n, o, s', hn, rest⟩ := hc args hpre hlay ord hord
  have z₀ : s₀.asleep := Shared.asleep_of_life (fence_lifeW hf) (AfterImport.life hs)
  have z₁ : s₁.asleep := Shared.asleep_of_life hT.2.1 z₀
  have z₂ : s₂.asleep := Shared.asleep_of_life (layAllW_rest _ _ _ hl).2.2.2 z₁
  obtain ⟨k, hk'⟩ := sched_guard z₂ hn
  exact ⟨vs, s₂, hl, k, o, s', hk', rest⟩
end Mine
end
-- HdC
section
open PySem PySem.W PyProof.Rows
namespace Mine
set_option maxRecDepth 100000 in
set_option maxHeartbeats 8000000 in
open_top hd for Mine.rw2
end Mine
end
local macro_rules | `(tactic| k_room) => `(tactic| ktr_room)
theorem Mine.calm : True := by
  w_top off
  trivial
-- Lib1
section
open PySem PySem.W PyProof.Rows PySem.Calls PySem.Spec
namespace Mine
theorem fill : (PySem.Challenge.rw_iw0004_01 = PySem.Challenge.rw_iw0004_01) ∧ (hd.heap_39 = hd.heap_39) := by
  k_fill
  exact ⟨rfl, rfl⟩

section
variable {prog : Program} {w : World} {A₀ A : Around} {s : Shared} {h₀ : Heap} {L : Addr} {m : Str → Option Value} {env : Env} {news : List (Addr × Obj)} {K : Frag} {p : Program} {loose : List Str} {mean : ExcName → Option Value} {mg mb : Str → Option Value}
  {R : Result → Shared → Prop} {name qual : Str} {params : Arguments} {body : List Stmt} {scope : Scope} {dV kV doc pm cdv ct oc : Value} {an od : Option Addr} {osl : Array (Option Value)} {f : Addr} {args : Args} {binds : List (Str × Value)}

/-- a def is entered from the outermost frame of the run, whatever that frame's cells: behind it an exception may be caught -/
theorem code_top (B : Below A₀ h₀ [] h₀) (F : Fr h₀ L s.heap m) (X₀ : K.In h₀) (N : News h₀ L s.heap news) (T : Top p loose mean mg mb h₀) (hA : A.frames = some [env]) (hf : env.frame = some L) (hke : env.scope.kind = .function)
    (ho : K.lookup f = some ⟨oc, od, .func (fnOf name qual params body scope dV kV doc pm an cdv ct), osl⟩) (hcd : codeIn K cdv qual = true) (hroom : A.depth < recursionLimit)
    (hbind : BindsTo s (fnOf name qual params body scope dV kV doc pm an cdv ct) args binds) (hloc : ∀ y ∈ binds, scope.names.lookup y.1 = some .local)
    (h : ∀ g L' h₁, Fr h₀ L g m → Fr g L' h₁ (fun y => binds.reverse.lookup y) → News g L' h₁ news → Below A h₀ [env] g → K.In g → Top p loose mean mg mb g → KtsDicts ([env].filterMap (·.frame)) g →
      wpAny (model prog w) (A.deeper (envOf qual scope L' f cdv)) (execs body (envOf qual scope L' f cdv))
        (fun fl s' => LeaveS0 ([env].filterMap (·.frame)) h₀ L m g R (match fl with | .ret v => v | _ => .none) s')
        (fun e s' => wpAny (model prog w) (A.deeper (envOf qual scope L' f cdv)) («leaving» (envOf qual scope L' f cdv) e) (fun _ s'' => R (.error e) s'') (fun e' s'' => R (.error e') s'') s')
        { s with heap := h₁, toks := s.toks + binds.length })
    (hco : scope.isCoroutine = false) (hgen : scope.isGenerator = false) (hk : scope.kind = .function)
    (hcell : ∀ x ∈ scope.names, x.2 ≠ .cell) : codeAny (model prog w) A (.call (.ref f) args) R s := by
  have X := X₀.keeps F.keep
  obtain ⟨FG, BG, st, -⟩ := groundX (R := R) B F N hA hf hke
  refine codeAny_call_def (fd := fnOf name qual params body scope dV kV doc pm an cdv ct) (body := body) (binds := binds) hroom (X _ _ ho) rfl (T.nolimit.keeps F.keep) (codeRec_of X hcd) rfl hbind hcell hloc (fun h₁ hns hk₁ => ?_) hco hgen hk
  have hfs : [env].filterMap (·.frame) = [L] := by simp [hf]
  obtain ⟨oL, es, ep, hLg, hLd, hLk, hLf⟩ := FG.ns
  refine wpAny_mono (h _ s.heap.objs.size h₁ FG ⟨hns, fun b o e => hk₁ b o (of_hideAll _ e), Nat.le_of_eq (hideAll_size _ _)⟩
    (fun q hq => ⟨hk₁ _ _ (N q hq).1, Nat.ne_of_lt (Heap.lt_size (N q hq).1), hideAll_none _ (List.mem_map_of_mem hq)⟩) BG (X₀.keeps st) (T.keeps st) (fun b hb => by
      rw [hfs, List.mem_singleton] at hb
      subst hb
      exact ⟨oL, es, ep, hLg, hLd⟩)) (fun fl s' hl => ?_) fun _ _ y => y
  obtain ⟨g', L', m', news', T', F', N', k⟩ := hl
  rw [hfs] at T'
  have nL₀ : h₀.get? L = none := kts_self F
  obtain ⟨sl, hs⟩ := T'.up hLg
  have up : ∀ b o, h₀.get? b = some o → g'.get? b = some o := fun b o e => T'.other b o (st b o e) (fun q => by
    rw [List.mem_singleton] at q
    rw [q, nL₀] at e
    cases e)
  refine k ⟨⟨_, es, ep, F'.keep _ _ hs, hLd, hLk, hLf⟩, fun b o e => F'.keep b o (up b o e), F.above⟩ fun q hq => ⟨(N' q hq).1, fun e => ?_, ?_⟩
  · have := (N' q hq).2.2
    rw [e, hs] at this
    cases this
  · cases e : h₀.get? q.1 with
    | none => rfl
    | some o =>
      have := (N' q hq).2.2
      rw [up _ _ e] at this
      cases this
end

section
variable {prog : Program} {w : World} {A : Around} {E : Value → Shared → Prop} {s : Shared} {h₀ : Heap} {L : Addr} {m : Str → Option Value} {news : List (Addr × Obj)}
/-- an exception as it is made: nothing of its flight in it -/
def ExcObj (X : String) (ob : Obj) : Prop := ob.cls = .type X ∧ ∃ t, ob.data = .fields #[t, .none, .none, .none, .bool false, .none]

/-- a built-in exception is made and kept -/
theorem exc_made {X N I : String} (hc : ExcClass X N I) {x : Value} {Q : Value → Shared → Prop} (F : Fr h₀ L s.heap m) (Nw : News h₀ L s.heap news)
    (h : ∀ h' e ob, ExcObj X ob → (∀ p ∈ news, p.1 ≠ e) → Fr h₀ L h' m → News h₀ L h' ((e, ob) :: news) → Q (.ref e) { s with heap := h' }) :
    wpAny (model prog w) A (call (.type X) [x]) Q E s := by
  refine call_exc hc (fun h' e y => ?_) (by show 1 ≤ sizeLine; rw [sizeLine_eq]; omega)
  obtain ⟨ob, t, he, hcls, hd⟩ := y.there
  have F' := F.grownK y.keeps
  refine h h' e ob ⟨hcls, t, hd⟩ (fun p hp q => ?_) F' (News.more F' (Nw.grown y.keeps) he (fun es n z => by rw [hd] at z; cases z) ?_)
  · have := (Nw p hp).1
    rw [q, y.new] at this
    cases this
  · cases q : h₀.get? e with
    | none => rfl
    | some o =>
      have := F.keep _ _ q
      rw [y.new] at this
      cases this

/-- an exception at hand is raised: it leaves the frame as one made just now -/
theorem raise_made {X N I : String} (hc : ExcClass X N I) {e : Addr} {ob : Obj} (hx : ExcObj X ob) (F : Fr h₀ L s.heap m) (Nw : News h₀ L s.heap ((e, ob) :: news)) (hn : ∀ p ∈ news, p.1 ≠ e)
    (hE : ∀ h, Heap.NewExc h s.heap e X → Fr h₀ L h m → News h₀ L h news → E (.ref e) s) : Raisable E (.ref e) s := by
  obtain ⟨hcls, t, hd⟩ := hx
  obtain ⟨he, hL, h0⟩ := Nw _ (.head _)
  have x : Heap.NewExc (s.heap.hide e) s.heap e X := ⟨fun b o q => Heap.of_hide q, Heap.hide_self _ _, ob, t, he, hcls, hd⟩
  refine raisable_of_new hc x (hE _ x ⟨F.ns.at' fun o q => ?_, fun b o q => ?_, F.above⟩ fun p hp => ⟨?_, (Nw p (.tail _ hp)).2⟩)
  · rw [Heap.hide_ne _ (Ne.symm hL)]; exact q
  · rw [Heap.hide_ne]
    · exact F.keep b o q
    · rintro rfl
      rw [h0] at q
      cases q
  · rw [Heap.hide_ne _ (hn p hp)]; exact (Nw p (.tail _ hp)).1

theorem part_le (x y : Str) : ∀ p ∈ Txt.split x y, p.length ≤ x.length := by
  have key : ∀ l : List Str, ∀ p ∈ l, p.length ≤ (Str.join y l).length := by
    intro l
    induction l with
    | nil => intro p hp; cases hp
    | cons a r ih =>
      intro p hp
      cases r with
      | nil => rw [List.mem_singleton] at hp; subst hp; exact Nat.le_refl _
      | cons b r =>
        show p.length ≤ (a ++ y ++ Str.join y (b :: r)).length
        rw [Str.length_append, Str.length_append]
        rcases List.mem_cons.mp hp with rfl | hp
        · omega
        · have := ih p hp
          omega
  intro p hp
  have := key _ p hp
  rwa [StrLaws.join_split] at this
/-- a text is cut: one part, two, three, or more -/
theorem split_ways {x y : Str} {t u : Tok} {Q : Value → Shared → Prop} (F : Fr h₀ L s.heap m) (Nw : News h₀ L s.heap news) (hy : y.length ≠ 0) (hx : x.length ≤ 100000)
    (h1 : ∀ D a ta h' k, Txt.split x y = [a] → a.length ≤ x.length → Fr h₀ L h' m → News h₀ L h' ((D, listOf #[.str a ta] 0) :: news) → (∀ p ∈ news, p.1 < D) → Q (.ref D) { s with heap := h', toks := k })
    (h2 : ∀ D a ta b tb h' k, Txt.split x y = [a, b] → a.length ≤ x.length → b.length ≤ x.length → Fr h₀ L h' m → News h₀ L h' ((D, listOf #[.str a ta, .str b tb] 0) :: news) → (∀ p ∈ news, p.1 < D) → Q (.ref D) { s with heap := h', toks := k })
    (h3 : ∀ D a ta b tb c tc h' k, Txt.split x y = [a, b, c] → a.length ≤ x.length → b.length ≤ x.length → c.length ≤ x.length → Fr h₀ L h' m → News h₀ L h' ((D, listOf #[.str a ta, .str b tb, .str c tc] 0) :: news) → (∀ p ∈ news, p.1 < D) → Q (.ref D) { s with heap := h', toks := k })
    (h4 : ∀ D (vs : List Value) h' k, 4 ≤ (Txt.split x y).length → 4 ≤ vs.length → vs.length ≤ 200000 → Fr h₀ L h' m → News h₀ L h' ((D, listOf vs.toArray 0) :: news) → (∀ p ∈ news, p.1 < D) → Q (.ref D) { s with heap := h', toks := k }) :
    wpAny (model prog w) A (call (.builtin "str.split") [.str x t, .str y u]) Q E s := by
  refine KSpl.split1 F Nw (by simpa using hy) (fun D l h' k e _ F' N' lt => ?_) (by rw [sizeLine_eq]; omega)
  have hlen : l.length = (Txt.split x y).length := by rw [← e, List.length_map]
  match l, e, hlen with
  | [], e, _ =>
    exfalso
    have : (Txt.split x y).length = 0 := by rw [← e]; rfl
    unfold Txt.split at this
    split at this
    · simp at this
    · split at this
      · simp at this
      · rw [length_partsBetween] at this
        omega
  | [(a, ta)], e, _ => exact h1 D a ta h' k e.symm (part_le x y _ (by rw [← e]; simp)) F' N' lt
  | [(a, ta), (b, tb)], e, _ => exact h2 D a ta b tb h' k e.symm (part_le x y _ (by rw [← e]; simp)) (part_le x y _ (by rw [← e]; simp)) F' N' lt
  | [(a, ta), (b, tb), (c, tc)], e, _ => exact h3 D a ta b tb c tc h' k e.symm (part_le x y _ (by rw [← e]; simp)) (part_le x y _ (by rw [← e]; simp)) (part_le x y _ (by rw [← e]; simp)) F' N' lt
  | p :: q :: r :: z :: l, e, hl =>
    have hv : (strValues (p :: q :: r :: z :: l)).length = (Txt.split x y).length := by rw [← hl]; simp [strValues]
    refine h4 D (strValues (p :: q :: r :: z :: l)) h' k (by rw [← hl]; simp) (by simp [strValues]) ?_ F' N' lt
    rw [hv]
    unfold Txt.split
    split
    · simp
    · split
      · simp
      · rw [length_partsBetween]
        have e1 := StrLaws.occ_length_le x y 0 x.length (x.length + 1)
        omega

theorem truthy_text {x : Str} {t : Tok} {Q : Bool → Shared → Prop} (hx : x.length ≤ 1000000000) (h0 : x.length = 0 → Q false { s with toks := s.toks + 1 + 1 }) (h1 : 1 ≤ x.length → Q true { s with toks := s.toks + 1 + 1 }) :
    wpAny (model prog w) A (truthy (.str x t)) Q E s := by
  refine P.truthy_str (by omega) ?_
  by_cases h : x.length = 0
  · have e : ((x.length : Int) != 0) = false := by simp [h]
    rw [e]; exact h0 h
  · have e : ((x.length : Int) != 0) = true := by simp [h]
    rw [e]; exact h1 (by omega)
theorem truthy_yes {x : Str} {t : Tok} {Q : Bool → Shared → Prop} (hx : x.length ≤ 1000000000) (hp : 1 ≤ x.length) (h1 : Q true { s with toks := s.toks + 1 + 1 }) :
    wpAny (model prog w) A (truthy (.str x t)) Q E s := truthy_text hx (fun h => by omega) fun _ => h1


/-- a text is cut: one part, two, or more -/
theorem split_ways2 {x y : Str} {t u : Tok} {Q : Value → Shared → Prop} (F : Fr h₀ L s.heap m) (Nw : News h₀ L s.heap news) (hy : y.length ≠ 0) (hx : x.length ≤ 100000)
    (h1 : ∀ D a ta h' k, Txt.split x y = [a] → a.length ≤ x.length → Fr h₀ L h' m → News h₀ L h' ((D, listOf #[.str a ta] 0) :: news) → (∀ p ∈ news, p.1 < D) → Q (.ref D) { s with heap := h', toks := k })
    (h2 : ∀ D a ta b tb h' k, Txt.split x y = [a, b] → a.length ≤ x.length → b.length ≤ x.length → Fr h₀ L h' m → News h₀ L h' ((D, listOf #[.str a ta, .str b tb] 0) :: news) → (∀ p ∈ news, p.1 < D) → Q (.ref D) { s with heap := h', toks := k })
    (h3 : ∀ D (vs : List Value) h' k, 3 ≤ (Txt.split x y).length → 3 ≤ vs.length → vs.length ≤ 200000 → Fr h₀ L h' m → News h₀ L h' ((D, listOf vs.toArray 0) :: news) → (∀ p ∈ news, p.1 < D) → Q (.ref D) { s with heap := h', toks := k }) :
    wpAny (model prog w) A (call (.builtin "str.split") [.str x t, .str y u]) Q E s :=
  split_ways F Nw hy hx h1 h2 (fun D a ta b tb c tc h' k e _ _ _ F' N' l => h3 D [.str a ta, .str b tb, .str c tc] h' k (by rw [e]; simp) (by simp) (by simp) F' N' l)
    (fun D vs h' k e l1 l2 F' N' l => h3 D vs h' k (by omega) (by omega) l2 F' N' l)

theorem len_vs {D : Addr} {vs : List Value} {n : Nat} {Q : Value → Shared → Prop} (Nw : News h₀ L s.heap news) (hm : (D, listOf vs.toArray n) ∈ news) (hz : vs.length ≤ 1000000) (h : ∀ t k, Q (.int vs.length t) { s with toks := k }) :
    wpAny (model prog w) A (call (.builtin "len") [.ref D]) Q E s :=
  len_list (Nw.isList hm) (by rw [List.size_toArray]; omega) (by rw [List.size_toArray]; exact h _ _)
end
theorem ieq_no {a b : Int} {P Q : Prop} (h : a ≠ b) (hq : Q) : if (a == b) = true then P else Q := by
  rw [if_neg (by simpa using h)]; exact hq
theorem ieq_yes {a b : Int} {P Q : Prop} (h : a = b) (hp : P) : if (a == b) = true then P else Q := by
  rw [if_pos (by simpa using h)]; exact hp
end Mine
end
-- Lib3
section
open PySem PySem.W PyProof.Rows PySem.Calls PySem.Spec
namespace Mine
/-- the surroundings of a call: the frames, no exception in hand -/
abbrev arO (dp un : Nat) (gd : Option (List Code)) (env : Env) (outer : List Env) : Around := { handled := none, depth := dp, frames := some (env :: outer), guards := gd, units := un }

/-- a call of the def at f comes back, wherever it is made: with a value and new objects, of which Ret speaks -/
abbrev AskN (w : World) (f : Addr) (args : List Value) (news : List (Addr × Obj)) (Ret : Value → List (Addr × Obj) → Prop) : Prop :=
  ∀ {p : Program} {loose : List Str} {mean : ExcName → Option Value} {mg mb : Str → Option Value} {A₀ : Around} {dp un : Nat} {gd : Option (List Code)} {base h₀ : Heap} {L : Addr} {m : Str → Option Value} {s : Shared} {env : Env} {outer : List Env} {Q E : Value → Shared → Prop},
    Below A₀ base outer h₀ → Fr h₀ L s.heap m → (hd.heap_39 w.params).In h₀ → News h₀ L s.heap news → Top p loose mean mg mb h₀ → env.frame = some L → env.scope.kind = .function →
    dp + 8 < recursionLimit → un + 64 < cLine →
    (∀ v news' h' tk', Fr h₀ L h' m → News h₀ L h' (news' ++ news) → (∀ p ∈ news, ∀ q ∈ news', p.1 ≠ q.1) → Ret v news' → Q v { s with heap := h', toks := tk' }) →
    wpAny (model PySem.Challenge.pw_iw0004_01 w) (arO dp un gd env outer) (call (.ref f) args) Q E s

/-- what comes back is a new exception of the class X -/
def NewX (X : String) (v : Value) (news' : List (Addr × Obj)) : Prop := ∃ e ob, v = .ref e ∧ news' = [(e, ob)] ∧ ExcObj X ob
theorem NewX.intro {X : String} {e : Addr} {ob : Obj} (h : ExcObj X ob) : NewX X (.ref e) [(e, ob)] := ⟨e, ob, rfl, rfl, h⟩

theorem news_drop2 {h₀ h : Heap} {L : Addr} {a b : Addr × Obj} {news : List (Addr × Obj)} (N : News h₀ L h (a :: b :: news)) : News h₀ L h ([a] ++ news) := fun p hp => N p (by
  rcases List.mem_append.mp hp with hp | hp
  · rw [List.mem_singleton] at hp; subst hp; exact .head _
  · exact .tail _ (.tail _ hp))
theorem news_self {h₀ h : Heap} {L : Addr} {a : Addr × Obj} {news : List (Addr × Obj)} (N : News h₀ L h (a :: news)) : News h₀ L h ([a] ++ news) := N
theorem apart_self {e : Addr} {ob : Obj} {news : List (Addr × Obj)} (n : ∀ p ∈ news, p.1 ≠ e) : ∀ p ∈ news, ∀ q ∈ [(e, ob)], p.1 ≠ q.1 := fun p hp q hq => by
  rw [List.mem_singleton] at hq
  subst hq
  exact n p hp
theorem apart_drop2 {e : Addr} {ob : Obj} {b : Addr × Obj} {news : List (Addr × Obj)} (n : ∀ p ∈ b :: news, p.1 ≠ e) : ∀ p ∈ news, ∀ q ∈ [(e, ob)], p.1 ≠ q.1 := apart_self fun p hp => n p (.tail _ hp)
/-- what the law's readers give back -/
inductive Dt where
  | err (x : Str)
  | int (n : Int)
  | two (a : Str) (o : Option Str)
  | three (n : Int) (a : Str) (o : Option Str)
/-- a text or nothing, as a value -/
def OptIs (y : Value) : Option Str → Prop
  | none => y = .none
  | some a => ∃ t, y = .str a t
abbrev tupOf (vs : List Value) : Obj := { cls := .type "tuple", data := .seq vs.toArray }
/-- the value v is the datum d, its tuple among the new objects -/
def DtIn (news : List (Addr × Obj)) (v : Value) : Dt → Prop
  | .err x => ∃ t, v = .str x t
  | .int n => ∃ t, v = .int n t
  | .two a o => ∃ c t y, v = .ref c ∧ (c, tupOf [.str a t, y]) ∈ news ∧ OptIs y o
  | .three n a o => ∃ c u t y, v = .ref c ∧ (c, tupOf [.int n u, .str a t, y]) ∈ news ∧ OptIs y o
theorem DtIn.mono {news news' : List (Addr × Obj)} {v : Value} {d : Dt} (h : DtIn news v d) (hs : ∀ p ∈ news, p ∈ news') : DtIn news' v d := by
  cases d with
  | err x => exact h
  | int n => exact h
  | two a o => obtain ⟨c, t, y, e, hm, ho⟩ := h; exact ⟨c, t, y, e, hs _ hm, ho⟩
  | three n a o => obtain ⟨c, u, t, y, e, hm, ho⟩ := h; exact ⟨c, u, t, y, e, hs _ hm, ho⟩
def optS (b : Str) : Option Str := if b.length = 0 then none else some b
theorem opt_no {b : Str} (h : b.length = 0) : OptIs .none (optS b) := by unfold optS; rw [if_pos h]; rfl
theorem opt_yes {b : Str} {t : Tok} (h : 1 ≤ b.length) : OptIs (.str b t) (optS b) := by unfold optS; rw [if_neg (by omega)]; exact ⟨t, rfl⟩
abbrev sVE : Str := Str.ofString "ValueError"
abbrev sTE : Str := Str.ofString "TypeError"
/-- parse_mc2's answer as the law reads it -/
def specTwo (g fr mk : Str) : Dt := if Txt.startswith g fr = true then
    (match Txt.split (Txt.slice g (some (fr.length : Int)) none) mk with
    | [a] => .two a none
    | [a, b] => .two a (optS b)
    | _ => .err sVE)
  else .err sVE
section
variable {g fr mk a b : Str}
theorem specTwo_no (h : Txt.startswith g fr = false) : specTwo g fr mk = .err sVE := by unfold specTwo; rw [if_neg (by rw [h]; decide)]
theorem specTwo_1 (h : Txt.startswith g fr = true) (e : Txt.split (Txt.slice g (some (fr.length : Int)) none) mk = [a]) : specTwo g fr mk = .two a none := by unfold specTwo; rw [if_pos h, e]
theorem specTwo_2 (h : Txt.startswith g fr = true) (e : Txt.split (Txt.slice g (some (fr.length : Int)) none) mk = [a, b]) : specTwo g fr mk = .two a (optS b) := by unfold specTwo; rw [if_pos h, e]
theorem specTwo_3 (h : Txt.startswith g fr = true) (e : 3 ≤ (Txt.split (Txt.slice g (some (fr.length : Int)) none) mk).length) : specTwo g fr mk = .err sVE := by
  unfold specTwo
  rw [if_pos h]
  split
  · rename_i q; rw [q] at e; simp at e
  · rename_i q; rw [q] at e; simp at e
  · rfl
end
section
variable {h₀ h' : Heap} {L : Addr} {m : Str → Option Value} {news news₂ : List (Addr × Obj)} {s : Shared} {Q : Value → Shared → Prop} {d : Dt} {tk' : Nat}
abbrev DtBack (h₀ : Heap) (L : Addr) (m : Str → Option Value) (news : List (Addr × Obj)) (s : Shared) (Q : Value → Shared → Prop) (d : Dt) : Prop :=
  ∀ v news' h' tk', Fr h₀ L h' m → News h₀ L h' (news' ++ news) → DtIn news' v d → Q v { s with heap := h', toks := tk' }
theorem end_err {x : Str} {t : Tok} (hret : DtBack h₀ L m news s Q d) (hd : d = .err x) (F : Fr h₀ L h' m) (N : News h₀ L h' news₂) (hs : ∀ p ∈ news, p ∈ news₂) : Q (.str x t) { s with heap := h', toks := tk' } :=
  hret _ [] _ _ F (fun p hp => N p (hs p hp)) (by subst hd; exact ⟨t, rfl⟩)
theorem end_int {n : Int} {t : Tok} (hret : DtBack h₀ L m news s Q d) (hd : d = .int n) (F : Fr h₀ L h' m) (N : News h₀ L h' news₂) (hs : ∀ p ∈ news, p ∈ news₂) : Q (.int n t) { s with heap := h', toks := tk' } :=
  hret _ [] _ _ F (fun p hp => N p (hs p hp)) (by subst hd; exact ⟨t, rfl⟩)
theorem end_two {c : Addr} {a : Str} {t : Tok} {y : Value} {o : Option Str} (hret : DtBack h₀ L m news s Q d) (F : Fr h₀ L h' m) (N : News h₀ L h' news₂) (hm : (c, tupOf [.str a t, y]) ∈ news₂) (ho : OptIs y o) (hd : d = .two a o) (hs : ∀ p ∈ news, p ∈ news₂) :
    Q (.ref c) { s with heap := h', toks := tk' } :=
  hret _ [(c, tupOf [.str a t, y])] _ _ F (fun p hp => by
    rcases List.mem_append.mp hp with hp | hp
    · rw [List.mem_singleton] at hp; subst hp; exact N _ hm
    · exact N p (hs p hp)) (by subst hd; exact ⟨c, t, y, rfl, .head _, ho⟩)
theorem end_three {c : Addr} {n : Int} {u : Tok} {a : Str} {t : Tok} {y : Value} {o : Option Str} (hret : DtBack h₀ L m news s Q d) (F : Fr h₀ L h' m) (N : News h₀ L h' news₂) (hm : (c, tupOf [.int n u, .str a t, y]) ∈ news₂) (ho : OptIs y o) (hd : d = .three n a o) (hs : ∀ p ∈ news, p ∈ news₂) :
    Q (.ref c) { s with heap := h', toks := tk' } :=
  hret _ [(c, tupOf [.int n u, .str a t, y])] _ _ F (fun p hp => by
    rcases List.mem_append.mp hp with hp | hp
    · rw [List.mem_singleton] at hp; subst hp; exact N _ hm
    · exact N p (hs p hp)) (by subst hd; exact ⟨c, u, t, y, rfl, .head _, ho⟩)
theorem opt_none : OptIs .none none := rfl
end
theorem cLine_big : 100 < cLine := by have := cLine_is; omega
end Mine
end
-- At
section
open PySem PySem.W PyProof.Rows PySem.Calls PySem.Spec
namespace Mine
/-- an expression that reads a name or writes a constant out: what it gives where the heap is h -/
def AtomE (M : Model) (A : Around) (E : Value → Shared → Prop) (env : Env) (h : Heap) (e : Expr) (v : Nat → Value) : Prop :=
  (∀ rest, starEach (e :: rest) env = (false, eval e env) :: starEach rest env) ∧ ∀ (s : Shared) (Q : Value → Shared → Prop), s.heap = h → (∀ t k, Q (v t) { s with toks := k }) → wpAny M A (eval e env) Q E s
section
variable {M : Model} {A : Around} {E : Value → Shared → Prop} {env : Env} {h : Heap} {pos : Pos} {s : Shared} {Q : List Value → Shared → Prop}
theorem atom_str {x : Str} {k : Nat} : AtomE M A E env h (.Constant (.str x) k pos) (fun t => .str x t) := ⟨fun _ => rfl, fun _ _ _ q => wpAny_Constant_str (q _ _)⟩
theorem atom_int {i : Int} {k : Nat} : AtomE M A E env h (.Constant (.int i) k pos) (fun t => .int i t) := ⟨fun _ => rfl, fun _ _ _ q => wpAny_Constant_int (q _ _)⟩
theorem atom_none {k : Nat} : AtomE M A E env h (.Constant .none k pos) (fun _ => .none) := ⟨fun _ => rfl, fun s _ _ q => wpAny_Constant_none (q 0 s.toks)⟩
theorem atom_local {x : Str} {v : Value} {h₀ : Heap} {L : Addr} {m : Str → Option Value} (F : Fr h₀ L h m) (hv : m x = some v) (hk : env.scope.kind = .function) (hl : env.kindOf x = some .local) (hL : env.locals = L) (hd : (x == ("__debug__" : Str)) = false) :
    AtomE M A E env h (.Name x pos) (fun _ => v) := ⟨fun _ => rfl, fun s _ e q => by
  subst hL e
  exact wpAny_Name (wpAny_loadName_local hk hl F.ns hv (q 0 s.toks)) hd⟩
variable {e1 e2 e3 e4 e5 e6 : Expr} {v1 v2 v3 v4 v5 v6 : Nat → Value}
theorem atoms_cons {rest : List Expr} (a1 : AtomE M A E env s.heap e1 v1) (hn : ∀ t k, wpAny M A (spliced (backTo pos (starEach rest env))) (fun vs s₂ => Q (v1 t :: vs) s₂) E { s with toks := k }) : wpAny M A (spliced (backTo pos (starEach (e1 :: rest) env))) Q E s :=
  args_cons (a1.2 s _ rfl fun t k => hn t k) (a1.1 rest)
theorem args1 (a1 : AtomE M A E env s.heap e1 v1) (hn : ∀ t1 k, Q [v1 t1] { s with toks := k }) : wpAny M A (spliced (backTo pos (starEach [e1] env))) Q E s :=
  atoms_cons a1 fun t k => args_nil (hn t k)
theorem args2 (a1 : AtomE M A E env s.heap e1 v1) (a2 : AtomE M A E env s.heap e2 v2) (hn : ∀ t1 t2 k, Q [v1 t1, v2 t2] { s with toks := k }) : wpAny M A (spliced (backTo pos (starEach [e1, e2] env))) Q E s :=
  atoms_cons a1 fun t k => args1 (s := { s with toks := k }) a2 fun t2 k2 => hn t t2 k2
theorem args3 (a1 : AtomE M A E env s.heap e1 v1) (a2 : AtomE M A E env s.heap e2 v2) (a3 : AtomE M A E env s.heap e3 v3) (hn : ∀ t1 t2 t3 k, Q [v1 t1, v2 t2, v3 t3] { s with toks := k }) : wpAny M A (spliced (backTo pos (starEach [e1, e2, e3] env))) Q E s :=
  atoms_cons a1 fun t k => args2 (s := { s with toks := k }) a2 a3 fun t2 t3 k2 => hn t t2 t3 k2
theorem args4 (a1 : AtomE M A E env s.heap e1 v1) (a2 : AtomE M A E env s.heap e2 v2) (a3 : AtomE M A E env s.heap e3 v3) (a4 : AtomE M A E env s.heap e4 v4) (hn : ∀ t1 t2 t3 t4 k, Q [v1 t1, v2 t2, v3 t3, v4 t4] { s with toks := k }) : wpAny M A (spliced (backTo pos (starEach [e1, e2, e3, e4] env))) Q E s :=
  atoms_cons a1 fun t k => args3 (s := { s with toks := k }) a2 a3 a4 fun t2 t3 t4 k2 => hn t t2 t3 t4 k2
theorem args5 (a1 : AtomE M A E env s.heap e1 v1) (a2 : AtomE M A E env s.heap e2 v2) (a3 : AtomE M A E env s.heap e3 v3) (a4 : AtomE M A E env s.heap e4 v4) (a5 : AtomE M A E env s.heap e5 v5) (hn : ∀ t1 t2 t3 t4 t5 k, Q [v1 t1, v2 t2, v3 t3, v4 t4, v5 t5] { s with toks := k }) : wpAny M A (spliced (backTo pos (starEach [e1, e2, e3, e4, e5] env))) Q E s :=
  atoms_cons a1 fun t k => args4 (s := { s with toks := k }) a2 a3 a4 a5 fun t2 t3 t4 t5 k2 => hn t t2 t3 t4 t5 k2
theorem args6 (a1 : AtomE M A E env s.heap e1 v1) (a2 : AtomE M A E env s.heap e2 v2) (a3 : AtomE M A E env s.heap e3 v3) (a4 : AtomE M A E env s.heap e4 v4) (a5 : AtomE M A E env s.heap e5 v5) (a6 : AtomE M A E env s.heap e6 v6) (hn : ∀ t1 t2 t3 t4 t5 t6 k, Q [v1 t1, v2 t2, v3 t3, v4 t4, v5 t5, v6 t6] { s with toks := k }) : wpAny M A (spliced (backTo pos (starEach [e1, e2, e3, e4, e5, e6] env))) Q E s :=
  atoms_cons a1 fun t k => args5 (s := { s with toks := k }) a2 a3 a4 a5 a6 fun t2 t3 t4 t5 t6 k2 => hn t t2 t3 t4 t5 t6 k2
end
end Mine
end
-- Abs
section
open PySem PySem.W PyProof.Rows PySem.Calls PySem.Spec
namespace Mine
/-- a post as a letter: what it asks where a statement goes on -/
def Nx (Q : Flow → Shared → Prop) (P : Shared → Prop) : Prop := ∀ s, P s → Q .next s
/-- what it asks where a statement returns -/
def Rt (Q : Flow → Shared → Prop) (P : Value → Shared → Prop) : Prop := ∀ v s, P v s → Q (.ret v) s
/-- what a post for exceptions asks -/
def Er (E : Value → Shared → Prop) (P : Value → Shared → Prop) : Prop := ∀ e s, P e s → E e s
theorem Nx.use {Q : Flow → Shared → Prop} {P : Shared → Prop} {s : Shared} (h : Nx Q P) (p : P s) : Q .next s := h s p
theorem Rt.use {Q : Flow → Shared → Prop} {P : Value → Shared → Prop} {v : Value} {s : Shared} (h : Rt Q P) (p : P v s) : Q (.ret v) s := h v s p
theorem Er.use {E P : Value → Shared → Prop} {e : Value} {s : Shared} (h : Er E P) (p : P e s) : E e s := h e s p
section
variable {M : Model} {A : Around} {E : Value → Shared → Prop} {s : Shared} {env : Env} {Q : Flow → Shared → Prop}
theorem wpC_cons_abs {st : Stmt} {rest : List Stmt} (h : ∀ Q0, Nx Q0 (fun s' => wpC M A (execs rest env) Q E s') → Rt Q0 (fun v s' => Q (.ret v) s') → wpC M A (exec st env) Q0 E s) : wpC M A (execs (st :: rest) env) Q E s :=
  wpC_execs_cons (h _ (fun _ p => p) fun _ _ p => p)
theorem wpAny_cons_abs {st : Stmt} {rest : List Stmt} (h : ∀ Q0, Nx Q0 (fun s' => wpAny M A (execs rest env) Q E s') → Rt Q0 (fun v s' => Q (.ret v) s') → wpAny M A (exec st env) Q0 E s) : wpAny M A (execs (st :: rest) env) Q E s :=
  wpAny_execs_cons (h _ (fun _ p => p) fun _ _ p => p)
theorem wpC_fn_abs {t : Sem Flow} (h : ∀ Q0 E0, Nx Q0 (fun s' => Q .next s') → Rt Q0 (fun v s' => Q (.ret v) s') → Er E0 E → wpC M A t Q0 E0 s) : wpC M A t Q E s := h Q E (fun _ p => p) (fun _ _ p => p) fun _ _ p => p
theorem wpAny_fn_abs {t : Sem Flow} (h : ∀ Q0 E0, Nx Q0 (fun s' => Q .next s') → Rt Q0 (fun v s' => Q (.ret v) s') → Er E0 E → wpAny M A t Q0 E0 s) : wpAny M A t Q E s := h Q E (fun _ p => p) (fun _ _ p => p) fun _ _ p => p
theorem wpC_cutP {st : Stmt} {rest : List Stmt} {P : Shared → Prop} (h1 : ∀ Q0 : Flow → Shared → Prop, Nx Q0 P → wpC M A (exec st env) Q0 E s) (h2 : ∀ s', P s' → wpC M A (execs rest env) Q E s') : wpC M A (execs (st :: rest) env) Q E s :=
  wpC_execs_cons (h1 _ h2)
theorem wpC_cutP2 {st st' : Stmt} {rest : List Stmt} {P : Shared → Prop} (h1 : ∀ Q0 : Flow → Shared → Prop, Nx Q0 P → wpC M A (exec st env) (fun f s' => match f with | .next => wpC M A (exec st' env) Q0 E s' | f => Q0 f s') E s) (h2 : ∀ s', P s' → wpC M A (execs rest env) Q E s') : wpC M A (execs (st :: st' :: rest) env) Q E s :=
  wpC_execs_cons (wpC_mono (h1 (fun f s' => match f with | .next => wpC M A (execs rest env) Q E s' | f => Q f s') h2) (fun f s' h => by
    cases f with
    | next => exact wpC_execs_cons h
    | _ => exact h) fun _ _ h => h)
end
def LookIs (m : Str → Option Value) (x : Str) (v : Value) : Prop := m x = some v
theorem LookIs.hit {m : Str → Option Value} {x : Str} {v : Value} : LookIs (fun y => if y = x then some v else m y) x v := by
  show (if x = x then some v else m x) = some v
  rw [if_pos rfl]
theorem LookIs.miss {m : Str → Option Value} {x z : Str} {u : Option Value} {v : Value} (h : LookIs m x v) (hn : ¬ x = z) : LookIs (fun y => if y = z then u else m y) x v := by
  show (if x = z then u else m x) = some v
  rw [if_neg hn]
  exact h
section
variable {M : Model} {A : Around} {E : Value → Shared → Prop} {s : Shared} {name : Str} {scope : Scope} {L a : Addr} {cd : Value} {h₀ : Heap} {m : Str → Option Value}
theorem ldO {x : Str} {pos : Pos} {v : Value} {Q : Value → Shared → Prop} (F : Fr h₀ L s.heap m) (hv : m x = some v) (h : Q v s)
    (hk : scope.kind = .function) (hl : (envOf name scope L a cd).kindOf x = some .local)
    (hd : (x == ("__debug__" : Str)) = false) : wpAny M A (eval (.Name x pos) (envOf name scope L a cd)) Q E s := wpAny_Name (wpAny_loadName_local hk hl F.ns hv h) hd
end
end Mine
end
-- Pc
section
open PySem PySem.W PyProof.Rows PySem.Calls PySem.Spec
namespace Mine
theorem after_lit {M : Model} {A : Around} {E : Value → Shared → Prop} {s : Shared} {l : List Nat} {p : List Value} {r r' : List Nat} {f : Nat → List Value × Builtin.Str.Writer × List Nat → Sem (ForInStep (List Value × Builtin.Str.Writer × List Nat))} {Q : List Value × Builtin.Str.Writer × List Nat → Shared → Prop}
    {w : Builtin.Str.Writer} {T x y : PySem.Str} {N K : Nat} {o : Option Value} (g : KPc.Good w T N) (hx : x = y) (hr : r = r') (hy : y.length ≤ K) (ho : KPc.Obj o x)
    (h : ∀ w', KPc.Good w' (T ++ y) (N + K) → wpAny M A (forIn l (p, w', r') f) Q E s) : wpAny M A (forIn l (p, w.add x o, r) f) Q E s := by
  subst hx hr
  exact h _ (KPc.good_mono (KPc.good_add g ho) (Nat.add_le_add_left hy _))
theorem range4 {M : Model} {A : Around} {E : Value → Shared → Prop} {s : Shared} {β : Type} {n k : Nat} {b : β} {f : Nat → β → Sem (ForInStep β)} {Q : β → Shared → Prop} (hn : n = k + 4) (h : wpAny M A (forIn (0 :: 1 :: 2 :: 3 :: List.range' 4 k 1) b f) Q E s) : wpAny M A (forIn [:n] b f) Q E s := by
  subst hn
  rw [KPc.range_list]
  exact h
theorem ite_b {b : Bool} {X Y : Prop} (hb : b = false) (h : Y) : if b = true then X else Y := by subst hb; exact h
theorem ite_t {b : Bool} {X Y : Prop} (hb : b = true) (h : X) : if b = true then X else Y := by subst hb; exact h
theorem pct_meets {a b X : List Nat} {t u : Tok} {k : Nat} {z : PySem.Str} (hz : z.length ≤ 1000000) (hk : X.length = k + 4) (e0 : X.isEmpty = false)
    (h1 : X.span (· != 37) = (a, 37 :: 115 :: b)) (h2 : b.span (· != 37) = (b, [])) (ea : a.isEmpty = false) (eb : b.isEmpty = false) (na : (a.length == X.length) = false) (nb : (b.length == X.length) = false) (la : a.length ≤ 2000) (lb : b.length ≤ 2000) :
    Meets (Builtin.«str.__mod__» ⟨[.str ⟨X.toArray⟩ t, .str z u], []⟩) (fun _ R s => ∀ t' k, R (.ok (.ret (.str ((⟨a.toArray⟩ : PySem.Str) ++ z ++ (⟨b.toArray⟩ : PySem.Str)) t'))) { s with toks := k }) := by
  have c1 : (!(X.span (· != 37)).1.isEmpty) = true := by rw [h1, ea]; rfl
  have c2 : (⟨(X.span (· != 37)).1.toArray⟩ : PySem.Str) = ⟨a.toArray⟩ := by rw [h1]
  have c3 : (X.span (· != 37)).2 = 37 :: 115 :: b := by rw [h1]
  have c4 : ((X.span (· != 37)).1.length == X.length) = false := by rw [h1]; exact na
  have d1 : (!(b.span (· != 37)).1.isEmpty) = true := by rw [h2, eb]; rfl
  have d2 : (⟨(b.span (· != 37)).1.toArray⟩ : PySem.Str) = ⟨b.toArray⟩ := by rw [h2]
  have d3 : (b.span (· != 37)).2 = [] := by rw [h2]
  have d4 : ((b.span (· != 37)).1.length == X.length) = false := by rw [h2]; exact nb
  clear h1 h2 ea na nb
  apply KPc.meets_of
  intro _ _ _ _ _ _ hh
  rw [KPc.entry_is_s]
  unfold Builtin.Str.percentFormat
  refine wpAny_bind (wpAny_isInstance (typeIs_str _ _ _) F.sub_str_tuple ?_)
  refine wpAny_bind (wpAny_of_eq (a := some _) rfl ?_)
  refine wpAny_bind (KPc.wp_fills_str ?_)
  intro _
  kpc_if
  refine wpAny_bind (wpAny_pure ?_)
  refine wpAny_bind (range4 hk (KPc.start ?_))
  intro w g
  refine KPc.turn ?_
  kpc_check
  refine wpAny_ite (ite_b e0 ?_)
  refine wpAny_ite (ite_t c1 ?_)
  refine wpAny_pure ?_
  refine after_lit g c2 c3 la (KPc.obj_none (if_neg (Bool.eq_false_iff.mp c4))) ?_
  clear c1 c2 c3 c4 la e0
  intro w g
  refine KPc.turn ?_
  kpc_check
  repeat kpc_if
  refine wpAny_bind ?_
  refine wpAny_holding ?_
  repeat kpc_if
  kpc_conv
  refine wpAny_pure ?_
  refine wpAny_pure ?_
  refine KPc.after_str g hz (KPc.obj_none (if_neg (Bool.eq_false_iff.mp eb))) ?_
  intro w g
  refine KPc.turn ?_
  kpc_check
  refine wpAny_ite (ite_b eb ?_)
  refine wpAny_ite (ite_t d1 ?_)
  refine wpAny_pure ?_
  refine after_lit g d2 d3 lb (KPc.obj_none (if_neg (Bool.eq_false_iff.mp d4))) ?_
  intro w g
  refine KPc.turn ?_
  kpc_check
  repeat kpc_if
  refine wpAny_pure ?_
  kpc_if
  refine KPc.finish_ok (by kpc_g) (by decide +kernel) (by rw [KPc.empty_app]) hh
theorem mod_s {prog : Program} {w : World} {A : Around} {E : Value → Shared → Prop} {s : Shared} {t u : Tok} {F y : PySem.Str} {Q : Value → Shared → Prop} (a b : List Nat) (hF : F = ⟨(a ++ 37 :: 115 :: b).toArray⟩)
    (hc : (((a ++ 37 :: 115 :: b).length == (a ++ 37 :: 115 :: b).length - 4 + 4) && ((a ++ 37 :: 115 :: b).span (· != 37) == (a, 37 :: 115 :: b)) && (b.span (· != 37) == (b, [])) && !(a ++ 37 :: 115 :: b).isEmpty && !a.isEmpty && !b.isEmpty
      && !(a.length == (a ++ 37 :: 115 :: b).length) && !(b.length == (a ++ 37 :: 115 :: b).length) && Nat.ble a.length 2000 && Nat.ble b.length 2000) = true) (hy : y.length ≤ 1000000)
    (h : ∀ t' k, Q (.str ((⟨a.toArray⟩ : PySem.Str) ++ y ++ (⟨b.toArray⟩ : PySem.Str)) t') { s with toks := k }) : wpAny (model prog w) A (binaryOp .Mod (.str F t) (.str y u)) Q E s := by
  simp only [Bool.and_eq_true, Bool.not_eq_true', beq_iff_eq] at hc
  obtain ⟨⟨⟨⟨⟨⟨⟨⟨⟨h1, h2⟩, h3⟩, h4⟩, h5⟩, h6⟩, h7⟩, h8⟩, h9⟩, h10⟩ := hc
  exact KPc.mod_str hF hy (fun z hz => pct_meets hz h1 h4 h2 h3 h5 h6 h7 h8 (Nat.le_of_ble_eq_true h9) (Nat.le_of_ble_eq_true h10)) h
end Mine
end
-- E1
section
open PySem PySem.W PyProof.Rows PySem.Calls PySem.Spec
namespace Mine
section
set_option maxRecDepth 100000 in
set_option maxHeartbeats 2000000 in
theorem inv_call {w : World} {news : List (Addr × Obj)} : AskN w 43 [.none] news (NewX "ValueError") := by
  intro p loose mean mg mb A₀ dp un gd base h₀ L m s env outer Q E B F X N T hf hk hd hu hret
  refine wpAny_call ?_
  k_dflt (refine' code_def ?k1 ?k2 ?k3 ?k4 ?k5 ?kA ?kF ?kK ?k6 ?k7 ?k8 ?k9 ?kB ?_ ?c2 ?c3 ?c4 ?c5; (case kA => exact rfl); (case kF => assumption); (case kK => assumption); (case k1 => k_asm); (case k2 => k_asm); (case k3 => k_asm); (case k4 => k_asm); (case k5 => k_asm); (case k6 => k_is); (case k7 => k_is); (case k8 => ktr_room); (case k9 => first | exact BindsTo.of_eq rfl | exact binds_K (by k_in) rfl (by k_is) rfl rfl rfl); (case c5 => decide); (case kB => exact locs rfl); (case c2 => exact rfl); (case c3 => exact rfl); (case c4 => exact rfl); k_whole; intro g' L' h' FG' F' N' B' X' T'; (try dsimp only); (try k_lift B'); (try k_fold))
  repeat' (first | (k_here; (with_reducible show wpAny _ _ (binaryOp Operator.Mod (Value.str _ _) (Value.str _ _)) _ _ _); (first | refine' mod_s [110,111,116,32,97,32,118,97,108,105,100,32] [32,104,97,115,104] ?pk1 ?pk2 ?pk3 ?_; (case pk1 => decide +kernel); (case pk2 => rfl); (case pk3 => kpc_size) | refine' mod_s [109,97,108,102,111,114,109,101,100,32] [32,104,97,115,104] ?pk1 ?pk2 ?pk3 ?_; (case pk1 => decide +kernel); (case pk2 => rfl); (case pk3 => kpc_size)); intro _ _) | (k_here; (with_reducible show wpAny _ _ (exec (Stmt.Raise (some (Expr.Call (Expr.Name _ _) _ [] _)) none _) _) _ _ _); k_dflt refine Raise_new rfl ?_) | (k_here; (with_reducible show wpAny _ _ (call (Value.builtin "len") [Value.ref _]) _ _ _); k_dflt (refine' Mine.len_vs ?k1 ?k2 ?k3 ?_; (case k1 => k_asm); (case k2 => k_mem); (case k3 => first | assumption | omega)); intro _ _) | (k_here; (with_reducible show wpAny _ _ (truthy (Value.str _ _)) _ _ _); k_dflt (first | (refine' Mine.truthy_yes ?k1 ?k2 ?_; (case k1 => omega); (case k2 => omega)) | (refine' Mine.truthy_text ?k1 ?_ ?_; (case k1 => omega); all_goals intro _))) | (k_here; (with_reducible show wpAny _ _ (call (Value.builtin "str.split") [_, _]) _ _ _); k_dflt (refine' Mine.split_ways ?k1 ?k2 ?k3 ?k4 ?_ ?_ ?_ ?_; (case k1 => k_asm); (case k2 => k_asm); (case k3 => omega); (case k4 => omega)); all_goals (intros; (try k_sweep))) | (k_here; (with_reducible show wpAny _ _ (call (Value.type "TypeError") [_]) _ _ _); k_dflt (refine' Mine.exc_made excClass_TypeError ?k1 ?k2 ?_; (case k1 => k_asm); (case k2 => k_asm); k_whole; intro h' e' o' x' n' F' N'; (try k_sweep))) | (k_here; (with_reducible show wpAny _ _ (call (Value.type "ValueError") [_]) _ _ _); k_dflt (refine' Mine.exc_made excClass_ValueError ?k1 ?k2 ?_; (case k1 => k_asm); (case k2 => k_asm); k_whole; intro h' e' o' x' n' F' N'; (try k_sweep))) | (k_here; (with_reducible show wpAny _ _ (call (Value.ref _) _) _ _ _); k_dflt (refine wpAny_call ?_; (refine' code_def ?k1 ?k2 ?k3 ?k4 ?k5 ?kA ?kF ?kK ?k6 ?k7 ?k8 ?k9 ?kB ?_ ?c2 ?c3 ?c4 ?c5; (case kA => exact rfl); (case kF => assumption); (case kK => assumption); (case k1 => k_asm); (case k2 => k_asm); (case k3 => k_asm); (case k4 => k_asm); (case k5 => k_asm); (case k6 => k_is); (case k7 => k_is); (case k8 => ktr_room); (case k9 => first | exact BindsTo.of_eq rfl | exact binds_K (by k_in) rfl (by k_is) rfl rfl rfl); (case c5 => decide); (case kB => exact locs rfl); (case c2 => exact rfl); (case c3 => exact rfl); (case c4 => exact rfl); k_whole; intro g' L' h' FG' F' N' B' X' T'; (try dsimp only); (try k_lift B'); (try k_fold)))) | (k_here; (with_reducible show if (_ == _) = true then _ else _); k_dflt (first | (refine' Mine.ieq_no ?k1 ?_; (case k1 => omega)) | (refine' Mine.ieq_yes ?k1 ?_; (case k1 => omega)))) | ((with_reducible show Raisable _ _ _); first | k_dflt (refine' Mine.raise_made excClass_ValueError ?k1 ?k2 ?k3 ?k4 ?_; (case k1 => assumption); (case k2 => k_asm); (case k3 => k_asm); (case k4 => assumption); k_whole; intro h' x' F' N') | k_dflt (refine' Mine.raise_made excClass_TypeError ?k1 ?k2 ?k3 ?k4 ?_; (case k1 => assumption); (case k2 => k_asm); (case k3 => k_asm); (case k4 => assumption); k_whole; intro h' x' F' N')) | (k_unfold; (try dsimp only)) | (k_end; wrow_close) | walk1 | dsimp only | (leave1; (try dsimp only)))
  all_goals (refine' hret _ [_] _ _ ?r1 ?r2 ?r3 (NewX.intro (by assumption)); (case r1 => k_asm); (case r2 => first | exact news_self (by k_asm) | exact news_drop2 (by k_asm)); (case r3 => first | exact apart_self (by assumption) | exact apart_drop2 (by assumption)))
set_option maxRecDepth 100000 in
set_option maxHeartbeats 2000000 in
theorem mal_call {w : World} {news : List (Addr × Obj)} : AskN w 51 [.none] news (NewX "ValueError") := by
  intro p loose mean mg mb A₀ dp un gd base h₀ L m s env outer Q E B F X N T hf hk hd hu hret
  refine wpAny_call ?_
  k_dflt (refine' code_def ?k1 ?k2 ?k3 ?k4 ?k5 ?kA ?kF ?kK ?k6 ?k7 ?k8 ?k9 ?kB ?_ ?c2 ?c3 ?c4 ?c5; (case kA => exact rfl); (case kF => assumption); (case kK => assumption); (case k1 => k_asm); (case k2 => k_asm); (case k3 => k_asm); (case k4 => k_asm); (case k5 => k_asm); (case k6 => k_is); (case k7 => k_is); (case k8 => ktr_room); (case k9 => first | exact BindsTo.of_eq rfl | exact binds_K (by k_in) rfl (by k_is) rfl rfl rfl); (case c5 => decide); (case kB => exact locs rfl); (case c2 => exact rfl); (case c3 => exact rfl); (case c4 => exact rfl); k_whole; intro g' L' h' FG' F' N' B' X' T'; (try dsimp only); (try k_lift B'); (try k_fold))
  repeat' (first | (k_here; (with_reducible show wpAny _ _ (binaryOp Operator.Mod (Value.str _ _) (Value.str _ _)) _ _ _); (first | refine' mod_s [110,111,116,32,97,32,118,97,108,105,100,32] [32,104,97,115,104] ?pk1 ?pk2 ?pk3 ?_; (case pk1 => decide +kernel); (case pk2 => rfl); (case pk3 => kpc_size) | refine' mod_s [109,97,108,102,111,114,109,101,100,32] [32,104,97,115,104] ?pk1 ?pk2 ?pk3 ?_; (case pk1 => decide +kernel); (case pk2 => rfl); (case pk3 => kpc_size)); intro _ _) | (k_here; (with_reducible show wpAny _ _ (exec (Stmt.Raise (some (Expr.Call (Expr.Name _ _) _ [] _)) none _) _) _ _ _); k_dflt refine Raise_new rfl ?_) | (k_here; (with_reducible show wpAny _ _ (call (Value.builtin "len") [Value.ref _]) _ _ _); k_dflt (refine' Mine.len_vs ?k1 ?k2 ?k3 ?_; (case k1 => k_asm); (case k2 => k_mem); (case k3 => first | assumption | omega)); intro _ _) | (k_here; (with_reducible show wpAny _ _ (truthy (Value.str _ _)) _ _ _); k_dflt (first | (refine' Mine.truthy_yes ?k1 ?k2 ?_; (case k1 => omega); (case k2 => omega)) | (refine' Mine.truthy_text ?k1 ?_ ?_; (case k1 => omega); all_goals intro _))) | (k_here; (with_reducible show wpAny _ _ (call (Value.builtin "str.split") [_, _]) _ _ _); k_dflt (refine' Mine.split_ways ?k1 ?k2 ?k3 ?k4 ?_ ?_ ?_ ?_; (case k1 => k_asm); (case k2 => k_asm); (case k3 => omega); (case k4 => omega)); all_goals (intros; (try k_sweep))) | (k_here; (with_reducible show wpAny _ _ (call (Value.type "TypeError") [_]) _ _ _); k_dflt (refine' Mine.exc_made excClass_TypeError ?k1 ?k2 ?_; (case k1 => k_asm); (case k2 => k_asm); k_whole; intro h' e' o' x' n' F' N'; (try k_sweep))) | (k_here; (with_reducible show wpAny _ _ (call (Value.type "ValueError") [_]) _ _ _); k_dflt (refine' Mine.exc_made excClass_ValueError ?k1 ?k2 ?_; (case k1 => k_asm); (case k2 => k_asm); k_whole; intro h' e' o' x' n' F' N'; (try k_sweep))) | (k_here; (with_reducible show wpAny _ _ (call (Value.ref _) _) _ _ _); k_dflt (refine wpAny_call ?_; (refine' code_def ?k1 ?k2 ?k3 ?k4 ?k5 ?kA ?kF ?kK ?k6 ?k7 ?k8 ?k9 ?kB ?_ ?c2 ?c3 ?c4 ?c5; (case kA => exact rfl); (case kF => assumption); (case kK => assumption); (case k1 => k_asm); (case k2 => k_asm); (case k3 => k_asm); (case k4 => k_asm); (case k5 => k_asm); (case k6 => k_is); (case k7 => k_is); (case k8 => ktr_room); (case k9 => first | exact BindsTo.of_eq rfl | exact binds_K (by k_in) rfl (by k_is) rfl rfl rfl); (case c5 => decide); (case kB => exact locs rfl); (case c2 => exact rfl); (case c3 => exact rfl); (case c4 => exact rfl); k_whole; intro g' L' h' FG' F' N' B' X' T'; (try dsimp only); (try k_lift B'); (try k_fold)))) | (k_here; (with_reducible show if (_ == _) = true then _ else _); k_dflt (first | (refine' Mine.ieq_no ?k1 ?_; (case k1 => omega)) | (refine' Mine.ieq_yes ?k1 ?_; (case k1 => omega)))) | ((with_reducible show Raisable _ _ _); first | k_dflt (refine' Mine.raise_made excClass_ValueError ?k1 ?k2 ?k3 ?k4 ?_; (case k1 => assumption); (case k2 => k_asm); (case k3 => k_asm); (case k4 => assumption); k_whole; intro h' x' F' N') | k_dflt (refine' Mine.raise_made excClass_TypeError ?k1 ?k2 ?k3 ?k4 ?_; (case k1 => assumption); (case k2 => k_asm); (case k3 => k_asm); (case k4 => assumption); k_whole; intro h' x' F' N')) | (k_unfold; (try dsimp only)) | (k_end; wrow_close) | walk1 | dsimp only | (leave1; (try dsimp only)))
  all_goals (refine' hret _ [_] _ _ ?r1 ?r2 ?r3 (NewX.intro (by assumption)); (case r1 => k_asm); (case r2 => first | exact news_self (by k_asm) | exact news_drop2 (by k_asm)); (case r3 => first | exact apart_self (by assumption) | exact apart_drop2 (by assumption)))
set_option maxRecDepth 100000 in
set_option maxHeartbeats 2000000 in
theorem mal_call2 {w : World} {news : List (Addr × Obj)} {r : Str} {t : Tok} (hr1 : 1 ≤ r.length) (hr2 : r.length ≤ 1000) : AskN w 51 [.none, .str r t] news (NewX "ValueError") := by
  intro p loose mean mg mb A₀ dp un gd base h₀ L m s env outer Q E B F X N T hf hk hd hu hret
  refine wpAny_call ?_
  k_dflt (refine' code_def ?k1 ?k2 ?k3 ?k4 ?k5 ?kA ?kF ?kK ?k6 ?k7 ?k8 ?k9 ?kB ?_ ?c2 ?c3 ?c4 ?c5; (case kA => exact rfl); (case kF => assumption); (case kK => assumption); (case k1 => k_asm); (case k2 => k_asm); (case k3 => k_asm); (case k4 => k_asm); (case k5 => k_asm); (case k6 => k_is); (case k7 => k_is); (case k8 => ktr_room); (case k9 => first | exact BindsTo.of_eq rfl | exact binds_K (by k_in) rfl (by k_is) rfl rfl rfl); (case c5 => decide); (case kB => exact locs rfl); (case c2 => exact rfl); (case c3 => exact rfl); (case c4 => exact rfl); k_whole; intro g' L' h' FG' F' N' B' X' T'; (try dsimp only); (try k_lift B'); (try k_fold))
  repeat' (first | (k_here; (with_reducible show wpAny _ _ (binaryOp Operator.Mod (Value.str _ _) (Value.str _ _)) _ _ _); (first | refine' mod_s [110,111,116,32,97,32,118,97,108,105,100,32] [32,104,97,115,104] ?pk1 ?pk2 ?pk3 ?_; (case pk1 => decide +kernel); (case pk2 => rfl); (case pk3 => kpc_size) | refine' mod_s [109,97,108,102,111,114,109,101,100,32] [32,104,97,115,104] ?pk1 ?pk2 ?pk3 ?_; (case pk1 => decide +kernel); (case pk2 => rfl); (case pk3 => kpc_size)); intro _ _) | (k_here; (with_reducible show wpAny _ _ (exec (Stmt.Raise (some (Expr.Call (Expr.Name _ _) _ [] _)) none _) _) _ _ _); k_dflt refine Raise_new rfl ?_) | (k_here; (with_reducible show wpAny _ _ (call (Value.builtin "len") [Value.ref _]) _ _ _); k_dflt (refine' Mine.len_vs ?k1 ?k2 ?k3 ?_; (case k1 => k_asm); (case k2 => k_mem); (case k3 => first | assumption | omega)); intro _ _) | (k_here; (with_reducible show wpAny _ _ (truthy (Value.str _ _)) _ _ _); k_dflt (first | (refine' Mine.truthy_yes ?k1 ?k2 ?_; (case k1 => omega); (case k2 => omega)) | (refine' Mine.truthy_text ?k1 ?_ ?_; (case k1 => omega); all_goals intro _))) | (k_here; (with_reducible show wpAny _ _ (call (Value.builtin "str.split") [_, _]) _ _ _); k_dflt (refine' Mine.split_ways ?k1 ?k2 ?k3 ?k4 ?_ ?_ ?_ ?_; (case k1 => k_asm); (case k2 => k_asm); (case k3 => omega); (case k4 => omega)); all_goals (intros; (try k_sweep))) | (k_here; (with_reducible show wpAny _ _ (call (Value.type "TypeError") [_]) _ _ _); k_dflt (refine' Mine.exc_made excClass_TypeError ?k1 ?k2 ?_; (case k1 => k_asm); (case k2 => k_asm); k_whole; intro h' e' o' x' n' F' N'; (try k_sweep))) | (k_here; (with_reducible show wpAny _ _ (call (Value.type "ValueError") [_]) _ _ _); k_dflt (refine' Mine.exc_made excClass_ValueError ?k1 ?k2 ?_; (case k1 => k_asm); (case k2 => k_asm); k_whole; intro h' e' o' x' n' F' N'; (try k_sweep))) | (k_here; (with_reducible show wpAny _ _ (call (Value.ref _) _) _ _ _); k_dflt (refine wpAny_call ?_; (refine' code_def ?k1 ?k2 ?k3 ?k4 ?k5 ?kA ?kF ?kK ?k6 ?k7 ?k8 ?k9 ?kB ?_ ?c2 ?c3 ?c4 ?c5; (case kA => exact rfl); (case kF => assumption); (case kK => assumption); (case k1 => k_asm); (case k2 => k_asm); (case k3 => k_asm); (case k4 => k_asm); (case k5 => k_asm); (case k6 => k_is); (case k7 => k_is); (case k8 => ktr_room); (case k9 => first | exact BindsTo.of_eq rfl | exact binds_K (by k_in) rfl (by k_is) rfl rfl rfl); (case c5 => decide); (case kB => exact locs rfl); (case c2 => exact rfl); (case c3 => exact rfl); (case c4 => exact rfl); k_whole; intro g' L' h' FG' F' N' B' X' T'; (try dsimp only); (try k_lift B'); (try k_fold)))) | (k_here; (with_reducible show if (_ == _) = true then _ else _); k_dflt (first | (refine' Mine.ieq_no ?k1 ?_; (case k1 => omega)) | (refine' Mine.ieq_yes ?k1 ?_; (case k1 => omega)))) | ((with_reducible show Raisable _ _ _); first | k_dflt (refine' Mine.raise_made excClass_ValueError ?k1 ?k2 ?k3 ?k4 ?_; (case k1 => assumption); (case k2 => k_asm); (case k3 => k_asm); (case k4 => assumption); k_whole; intro h' x' F' N') | k_dflt (refine' Mine.raise_made excClass_TypeError ?k1 ?k2 ?k3 ?k4 ?_; (case k1 => assumption); (case k2 => k_asm); (case k3 => k_asm); (case k4 => assumption); k_whole; intro h' x' F' N')) | (k_unfold; (try dsimp only)) | (k_end; wrow_close) | walk1 | dsimp only | (leave1; (try dsimp only)))
  all_goals (refine' hret _ [_] _ _ ?r1 ?r2 ?r3 (NewX.intro (by assumption)); (case r1 => k_asm); (case r2 => first | exact news_self (by k_asm) | exact news_drop2 (by k_asm)); (case r3 => first | exact apart_self (by assumption) | exact apart_drop2 (by assumption)))
set_option maxRecDepth 100000 in
set_option maxHeartbeats 2000000 in
theorem zer_call {w : World} {news : List (Addr × Obj)} : AskN w 59 [.none] news (NewX "ValueError") := by
  intro p loose mean mg mb A₀ dp un gd base h₀ L m s env outer Q E B F X N T hf hk hd hu hret
  refine wpAny_call ?_
  k_dflt (refine' code_def ?k1 ?k2 ?k3 ?k4 ?k5 ?kA ?kF ?kK ?k6 ?k7 ?k8 ?k9 ?kB ?_ ?c2 ?c3 ?c4 ?c5; (case kA => exact rfl); (case kF => assumption); (case kK => assumption); (case k1 => k_asm); (case k2 => k_asm); (case k3 => k_asm); (case k4 => k_asm); (case k5 => k_asm); (case k6 => k_is); (case k7 => k_is); (case k8 => ktr_room); (case k9 => first | exact BindsTo.of_eq rfl | exact binds_K (by k_in) rfl (by k_is) rfl rfl rfl); (case c5 => decide); (case kB => exact locs rfl); (case c2 => exact rfl); (case c3 => exact rfl); (case c4 => exact rfl); k_whole; intro g' L' h' FG' F' N' B' X' T'; (try dsimp only); (try k_lift B'); (try k_fold))
  repeat' (first | (k_here; (with_reducible show wpAny _ _ (binaryOp Operator.Mod (Value.str _ _) (Value.str _ _)) _ _ _); (first | refine' mod_s [110,111,116,32,97,32,118,97,108,105,100,32] [32,104,97,115,104] ?pk1 ?pk2 ?pk3 ?_; (case pk1 => decide +kernel); (case pk2 => rfl); (case pk3 => kpc_size) | refine' mod_s [109,97,108,102,111,114,109,101,100,32] [32,104,97,115,104] ?pk1 ?pk2 ?pk3 ?_; (case pk1 => decide +kernel); (case pk2 => rfl); (case pk3 => kpc_size)); intro _ _) | (k_here; (with_reducible show wpAny _ _ (exec (Stmt.Raise (some (Expr.Call (Expr.Name _ _) _ [] _)) none _) _) _ _ _); k_dflt refine Raise_new rfl ?_) | (k_here; (with_reducible show wpAny _ _ (call (Value.ref 51) [Value.none, Value.str _ _]) _ _ _); k_dflt (refine' mal_call2 ?kl ?kr ?k1 ?k2 ?k3 ?k4 ?k5 ?k6 ?k7 ?k8 ?k9 ?_; (case kl => first | omega | decide +kernel); (case kr => first | omega | decide +kernel); (case k1 => k_asm); (case k2 => k_asm); (case k3 => k_asm); (case k4 => k_asm); (case k5 => k_asm); (case k6 => first | exact rfl | assumption); (case k7 => first | exact rfl | assumption); (case k8 => ktr_room); (case k9 => ktr_units); intro v' n' h' t' F' N' a' r'; obtain ⟨e', o', hv', hn', x'⟩ := r'; subst hv' hn'; (replace a' := fun p hp => a' p hp (e', o') (List.Mem.head _)); (simp only [List.cons_append, List.nil_append] at N'); (try k_sweep); (try dsimp only))) | (k_here; (with_reducible show wpAny _ _ (call (Value.builtin "len") [Value.ref _]) _ _ _); k_dflt (refine' Mine.len_vs ?k1 ?k2 ?k3 ?_; (case k1 => k_asm); (case k2 => k_mem); (case k3 => first | assumption | omega)); intro _ _) | (k_here; (with_reducible show wpAny _ _ (truthy (Value.str _ _)) _ _ _); k_dflt (first | (refine' Mine.truthy_yes ?k1 ?k2 ?_; (case k1 => omega); (case k2 => omega)) | (refine' Mine.truthy_text ?k1 ?_ ?_; (case k1 => omega); all_goals intro _))) | (k_here; (with_reducible show wpAny _ _ (call (Value.builtin "str.split") [_, _]) _ _ _); k_dflt (refine' Mine.split_ways ?k1 ?k2 ?k3 ?k4 ?_ ?_ ?_ ?_; (case k1 => k_asm); (case k2 => k_asm); (case k3 => omega); (case k4 => omega)); all_goals (intros; (try k_sweep))) | (k_here; (with_reducible show wpAny _ _ (call (Value.type "TypeError") [_]) _ _ _); k_dflt (refine' Mine.exc_made excClass_TypeError ?k1 ?k2 ?_; (case k1 => k_asm); (case k2 => k_asm); k_whole; intro h' e' o' x' n' F' N'; (try k_sweep))) | (k_here; (with_reducible show wpAny _ _ (call (Value.type "ValueError") [_]) _ _ _); k_dflt (refine' Mine.exc_made excClass_ValueError ?k1 ?k2 ?_; (case k1 => k_asm); (case k2 => k_asm); k_whole; intro h' e' o' x' n' F' N'; (try k_sweep))) | (k_here; (with_reducible show wpAny _ _ (call (Value.ref _) _) _ _ _); k_dflt (refine wpAny_call ?_; (refine' code_def ?k1 ?k2 ?k3 ?k4 ?k5 ?kA ?kF ?kK ?k6 ?k7 ?k8 ?k9 ?kB ?_ ?c2 ?c3 ?c4 ?c5; (case kA => exact rfl); (case kF => assumption); (case kK => assumption); (case k1 => k_asm); (case k2 => k_asm); (case k3 => k_asm); (case k4 => k_asm); (case k5 => k_asm); (case k6 => k_is); (case k7 => k_is); (case k8 => ktr_room); (case k9 => first | exact BindsTo.of_eq rfl | exact binds_K (by k_in) rfl (by k_is) rfl rfl rfl); (case c5 => decide); (case kB => exact locs rfl); (case c2 => exact rfl); (case c3 => exact rfl); (case c4 => exact rfl); k_whole; intro g' L' h' FG' F' N' B' X' T'; (try dsimp only); (try k_lift B'); (try k_fold)))) | (k_here; (with_reducible show if (_ == _) = true then _ else _); k_dflt (first | (refine' Mine.ieq_no ?k1 ?_; (case k1 => omega)) | (refine' Mine.ieq_yes ?k1 ?_; (case k1 => omega)))) | ((with_reducible show Raisable _ _ _); first | k_dflt (refine' Mine.raise_made excClass_ValueError ?k1 ?k2 ?k3 ?k4 ?_; (case k1 => assumption); (case k2 => k_asm); (case k3 => k_asm); (case k4 => assumption); k_whole; intro h' x' F' N') | k_dflt (refine' Mine.raise_made excClass_TypeError ?k1 ?k2 ?k3 ?k4 ?_; (case k1 => assumption); (case k2 => k_asm); (case k3 => k_asm); (case k4 => assumption); k_whole; intro h' x' F' N')) | (k_unfold; (try dsimp only)) | (k_end; wrow_close) | walk1 | dsimp only | (leave1; (try dsimp only)))
  all_goals (refine' hret _ [_] _ _ ?r1 ?r2 ?r3 (NewX.intro (by assumption)); (case r1 => k_asm); (case r2 => first | exact news_self (by k_asm) | exact news_drop2 (by k_asm)); (case r3 => first | exact apart_self (by assumption) | exact apart_drop2 (by assumption)))
end
end Mine
end
-- U1
section
open PySem PySem.W PyProof.Rows PySem.Calls PySem.Spec
namespace Mine
section
set_option maxRecDepth 100000 in
set_option maxHeartbeats 2000000 in
theorem exs_call {w : World} {news : List (Addr × Obj)} {v : Value} {t : Tok} : AskN w 35 [v, .str "hash" t] news (NewX "TypeError") := by
  intro p loose mean mg mb A₀ dp un gd base h₀ L m s env outer Q E B F X N T hf hk hd hu hret
  refine wpAny_call ?_
  k_dflt (refine' code_def ?k1 ?k2 ?k3 ?k4 ?k5 ?kA ?kF ?kK ?k6 ?k7 ?k8 ?k9 ?kB ?_ ?c2 ?c3 ?c4 ?c5; (case kA => exact rfl); (case kF => assumption); (case kK => assumption); (case k1 => k_asm); (case k2 => k_asm); (case k3 => k_asm); (case k4 => k_asm); (case k5 => k_asm); (case k6 => k_is); (case k7 => k_is); (case k8 => ktr_room); (case k9 => first | exact BindsTo.of_eq rfl | exact binds_K (by k_in) rfl (by k_is) rfl rfl rfl); (case c5 => decide); (case kB => exact locs rfl); (case c2 => exact rfl); (case c3 => exact rfl); (case c4 => exact rfl); k_whole; intro g' L' h' FG' F' N' B' X' T'; (try dsimp only); (try k_lift B'); (try k_fold))
  repeat' (first | (k_here; (with_reducible show wpAny _ _ (exec (Stmt.Raise (some (Expr.Call (Expr.Name _ _) _ [] _)) none _) _) _ _ _); k_dflt refine Raise_new rfl ?_) | (k_here; (with_reducible show wpAny _ _ (call (Value.builtin "len") [Value.ref _]) _ _ _); k_dflt (refine' Mine.len_vs ?k1 ?k2 ?k3 ?_; (case k1 => k_asm); (case k2 => k_mem); (case k3 => first | assumption | omega)); intro _ _) | (k_here; (with_reducible show wpAny _ _ (truthy (Value.str _ _)) _ _ _); k_dflt (first | (refine' Mine.truthy_yes ?k1 ?k2 ?_; (case k1 => omega); (case k2 => omega)) | (refine' Mine.truthy_text ?k1 ?_ ?_; (case k1 => omega); all_goals intro _))) | (k_here; (with_reducible show wpAny _ _ (call (Value.builtin "str.split") [_, _]) _ _ _); k_dflt (refine' Mine.split_ways ?k1 ?k2 ?k3 ?k4 ?_ ?_ ?_ ?_; (case k1 => k_asm); (case k2 => k_asm); (case k3 => omega); (case k4 => omega)); all_goals (intros; (try k_sweep))) | (k_here; (with_reducible show wpAny _ _ (call (Value.type "TypeError") [_]) _ _ _); k_dflt (refine' Mine.exc_made excClass_TypeError ?k1 ?k2 ?_; (case k1 => k_asm); (case k2 => k_asm); k_whole; intro h' e' o' x' n' F' N'; (try k_sweep))) | (k_here; (with_reducible show wpAny _ _ (call (Value.type "ValueError") [_]) _ _ _); k_dflt (refine' Mine.exc_made excClass_ValueError ?k1 ?k2 ?_; (case k1 => k_asm); (case k2 => k_asm); k_whole; intro h' e' o' x' n' F' N'; (try k_sweep))) | (k_here; (with_reducible show wpAny _ _ (call (Value.ref _) _) _ _ _); k_dflt (refine wpAny_call ?_; (refine' code_def ?k1 ?k2 ?k3 ?k4 ?k5 ?kA ?kF ?kK ?k6 ?k7 ?k8 ?k9 ?kB ?_ ?c2 ?c3 ?c4 ?c5; (case kA => exact rfl); (case kF => assumption); (case kK => assumption); (case k1 => k_asm); (case k2 => k_asm); (case k3 => k_asm); (case k4 => k_asm); (case k5 => k_asm); (case k6 => k_is); (case k7 => k_is); (case k8 => ktr_room); (case k9 => first | exact BindsTo.of_eq rfl | exact binds_K (by k_in) rfl (by k_is) rfl rfl rfl); (case c5 => decide); (case kB => exact locs rfl); (case c2 => exact rfl); (case c3 => exact rfl); (case c4 => exact rfl); k_whole; intro g' L' h' FG' F' N' B' X' T'; (try dsimp only); (try k_lift B'); (try k_fold)))) | (k_here; (with_reducible show if (_ == _) = true then _ else _); k_dflt (first | (refine' Mine.ieq_no ?k1 ?_; (case k1 => omega)) | (refine' Mine.ieq_yes ?k1 ?_; (case k1 => omega)))) | ((with_reducible show Raisable _ _ _); first | k_dflt (refine' Mine.raise_made excClass_ValueError ?k1 ?k2 ?k3 ?k4 ?_; (case k1 => assumption); (case k2 => k_asm); (case k3 => k_asm); (case k4 => assumption); k_whole; intro h' x' F' N') | k_dflt (refine' Mine.raise_made excClass_TypeError ?k1 ?k2 ?k3 ?k4 ?_; (case k1 => assumption); (case k2 => k_asm); (case k3 => k_asm); (case k4 => assumption); k_whole; intro h' x' F' N')) | (k_unfold; (try dsimp only)) | (k_end; wrow_close) | walk1 | dsimp only | (leave1; (try dsimp only)))
  all_goals (refine' hret _ [_] _ _ ?r1 ?r2 ?r3 (NewX.intro (by assumption)); (case r1 => k_asm); (case r2 => first | exact news_self (by k_asm) | exact news_drop2 (by k_asm)); (case r3 => first | exact apart_self (by assumption) | exact apart_drop2 (by assumption)))
/-- to_unicode gives the text g of the value v -/
def UniIs (w : World) (v : Value) (g : Str) : Prop := ∀ (t t' : Tok) (news : List (Addr × Obj)), AskN w 67 [v, .str "ascii" t, .str "hash" t'] news (fun r n => n = [] ∧ ∃ t, r = .str g t)
theorem news_drop1 {h₀ h : Heap} {L : Addr} {b : Addr × Obj} {news : List (Addr × Obj)} (N : News h₀ L h (b :: news)) : News h₀ L h ([] ++ news) := fun p hp => N p (.tail _ hp)
set_option maxRecDepth 100000 in
set_option maxHeartbeats 2000000 in
theorem uni_str {w : World} {g : Str} {t : Tok} : UniIs w (.str g t) g := by
  intro t1 t2 news p loose mean mg mb A₀ dp un gd base h₀ L m s env outer Q E B F X N T hf hk hd hu hret
  refine wpAny_call ?_
  k_dflt (refine' code_def ?k1 ?k2 ?k3 ?k4 ?k5 ?kA ?kF ?kK ?k6 ?k7 ?k8 ?k9 ?kB ?_ ?c2 ?c3 ?c4 ?c5; (case kA => exact rfl); (case kF => assumption); (case kK => assumption); (case k1 => k_asm); (case k2 => k_asm); (case k3 => k_asm); (case k4 => k_asm); (case k5 => k_asm); (case k6 => k_is); (case k7 => k_is); (case k8 => ktr_room); (case k9 => first | exact BindsTo.of_eq rfl | exact binds_K (by k_in) rfl (by k_is) rfl rfl rfl); (case c5 => decide); (case kB => exact locs rfl); (case c2 => exact rfl); (case c3 => exact rfl); (case c4 => exact rfl); k_whole; intro g' L' h' FG' F' N' B' X' T'; (try dsimp only); (try k_lift B'); (try k_fold))
  repeat' (first | (k_here; (with_reducible show wpAny _ _ (exec (Stmt.Raise (some (Expr.Call (Expr.Name _ _) _ [] _)) none _) _) _ _ _); k_dflt refine Raise_new rfl ?_) | (k_here; (with_reducible show wpAny _ _ (call (Value.builtin "len") [Value.ref _]) _ _ _); k_dflt (refine' Mine.len_vs ?k1 ?k2 ?k3 ?_; (case k1 => k_asm); (case k2 => k_mem); (case k3 => first | assumption | omega)); intro _ _) | (k_here; (with_reducible show wpAny _ _ (truthy (Value.str _ _)) _ _ _); k_dflt (first | (refine' Mine.truthy_yes ?k1 ?k2 ?_; (case k1 => omega); (case k2 => omega)) | (refine' Mine.truthy_text ?k1 ?_ ?_; (case k1 => omega); all_goals intro _))) | (k_here; (with_reducible show wpAny _ _ (call (Value.builtin "str.split") [_, _]) _ _ _); k_dflt (refine' Mine.split_ways ?k1 ?k2 ?k3 ?k4 ?_ ?_ ?_ ?_; (case k1 => k_asm); (case k2 => k_asm); (case k3 => omega); (case k4 => omega)); all_goals (intros; (try k_sweep))) | (k_here; (with_reducible show wpAny _ _ (call (Value.type "TypeError") [_]) _ _ _); k_dflt (refine' Mine.exc_made excClass_TypeError ?k1 ?k2 ?_; (case k1 => k_asm); (case k2 => k_asm); k_whole; intro h' e' o' x' n' F' N'; (try k_sweep))) | (k_here; (with_reducible show wpAny _ _ (call (Value.type "ValueError") [_]) _ _ _); k_dflt (refine' Mine.exc_made excClass_ValueError ?k1 ?k2 ?_; (case k1 => k_asm); (case k2 => k_asm); k_whole; intro h' e' o' x' n' F' N'; (try k_sweep))) | (k_here; (with_reducible show wpAny _ _ (call (Value.ref _) _) _ _ _); k_dflt (refine wpAny_call ?_; (refine' code_def ?k1 ?k2 ?k3 ?k4 ?k5 ?kA ?kF ?kK ?k6 ?k7 ?k8 ?k9 ?kB ?_ ?c2 ?c3 ?c4 ?c5; (case kA => exact rfl); (case kF => assumption); (case kK => assumption); (case k1 => k_asm); (case k2 => k_asm); (case k3 => k_asm); (case k4 => k_asm); (case k5 => k_asm); (case k6 => k_is); (case k7 => k_is); (case k8 => ktr_room); (case k9 => first | exact BindsTo.of_eq rfl | exact binds_K (by k_in) rfl (by k_is) rfl rfl rfl); (case c5 => decide); (case kB => exact locs rfl); (case c2 => exact rfl); (case c3 => exact rfl); (case c4 => exact rfl); k_whole; intro g' L' h' FG' F' N' B' X' T'; (try dsimp only); (try k_lift B'); (try k_fold)))) | (k_here; (with_reducible show if (_ == _) = true then _ else _); k_dflt (first | (refine' Mine.ieq_no ?k1 ?_; (case k1 => omega)) | (refine' Mine.ieq_yes ?k1 ?_; (case k1 => omega)))) | ((with_reducible show Raisable _ _ _); first | k_dflt (refine' Mine.raise_made excClass_ValueError ?k1 ?k2 ?k3 ?k4 ?_; (case k1 => assumption); (case k2 => k_asm); (case k3 => k_asm); (case k4 => assumption); k_whole; intro h' x' F' N') | k_dflt (refine' Mine.raise_made excClass_TypeError ?k1 ?k2 ?k3 ?k4 ?_; (case k1 => assumption); (case k2 => k_asm); (case k3 => k_asm); (case k4 => assumption); k_whole; intro h' x' F' N')) | (k_unfold; (try dsimp only)) | (k_end; wrow_close) | walk1 | dsimp only | (leave1; (try dsimp only)))
  all_goals (refine' hret _ [] _ _ ?r1 ?r2 ?r3 ⟨rfl, _, rfl⟩; (case r1 => k_asm); (case r2 => first | exact news_drop1 (by k_asm) | k_asm); (case r3 => (intro _ _ _ h; cases h)))
end
end Mine
end
-- Int1
section
open PySem PySem.W PyProof.Rows PySem.Calls PySem.Spec PySem.NumText
open Sem (wp)
set_option maxRecDepth 100000
namespace Mine
theorem new2_10 (x : Str) (u v : Tok) : Builtin.«int.__new__» ⟨[.type "int", .str x u, .int 10 v], []⟩ = ((int_private% "intFromText") (.str x u) (numTextOf x) 10 >>= fun v => ret v) := by kernel_rfl
theorem new2_16 (x : Str) (u v : Tok) : Builtin.«int.__new__» ⟨[.type "int", .str x u, .int 16 v], []⟩ = ((int_private% "intFromText") (.str x u) (numTextOf x) 16 >>= fun v => ret v) := by kernel_rfl
theorem typeCall_int_2 (a b : Value) : checkTypeCall "int" ⟨[a, b], []⟩ = pure () := by kernel_rfl
theorem newCall_int_2 (a b : Value) : checkBuiltinCall "int.__new__" ⟨[.type "int", a, b], []⟩ = pure () := by kernel_rfl
theorem args_init_2 (o a b : Value) : argsOk "object.__init__" ⟨[o, a, b], []⟩ := by unfold argsOk; kernel_rfl
end Mine
end
-- Int2
section
open PySem PySem.W PyProof.Rows PySem.Calls PySem.Spec PySem.NumText
open Sem (wp)
set_option maxRecDepth 100000
namespace Mine
section
variable {prog : Program} {w : World} {A : Around} {E : Value → Shared → Prop} {s : Shared} {x : Str} {u : Tok} {text : List Nat} {base : Nat}
/-- under the claim's caller a refusal leaves no mark -/
theorem mark_C {M : Model} {own : List String} {e : Value} {Q : Unit → Shared → Prop} (h : Q () s) : wpC M A (markTheRefusal own e) Q E s := fun Γ p _ hc => by
  have hf : pythonCodeMadeTheCall own (((Γ.code, p) :: Γ.below).map (·.1)) = false := by
    have hany : ((((Γ.code, p) :: Γ.below).map (·.1)).any fun c => match c with | .builtin "claim.caller" _ => true | _ => false) = true := by
      rw [List.any_map, List.any_cons, Bool.or_eq_true]
      exact hc
    unfold pythonCodeMadeTheCall
    refine Bool.and_eq_false_iff.mpr (.inl (Bool.and_eq_false_iff.mpr (.inl ?_)))
    rw [Bool.not_eq_false']
    exact hany
  show wp M Γ (if pythonCodeMadeTheCall own (((Γ.code, p) :: Γ.below).map (·.1)) = true then _ else _) _ _ p s
  rw [if_neg (by rw [hf]; exact Bool.false_ne_true)]
  exact h
theorem newExc_value {M : Model} {a : Value} {Q : Value → Shared → Prop} (h : ∀ h' e, Heap.NewExc s.heap h' e "ValueError" → Q (.ref e) { s with heap := h' }) : wpAny M A (newExc (.type "ValueError") [a]) Q E s := by
  have hc := excClass_ValueError
  unfold newExc newTuple
  refine wpAny_bind (wpAny_newObj_type ?_ (by size_fits))
  refine wpAny_bind (m := firstArgMember _ _) (wpAny_of_eq (a := Value.none) (by simp only [firstArgMember, hc.noFirst]; rfl) ?_)
  rw [hc.noOwn]
  refine wpAny_newObj_type ?_ (by size_fits)
  exact h _ _ ⟨fun b o hb => Heap.get?_push_of_some _ (Heap.get?_push_of_some _ hb), Heap.get?_none_of_le (by simp), _, .ref s.heap.objs.size, Heap.get?_push_size _ rfl, rfl, by simp⟩
theorem fromText_bad {Q : Value → Shared → Prop} (hh : A.handled = none) (hs : (text.takeWhile (· != 0)).length ≤ 640) (hx : x.length ≤ 1000) (hc : ∀ c ∈ x.cps.toList, c < 128) (hb : base = 10 ∨ base = 16) (hr : (int_private% "readNumeral") 0 base (text.takeWhile (· != 0)) = int_private% "Numeral.invalid")
    (h : ∀ h' tk e, Heap.NewExc s.heap h' e "ValueError" → E (.ref e) { s with heap := h', toks := tk }) :
    wpC (model prog w) A ((int_private% "intFromText") (.str x u) text base) Q E s := by
  show wpC _ _ (if (text.takeWhile (· != 0)).length ≤ 640 then _ else _) _ _ _
  rw [if_pos hs]
  refine wpC_bindA (wpAny_pure ?_)
  dsimp only
  rw [hr]
  dsimp only
  refine wpC_bindA (wpAny_pure ?_)
  have hrl : (reprText x).length ≤ 20000 := by
    have := StrLaws.reprText_len x (fun c hx => Nat.lt_trans (hc c hx) (by decide))
    omega
  refine wpC_bindA (wpAny_rule ?_)
  refine wpC_bindA (wpAny_pure ?_)
  refine wpC_bindA (wpAny_pyRepr_str ?_ (by rw [sizeLine_eq]; omega))
  refine wpC_bindA (wpAny_mkStr ?_ ?hsz)
  refine wpC_bindA (newExc_value fun h' e hx' => ?_)
  refine wpC_bind (mark_C ?_)
  refine wpC_of_any ?_
  unfold raiseNew
  refine wpAny_bind (wpAny_handled ?_)
  rw [hh]
  first
    | exact wpAny_throw (h _ _ _ hx')
    | exact wpAny_bind (wpAny_pure (wpAny_throw (h _ _ _ hx')))
  case hsz =>
    show (_ ++ _ : Str).length ≤ sizeLine
    rw [Str.length_append, sizeLine_eq]
    have e1 : (Str.mk ((reprText x).cps.extract 0 200)).length ≤ 200 := by
      show ((reprText x).cps.extract 0 200).size ≤ 200
      rw [Array.size_extract]; omega
    have e2 : ∀ t : String, t.length ≤ 1000 → (Str.ofString t).length ≤ 1000 := fun t ht => by rw [PySem.ofString_length]; exact ht
    rcases hb with rfl | rfl
    · have := e2 (toString "invalid literal for int() with base " ++ toString 10 ++ toString ": ") (by decide +kernel)
      omega
    · have := e2 (toString "invalid literal for int() with base " ++ toString 16 ++ toString ": ") (by decide +kernel)
      omega
theorem fromText_ok {M : Model} {Q : Value → Shared → Prop} {n : Int} (hs : (text.takeWhile (· != 0)).length ≤ 640) (hr : (int_private% "readNumeral") 0 base (text.takeWhile (· != 0)) = (int_private% "Numeral.value") n) (he : (text.takeWhile (· != 0)).length = text.length)
    (h : Q (.int n s.toks) { s with toks := s.toks + 1 }) : wpAny M A ((int_private% "intFromText") (.str x u) text base) Q E s := by
  show wpAny _ _ (if (text.takeWhile (· != 0)).length ≤ 640 then _ else _) _ _ _
  rw [if_pos hs]
  refine wpAny_bind (wpAny_pure ?_)
  dsimp only
  rw [hr]
  dsimp only
  rw [if_pos (by simpa using he)]
  exact wpAny_mkInt h

-- the signs that the law writes
def okc (c : Nat) : Bool := c == 46 || c == 47 || (48 ≤ c && c ≤ 57) || (65 ≤ c && c ≤ 70) || (97 ≤ c && c ≤ 102) || (120 ≤ c && c ≤ 122)
def OkS (x : Str) : Prop := ∀ c ∈ x.cps.toList, okc c = true
theorem okc_all : ∀ c, c < 128 → okc c = true → c = 46 ∨ c = 47 ∨ (48 ≤ c ∧ c ≤ 57) ∨ (65 ≤ c ∧ c ≤ 70) ∨ (97 ≤ c ∧ c ≤ 102) ∨ (120 ≤ c ∧ c ≤ 122) := by decide +kernel
theorem okc_big {c : Nat} (q : 128 ≤ c) : okc c = false := by
  have h (k : Nat) (hk : k < 128) : decide (c ≤ k) = false := decide_eq_false (Nat.not_le.mpr (Nat.lt_of_lt_of_le hk q))
  have e (k : Nat) (hk : k < 128) : (c == k) = false := beq_eq_false_iff_ne.mpr (Nat.ne_of_gt (Nat.lt_of_lt_of_le hk q))
  unfold okc
  rw [h 57 (by decide), h 70 (by decide), h 102 (by decide), h 122 (by decide), e 46 (by decide), e 47 (by decide)]
  simp only [Bool.and_false, Bool.or_false]
theorem okc_cases {c : Nat} (h : okc c = true) : c = 46 ∨ c = 47 ∨ (48 ≤ c ∧ c ≤ 57) ∨ (65 ≤ c ∧ c ≤ 70) ∨ (97 ≤ c ∧ c ≤ 102) ∨ (120 ≤ c ∧ c ≤ 122) := by
  rcases Nat.lt_or_ge c 128 with q | q
  · exact okc_all c q h
  · exact absurd h (by rw [okc_big q]; exact Bool.false_ne_true)
theorem okc_lt {c : Nat} (h : okc c = true) : c < 128 := by
  rcases Nat.lt_or_ge c 128 with q | q
  · exact q
  · exact absurd h (by rw [okc_big q]; exact Bool.false_ne_true)

/-- the number that the digits write, none where a sign is no digit -/
def readNum (b : Nat) : Nat → List Nat → Option Nat
  | acc, [] => some acc
  | acc, c :: r => match digit? c with
    | some d => if d < b then readNum b (acc * b + d) r else none
    | none => none
theorem foldlM_read (b : Nat) : ∀ (cs : List Nat) (ds : Array Nat) (fl : Bool), (∀ c ∈ cs, c ≠ 95) →
    (readNum b (ds.foldl (fun acc d => acc * b + d) 0) cs = none ∧ cs.foldlM (NumText.step b) (ds, fl) = none) ∨
    ∃ ds', readNum b (ds.foldl (fun acc d => acc * b + d) 0) cs = some (ds'.foldl (fun acc d => acc * b + d) 0) ∧ cs.foldlM (NumText.step b) (ds, fl) = some (ds', if cs = [] then fl else true) ∧ ds'.size = ds.size + cs.length
  | [], ds, fl, _ => .inr ⟨ds, rfl, rfl, rfl⟩
  | c :: r, ds, fl, h => by
    have hc : (c == 95) = false := by simpa using h c (.head _)
    have hr : ∀ c ∈ r, c ≠ 95 := fun c hc => h c (.tail _ hc)
    rw [List.foldlM_cons]
    unfold readNum
    have hst : NumText.step b (ds, fl) c = match digit? c with
      | some d => if d < b then some (ds.push d, true) else none
      | none => none := by unfold NumText.step; rw [hc]; rfl
    rw [hst]
    cases hd : digit? c with
    | none => exact .inl ⟨rfl, rfl⟩
    | some d =>
      dsimp only
      by_cases hb : d < b
      · rw [if_pos hb, if_pos hb]
        have ih := foldlM_read b r (ds.push d) true hr
        have e : (ds.push d).foldl (fun acc d => acc * b + d) 0 = ds.foldl (fun acc d => acc * b + d) 0 * b + d := by simp
        rw [e] at ih
        rcases ih with ⟨h1, h2⟩ | ⟨ds', h1, h2, h3⟩
        · exact .inl ⟨h1, h2⟩
        · refine .inr ⟨ds', h1, ?_, ?_⟩
          · rw [if_neg (by simp)]
            refine h2.trans ?_
            split <;> rfl
          · rw [h3, Array.size_push, List.length_cons]; omega
      · rw [if_neg hb, if_neg hb]
        exact .inl ⟨rfl, rfl⟩
/-- int(x, base) of a text of the law's signs that is not empty and has no nought in front -/
def numOf (b : Nat) (x : Str) : Option Nat := readNum b 0 x.cps.toList
theorem read_num {b : Nat} {t : List Nat} (hb : b = 10 ∨ b = 16) (ht : ∀ c ∈ t, okc c = true) (hne : t ≠ []) (h0 : ∀ c r, t ≠ 48 :: c :: r) (hl : t.length ≤ 640) :
    (readNum b 0 t = none ∧ (int_private% "readNumeral") 0 b t = int_private% "Numeral.invalid") ∨ ∃ n : Nat, readNum b 0 t = some n ∧ (int_private% "readNumeral") 0 b t = (int_private% "Numeral.value") (n : Int) := by
  have nb : ∀ c, okc c = true → blank c = false := fun c hc => by
    have := okc_cases hc
    unfold blank
    simp only [Bool.or_eq_false_iff, Bool.and_eq_false_iff, beq_eq_false_iff_ne, decide_eq_false_iff_not]
    omega
  have nd : ∀ l : List Nat, (∀ c ∈ l, okc c = true) → l.dropWhile blank = l := fun l hl => by
    cases l with
    | nil => rfl
    | cons c r => rw [List.dropWhile_cons_of_neg (by rw [nb c (hl c (.head _))]; exact Bool.false_ne_true)]
  have hsign : sign t = (false, t) := by
    unfold sign
    split
    · rename_i r; have := okc_cases (ht 45 (.head _)); omega
    · rename_i r; have := okc_cases (ht 43 (.head _)); omega
    · rfl
  have hpre : prefix? t = none := by
    unfold prefix?
    split
    · rename_i c r; exact absurd rfl (h0 c r)
    · rfl
  have hbased : based b t = (b, false, t) := by
    unfold based
    rw [hpre]
    dsimp only
    rw [if_neg (by rcases hb with rfl | rfl <;> decide)]
  rw [readNumeral_eq, nd t ht, hsign]
  dsimp only
  rw [hbased]
  dsimp only
  rw [nd t.reverse (fun c hc => ht c (List.mem_reverse.mp hc)), List.reverse_reverse]
  have key := foldlM_read b t #[] false (fun c hc e => by have := okc_cases (ht c hc); omega)
  unfold digits?
  rcases key with ⟨h1, h2⟩ | ⟨ds', h1, h2, h3⟩
  · refine .inl ⟨h1, ?_⟩
    rw [h2]
    rfl
  · refine .inr ⟨_, h1, ?_⟩
    rw [h2, if_neg hne]
    show judge 0 false b false (if true = true then some ds' else none) = _
    rw [if_pos rfl]
    unfold judge
    dsimp only
    rw [if_neg (by simp), if_neg (by simp at h3; simp; omega)]
    rfl
theorem text_of {x : Str} (hx : OkS x) : numTextOf x = x.cps.toList := by
  unfold numTextOf
  rw [if_pos]
  rw [Array.all_eq_true']
  intro c hc
  exact decide_eq_true (okc_lt (hx c (by simpa using hc)))
theorem seen_of {x : Str} (hx : OkS x) : x.cps.toList.takeWhile (· != 0) = x.cps.toList := by
  have key : ∀ l : List Nat, (∀ c ∈ l, okc c = true) → l.takeWhile (· != 0) = l := by
    intro l
    induction l with
    | nil => intro _; rfl
    | cons c r ih =>
      intro h
      have := okc_cases (h c (.head _))
      rw [List.takeWhile_cons, if_pos (by simp; omega), ih fun c hc => h c (.tail _ hc)]
  exact key _ hx
end
end Mine
end
-- Int3
section
open PySem PySem.W PyProof.Rows PySem.Calls PySem.Spec PySem.NumText
open Sem (wp)
set_option maxRecDepth 100000
namespace Mine
theorem gives_int2 {x : Str} {u v : Tok} {b : Nat} {n : Nat} (hb : b = 10 ∨ b = 16) (hx : OkS x) (hl : x.length ≤ 640) (hne : 1 ≤ x.length) (h0 : ∀ c r, x.cps.toList ≠ 48 :: c :: r) (hn : numOf b x = some n) :
    Gives (Builtin.«int.__new__» ⟨[.type "int", .str x u, .int (b : Int) v], []⟩) (.int n) :=
  .of_wp fun M A E s Q h => by
    have hl' : x.cps.toList.length ≤ 640 := by simpa [Str.length] using hl
    have hne' : x.cps.toList ≠ [] := fun e => by
      have : x.cps.toList.length = 0 := by rw [e]; rfl
      have h2 : x.length = x.cps.toList.length := by simp [Str.length]
      omega
    have hr := read_num hb hx hne' h0 hl'
    have hr' : (int_private% "readNumeral") 0 b ((numTextOf x).takeWhile (· != 0)) = (int_private% "Numeral.value") (n : Int) := by
      rw [text_of hx, seen_of hx]
      rcases hr with ⟨h1, _⟩ | ⟨n', h1, h2⟩
      · unfold numOf at hn; rw [hn] at h1; cases h1
      · unfold numOf at hn; rw [hn] at h1; cases h1; exact h2
    have hs : ((numTextOf x).takeWhile (· != 0)).length ≤ 640 := by rw [text_of hx, seen_of hx]; exact hl'
    have he : ((numTextOf x).takeWhile (· != 0)).length = (numTextOf x).length := by rw [text_of hx, seen_of hx]
    rcases hb with rfl | rfl
    · show wpAny M A (Builtin.«int.__new__» ⟨[.type "int", .str x u, .int 10 v], []⟩) _ _ _
      rw [new2_10]
      exact wpAny_bind (fromText_ok hs hr' he (wpAny_pure ⟨_, rfl, h⟩))
    · show wpAny M A (Builtin.«int.__new__» ⟨[.type "int", .str x u, .int 16 v], []⟩) _ _ _
      rw [new2_16]
      exact wpAny_bind (fromText_ok hs hr' he (wpAny_pure ⟨_, rfl, h⟩))
section
variable {prog : Program} {w : World} {A : Around} {E : Value → Shared → Prop} {s : Shared} {x : Str} {t u : Tok}
theorem int_ok {b : Nat} {n : Nat} {Q : Value → Shared → Prop} (hb : b = 10 ∨ b = 16) (hx : OkS x) (hl : x.length ≤ 640) (hne : 1 ≤ x.length) (h0 : ∀ c r, x.cps.toList ≠ 48 :: c :: r) (hn : numOf b x = some n)
    (h : Q (.int n s.toks) { s with toks := s.toks + 1 }) : wpAny (model prog w) A (call (.type "int") [.str x t, .int (b : Int) u]) Q E s :=
  callType_new F.called_int F.newNe_int (typeCall_int_2 _ _) (newCall_int_2 _ _) (fun obj => args_init_2 obj _ _) F.entry_int_new (gives_int2 hb hx hl hne h0 hn).meets (show (Made.int n).post _ s from ⟨rfl, h⟩)
theorem codeC_builtin {R : Result → Shared → Prop} {id : String} {args : Args} {b : Builtin} (hb : entryFor table id = some b)
    (h : wpC (model prog w) (A.under (.builtin id args)) (b args) (fun fin s' => match fin with | .done f => R (.ok f) s' | .again c' => c'.quiet = true ∧ codeC (model prog w) A c' R s') (fun e s' => R (.error e) s') s) : codeC (model prog w) A (.builtin id args) R s := by
  refine codeC_of_tree ?_
  show wpC _ _ (match entryFor table id with | some b => b args | none => unsupported ((withoutEnding? id "#data").getD id)) _ _ s
  rw [hb]; exact h
theorem codeC_call_builtin {R : Result → Shared → Prop} {id : String} {args : Args} {b : Builtin} (hq : plainId id = true) (hb : entryFor table id = some b) (hcn : checkBuiltinCall id args = pure ())
    (h : wpC (model prog w) A.in1 (b args) (fun fin s' => match fin with | .done f => R (.ok f) s' | .again c' => c'.quiet = true ∧ codeC (model prog w) A c' R s') (fun e s' => R (.error e) s') s) : codeC (model prog w) A (.call (.builtin id) args) R s := by
  refine codeC_of_tree ?_
  show wpC _ A.in1 (do checkBuiltinCall id args; again (.builtin id args)) _ _ s
  refine wpC_bindA (wpAny_of_eq hcn (wpC_pure ⟨plainId_quiet hq args, codeC_builtin hb ?_⟩))
  rw [Around.under_plainId hq args]
  exact h
theorem int_bad {b : Nat} {Q : Value → Shared → Prop} (hh : A.handled = none) (hb : b = 10 ∨ b = 16) (hx : OkS x) (hl : x.length ≤ 640) (hne : 1 ≤ x.length) (h0 : ∀ c r, x.cps.toList ≠ 48 :: c :: r) (hn : numOf b x = none)
    (h : ∀ h' tk e, Heap.NewExc s.heap h' e "ValueError" → E (.ref e) { s with heap := h', toks := tk }) : wpC (model prog w) A (call (.type "int") [.str x t, .int (b : Int) u]) Q E s := by
  have hl' : x.cps.toList.length ≤ 640 := by simpa [Str.length] using hl
  have hne' : x.cps.toList ≠ [] := fun e => by
    have : x.cps.toList.length = 0 := by rw [e]; rfl
    have h2 : x.length = x.cps.toList.length := by simp [Str.length]
    omega
  have hr := read_num hb hx hne' h0 hl'
  have hr' : (int_private% "readNumeral") 0 b ((numTextOf x).takeWhile (· != 0)) = int_private% "Numeral.invalid" := by
    rw [text_of hx, seen_of hx]
    rcases hr with ⟨_, h2⟩ | ⟨n', h1, _⟩
    · exact h2
    · unfold numOf at hn; rw [hn] at h1; cases h1
  have hs : ((numTextOf x).takeWhile (· != 0)).length ≤ 640 := by rw [text_of hx, seen_of hx]; exact hl'
  have ft := F.called_int
  refine wpC_call (codeC_of_tree ?_)
  show wpC _ _ (callAny (.type "int") ⟨_, []⟩) _ _ s
  simp only [callAny]
  refine wpC_pure ⟨Code.quiet_builtin _ (by decide +kernel), codeC_builtin F.entry_type_call ?_⟩
  rw [Around.under_plain (weight_type_call_type "int" _ []) (units_type_call_type "int" _ [])]
  dsimp only
  unfold Builtin.«type.__call__»
  dsimp only
  rw [if_neg (by rw [ft.notType]; exact Bool.false_ne_true), if_neg (by rw [ft.canCreate]; exact Bool.false_ne_true)]
  obtain ⟨c, tl, hm⟩ := ft.mro
  refine wpC_bindA (wpAny_of_eq (typeCall_int_2 _ _) (wpC_bindA (wpAny_of_eq hm ?_)))
  rw [if_neg (by simp)]
  refine wpC_bindA (wpAny_of_eq ft.made ?_)
  dsimp only
  refine wpC_bindA (wpAny_pure (wpC_bind (wpC_holding (wpC_call ?_))))
  refine codeC_call_builtin ft.plain F.entry_int_new (newCall_int_2 _ _) ?_
  have hin : A.in1.in1.handled = none := hh
  rcases hb with rfl | rfl
  · show wpC _ _ (Builtin.«int.__new__» ⟨[.type "int", .str x t, .int 10 u], []⟩) _ _ _
    rw [new2_10]
    refine wpC_bind (fromText_bad hin hs (by omega) (fun c hc => okc_lt (hx c hc)) (.inl rfl) hr' fun h' tk e hx' => ?_)
    exact h h' tk e hx'
  · show wpC _ _ (Builtin.«int.__new__» ⟨[.type "int", .str x t, .int 16 u], []⟩) _ _ _
    rw [new2_16]
    refine wpC_bind (fromText_bad hin hs (by omega) (fun c hc => okc_lt (hx c hc)) (.inr rfl) hr' fun h' tk e hx' => ?_)
    exact h h' tk e hx'
end
end Mine
end
-- Lib5
section
open PySem PySem.W PyProof.Rows PySem.Calls PySem.Spec
namespace Mine
abbrev topA (dp un : Nat) (gd : Option (List Code)) (env : Env) : Around := { handled := none, depth := dp, frames := some [env], guards := gd, units := un }
/-- a call of the def at f comes back, made in the outermost frame -/
abbrev Asks (w : World) (f : Addr) (args : List Value) (news : List (Addr × Obj)) (Ret : Value → List (Addr × Obj) → Prop) : Prop :=
  ∀ {p : Program} {loose : List Str} {mean : ExcName → Option Value} {mg mb : Str → Option Value} {A₀ : Around} {dp un : Nat} {gd : Option (List Code)} {h₀ : Heap} {L : Addr} {m : Str → Option Value} {s : Shared} {env : Env} {Q E : Value → Shared → Prop},
    Below A₀ h₀ [] h₀ → Fr h₀ L s.heap m → (hd.heap_39 w.params).In h₀ → News h₀ L s.heap news → Top p loose mean mg mb h₀ → env.frame = some L → env.scope.kind = .function →
    dp + 16 < recursionLimit → un + 100 < cLine →
    (∀ v news' h' tk', Fr h₀ L h' m → News h₀ L h' (news' ++ news) → Ret v news' → Q v { s with heap := h', toks := tk' }) →
    wpAny (model PySem.Challenge.pw_iw0004_01 w) (topA dp un gd env) (call (.ref f) args) Q E s
/-- the same where the claim's caller is known -/
abbrev AskC (w : World) (f : Addr) (args : List Value) (news : List (Addr × Obj)) (Ret : Value → List (Addr × Obj) → Prop) : Prop :=
  ∀ {p : Program} {loose : List Str} {mean : ExcName → Option Value} {mg mb : Str → Option Value} {A₀ : Around} {dp un : Nat} {gd : Option (List Code)} {h₀ : Heap} {L : Addr} {m : Str → Option Value} {s : Shared} {env : Env} {Q E : Value → Shared → Prop},
    Below A₀ h₀ [] h₀ → Fr h₀ L s.heap m → (hd.heap_39 w.params).In h₀ → News h₀ L s.heap news → Top p loose mean mg mb h₀ → env.frame = some L → env.scope.kind = .function →
    dp + 16 < recursionLimit → un + 100 < cLine →
    (∀ v news' h' tk', Fr h₀ L h' m → News h₀ L h' (news' ++ news) → Ret v news' → Q v { s with heap := h', toks := tk' }) →
    wpC (model PySem.Challenge.pw_iw0004_01 w) (topA dp un gd env) (call (.ref f) args) Q E s

section
variable {K : Frag} {M : Model} {A : Around} {E : Value → Shared → Prop} {s : Shared} {env : Env}
theorem wpC_callWith_K {pos : Pos} {a : Addr} {oc : Value} {od : Option Addr} {fd : FuncData} {osl : Array (Option Value)} {e : Expr} {rest : List Expr} {Q : Value → Shared → Prop} (ho : K.lookup a = some ⟨oc, od, .func fd, osl⟩)
    (h : wpAny M A (spliced (backTo pos (starEach (e :: rest) env))) (fun vs s₁ => K.In s₁.heap ∧ wpC M A (call (.ref a) vs) Q E s₁) E s)
    (he : starEach (e :: rest) env = (false, eval e env) :: starEach rest env := by rfl) (hplain : (backTo pos (starEach rest env)).any (·.1) = false := by rfl) :
    wpC M A (callWith pos (.ref a) [] (backTo pos (starEach (e :: rest) env)) []) Q E s := by
  rw [he] at h ⊢
  refine wpC_callWith_function (o := ⟨oc, od, .func fd, osl⟩) (fd := fd) (by show (false || (backTo pos (starEach rest env)).any (·.1)) = false; rw [hplain]; rfl) (evalArgs_plain (wpAny_mono h (fun vs s₁ h₁ => ⟨⟨h₁.1 _ _ ho, rfl⟩, h₁.2⟩) fun _ _ x => x))
theorem wpC_callWith_int {pos : Pos} {T : String} {e : Expr} {rest : List Expr} {Q : Value → Shared → Prop}
    (h : wpAny M A (spliced (backTo pos (starEach (e :: rest) env))) (fun vs s₁ => wpC M A (call (.type T) vs) Q E s₁) E s)
    (he : starEach (e :: rest) env = (false, eval e env) :: starEach rest env := by rfl) (hplain : (backTo pos (starEach rest env)).any (·.1) = false := by rfl) :
    wpC M A (callWith pos (.type T) [] (backTo pos (starEach (e :: rest) env)) []) Q E s := by
  rw [he] at h ⊢
  exact wpC_callWith_type (by show (false || (backTo pos (starEach rest env)).any (·.1)) = false; rw [hplain]; rfl) (evalArgs_plain h)
theorem is_none_dv {dv : Value} {dflt : Option Int} {Q : Value → Shared → Prop} (hd : match dflt with | none => dv = .none | some d => ∃ t, dv = .int d t) (h1 : dflt = none → dv = .none → Q (.bool true) s) (h2 : ∀ d t, dflt = some d → dv = .int d t → Q (.bool false) s) :
    wpAny M A (compareOp .Is dv .none) Q E s := by
  cases dflt with
  | none =>
    have e : dv = .none := hd
    subst e
    exact fun Γ p _ => h1 rfl rfl
  | some d =>
    obtain ⟨t, rfl⟩ := hd
    exact fun Γ p _ => h2 d t rfl rfl
end
/-- the default as a value -/
def DvIs (dv : Value) (dflt : Option Int) : Prop := match dflt with | none => dv = .none | some d => ∃ t, dv = .int d t

abbrev s0 : Str := Str.ofString "0"
/-- what a field of rounds gives -/
def specRounds (x : Str) (b : Nat) (dflt : Option Int) : Dt :=
  if x.length = 0 then (match dflt with | none => .err sVE | some d => .int d)
  else if Txt.startswith x s0 = true ∧ x ≠ s0 then .err sVE
  else match numOf b x with | none => .err sVE | some n => .int n
def withRounds (d : Dt) (a : Str) (o : Option Str) : Dt := match d with | .int n => .three n a o | d => d
/-- parse_mc3's answer as the law reads it -/
def specThree (g fr mk : Str) (b : Nat) (dflt : Option Int) : Dt := if Txt.startswith g fr = true then
    (match Txt.split (Txt.slice g (some (fr.length : Int)) none) mk with
    | [r, a] => withRounds (specRounds r b dflt) a none
    | [r, a, c] => withRounds (specRounds r b dflt) a (optS c)
    | _ => .err sVE)
  else .err sVE
section
variable {g fr mk r a c x : Str} {b : Nat} {dflt : Option Int} {n : Nat} {d : Int} {l : List Str}
theorem sThree_no (h : Txt.startswith g fr = false) : specThree g fr mk b dflt = .err sVE := by unfold specThree; rw [if_neg (by rw [h]; decide)]
theorem sThree_1 (h : Txt.startswith g fr = true) (e : Txt.split (Txt.slice g (some (fr.length : Int)) none) mk = [a]) : specThree g fr mk b dflt = .err sVE := by unfold specThree; rw [if_pos h, e]
theorem sThree_4 (h : Txt.startswith g fr = true) (e : 4 ≤ (Txt.split (Txt.slice g (some (fr.length : Int)) none) mk).length) : specThree g fr mk b dflt = .err sVE := by
  unfold specThree
  rw [if_pos h]
  split
  · rename_i q; rw [q] at e; simp at e
  · rename_i q; rw [q] at e; simp at e
  · rfl
theorem sThree_2 (h : Txt.startswith g fr = true) (e : Txt.split (Txt.slice g (some (fr.length : Int)) none) mk = [r, a]) : specThree g fr mk b dflt = withRounds (specRounds r b dflt) a none := by unfold specThree; rw [if_pos h, e]
theorem sThree_3 (h : Txt.startswith g fr = true) (e : Txt.split (Txt.slice g (some (fr.length : Int)) none) mk = [r, a, c]) : specThree g fr mk b dflt = withRounds (specRounds r b dflt) a (optS c) := by unfold specThree; rw [if_pos h, e]
theorem sR_nil (h : x.length = 0) : specRounds x b none = .err sVE := by unfold specRounds; rw [if_pos h]
theorem sR_dflt (h : x.length = 0) : specRounds x b (some d) = .int d := by unfold specRounds; rw [if_pos h]
theorem sR_zero (h : Txt.startswith x s0 = true) (hx : x ≠ s0) : specRounds x b dflt = .err sVE := by
  have hl : ¬ x.length = 0 := by
    intro e
    have : Txt.startswith x s0 = false := by
      unfold Txt.startswith
      have : s0.length = 1 := by decide
      simp [e, this]
    rw [h] at this
    cases this
  unfold specRounds
  rw [if_neg hl, if_pos ⟨h, hx⟩]
theorem sR_bad (h : 1 ≤ x.length) (h0 : ¬ (Txt.startswith x s0 = true ∧ x ≠ s0)) (hn : numOf b x = none) : specRounds x b dflt = .err sVE := by unfold specRounds; rw [if_neg (by omega), if_neg h0, hn]
theorem sR_ok (h : 1 ≤ x.length) (h0 : ¬ (Txt.startswith x s0 = true ∧ x ≠ s0)) (hn : numOf b x = some n) : specRounds x b dflt = .int n := by unfold specRounds; rw [if_neg (by omega), if_neg h0, hn]
end
/-- no nought in front of another sign -/
theorem no_zero {x : Str} (h : ¬ (Txt.startswith x s0 = true ∧ x ≠ s0)) : ∀ c r, x.cps.toList ≠ 48 :: c :: r := by
  intro c r e
  refine h ⟨?_, ?_⟩
  · have hs : s0 = Str.mk #[48] := by decide +kernel
    have h1 : (Str.mk #[48]).length = 1 := rfl
    have hx : x = Str.mk (48 :: c :: r).toArray := by
      rw [← e]
    rw [hx, hs]
    unfold Txt.startswith
    rw [h1]
    simp [Str.length, Builtin.Str.subAt]
  · intro hx
    rw [hx] at e
    have hs : s0 = Str.mk #[48] := by decide +kernel
    rw [hs] at e
    simp at e
theorem zz_a {x : Str} (h : Txt.startswith x s0 = false) : ¬ (Txt.startswith x s0 = true ∧ x ≠ s0) := fun ⟨q, _⟩ => by rw [h] at q; cases q
theorem zz_b {x : Str} (h : (x != s0) = false) : ¬ (Txt.startswith x s0 = true ∧ x ≠ s0) := fun ⟨_, q⟩ => q (by simpa using h)
/-- the parts behind the front hold the law's letters alone -/
def OkParts (g fr mk : Str) : Prop := Txt.startswith g fr = true → ∀ p ∈ Txt.split (Txt.slice g (some (fr.length : Int)) none) mk, OkS p
section
variable {g fr mk r a c x e : Str} {b : Nat} {dflt : Option Int} {n : Int} {o : Option Str}
theorem ok_in2 (h : OkParts g fr mk) (hs : Txt.startswith g fr = true) (e : Txt.split (Txt.slice g (some (fr.length : Int)) none) mk = [r, a]) : OkS r := h hs _ (by rw [e]; exact .head _)
theorem ok_in3 (h : OkParts g fr mk) (hs : Txt.startswith g fr = true) (e : Txt.split (Txt.slice g (some (fr.length : Int)) none) mk = [r, a, c]) : OkS r := h hs _ (by rw [e]; exact .head _)
theorem w_err (h : specRounds r b dflt = .err x) : withRounds (specRounds r b dflt) a o = .err x := by rw [h]; rfl
theorem w_int (h : specRounds r b dflt = .int n) : withRounds (specRounds r b dflt) a o = .three n a o := by rw [h]; rfl
theorem sR_zero' (h : Txt.startswith x s0 = true) (hx : (x != s0) = true) : specRounds x b dflt = .err sVE := sR_zero h (by simpa using hx)
end
section
variable {prog : Program} {w : World} {A : Around} {E : Value → Shared → Prop} {s : Shared} {x : Str} {t u : Tok}
theorem int_any {b : Nat} {Q : Value → Shared → Prop} (hh : A.handled = none) (hb : b = 10 ∨ b = 16) (hx : OkS x) (hl : x.length ≤ 640) (hne : 1 ≤ x.length) (h0 : ¬ (Txt.startswith x s0 = true ∧ x ≠ s0))
    (hk : ∀ n, numOf b x = some n → Q (.int n s.toks) { s with toks := s.toks + 1 }) (hbad : ∀ h' tk e, numOf b x = none → Heap.NewExc s.heap h' e "ValueError" → E (.ref e) { s with heap := h', toks := tk }) :
    wpC (model prog w) A (call (.type "int") [.str x t, .int (b : Int) u]) Q E s := by
  cases hn : numOf b x with
  | none => exact int_bad hh hb hx hl hne (no_zero h0) hn fun h' tk e x' => hbad h' tk e hn x'
  | some n => exact wpC_of_any (int_ok hb hx hl hne (no_zero h0) hn (hk n hn))
end
theorem sub_self {l : List (Addr × Obj)} : ∀ p ∈ l, p ∈ l := fun _ h => h
theorem sub_more {l l' : List (Addr × Obj)} {x : Addr × Obj} (h : ∀ p ∈ l, p ∈ l') : ∀ p ∈ l, p ∈ x :: l' := fun p hp => .tail _ (h p hp)
end Mine
end
-- C2
section
open PySem PySem.W PyProof.Rows PySem.Calls PySem.Spec
namespace Mine
section
-- contracts at their calls
section
set_option maxRecDepth 100000 in
set_option maxHeartbeats 2000000 in
theorem two_text {w : World} {v : Value} {g fr mk : Str} {t2 t3 : Tok} {news : List (Addr × Obj)} (hU : UniIs w v g) (hg : g.length ≤ 1000) (hf : fr.length ≤ 1000) (hm : mk.length ≤ 1000) (hm0 : 1 ≤ mk.length) :
    Asks w 149 [v, .str fr t2, .str mk t3] news (fun r n => DtIn n r (specTwo g fr mk)) := by
  intro p loose mean mg mb A₀ dp un gd h₀ L m s env Q E B F X N T hfr hk hd hu hret
  refine wpAny_call ?_
  k_dflt (refine' code_top ?k1 ?k2 ?k3 ?k4 ?k5 ?kA ?kf ?kk ?k6 ?k7 ?k8 ?k9 ?kB ?_ ?c2 ?c3 ?c4 ?c5; (case kA => exact rfl); (case kf => assumption); (case kk => assumption); (case k1 => k_asm); (case k2 => k_asm); (case k3 => k_asm); (case k4 => k_asm); (case k5 => k_asm); (case k6 => k_is); (case k7 => k_is); (case k8 => ktr_room); (case k9 => first | exact BindsTo.of_eq rfl | exact binds_K (by k_in) rfl (by k_is) rfl rfl rfl); (case c5 => decide); (case kB => exact locs rfl); (case c2 => exact rfl); (case c3 => exact rfl); (case c4 => exact rfl); k_whole; intro g' L' h' FG' F' N' B' X' T' D'; (try dsimp only); (try k_lift B'); (try k_fold))
  repeat' (first | (k_here; (with_reducible show wpAny _ _ (exec (Stmt.Raise (some (Expr.Call (Expr.Name _ _) _ [] _)) none _) _) _ _ _); k_dflt refine Raise_new rfl ?_) | (k_here; (with_reducible show wpAny _ _ (call (Value.builtin "str.split") [_, _]) _ _ _); k_dflt (refine' Mine.split_ways2 ?k1 ?k2 ?k3 ?k4 ?_ ?_ ?_; (case k1 => k_asm); (case k2 => k_asm); (case k3 => omega); (case k4 => omega)); all_goals (intros; (try k_sweep))) | (k_here; (with_reducible show wpAny _ _ (call (Value.ref 51) [Value.none]) _ _ _); k_dflt (refine' mal_call ?k1 ?k2 ?k3 ?k4 ?k5 ?k6 ?k7 ?k8 ?k9 ?_; (case k1 => k_asm); (case k2 => k_asm); (case k3 => k_asm); (case k4 => k_asm); (case k5 => k_asm); (case k6 => first | exact rfl | assumption); (case k7 => first | exact rfl | assumption); (case k8 => ktr_room); (case k9 => ktr_units); intro v' n' h' t' F' N' a' r'; obtain ⟨e', o', hv', hn', x'⟩ := r'; subst hv' hn'; (replace a' := fun p hp => a' p hp (e', o') (List.Mem.head _)); (simp only [List.cons_append, List.nil_append] at N'); (try k_sweep); (try dsimp only))) | (k_here; (with_reducible show wpAny _ _ (call (Value.ref 43) [Value.none]) _ _ _); k_dflt (refine' inv_call ?k1 ?k2 ?k3 ?k4 ?k5 ?k6 ?k7 ?k8 ?k9 ?_; (case k1 => k_asm); (case k2 => k_asm); (case k3 => k_asm); (case k4 => k_asm); (case k5 => k_asm); (case k6 => first | exact rfl | assumption); (case k7 => first | exact rfl | assumption); (case k8 => ktr_room); (case k9 => ktr_units); intro v' n' h' t' F' N' a' r'; obtain ⟨e', o', hv', hn', x'⟩ := r'; subst hv' hn'; (replace a' := fun p hp => a' p hp (e', o') (List.Mem.head _)); (simp only [List.cons_append, List.nil_append] at N'); (try k_sweep); (try dsimp only))) | (k_here; (with_reducible show wpAny _ _ (call (Value.ref 67) [_, _, _]) _ _ _); k_dflt ((rename UniIs _ _ _ => hU); refine' hU _ _ _ ?k1 ?k2 ?k3 ?k4 ?k5 ?k6 ?k7 ?k8 ?k9 ?_; (case k1 => k_asm); (case k2 => k_asm); (case k3 => k_asm); (case k4 => k_asm); (case k5 => k_asm); (case k6 => first | exact rfl | assumption); (case k7 => first | exact rfl | assumption); (case k8 => ktr_room); (case k9 => ktr_units); intro v' n' h' t' F' N' a' r'; obtain ⟨hn', t', hv'⟩ := r'; subst hv' hn'; clear a'; (simp only [List.nil_append] at N'); (try k_sweep); (try dsimp only))) | (k_here; (with_reducible show wpAny _ _ (call (Value.builtin "len") [Value.ref _]) _ _ _); k_dflt (refine' Mine.len_vs ?k1 ?k2 ?k3 ?_; (case k1 => k_asm); (case k2 => k_mem); (case k3 => first | assumption | omega)); intro _ _) | (k_here; (with_reducible show wpAny _ _ (truthy (Value.str _ _)) _ _ _); k_dflt (first | (refine' Mine.truthy_yes ?k1 ?k2 ?_; (case k1 => omega); (case k2 => omega)) | (refine' Mine.truthy_text ?k1 ?_ ?_; (case k1 => omega); all_goals intro _))) | (k_here; (with_reducible show wpAny _ _ (call (Value.builtin "str.split") [_, _]) _ _ _); k_dflt (refine' Mine.split_ways ?k1 ?k2 ?k3 ?k4 ?_ ?_ ?_ ?_; (case k1 => k_asm); (case k2 => k_asm); (case k3 => omega); (case k4 => omega)); all_goals (intros; (try k_sweep))) | (k_here; (with_reducible show wpAny _ _ (call (Value.type "TypeError") [_]) _ _ _); k_dflt (refine' Mine.exc_made excClass_TypeError ?k1 ?k2 ?_; (case k1 => k_asm); (case k2 => k_asm); k_whole; intro h' e' o' x' n' F' N'; (try k_sweep))) | (k_here; (with_reducible show wpAny _ _ (call (Value.type "ValueError") [_]) _ _ _); k_dflt (refine' Mine.exc_made excClass_ValueError ?k1 ?k2 ?_; (case k1 => k_asm); (case k2 => k_asm); k_whole; intro h' e' o' x' n' F' N'; (try k_sweep))) | (k_here; (with_reducible show wpAny _ _ (call (Value.ref _) _) _ _ _); k_dflt (refine wpAny_call ?_; (refine' code_top ?k1 ?k2 ?k3 ?k4 ?k5 ?kA ?kf ?kk ?k6 ?k7 ?k8 ?k9 ?kB ?_ ?c2 ?c3 ?c4 ?c5; (case kA => exact rfl); (case kf => assumption); (case kk => assumption); (case k1 => k_asm); (case k2 => k_asm); (case k3 => k_asm); (case k4 => k_asm); (case k5 => k_asm); (case k6 => k_is); (case k7 => k_is); (case k8 => ktr_room); (case k9 => first | exact BindsTo.of_eq rfl | exact binds_K (by k_in) rfl (by k_is) rfl rfl rfl); (case c5 => decide); (case kB => exact locs rfl); (case c2 => exact rfl); (case c3 => exact rfl); (case c4 => exact rfl); k_whole; intro g' L' h' FG' F' N' B' X' T' D'; (try dsimp only); (try k_lift B'); (try k_fold)))) | (k_here; (with_reducible show if (_ == _) = true then _ else _); k_dflt (first | (refine' Mine.ieq_no ?k1 ?_; (case k1 => omega)) | (refine' Mine.ieq_yes ?k1 ?_; (case k1 => omega)))) | ((with_reducible show Raisable _ _ _); first | k_dflt (refine' Mine.raise_made excClass_ValueError ?k1 ?k2 ?k3 ?k4 ?_; (case k1 => assumption); (case k2 => k_asm); (case k3 => k_asm); (case k4 => assumption); k_whole; intro h' x' F' N') | k_dflt (refine' Mine.raise_made excClass_TypeError ?k1 ?k2 ?k3 ?k4 ?_; (case k1 => assumption); (case k2 => k_asm); (case k3 => k_asm); (case k4 => assumption); k_whole; intro h' x' F' N')) | (k_unfold; (try dsimp only)) | (k_end; wrow_close) | walk1 | dsimp only | (leave1; (try dsimp only)))
  all_goals first
    | (refine' end_err hret ?r1 ?r2 ?r3 ?r4; (case r1 => first | exact specTwo_no (by with_reducible assumption) | exact specTwo_3 (by with_reducible assumption) (by with_reducible assumption)); (case r2 => k_asm); (case r3 => k_asm); (case r4 => with_reducible (repeat (refine sub_more ?_)); exact sub_self))
    | (refine' end_two hret ?r2 ?r3 ?r5 ?r6 ?r1 ?r4; (case r2 => k_asm); (case r3 => k_asm); (case r5 => k_mem); (case r6 => first | exact opt_yes (by with_reducible assumption) | exact opt_no (by with_reducible assumption) | exact opt_none); (case r1 => first | exact specTwo_2 (by with_reducible assumption) (by with_reducible assumption) | exact specTwo_1 (by with_reducible assumption) (by with_reducible assumption)); (case r4 => with_reducible (repeat (refine sub_more ?_)); exact sub_self))
end
end
end Mine
end
-- N1
section
open PySem PySem.W PyProof.Rows PySem.Calls PySem.Spec
namespace Mine
section
set_option maxRecDepth 100000 in
set_option maxHeartbeats 2000000 in
theorem names_call {w : World} {news : List (Addr × Obj)} : Asks w 114 [] news (fun v n => ∃ D t0 t1 t2 t3, v = .ref D ∧ n = [(D, listOf #[.str (Str.ofString "$1$") t0, .str (Str.ofString "$sha1$") t1, .str (Str.ofString "") t2, .str (Str.ofString "_") t3] 0)]) := by
  intro p loose mean mg mb A₀ dp un gd h₀ L m s env Q E B F X N T hf hk hd hu hret
  refine wpAny_call ?_
  k_dflt (refine' code_def ?k1 ?k2 ?k3 ?k4 ?k5 ?kA ?kF ?kK ?k6 ?k7 ?k8 ?k9 ?kB ?_ ?c2 ?c3 ?c4 ?c5; (case kA => exact rfl); (case kF => assumption); (case kK => assumption); (case k1 => k_asm); (case k2 => k_asm); (case k3 => k_asm); (case k4 => k_asm); (case k5 => k_asm); (case k6 => k_is); (case k7 => k_is); (case k8 => ktr_room); (case k9 => first | exact BindsTo.of_eq rfl | exact binds_K (by k_in) rfl (by k_is) rfl rfl rfl); (case c5 => decide); (case kB => exact locs rfl); (case c2 => exact rfl); (case c3 => exact rfl); (case c4 => exact rfl); k_whole; intro g' L' h' FG' F' N' B' X' T'; (try dsimp only); (try k_lift B'); (try k_fold))
  repeat' (first | (k_here; (with_reducible show wpAny _ _ (exec (Stmt.Raise (some (Expr.Call (Expr.Name _ _) _ [] _)) none _) _) _ _ _); k_dflt refine Raise_new rfl ?_) | (k_here; (with_reducible show wpAny _ _ (call (Value.builtin "len") [Value.ref _]) _ _ _); k_dflt (refine' Mine.len_vs ?k1 ?k2 ?k3 ?_; (case k1 => k_asm); (case k2 => k_mem); (case k3 => first | assumption | omega)); intro _ _) | (k_here; (with_reducible show wpAny _ _ (truthy (Value.str _ _)) _ _ _); k_dflt (first | (refine' Mine.truthy_yes ?k1 ?k2 ?_; (case k1 => omega); (case k2 => omega)) | (refine' Mine.truthy_text ?k1 ?_ ?_; (case k1 => omega); all_goals intro _))) | (k_here; (with_reducible show wpAny _ _ (call (Value.builtin "str.split") [_, _]) _ _ _); k_dflt (refine' Mine.split_ways ?k1 ?k2 ?k3 ?k4 ?_ ?_ ?_ ?_; (case k1 => k_asm); (case k2 => k_asm); (case k3 => omega); (case k4 => omega)); all_goals (intros; (try k_sweep))) | (k_here; (with_reducible show wpAny _ _ (call (Value.type "TypeError") [_]) _ _ _); k_dflt (refine' Mine.exc_made excClass_TypeError ?k1 ?k2 ?_; (case k1 => k_asm); (case k2 => k_asm); k_whole; intro h' e' o' x' n' F' N'; (try k_sweep))) | (k_here; (with_reducible show wpAny _ _ (call (Value.type "ValueError") [_]) _ _ _); k_dflt (refine' Mine.exc_made excClass_ValueError ?k1 ?k2 ?_; (case k1 => k_asm); (case k2 => k_asm); k_whole; intro h' e' o' x' n' F' N'; (try k_sweep))) | (k_here; (with_reducible show wpAny _ _ (call (Value.ref _) _) _ _ _); k_dflt (refine wpAny_call ?_; (refine' code_def ?k1 ?k2 ?k3 ?k4 ?k5 ?kA ?kF ?kK ?k6 ?k7 ?k8 ?k9 ?kB ?_ ?c2 ?c3 ?c4 ?c5; (case kA => exact rfl); (case kF => assumption); (case kK => assumption); (case k1 => k_asm); (case k2 => k_asm); (case k3 => k_asm); (case k4 => k_asm); (case k5 => k_asm); (case k6 => k_is); (case k7 => k_is); (case k8 => ktr_room); (case k9 => first | exact BindsTo.of_eq rfl | exact binds_K (by k_in) rfl (by k_is) rfl rfl rfl); (case c5 => decide); (case kB => exact locs rfl); (case c2 => exact rfl); (case c3 => exact rfl); (case c4 => exact rfl); k_whole; intro g' L' h' FG' F' N' B' X' T'; (try dsimp only); (try k_lift B'); (try k_fold)))) | (k_here; (with_reducible show if (_ == _) = true then _ else _); k_dflt (first | (refine' Mine.ieq_no ?k1 ?_; (case k1 => omega)) | (refine' Mine.ieq_yes ?k1 ?_; (case k1 => omega)))) | ((with_reducible show Raisable _ _ _); first | k_dflt (refine' Mine.raise_made excClass_ValueError ?k1 ?k2 ?k3 ?k4 ?_; (case k1 => assumption); (case k2 => k_asm); (case k3 => k_asm); (case k4 => assumption); k_whole; intro h' x' F' N') | k_dflt (refine' Mine.raise_made excClass_TypeError ?k1 ?k2 ?k3 ?k4 ?_; (case k1 => assumption); (case k2 => k_asm); (case k3 => k_asm); (case k4 => assumption); k_whole; intro h' x' F' N')) | (k_unfold; (try dsimp only)) | (k_end; wrow_close) | walk1 | dsimp only | (leave1; (try dsimp only)))
  all_goals (refine' hret _ [_] _ _ ?r1 ?r2 ⟨_, _, _, _, _, rfl, rfl⟩; (case r1 => k_asm); (case r2 => k_asm))
set_option maxRecDepth 100000 in
set_option maxHeartbeats 2000000 in
theorem fields_call {w : World} {news : List (Addr × Obj)} : Asks w 121 [] news (fun v n => ∃ D t0 t1 t2 t3 t4 t5 t6 t7 t8 t9, v = .ref D ∧ n = [(D, listOf #[.str (Str.ofString "0") t0, .str (Str.ofString "00") t1, .str (Str.ofString "07") t2, .str (Str.ofString "0a") t3, .str (Str.ofString "") t4, .str (Str.ofString "7") t5, .str (Str.ofString "10") t6, .str (Str.ofString "480000") t7, .str (Str.ofString "ff") t8, .str (Str.ofString "a0") t9] 0)]) := by
  intro p loose mean mg mb A₀ dp un gd h₀ L m s env Q E B F X N T hf hk hd hu hret
  refine wpAny_call ?_
  k_dflt (refine' code_def ?k1 ?k2 ?k3 ?k4 ?k5 ?kA ?kF ?kK ?k6 ?k7 ?k8 ?k9 ?kB ?_ ?c2 ?c3 ?c4 ?c5; (case kA => exact rfl); (case kF => assumption); (case kK => assumption); (case k1 => k_asm); (case k2 => k_asm); (case k3 => k_asm); (case k4 => k_asm); (case k5 => k_asm); (case k6 => k_is); (case k7 => k_is); (case k8 => ktr_room); (case k9 => first | exact BindsTo.of_eq rfl | exact binds_K (by k_in) rfl (by k_is) rfl rfl rfl); (case c5 => decide); (case kB => exact locs rfl); (case c2 => exact rfl); (case c3 => exact rfl); (case c4 => exact rfl); k_whole; intro g' L' h' FG' F' N' B' X' T'; (try dsimp only); (try k_lift B'); (try k_fold))
  repeat' (first | (k_here; (with_reducible show wpAny _ _ (exec (Stmt.Raise (some (Expr.Call (Expr.Name _ _) _ [] _)) none _) _) _ _ _); k_dflt refine Raise_new rfl ?_) | (k_here; (with_reducible show wpAny _ _ (call (Value.builtin "len") [Value.ref _]) _ _ _); k_dflt (refine' Mine.len_vs ?k1 ?k2 ?k3 ?_; (case k1 => k_asm); (case k2 => k_mem); (case k3 => first | assumption | omega)); intro _ _) | (k_here; (with_reducible show wpAny _ _ (truthy (Value.str _ _)) _ _ _); k_dflt (first | (refine' Mine.truthy_yes ?k1 ?k2 ?_; (case k1 => omega); (case k2 => omega)) | (refine' Mine.truthy_text ?k1 ?_ ?_; (case k1 => omega); all_goals intro _))) | (k_here; (with_reducible show wpAny _ _ (call (Value.builtin "str.split") [_, _]) _ _ _); k_dflt (refine' Mine.split_ways ?k1 ?k2 ?k3 ?k4 ?_ ?_ ?_ ?_; (case k1 => k_asm); (case k2 => k_asm); (case k3 => omega); (case k4 => omega)); all_goals (intros; (try k_sweep))) | (k_here; (with_reducible show wpAny _ _ (call (Value.type "TypeError") [_]) _ _ _); k_dflt (refine' Mine.exc_made excClass_TypeError ?k1 ?k2 ?_; (case k1 => k_asm); (case k2 => k_asm); k_whole; intro h' e' o' x' n' F' N'; (try k_sweep))) | (k_here; (with_reducible show wpAny _ _ (call (Value.type "ValueError") [_]) _ _ _); k_dflt (refine' Mine.exc_made excClass_ValueError ?k1 ?k2 ?_; (case k1 => k_asm); (case k2 => k_asm); k_whole; intro h' e' o' x' n' F' N'; (try k_sweep))) | (k_here; (with_reducible show wpAny _ _ (call (Value.ref _) _) _ _ _); k_dflt (refine wpAny_call ?_; (refine' code_def ?k1 ?k2 ?k3 ?k4 ?k5 ?kA ?kF ?kK ?k6 ?k7 ?k8 ?k9 ?kB ?_ ?c2 ?c3 ?c4 ?c5; (case kA => exact rfl); (case kF => assumption); (case kK => assumption); (case k1 => k_asm); (case k2 => k_asm); (case k3 => k_asm); (case k4 => k_asm); (case k5 => k_asm); (case k6 => k_is); (case k7 => k_is); (case k8 => ktr_room); (case k9 => first | exact BindsTo.of_eq rfl | exact binds_K (by k_in) rfl (by k_is) rfl rfl rfl); (case c5 => decide); (case kB => exact locs rfl); (case c2 => exact rfl); (case c3 => exact rfl); (case c4 => exact rfl); k_whole; intro g' L' h' FG' F' N' B' X' T'; (try dsimp only); (try k_lift B'); (try k_fold)))) | (k_here; (with_reducible show if (_ == _) = true then _ else _); k_dflt (first | (refine' Mine.ieq_no ?k1 ?_; (case k1 => omega)) | (refine' Mine.ieq_yes ?k1 ?_; (case k1 => omega)))) | ((with_reducible show Raisable _ _ _); first | k_dflt (refine' Mine.raise_made excClass_ValueError ?k1 ?k2 ?k3 ?k4 ?_; (case k1 => assumption); (case k2 => k_asm); (case k3 => k_asm); (case k4 => assumption); k_whole; intro h' x' F' N') | k_dflt (refine' Mine.raise_made excClass_TypeError ?k1 ?k2 ?k3 ?k4 ?_; (case k1 => assumption); (case k2 => k_asm); (case k3 => k_asm); (case k4 => assumption); k_whole; intro h' x' F' N')) | (k_unfold; (try dsimp only)) | (k_end; wrow_close) | walk1 | dsimp only | (leave1; (try dsimp only)))
  all_goals (refine' hret _ [_] _ _ ?r1 ?r2 ⟨_, _, _, _, _, _, _, _, _, _, _, rfl, rfl⟩; (case r1 => k_asm); (case r2 => k_asm))
end
end Mine
end
-- C3
section
open PySem PySem.W PyProof.Rows PySem.Calls PySem.Spec
namespace Mine
/-- a call of the def at f comes back with a value, or leaves with a ValueError made on the way -/
abbrev AskX (w : World) (f : Addr) (args : List Value) (news : List (Addr × Obj)) (Ret : Value → List (Addr × Obj) → Prop) (Bad : Prop) : Prop :=
  ∀ {p : Program} {loose : List Str} {mean : ExcName → Option Value} {mg mb : Str → Option Value} {A₀ : Around} {dp un : Nat} {gd : Option (List Code)} {base h₀ : Heap} {L : Addr} {m : Str → Option Value} {s : Shared} {env : Env} {outer : List Env} {Q E : Value → Shared → Prop},
    Below A₀ base outer h₀ → Fr h₀ L s.heap m → (hd.heap_39 w.params).In h₀ → News h₀ L s.heap news → Top p loose mean mg mb h₀ → KtsDicts (outer.filterMap (·.frame)) h₀ → env.frame = some L → env.scope.kind = .function →
    dp + 10 < recursionLimit → un + 80 < cLine →
    (∀ v news' h' tk', Fr h₀ L h' m → News h₀ L h' (news' ++ news) → Ret v news' → Q v { s with heap := h', toks := tk' }) →
    (∀ e g n' h' tk', Bad → (∀ p ∈ news, p ∈ n') → Fr h₀ L g m → RaisedSN base g (env :: outer) e (.type "ValueError") n' h' → RaisedN base (env :: outer) e (.type "ValueError") n' h' → g.UpToSlots h' → E (.ref e) { s with heap := h', toks := tk' }) →
    wpC (model PySem.Challenge.pw_iw0004_01 w) (arO dp un gd env outer) (call (.ref f) args) Q E s
theorem end_threeX {h₀ h' : Heap} {L : Addr} {m : Str → Option Value} {news news₂ : List (Addr × Obj)} {s : Shared} {Q : Value → Shared → Prop} {d : Dt} {tk' : Nat} {c : Addr} {n : Int} {u : Tok} {a : Str} {t : Tok} {y : Value} {o : Option Str}
    (hret : ∀ v news' h' tk', Fr h₀ L h' m → News h₀ L h' (news' ++ news) → (∃ k a o, d = .three k a o) ∧ DtIn news' v d → Q v { s with heap := h', toks := tk' }) (F : Fr h₀ L h' m) (N : News h₀ L h' news₂) (hm : (c, tupOf [.int n u, .str a t, y]) ∈ news₂) (ho : OptIs y o) (hd : d = .three n a o) (hs : ∀ p ∈ news, p ∈ news₂) :
    Q (.ref c) { s with heap := h', toks := tk' } := end_three (fun v n h' tk' F N x => hret v n h' tk' F N ⟨⟨_, _, _, hd⟩, x⟩) F N hm ho hd hs
/-- the third part as a value, and what it counts for -/
def ChkIs (vc : Value) (o : Option Str) : Prop := (vc = .none ∧ o = none) ∨ ∃ c t, vc = .str c t ∧ c.length ≤ 600 ∧ o = optS c
/-- what parse_mc3's names hold behind the cut -/
structure Mid (g fr mk : Str) (b : Nat) (dflt : Option Int) (dv : Value) (t4 : Tok) (m' : Str → Option Value) (r a : Str) (tr ta : Tok) (vc : Value) (o : Option Str) : Prop where
  lr : LookIs m' (Str.ofString "rounds") (.str r tr)
  la : LookIs m' (Str.ofString "salt") (.str a ta)
  lc : LookIs m' (Str.ofString "chk") vc
  lh : LookIs m' (Str.ofString "handler") .none
  lb : LookIs m' (Str.ofString "rounds_base") (.int (b : Int) t4)
  ld : LookIs m' (Str.ofString "default_rounds") dv
  hr : OkS r
  hl : r.length ≤ 600
  hc : ChkIs vc o
  hs : specThree g fr mk b dflt = withRounds (specRounds r b dflt) a o
def P6 (s : Shared) (g' : Heap) (L' : Addr) (news : List (Addr × Obj)) (g fr mk : Str) (b : Nat) (dflt : Option Int) (dv : Value) (t4 : Tok) (s' : Shared) : Prop :=
  ∃ m' n' h' tk' r a tr ta vc o, s' = { s with heap := h', toks := tk' } ∧ Fr g' L' h' m' ∧ News g' L' h' n' ∧ (∀ p ∈ news, p ∈ n') ∧ Mid g fr mk b dflt dv t4 m' r a tr ta vc o
def P7 (s : Shared) (g' : Heap) (L' : Addr) (news : List (Addr × Obj)) (r : Str) (b : Nat) (dflt : Option Int) (m : Str → Option Value) (s' : Shared) : Prop :=
  ∃ n' h' tk' n tn, s' = { s with heap := h', toks := tk' } ∧ Fr g' L' h' (fun y => if y = Str.ofString "rounds" then some (.int n tn) else m y) ∧ News g' L' h' n' ∧ (∀ p ∈ news, p ∈ n') ∧ specRounds r b dflt = .int n
section
-- contracts at their calls
-- the caller-aware goals
set_option maxRecDepth 100000 in
set_option maxHeartbeats 2000000 in
theorem mc3_call {w : World} {v dv : Value} {g fr mk : Str} {b : Nat} {dflt : Option Int} {t2 t3 t4 : Tok} {news : List (Addr × Obj)} (hU : UniIs w v g) (hg : g.length ≤ 600) (hf : fr.length ≤ 600) (hm : mk.length ≤ 600) (hm0 : 1 ≤ mk.length)
    (hb : b = 10 ∨ b = 16) (hdv : DvIs dv dflt) (hok : OkParts g fr mk) :
    AskX w 83 [v, .str fr t2, .str mk t3, .int (b : Int) t4, dv] news (fun r n => (∃ k a o, specThree g fr mk b dflt = .three k a o) ∧ DtIn n r (specThree g fr mk b dflt)) (specThree g fr mk b dflt = .err sVE) := by
  intro p loose mean mg mb A₀ dp un gd base h₀ L m s env outer Q E B F X N T D hfr hk hd hu hret hbad
  refine wpC_call ?_
  k_dflt (refine' codeC_def ?k1 ?k2 ?k3 ?k4 ?k5 ?kA ?kF ?kK ?k6 ?k7 ?k8 ?k9 ?kB ?_ ?c2 ?c3 ?c4 ?c5; (case kA => exact rfl); (case kF => first | exact rfl | assumption); (case kK => first | exact rfl | assumption); (case k1 => k_asm); (case k2 => k_asm); (case k3 => k_asm); (case k4 => k_asm); (case k5 => k_asm); (case k6 => k_is); (case k7 => k_is); (case k8 => ktr_room); (case k9 => first | exact BindsTo.of_eq rfl | exact binds_K (by k_in) rfl (by k_is) rfl rfl rfl); (case c5 => decide); (case kB => exact locs rfl); (case c2 => exact rfl); (case c3 => exact rfl); (case c4 => exact rfl); k_whole; intro g' L' h' FG' F' N' B' X' T'; (try dsimp only); (try k_lift B'); (try k_fold))
  refine wpC_fn_abs ?_
  intro Qf Ef hfN hfR hfE
  repeat' ((fail_if_success (with_reducible show wpC _ _ (execs (Stmt.Assign _ _ _ :: Stmt.If (Expr.Compare _ _ _ _) _ _ _ :: _) _) _ _ _)); first | (with_reducible refine Nx.use (by with_reducible assumption) ?_; (try dsimp only)) | (with_reducible refine Rt.use (by with_reducible assumption) ?_; (try dsimp only)) | (with_reducible refine Er.use (by with_reducible assumption) ?_; (try dsimp only)) | (k_here; (with_reducible show wpAny _ _ (exec (Stmt.Raise (some (Expr.Call (Expr.Name _ _) _ [] _)) none _) _) _ _ _); k_dflt refine Raise_new rfl ?_) | (k_here; (with_reducible show wpAny _ _ (compareOp CmpOp.Is _ Value.none) _ _ _); k_dflt ((rename DvIs _ _ => hdv); refine' is_none_dv hdv ?_ ?_; all_goals (intros; subst_vars; (try dsimp only)))) | (k_here; (with_reducible show wpAny _ _ (call (Value.ref 51) [Value.none, Value.str _ _]) _ _ _); k_dflt (refine' mal_call2 (by decide +kernel) (by decide +kernel) ?k1 ?k2 ?k3 ?k4 ?k5 ?k6 ?k7 ?k8 ?k9 ?_; (case k1 => k_asm); (case k2 => k_asm); (case k3 => k_asm); (case k4 => k_asm); (case k5 => k_asm); (case k6 => first | exact rfl | assumption); (case k7 => first | exact rfl | assumption); (case k8 => ktr_room); (case k9 => ktr_units); intro v' n' h' t' F' N' a' r'; obtain ⟨e', o', hv', hn', x'⟩ := r'; subst hv' hn'; (replace a' := fun p hp => a' p hp (e', o') (List.Mem.head _)); (simp only [List.cons_append, List.nil_append] at N'); (try k_sweep); (try dsimp only))) | (k_here; (with_reducible show wpAny _ _ (call (Value.ref 59) [Value.none]) _ _ _); k_dflt (refine' zer_call ?k1 ?k2 ?k3 ?k4 ?k5 ?k6 ?k7 ?k8 ?k9 ?_; (case k1 => k_asm); (case k2 => k_asm); (case k3 => k_asm); (case k4 => k_asm); (case k5 => k_asm); (case k6 => first | exact rfl | assumption); (case k7 => first | exact rfl | assumption); (case k8 => ktr_room); (case k9 => ktr_units); intro v' n' h' t' F' N' a' r'; obtain ⟨e', o', hv', hn', x'⟩ := r'; subst hv' hn'; (replace a' := fun p hp => a' p hp (e', o') (List.Mem.head _)); (simp only [List.cons_append, List.nil_append] at N'); (try k_sweep); (try dsimp only))) | (k_here; (with_reducible show wpAny _ _ (call (Value.ref 51) [Value.none]) _ _ _); k_dflt (refine' mal_call ?k1 ?k2 ?k3 ?k4 ?k5 ?k6 ?k7 ?k8 ?k9 ?_; (case k1 => k_asm); (case k2 => k_asm); (case k3 => k_asm); (case k4 => k_asm); (case k5 => k_asm); (case k6 => first | exact rfl | assumption); (case k7 => first | exact rfl | assumption); (case k8 => ktr_room); (case k9 => ktr_units); intro v' n' h' t' F' N' a' r'; obtain ⟨e', o', hv', hn', x'⟩ := r'; subst hv' hn'; (replace a' := fun p hp => a' p hp (e', o') (List.Mem.head _)); (simp only [List.cons_append, List.nil_append] at N'); (try k_sweep); (try dsimp only))) | (k_here; (with_reducible show wpAny _ _ (call (Value.ref 43) [Value.none]) _ _ _); k_dflt (refine' inv_call ?k1 ?k2 ?k3 ?k4 ?k5 ?k6 ?k7 ?k8 ?k9 ?_; (case k1 => k_asm); (case k2 => k_asm); (case k3 => k_asm); (case k4 => k_asm); (case k5 => k_asm); (case k6 => first | exact rfl | assumption); (case k7 => first | exact rfl | assumption); (case k8 => ktr_room); (case k9 => ktr_units); intro v' n' h' t' F' N' a' r'; obtain ⟨e', o', hv', hn', x'⟩ := r'; subst hv' hn'; (replace a' := fun p hp => a' p hp (e', o') (List.Mem.head _)); (simp only [List.cons_append, List.nil_append] at N'); (try k_sweep); (try dsimp only))) | (k_here; (with_reducible show wpAny _ _ (call (Value.ref 67) [_, _, _]) _ _ _); k_dflt ((rename UniIs _ _ _ => hU); refine' hU _ _ _ ?k1 ?k2 ?k3 ?k4 ?k5 ?k6 ?k7 ?k8 ?k9 ?_; (case k1 => k_asm); (case k2 => k_asm); (case k3 => k_asm); (case k4 => k_asm); (case k5 => k_asm); (case k6 => first | exact rfl | assumption); (case k7 => first | exact rfl | assumption); (case k8 => ktr_room); (case k9 => ktr_units); intro v' n' h' t' F' N' a' r'; obtain ⟨hn', t', hv'⟩ := r'; subst hv' hn'; clear a'; (simp only [List.nil_append] at N'); (try k_sweep); (try dsimp only))) | (k_here; (with_reducible show wpAny _ _ (call (Value.builtin "len") [Value.ref _]) _ _ _); k_dflt (refine' Mine.len_vs ?k1 ?k2 ?k3 ?_; (case k1 => k_asm); (case k2 => k_mem); (case k3 => first | assumption | omega)); intro _ _) | (k_here; (with_reducible show wpAny _ _ (truthy (Value.str _ _)) _ _ _); k_dflt (first | (refine' Mine.truthy_yes ?k1 ?k2 ?_; (case k1 => omega); (case k2 => omega)) | (refine' Mine.truthy_text ?k1 ?_ ?_; (case k1 => omega); all_goals intro _))) | (k_here; (with_reducible show wpAny _ _ (call (Value.builtin "str.split") [_, _]) _ _ _); k_dflt (refine' Mine.split_ways ?k1 ?k2 ?k3 ?k4 ?_ ?_ ?_ ?_; (case k1 => k_asm); (case k2 => k_asm); (case k3 => omega); (case k4 => omega)); all_goals (intros; (try k_sweep))) | (k_here; (with_reducible show wpAny _ _ (call (Value.type "TypeError") [_]) _ _ _); k_dflt (refine' Mine.exc_made excClass_TypeError ?k1 ?k2 ?_; (case k1 => k_asm); (case k2 => k_asm); k_whole; intro h' e' o' x' n' F' N'; (try k_sweep))) | (k_here; (with_reducible show wpAny _ _ (call (Value.type "ValueError") [_]) _ _ _); k_dflt (refine' Mine.exc_made excClass_ValueError ?k1 ?k2 ?_; (case k1 => k_asm); (case k2 => k_asm); k_whole; intro h' e' o' x' n' F' N'; (try k_sweep))) | (k_here; (with_reducible show wpAny _ _ (call (Value.ref _) _) _ _ _); k_dflt (refine wpAny_call ?_; (refine' code_def ?k1 ?k2 ?k3 ?k4 ?k5 ?kA ?kF ?kK ?k6 ?k7 ?k8 ?k9 ?kB ?_ ?c2 ?c3 ?c4 ?c5; (case kA => exact rfl); (case kF => first | exact rfl | assumption); (case kK => first | exact rfl | assumption); (case k1 => k_asm); (case k2 => k_asm); (case k3 => k_asm); (case k4 => k_asm); (case k5 => k_asm); (case k6 => k_is); (case k7 => k_is); (case k8 => ktr_room); (case k9 => first | exact BindsTo.of_eq rfl | exact binds_K (by k_in) rfl (by k_is) rfl rfl rfl); (case c5 => decide); (case kB => exact locs rfl); (case c2 => exact rfl); (case c3 => exact rfl); (case c4 => exact rfl); k_whole; intro g' L' h' FG' F' N' B' X' T'; (try dsimp only); (try k_lift B'); (try k_fold)))) | (k_here; (with_reducible show if (_ == _) = true then _ else _); k_dflt (first | (refine' Mine.ieq_no ?k1 ?_; (case k1 => omega)) | (refine' Mine.ieq_yes ?k1 ?_; (case k1 => omega)))) | ((with_reducible show Raisable _ _ _); first | k_dflt (refine' Mine.raise_made excClass_ValueError ?k1 ?k2 ?k3 ?k4 ?_; (case k1 => assumption); (case k2 => k_asm); (case k3 => k_asm); (case k4 => assumption); k_whole; intro h' x' F' N') | k_dflt (refine' Mine.raise_made excClass_TypeError ?k1 ?k2 ?k3 ?k4 ?_; (case k1 => assumption); (case k2 => k_asm); (case k3 => k_asm); (case k4 => assumption); k_whole; intro h' x' F' N')) | ((with_reducible show wpC _ _ _ _ _ _); plain_pass; first | (k_here; (with_reducible show wpC _ _ (execs (_ :: _) _) _ _ _); k_dflt refine wpC_cons_abs ?_; intro Qs hNx hRt) | (k_here; (with_reducible show wpC _ _ (execs [] _) _ _ _); k_dflt refine wpC_execs_nil ?_) | (k_here; (with_reducible show wpC _ _ (exec (Stmt.Try _ (_ :: _) _ [] _) _) _ _ _); k_dflt refine wpC_Try_except ?_) | (k_here; (with_reducible show wpC _ _ (exec (Stmt.If _ _ _ _) _) _ _ _); k_dflt refine wpC_If (wpC_of_any ?_)) | (k_here; (with_reducible show wpC _ _ (exec (Stmt.Assign [Expr.Name _ _] (Expr.Call (Expr.Name _ _) [_, _] [] _) _) _) _ _ _); k_dflt refine wpC_Assign_Name ?_) | (k_here; (with_reducible show wpC _ _ (exec (Stmt.Return (some (Expr.Call (Expr.Name _ _) _ [] _)) _) _) _ _ _); k_dflt refine wpC_Return_some ?_) | (k_here; (with_reducible show wpC _ _ (eval (Expr.Call (Expr.Name _ _) _ [] _) _) _ _ _); k_dflt refine wpC_Call_Name rfl ?_) | (k_here; (with_reducible show wpC _ _ (call (Value.type "int") [Value.str _ _, Value.int _ _]) _ _ _); k_dflt (refine' int_any ?kh ?kb ?kx ?kl ?kn ?k0 ?_ ?_; (case kh => exact rfl); (case kb => assumption); (case kx => first | (with_reducible assumption) | exact ok_in2 (by assumption) (by assumption) (by assumption) | exact ok_in3 (by assumption) (by assumption) (by assumption)); (case kl => omega); (case kn => omega); (case k0 => first | exact zz_a (by assumption) | exact zz_b (by assumption)); all_goals (intros; (try dsimp only)))) | (k_here; (with_reducible show wpC _ _ (callWith _ (Value.type _) _ _ _) _ _ _); k_dflt refine wpC_callWith_int ?_) | (k_here; (with_reducible show wpC _ _ (callWith _ (Value.ref _) _ _ _) _ _ _); k_dflt (refine' wpC_callWith_K (K := Mine.hd.heap_39 _) ?k1 ?_; (case k1 => k_is))) | (k_here; (with_reducible show wpC _ _ (call (Value.ref _) _) _ _ _); k_dflt (refine wpC_call ?_; (refine' codeC_def ?k1 ?k2 ?k3 ?k4 ?k5 ?kA ?kF ?kK ?k6 ?k7 ?k8 ?k9 ?kB ?_ ?c2 ?c3 ?c4 ?c5; (case kA => exact rfl); (case kF => first | exact rfl | assumption); (case kK => first | exact rfl | assumption); (case k1 => k_asm); (case k2 => k_asm); (case k3 => k_asm); (case k4 => k_asm); (case k5 => k_asm); (case k6 => k_is); (case k7 => k_is); (case k8 => ktr_room); (case k9 => first | exact BindsTo.of_eq rfl | exact binds_K (by k_in) rfl (by k_is) rfl rfl rfl); (case c5 => decide); (case kB => exact locs rfl); (case c2 => exact rfl); (case c3 => exact rfl); (case c4 => exact rfl); k_whole; intro g' L' h' FG' F' N' B' X' T'; (try dsimp only); (try k_lift B'); (try k_fold)))) | ((fail_if_success (with_reducible show wpC _ _ (callWith _ _ _ _ _) _ _ _)); (fail_if_success (with_reducible show wpC _ _ (call _ _) _ _ _)); k_dflt (refine wpC_of_any ?_))) | (k_unfold; (try dsimp only)) | (k_end; wrow_close) | walk1 | dsimp only | (leave1; (try dsimp only)))
  all_goals first
    | (refine' hbad _ _ _ _ _ ?r1 ?r6 ?r2 ?r3 ?r4 ?r5; (case r1 => exact sThree_no (by with_reducible assumption)); (case r2 => k_asm); (case r3 => with_reducible assumption); (case r4 => with_reducible assumption); (case r5 => with_reducible assumption); (case r6 => (with_reducible (repeat (refine sub_more ?_)); exact sub_self)))
    | skip
  refine wpC_cutP2 (P := P6 s g' L' news g fr mk b dflt dv t4) ?_ ?_
  · intro Q6 hQ6
    repeat' (first | (with_reducible refine Nx.use (by with_reducible assumption) ?_; (try dsimp only)) | (with_reducible refine Rt.use (by with_reducible assumption) ?_; (try dsimp only)) | (with_reducible refine Er.use (by with_reducible assumption) ?_; (try dsimp only)) | (k_here; (with_reducible show wpAny _ _ (exec (Stmt.Raise (some (Expr.Call (Expr.Name _ _) _ [] _)) none _) _) _ _ _); k_dflt refine Raise_new rfl ?_) | (k_here; (with_reducible show wpAny _ _ (compareOp CmpOp.Is _ Value.none) _ _ _); k_dflt ((rename DvIs _ _ => hdv); refine' is_none_dv hdv ?_ ?_; all_goals (intros; subst_vars; (try dsimp only)))) | (k_here; (with_reducible show wpAny _ _ (call (Value.ref 51) [Value.none, Value.str _ _]) _ _ _); k_dflt (refine' mal_call2 (by decide +kernel) (by decide +kernel) ?k1 ?k2 ?k3 ?k4 ?k5 ?k6 ?k7 ?k8 ?k9 ?_; (case k1 => k_asm); (case k2 => k_asm); (case k3 => k_asm); (case k4 => k_asm); (case k5 => k_asm); (case k6 => first | exact rfl | assumption); (case k7 => first | exact rfl | assumption); (case k8 => ktr_room); (case k9 => ktr_units); intro v' n' h' t' F' N' a' r'; obtain ⟨e', o', hv', hn', x'⟩ := r'; subst hv' hn'; (replace a' := fun p hp => a' p hp (e', o') (List.Mem.head _)); (simp only [List.cons_append, List.nil_append] at N'); (try k_sweep); (try dsimp only))) | (k_here; (with_reducible show wpAny _ _ (call (Value.ref 59) [Value.none]) _ _ _); k_dflt (refine' zer_call ?k1 ?k2 ?k3 ?k4 ?k5 ?k6 ?k7 ?k8 ?k9 ?_; (case k1 => k_asm); (case k2 => k_asm); (case k3 => k_asm); (case k4 => k_asm); (case k5 => k_asm); (case k6 => first | exact rfl | assumption); (case k7 => first | exact rfl | assumption); (case k8 => ktr_room); (case k9 => ktr_units); intro v' n' h' t' F' N' a' r'; obtain ⟨e', o', hv', hn', x'⟩ := r'; subst hv' hn'; (replace a' := fun p hp => a' p hp (e', o') (List.Mem.head _)); (simp only [List.cons_append, List.nil_append] at N'); (try k_sweep); (try dsimp only))) | (k_here; (with_reducible show wpAny _ _ (call (Value.ref 51) [Value.none]) _ _ _); k_dflt (refine' mal_call ?k1 ?k2 ?k3 ?k4 ?k5 ?k6 ?k7 ?k8 ?k9 ?_; (case k1 => k_asm); (case k2 => k_asm); (case k3 => k_asm); (case k4 => k_asm); (case k5 => k_asm); (case k6 => first | exact rfl | assumption); (case k7 => first | exact rfl | assumption); (case k8 => ktr_room); (case k9 => ktr_units); intro v' n' h' t' F' N' a' r'; obtain ⟨e', o', hv', hn', x'⟩ := r'; subst hv' hn'; (replace a' := fun p hp => a' p hp (e', o') (List.Mem.head _)); (simp only [List.cons_append, List.nil_append] at N'); (try k_sweep); (try dsimp only))) | (k_here; (with_reducible show wpAny _ _ (call (Value.ref 43) [Value.none]) _ _ _); k_dflt (refine' inv_call ?k1 ?k2 ?k3 ?k4 ?k5 ?k6 ?k7 ?k8 ?k9 ?_; (case k1 => k_asm); (case k2 => k_asm); (case k3 => k_asm); (case k4 => k_asm); (case k5 => k_asm); (case k6 => first | exact rfl | assumption); (case k7 => first | exact rfl | assumption); (case k8 => ktr_room); (case k9 => ktr_units); intro v' n' h' t' F' N' a' r'; obtain ⟨e', o', hv', hn', x'⟩ := r'; subst hv' hn'; (replace a' := fun p hp => a' p hp (e', o') (List.Mem.head _)); (simp only [List.cons_append, List.nil_append] at N'); (try k_sweep); (try dsimp only))) | (k_here; (with_reducible show wpAny _ _ (call (Value.ref 67) [_, _, _]) _ _ _); k_dflt ((rename UniIs _ _ _ => hU); refine' hU _ _ _ ?k1 ?k2 ?k3 ?k4 ?k5 ?k6 ?k7 ?k8 ?k9 ?_; (case k1 => k_asm); (case k2 => k_asm); (case k3 => k_asm); (case k4 => k_asm); (case k5 => k_asm); (case k6 => first | exact rfl | assumption); (case k7 => first | exact rfl | assumption); (case k8 => ktr_room); (case k9 => ktr_units); intro v' n' h' t' F' N' a' r'; obtain ⟨hn', t', hv'⟩ := r'; subst hv' hn'; clear a'; (simp only [List.nil_append] at N'); (try k_sweep); (try dsimp only))) | (k_here; (with_reducible show wpAny _ _ (call (Value.builtin "len") [Value.ref _]) _ _ _); k_dflt (refine' Mine.len_vs ?k1 ?k2 ?k3 ?_; (case k1 => k_asm); (case k2 => k_mem); (case k3 => first | assumption | omega)); intro _ _) | (k_here; (with_reducible show wpAny _ _ (truthy (Value.str _ _)) _ _ _); k_dflt (first | (refine' Mine.truthy_yes ?k1 ?k2 ?_; (case k1 => omega); (case k2 => omega)) | (refine' Mine.truthy_text ?k1 ?_ ?_; (case k1 => omega); all_goals intro _))) | (k_here; (with_reducible show wpAny _ _ (call (Value.builtin "str.split") [_, _]) _ _ _); k_dflt (refine' Mine.split_ways ?k1 ?k2 ?k3 ?k4 ?_ ?_ ?_ ?_; (case k1 => k_asm); (case k2 => k_asm); (case k3 => omega); (case k4 => omega)); all_goals (intros; (try k_sweep))) | (k_here; (with_reducible show wpAny _ _ (call (Value.type "TypeError") [_]) _ _ _); k_dflt (refine' Mine.exc_made excClass_TypeError ?k1 ?k2 ?_; (case k1 => k_asm); (case k2 => k_asm); k_whole; intro h' e' o' x' n' F' N'; (try k_sweep))) | (k_here; (with_reducible show wpAny _ _ (call (Value.type "ValueError") [_]) _ _ _); k_dflt (refine' Mine.exc_made excClass_ValueError ?k1 ?k2 ?_; (case k1 => k_asm); (case k2 => k_asm); k_whole; intro h' e' o' x' n' F' N'; (try k_sweep))) | (k_here; (with_reducible show wpAny _ _ (call (Value.ref _) _) _ _ _); k_dflt (refine wpAny_call ?_; (refine' code_def ?k1 ?k2 ?k3 ?k4 ?k5 ?kA ?kF ?kK ?k6 ?k7 ?k8 ?k9 ?kB ?_ ?c2 ?c3 ?c4 ?c5; (case kA => exact rfl); (case kF => first | exact rfl | assumption); (case kK => first | exact rfl | assumption); (case k1 => k_asm); (case k2 => k_asm); (case k3 => k_asm); (case k4 => k_asm); (case k5 => k_asm); (case k6 => k_is); (case k7 => k_is); (case k8 => ktr_room); (case k9 => first | exact BindsTo.of_eq rfl | exact binds_K (by k_in) rfl (by k_is) rfl rfl rfl); (case c5 => decide); (case kB => exact locs rfl); (case c2 => exact rfl); (case c3 => exact rfl); (case c4 => exact rfl); k_whole; intro g' L' h' FG' F' N' B' X' T'; (try dsimp only); (try k_lift B'); (try k_fold)))) | (k_here; (with_reducible show if (_ == _) = true then _ else _); k_dflt (first | (refine' Mine.ieq_no ?k1 ?_; (case k1 => omega)) | (refine' Mine.ieq_yes ?k1 ?_; (case k1 => omega)))) | ((with_reducible show Raisable _ _ _); first | k_dflt (refine' Mine.raise_made excClass_ValueError ?k1 ?k2 ?k3 ?k4 ?_; (case k1 => assumption); (case k2 => k_asm); (case k3 => k_asm); (case k4 => assumption); k_whole; intro h' x' F' N') | k_dflt (refine' Mine.raise_made excClass_TypeError ?k1 ?k2 ?k3 ?k4 ?_; (case k1 => assumption); (case k2 => k_asm); (case k3 => k_asm); (case k4 => assumption); k_whole; intro h' x' F' N')) | ((with_reducible show wpC _ _ _ _ _ _); plain_pass; first | (k_here; (with_reducible show wpC _ _ (execs (_ :: _) _) _ _ _); k_dflt refine wpC_cons_abs ?_; intro Qs hNx hRt) | (k_here; (with_reducible show wpC _ _ (execs [] _) _ _ _); k_dflt refine wpC_execs_nil ?_) | (k_here; (with_reducible show wpC _ _ (exec (Stmt.Try _ (_ :: _) _ [] _) _) _ _ _); k_dflt refine wpC_Try_except ?_) | (k_here; (with_reducible show wpC _ _ (exec (Stmt.If _ _ _ _) _) _ _ _); k_dflt refine wpC_If (wpC_of_any ?_)) | (k_here; (with_reducible show wpC _ _ (exec (Stmt.Assign [Expr.Name _ _] (Expr.Call (Expr.Name _ _) [_, _] [] _) _) _) _ _ _); k_dflt refine wpC_Assign_Name ?_) | (k_here; (with_reducible show wpC _ _ (exec (Stmt.Return (some (Expr.Call (Expr.Name _ _) _ [] _)) _) _) _ _ _); k_dflt refine wpC_Return_some ?_) | (k_here; (with_reducible show wpC _ _ (eval (Expr.Call (Expr.Name _ _) _ [] _) _) _ _ _); k_dflt refine wpC_Call_Name rfl ?_) | (k_here; (with_reducible show wpC _ _ (call (Value.type "int") [Value.str _ _, Value.int _ _]) _ _ _); k_dflt (refine' int_any ?kh ?kb ?kx ?kl ?kn ?k0 ?_ ?_; (case kh => exact rfl); (case kb => assumption); (case kx => first | (with_reducible assumption) | exact ok_in2 (by assumption) (by assumption) (by assumption) | exact ok_in3 (by assumption) (by assumption) (by assumption)); (case kl => omega); (case kn => omega); (case k0 => first | exact zz_a (by assumption) | exact zz_b (by assumption)); all_goals (intros; (try dsimp only)))) | (k_here; (with_reducible show wpC _ _ (callWith _ (Value.type _) _ _ _) _ _ _); k_dflt refine wpC_callWith_int ?_) | (k_here; (with_reducible show wpC _ _ (callWith _ (Value.ref _) _ _ _) _ _ _); k_dflt (refine' wpC_callWith_K (K := Mine.hd.heap_39 _) ?k1 ?_; (case k1 => k_is))) | (k_here; (with_reducible show wpC _ _ (call (Value.ref _) _) _ _ _); k_dflt (refine wpC_call ?_; (refine' codeC_def ?k1 ?k2 ?k3 ?k4 ?k5 ?kA ?kF ?kK ?k6 ?k7 ?k8 ?k9 ?kB ?_ ?c2 ?c3 ?c4 ?c5; (case kA => exact rfl); (case kF => first | exact rfl | assumption); (case kK => first | exact rfl | assumption); (case k1 => k_asm); (case k2 => k_asm); (case k3 => k_asm); (case k4 => k_asm); (case k5 => k_asm); (case k6 => k_is); (case k7 => k_is); (case k8 => ktr_room); (case k9 => first | exact BindsTo.of_eq rfl | exact binds_K (by k_in) rfl (by k_is) rfl rfl rfl); (case c5 => decide); (case kB => exact locs rfl); (case c2 => exact rfl); (case c3 => exact rfl); (case c4 => exact rfl); k_whole; intro g' L' h' FG' F' N' B' X' T'; (try dsimp only); (try k_lift B'); (try k_fold)))) | ((fail_if_success (with_reducible show wpC _ _ (callWith _ _ _ _ _) _ _ _)); (fail_if_success (with_reducible show wpC _ _ (call _ _) _ _ _)); k_dflt (refine wpC_of_any ?_))) | (k_unfold; (try dsimp only)) | (k_end; wrow_close) | walk1 | dsimp only | (leave1; (try dsimp only)))
    all_goals first
      | (refine' hbad _ _ _ _ _ ?r1 ?r6 ?r2 ?r3 ?r4 ?r5; (case r1 => first | exact sThree_1 (by with_reducible assumption) (by with_reducible assumption) | exact sThree_4 (by with_reducible assumption) (by with_reducible assumption)); (case r2 => k_asm); (case r3 => with_reducible assumption); (case r4 => with_reducible assumption); (case r5 => with_reducible assumption); (case r6 => (with_reducible (repeat (refine sub_more ?_)); exact sub_self)))
      | (rename Fr _ _ _ _ => F'; rename News _ _ _ _ => N'; delta P6; refine' ⟨_, _, _, _, _, _, _, _, _, _, rfl, F', N', ?s1, ⟨?e1, ?e2, ?e3, ?e4, ?e5, ?e6, ?e7, ?e8, ?e9, ?e10⟩⟩; (case s1 => (with_reducible (repeat (refine sub_more ?_)); exact sub_self)); (case e1 => ((repeat (refine (if_neg (by decide +kernel)).trans ?_)); first | exact if_pos rfl | exact rfl)); (case e2 => ((repeat (refine (if_neg (by decide +kernel)).trans ?_)); first | exact if_pos rfl | exact rfl)); (case e3 => ((repeat (refine (if_neg (by decide +kernel)).trans ?_)); first | exact if_pos rfl | exact rfl)); (case e4 => ((repeat (refine (if_neg (by decide +kernel)).trans ?_)); first | exact if_pos rfl | exact rfl)); (case e5 => ((repeat (refine (if_neg (by decide +kernel)).trans ?_)); first | exact if_pos rfl | exact rfl)); (case e6 => ((repeat (refine (if_neg (by decide +kernel)).trans ?_)); first | exact if_pos rfl | exact rfl)); (case e10 => first | exact sThree_2 (by with_reducible assumption) (by with_reducible assumption) | exact sThree_3 (by with_reducible assumption) (by with_reducible assumption)); (case e7 => first | exact ok_in2 (by assumption) (by assumption) (by assumption) | exact ok_in3 (by assumption) (by assumption) (by assumption)); (case e8 => omega); (case e9 => first | exact .inl ⟨rfl, rfl⟩ | exact .inr ⟨_, _, rfl, by omega, rfl⟩))
  · repeat (rename Fr g' _ _ _ => zF; clear zF)
    repeat (rename News g' _ _ _ => zN; clear zN)
    rintro s6 ⟨m6, n6, h6, tk6, r, a, tr, ta, vc, o, rfl, F', N', hsub, hM⟩
    obtain ⟨lr, la, lc, lh, lb, ld, hr, hl, hc, hs⟩ := hM
    refine wpC_cutP (P := P7 s g' L' news r b dflt m6) ?_ ?_
    · intro Q7 hQ7
      clear la lc hc
      repeat' (first | (k_here; (with_reducible show wpAny _ _ (eval (Expr.Name _ _) (envOf _ _ _ _ _)) _ _ _); k_dflt ((rename Fr _ _ _ _ => F'); refine' ldO F' ?lq1 ?_ ?lq2 ?lq3 ?lq4; (case lq3 => rfl); (case lq1 => (repeat (refine (if_neg (by decide +kernel)).trans ?_)); first | exact if_pos rfl | (show LookIs _ _ _; with_reducible assumption)); (case lq2 => rfl); (case lq4 => decide); (try dsimp only))) | (with_reducible refine Nx.use (by with_reducible assumption) ?_; (try dsimp only)) | (with_reducible refine Rt.use (by with_reducible assumption) ?_; (try dsimp only)) | (with_reducible refine Er.use (by with_reducible assumption) ?_; (try dsimp only)) | (k_here; (with_reducible show wpAny _ _ (exec (Stmt.Raise (some (Expr.Call (Expr.Name _ _) _ [] _)) none _) _) _ _ _); k_dflt refine Raise_new rfl ?_) | (k_here; (with_reducible show wpAny _ _ (compareOp CmpOp.Is _ Value.none) _ _ _); k_dflt ((rename DvIs _ _ => hdv); refine' is_none_dv hdv ?_ ?_; all_goals (intros; subst_vars; (try dsimp only)))) | (k_here; (with_reducible show wpAny _ _ (call (Value.ref 51) [Value.none, Value.str _ _]) _ _ _); k_dflt (refine' mal_call2 (by decide +kernel) (by decide +kernel) ?k1 ?k2 ?k3 ?k4 ?k5 ?k6 ?k7 ?k8 ?k9 ?_; (case k1 => k_asm); (case k2 => k_asm); (case k3 => k_asm); (case k4 => k_asm); (case k5 => k_asm); (case k6 => first | exact rfl | assumption); (case k7 => first | exact rfl | assumption); (case k8 => ktr_room); (case k9 => ktr_units); intro v' n' h' t' F' N' a' r'; obtain ⟨e', o', hv', hn', x'⟩ := r'; subst hv' hn'; (replace a' := fun p hp => a' p hp (e', o') (List.Mem.head _)); (simp only [List.cons_append, List.nil_append] at N'); (try k_sweep); (try dsimp only))) | (k_here; (with_reducible show wpAny _ _ (call (Value.ref 59) [Value.none]) _ _ _); k_dflt (refine' zer_call ?k1 ?k2 ?k3 ?k4 ?k5 ?k6 ?k7 ?k8 ?k9 ?_; (case k1 => k_asm); (case k2 => k_asm); (case k3 => k_asm); (case k4 => k_asm); (case k5 => k_asm); (case k6 => first | exact rfl | assumption); (case k7 => first | exact rfl | assumption); (case k8 => ktr_room); (case k9 => ktr_units); intro v' n' h' t' F' N' a' r'; obtain ⟨e', o', hv', hn', x'⟩ := r'; subst hv' hn'; (replace a' := fun p hp => a' p hp (e', o') (List.Mem.head _)); (simp only [List.cons_append, List.nil_append] at N'); (try k_sweep); (try dsimp only))) | (k_here; (with_reducible show wpAny _ _ (call (Value.ref 51) [Value.none]) _ _ _); k_dflt (refine' mal_call ?k1 ?k2 ?k3 ?k4 ?k5 ?k6 ?k7 ?k8 ?k9 ?_; (case k1 => k_asm); (case k2 => k_asm); (case k3 => k_asm); (case k4 => k_asm); (case k5 => k_asm); (case k6 => first | exact rfl | assumption); (case k7 => first | exact rfl | assumption); (case k8 => ktr_room); (case k9 => ktr_units); intro v' n' h' t' F' N' a' r'; obtain ⟨e', o', hv', hn', x'⟩ := r'; subst hv' hn'; (replace a' := fun p hp => a' p hp (e', o') (List.Mem.head _)); (simp only [List.cons_append, List.nil_append] at N'); (try k_sweep); (try dsimp only))) | (k_here; (with_reducible show wpAny _ _ (call (Value.ref 43) [Value.none]) _ _ _); k_dflt (refine' inv_call ?k1 ?k2 ?k3 ?k4 ?k5 ?k6 ?k7 ?k8 ?k9 ?_; (case k1 => k_asm); (case k2 => k_asm); (case k3 => k_asm); (case k4 => k_asm); (case k5 => k_asm); (case k6 => first | exact rfl | assumption); (case k7 => first | exact rfl | assumption); (case k8 => ktr_room); (case k9 => ktr_units); intro v' n' h' t' F' N' a' r'; obtain ⟨e', o', hv', hn', x'⟩ := r'; subst hv' hn'; (replace a' := fun p hp => a' p hp (e', o') (List.Mem.head _)); (simp only [List.cons_append, List.nil_append] at N'); (try k_sweep); (try dsimp only))) | (k_here; (with_reducible show wpAny _ _ (call (Value.ref 67) [_, _, _]) _ _ _); k_dflt ((rename UniIs _ _ _ => hU); refine' hU _ _ _ ?k1 ?k2 ?k3 ?k4 ?k5 ?k6 ?k7 ?k8 ?k9 ?_; (case k1 => k_asm); (case k2 => k_asm); (case k3 => k_asm); (case k4 => k_asm); (case k5 => k_asm); (case k6 => first | exact rfl | assumption); (case k7 => first | exact rfl | assumption); (case k8 => ktr_room); (case k9 => ktr_units); intro v' n' h' t' F' N' a' r'; obtain ⟨hn', t', hv'⟩ := r'; subst hv' hn'; clear a'; (simp only [List.nil_append] at N'); (try k_sweep); (try dsimp only))) | (k_here; (with_reducible show wpAny _ _ (call (Value.builtin "len") [Value.ref _]) _ _ _); k_dflt (refine' Mine.len_vs ?k1 ?k2 ?k3 ?_; (case k1 => k_asm); (case k2 => k_mem); (case k3 => first | assumption | omega)); intro _ _) | (k_here; (with_reducible show wpAny _ _ (truthy (Value.str _ _)) _ _ _); k_dflt (first | (refine' Mine.truthy_yes ?k1 ?k2 ?_; (case k1 => omega); (case k2 => omega)) | (refine' Mine.truthy_text ?k1 ?_ ?_; (case k1 => omega); all_goals intro _))) | (k_here; (with_reducible show wpAny _ _ (call (Value.builtin "str.split") [_, _]) _ _ _); k_dflt (refine' Mine.split_ways ?k1 ?k2 ?k3 ?k4 ?_ ?_ ?_ ?_; (case k1 => k_asm); (case k2 => k_asm); (case k3 => omega); (case k4 => omega)); all_goals (intros; (try k_sweep))) | (k_here; (with_reducible show wpAny _ _ (call (Value.type "TypeError") [_]) _ _ _); k_dflt (refine' Mine.exc_made excClass_TypeError ?k1 ?k2 ?_; (case k1 => k_asm); (case k2 => k_asm); k_whole; intro h' e' o' x' n' F' N'; (try k_sweep))) | (k_here; (with_reducible show wpAny _ _ (call (Value.type "ValueError") [_]) _ _ _); k_dflt (refine' Mine.exc_made excClass_ValueError ?k1 ?k2 ?_; (case k1 => k_asm); (case k2 => k_asm); k_whole; intro h' e' o' x' n' F' N'; (try k_sweep))) | (k_here; (with_reducible show wpAny _ _ (call (Value.ref _) _) _ _ _); k_dflt (refine wpAny_call ?_; (refine' code_def ?k1 ?k2 ?k3 ?k4 ?k5 ?kA ?kF ?kK ?k6 ?k7 ?k8 ?k9 ?kB ?_ ?c2 ?c3 ?c4 ?c5; (case kA => exact rfl); (case kF => first | exact rfl | assumption); (case kK => first | exact rfl | assumption); (case k1 => k_asm); (case k2 => k_asm); (case k3 => k_asm); (case k4 => k_asm); (case k5 => k_asm); (case k6 => k_is); (case k7 => k_is); (case k8 => ktr_room); (case k9 => first | exact BindsTo.of_eq rfl | exact binds_K (by k_in) rfl (by k_is) rfl rfl rfl); (case c5 => decide); (case kB => exact locs rfl); (case c2 => exact rfl); (case c3 => exact rfl); (case c4 => exact rfl); k_whole; intro g' L' h' FG' F' N' B' X' T'; (try dsimp only); (try k_lift B'); (try k_fold)))) | (k_here; (with_reducible show if (_ == _) = true then _ else _); k_dflt (first | (refine' Mine.ieq_no ?k1 ?_; (case k1 => omega)) | (refine' Mine.ieq_yes ?k1 ?_; (case k1 => omega)))) | ((with_reducible show Raisable _ _ _); first | k_dflt (refine' Mine.raise_made excClass_ValueError ?k1 ?k2 ?k3 ?k4 ?_; (case k1 => assumption); (case k2 => k_asm); (case k3 => k_asm); (case k4 => assumption); k_whole; intro h' x' F' N') | k_dflt (refine' Mine.raise_made excClass_TypeError ?k1 ?k2 ?k3 ?k4 ?_; (case k1 => assumption); (case k2 => k_asm); (case k3 => k_asm); (case k4 => assumption); k_whole; intro h' x' F' N')) | ((with_reducible show wpC _ _ _ _ _ _); plain_pass; first | (k_here; (with_reducible show wpC _ _ (execs (_ :: _) _) _ _ _); k_dflt refine wpC_cons_abs ?_; intro Qs hNx hRt) | (k_here; (with_reducible show wpC _ _ (execs [] _) _ _ _); k_dflt refine wpC_execs_nil ?_) | (k_here; (with_reducible show wpC _ _ (exec (Stmt.Try _ (_ :: _) _ [] _) _) _ _ _); k_dflt refine wpC_Try_except ?_) | (k_here; (with_reducible show wpC _ _ (exec (Stmt.If _ _ _ _) _) _ _ _); k_dflt refine wpC_If (wpC_of_any ?_)) | (k_here; (with_reducible show wpC _ _ (exec (Stmt.Assign [Expr.Name _ _] (Expr.Call (Expr.Name _ _) [_, _] [] _) _) _) _ _ _); k_dflt refine wpC_Assign_Name ?_) | (k_here; (with_reducible show wpC _ _ (exec (Stmt.Return (some (Expr.Call (Expr.Name _ _) _ [] _)) _) _) _ _ _); k_dflt refine wpC_Return_some ?_) | (k_here; (with_reducible show wpC _ _ (eval (Expr.Call (Expr.Name _ _) _ [] _) _) _ _ _); k_dflt refine wpC_Call_Name rfl ?_) | (k_here; (with_reducible show wpC _ _ (call (Value.type "int") [Value.str _ _, Value.int _ _]) _ _ _); k_dflt (refine' int_any ?kh ?kb ?kx ?kl ?kn ?k0 ?_ ?_; (case kh => exact rfl); (case kb => assumption); (case kx => first | (with_reducible assumption) | exact ok_in2 (by assumption) (by assumption) (by assumption) | exact ok_in3 (by assumption) (by assumption) (by assumption)); (case kl => omega); (case kn => omega); (case k0 => first | exact zz_a (by assumption) | exact zz_b (by assumption)); all_goals (intros; (try dsimp only)))) | (k_here; (with_reducible show wpC _ _ (callWith _ (Value.type _) _ _ _) _ _ _); k_dflt refine wpC_callWith_int ?_) | (k_here; (with_reducible show wpC _ _ (callWith _ (Value.ref _) _ _ _) _ _ _); k_dflt (refine' wpC_callWith_K (K := Mine.hd.heap_39 _) ?k1 ?_; (case k1 => k_is))) | (k_here; (with_reducible show wpC _ _ (call (Value.ref _) _) _ _ _); k_dflt (refine wpC_call ?_; (refine' codeC_def ?k1 ?k2 ?k3 ?k4 ?k5 ?kA ?kF ?kK ?k6 ?k7 ?k8 ?k9 ?kB ?_ ?c2 ?c3 ?c4 ?c5; (case kA => exact rfl); (case kF => first | exact rfl | assumption); (case kK => first | exact rfl | assumption); (case k1 => k_asm); (case k2 => k_asm); (case k3 => k_asm); (case k4 => k_asm); (case k5 => k_asm); (case k6 => k_is); (case k7 => k_is); (case k8 => ktr_room); (case k9 => first | exact BindsTo.of_eq rfl | exact binds_K (by k_in) rfl (by k_is) rfl rfl rfl); (case c5 => decide); (case kB => exact locs rfl); (case c2 => exact rfl); (case c3 => exact rfl); (case c4 => exact rfl); k_whole; intro g' L' h' FG' F' N' B' X' T'; (try dsimp only); (try k_lift B'); (try k_fold)))) | ((fail_if_success (with_reducible show wpC _ _ (callWith _ _ _ _ _) _ _ _)); (fail_if_success (with_reducible show wpC _ _ (call _ _) _ _ _)); k_dflt (refine wpC_of_any ?_))) | (k_unfold; (try dsimp only)) | (k_end; wrow_close) | walk1 | dsimp only | (leave1; (try dsimp only)))
      all_goals first
        | (refine' hbad _ _ _ _ _ ?r1 ?r6 ?r2 ?r3 ?r4 ?r5; (case r1 => exact hs.trans (w_err (by first | exact sR_zero' (by with_reducible assumption) (by with_reducible assumption) | exact sR_nil (by with_reducible assumption) | exact sR_bad (by with_reducible assumption) (zz_a (by with_reducible assumption)) (by with_reducible assumption) | exact sR_bad (by with_reducible assumption) (zz_b (by with_reducible assumption)) (by with_reducible assumption)))); (case r2 => k_asm); (case r3 => with_reducible assumption); (case r4 => with_reducible assumption); (case r5 => with_reducible assumption); (case r6 => first | (with_reducible assumption) | exact fun p hp => .tail _ (hsub p hp)))
        | (rename Fr _ _ _ _ => F'; rename News _ _ _ _ => N'; delta P7; refine' ⟨_, _, _, _, _, rfl, F', N', ?s1, ?e1⟩; (case s1 => first | (with_reducible assumption) | exact fun p hp => .tail _ (hsub p hp)); (case e1 => (first | exact sR_dflt (by with_reducible assumption) | exact sR_ok (by with_reducible assumption) (zz_a (by with_reducible assumption)) (by with_reducible assumption) | exact sR_ok (by with_reducible assumption) (zz_b (by with_reducible assumption)) (by with_reducible assumption))))
    · repeat (rename Fr g' _ _ _ => zF; clear zF)
      repeat (rename News g' _ _ _ => zN; clear zN)
      clear hsub
      rintro s7 ⟨n7, h7, tk7, n, tn, rfl, F', N', hsub, hsr⟩
      clear lr lh lb ld hr hl
      rcases hc with ⟨rfl, rfl⟩ | ⟨c, tc, rfl, hcl, rfl⟩
      all_goals (
        repeat' (first | (k_here; (with_reducible show wpAny _ _ (eval (Expr.Name _ _) (envOf _ _ _ _ _)) _ _ _); k_dflt ((rename Fr _ _ _ _ => F'); refine' ldO F' ?lq1 ?_ ?lq2 ?lq3 ?lq4; (case lq3 => rfl); (case lq1 => (repeat (refine (if_neg (by decide +kernel)).trans ?_)); first | exact if_pos rfl | (show LookIs _ _ _; with_reducible assumption)); (case lq2 => rfl); (case lq4 => decide); (try dsimp only))) | (with_reducible refine Nx.use (by with_reducible assumption) ?_; (try dsimp only)) | (with_reducible refine Rt.use (by with_reducible assumption) ?_; (try dsimp only)) | (with_reducible refine Er.use (by with_reducible assumption) ?_; (try dsimp only)) | (k_here; (with_reducible show wpAny _ _ (exec (Stmt.Raise (some (Expr.Call (Expr.Name _ _) _ [] _)) none _) _) _ _ _); k_dflt refine Raise_new rfl ?_) | (k_here; (with_reducible show wpAny _ _ (compareOp CmpOp.Is _ Value.none) _ _ _); k_dflt ((rename DvIs _ _ => hdv); refine' is_none_dv hdv ?_ ?_; all_goals (intros; subst_vars; (try dsimp only)))) | (k_here; (with_reducible show wpAny _ _ (call (Value.ref 51) [Value.none, Value.str _ _]) _ _ _); k_dflt (refine' mal_call2 (by decide +kernel) (by decide +kernel) ?k1 ?k2 ?k3 ?k4 ?k5 ?k6 ?k7 ?k8 ?k9 ?_; (case k1 => k_asm); (case k2 => k_asm); (case k3 => k_asm); (case k4 => k_asm); (case k5 => k_asm); (case k6 => first | exact rfl | assumption); (case k7 => first | exact rfl | assumption); (case k8 => ktr_room); (case k9 => ktr_units); intro v' n' h' t' F' N' a' r'; obtain ⟨e', o', hv', hn', x'⟩ := r'; subst hv' hn'; (replace a' := fun p hp => a' p hp (e', o') (List.Mem.head _)); (simp only [List.cons_append, List.nil_append] at N'); (try k_sweep); (try dsimp only))) | (k_here; (with_reducible show wpAny _ _ (call (Value.ref 59) [Value.none]) _ _ _); k_dflt (refine' zer_call ?k1 ?k2 ?k3 ?k4 ?k5 ?k6 ?k7 ?k8 ?k9 ?_; (case k1 => k_asm); (case k2 => k_asm); (case k3 => k_asm); (case k4 => k_asm); (case k5 => k_asm); (case k6 => first | exact rfl | assumption); (case k7 => first | exact rfl | assumption); (case k8 => ktr_room); (case k9 => ktr_units); intro v' n' h' t' F' N' a' r'; obtain ⟨e', o', hv', hn', x'⟩ := r'; subst hv' hn'; (replace a' := fun p hp => a' p hp (e', o') (List.Mem.head _)); (simp only [List.cons_append, List.nil_append] at N'); (try k_sweep); (try dsimp only))) | (k_here; (with_reducible show wpAny _ _ (call (Value.ref 51) [Value.none]) _ _ _); k_dflt (refine' mal_call ?k1 ?k2 ?k3 ?k4 ?k5 ?k6 ?k7 ?k8 ?k9 ?_; (case k1 => k_asm); (case k2 => k_asm); (case k3 => k_asm); (case k4 => k_asm); (case k5 => k_asm); (case k6 => first | exact rfl | assumption); (case k7 => first | exact rfl | assumption); (case k8 => ktr_room); (case k9 => ktr_units); intro v' n' h' t' F' N' a' r'; obtain ⟨e', o', hv', hn', x'⟩ := r'; subst hv' hn'; (replace a' := fun p hp => a' p hp (e', o') (List.Mem.head _)); (simp only [List.cons_append, List.nil_append] at N'); (try k_sweep); (try dsimp only))) | (k_here; (with_reducible show wpAny _ _ (call (Value.ref 43) [Value.none]) _ _ _); k_dflt (refine' inv_call ?k1 ?k2 ?k3 ?k4 ?k5 ?k6 ?k7 ?k8 ?k9 ?_; (case k1 => k_asm); (case k2 => k_asm); (case k3 => k_asm); (case k4 => k_asm); (case k5 => k_asm); (case k6 => first | exact rfl | assumption); (case k7 => first | exact rfl | assumption); (case k8 => ktr_room); (case k9 => ktr_units); intro v' n' h' t' F' N' a' r'; obtain ⟨e', o', hv', hn', x'⟩ := r'; subst hv' hn'; (replace a' := fun p hp => a' p hp (e', o') (List.Mem.head _)); (simp only [List.cons_append, List.nil_append] at N'); (try k_sweep); (try dsimp only))) | (k_here; (with_reducible show wpAny _ _ (call (Value.ref 67) [_, _, _]) _ _ _); k_dflt ((rename UniIs _ _ _ => hU); refine' hU _ _ _ ?k1 ?k2 ?k3 ?k4 ?k5 ?k6 ?k7 ?k8 ?k9 ?_; (case k1 => k_asm); (case k2 => k_asm); (case k3 => k_asm); (case k4 => k_asm); (case k5 => k_asm); (case k6 => first | exact rfl | assumption); (case k7 => first | exact rfl | assumption); (case k8 => ktr_room); (case k9 => ktr_units); intro v' n' h' t' F' N' a' r'; obtain ⟨hn', t', hv'⟩ := r'; subst hv' hn'; clear a'; (simp only [List.nil_append] at N'); (try k_sweep); (try dsimp only))) | (k_here; (with_reducible show wpAny _ _ (call (Value.builtin "len") [Value.ref _]) _ _ _); k_dflt (refine' Mine.len_vs ?k1 ?k2 ?k3 ?_; (case k1 => k_asm); (case k2 => k_mem); (case k3 => first | assumption | omega)); intro _ _) | (k_here; (with_reducible show wpAny _ _ (truthy (Value.str _ _)) _ _ _); k_dflt (first | (refine' Mine.truthy_yes ?k1 ?k2 ?_; (case k1 => omega); (case k2 => omega)) | (refine' Mine.truthy_text ?k1 ?_ ?_; (case k1 => omega); all_goals intro _))) | (k_here; (with_reducible show wpAny _ _ (call (Value.builtin "str.split") [_, _]) _ _ _); k_dflt (refine' Mine.split_ways ?k1 ?k2 ?k3 ?k4 ?_ ?_ ?_ ?_; (case k1 => k_asm); (case k2 => k_asm); (case k3 => omega); (case k4 => omega)); all_goals (intros; (try k_sweep))) | (k_here; (with_reducible show wpAny _ _ (call (Value.type "TypeError") [_]) _ _ _); k_dflt (refine' Mine.exc_made excClass_TypeError ?k1 ?k2 ?_; (case k1 => k_asm); (case k2 => k_asm); k_whole; intro h' e' o' x' n' F' N'; (try k_sweep))) | (k_here; (with_reducible show wpAny _ _ (call (Value.type "ValueError") [_]) _ _ _); k_dflt (refine' Mine.exc_made excClass_ValueError ?k1 ?k2 ?_; (case k1 => k_asm); (case k2 => k_asm); k_whole; intro h' e' o' x' n' F' N'; (try k_sweep))) | (k_here; (with_reducible show wpAny _ _ (call (Value.ref _) _) _ _ _); k_dflt (refine wpAny_call ?_; (refine' code_def ?k1 ?k2 ?k3 ?k4 ?k5 ?kA ?kF ?kK ?k6 ?k7 ?k8 ?k9 ?kB ?_ ?c2 ?c3 ?c4 ?c5; (case kA => exact rfl); (case kF => first | exact rfl | assumption); (case kK => first | exact rfl | assumption); (case k1 => k_asm); (case k2 => k_asm); (case k3 => k_asm); (case k4 => k_asm); (case k5 => k_asm); (case k6 => k_is); (case k7 => k_is); (case k8 => ktr_room); (case k9 => first | exact BindsTo.of_eq rfl | exact binds_K (by k_in) rfl (by k_is) rfl rfl rfl); (case c5 => decide); (case kB => exact locs rfl); (case c2 => exact rfl); (case c3 => exact rfl); (case c4 => exact rfl); k_whole; intro g' L' h' FG' F' N' B' X' T'; (try dsimp only); (try k_lift B'); (try k_fold)))) | (k_here; (with_reducible show if (_ == _) = true then _ else _); k_dflt (first | (refine' Mine.ieq_no ?k1 ?_; (case k1 => omega)) | (refine' Mine.ieq_yes ?k1 ?_; (case k1 => omega)))) | ((with_reducible show Raisable _ _ _); first | k_dflt (refine' Mine.raise_made excClass_ValueError ?k1 ?k2 ?k3 ?k4 ?_; (case k1 => assumption); (case k2 => k_asm); (case k3 => k_asm); (case k4 => assumption); k_whole; intro h' x' F' N') | k_dflt (refine' Mine.raise_made excClass_TypeError ?k1 ?k2 ?k3 ?k4 ?_; (case k1 => assumption); (case k2 => k_asm); (case k3 => k_asm); (case k4 => assumption); k_whole; intro h' x' F' N')) | ((with_reducible show wpC _ _ _ _ _ _); plain_pass; first | (k_here; (with_reducible show wpC _ _ (execs (_ :: _) _) _ _ _); k_dflt refine wpC_cons_abs ?_; intro Qs hNx hRt) | (k_here; (with_reducible show wpC _ _ (execs [] _) _ _ _); k_dflt refine wpC_execs_nil ?_) | (k_here; (with_reducible show wpC _ _ (exec (Stmt.Try _ (_ :: _) _ [] _) _) _ _ _); k_dflt refine wpC_Try_except ?_) | (k_here; (with_reducible show wpC _ _ (exec (Stmt.If _ _ _ _) _) _ _ _); k_dflt refine wpC_If (wpC_of_any ?_)) | (k_here; (with_reducible show wpC _ _ (exec (Stmt.Assign [Expr.Name _ _] (Expr.Call (Expr.Name _ _) [_, _] [] _) _) _) _ _ _); k_dflt refine wpC_Assign_Name ?_) | (k_here; (with_reducible show wpC _ _ (exec (Stmt.Return (some (Expr.Call (Expr.Name _ _) _ [] _)) _) _) _ _ _); k_dflt refine wpC_Return_some ?_) | (k_here; (with_reducible show wpC _ _ (eval (Expr.Call (Expr.Name _ _) _ [] _) _) _ _ _); k_dflt refine wpC_Call_Name rfl ?_) | (k_here; (with_reducible show wpC _ _ (call (Value.type "int") [Value.str _ _, Value.int _ _]) _ _ _); k_dflt (refine' int_any ?kh ?kb ?kx ?kl ?kn ?k0 ?_ ?_; (case kh => exact rfl); (case kb => assumption); (case kx => first | (with_reducible assumption) | exact ok_in2 (by assumption) (by assumption) (by assumption) | exact ok_in3 (by assumption) (by assumption) (by assumption)); (case kl => omega); (case kn => omega); (case k0 => first | exact zz_a (by assumption) | exact zz_b (by assumption)); all_goals (intros; (try dsimp only)))) | (k_here; (with_reducible show wpC _ _ (callWith _ (Value.type _) _ _ _) _ _ _); k_dflt refine wpC_callWith_int ?_) | (k_here; (with_reducible show wpC _ _ (callWith _ (Value.ref _) _ _ _) _ _ _); k_dflt (refine' wpC_callWith_K (K := Mine.hd.heap_39 _) ?k1 ?_; (case k1 => k_is))) | (k_here; (with_reducible show wpC _ _ (call (Value.ref _) _) _ _ _); k_dflt (refine wpC_call ?_; (refine' codeC_def ?k1 ?k2 ?k3 ?k4 ?k5 ?kA ?kF ?kK ?k6 ?k7 ?k8 ?k9 ?kB ?_ ?c2 ?c3 ?c4 ?c5; (case kA => exact rfl); (case kF => first | exact rfl | assumption); (case kK => first | exact rfl | assumption); (case k1 => k_asm); (case k2 => k_asm); (case k3 => k_asm); (case k4 => k_asm); (case k5 => k_asm); (case k6 => k_is); (case k7 => k_is); (case k8 => ktr_room); (case k9 => first | exact BindsTo.of_eq rfl | exact binds_K (by k_in) rfl (by k_is) rfl rfl rfl); (case c5 => decide); (case kB => exact locs rfl); (case c2 => exact rfl); (case c3 => exact rfl); (case c4 => exact rfl); k_whole; intro g' L' h' FG' F' N' B' X' T'; (try dsimp only); (try k_lift B'); (try k_fold)))) | ((fail_if_success (with_reducible show wpC _ _ (callWith _ _ _ _ _) _ _ _)); (fail_if_success (with_reducible show wpC _ _ (call _ _) _ _ _)); k_dflt (refine wpC_of_any ?_))) | (k_unfold; (try dsimp only)) | (k_end; wrow_close) | walk1 | dsimp only | (leave1; (try dsimp only)))
        all_goals (refine' end_threeX hret ?r2 ?r3 ?r5 ?r6 (hs.trans (w_int hsr)) ?r4; (case r2 => k_asm); (case r3 => k_asm); (case r5 => k_mem); (case r6 => (first | exact opt_none | exact opt_yes (by with_reducible assumption) | exact opt_no (by with_reducible assumption))); (case r4 => exact fun p hp => .tail _ (hsub p hp))))
end
section
set_option maxRecDepth 100000 in
set_option maxHeartbeats 2000000 in
theorem three_text {w : World} {v dv : Value} {g fr mk : Str} {b : Nat} {dflt : Option Int} {t2 t3 t4 : Tok} {news : List (Addr × Obj)} (hU : UniIs w v g) (hg : g.length ≤ 600) (hf : fr.length ≤ 600) (hm : mk.length ≤ 600) (hm0 : 1 ≤ mk.length)
    (hb : b = 10 ∨ b = 16) (hdv : DvIs dv dflt) (hok : OkParts g fr mk) :
    AskC w 156 [v, .str fr t2, .str mk t3, .int (b : Int) t4, dv] news (fun r n => DtIn n r (specThree g fr mk b dflt)) := by
  intro p loose mean mg mb A₀ dp un gd h₀ L m s env Q E B F X N T hfr hk hd hu hret
  refine wpC_call ?_
  k_dflt (refine' codeC_top ?k1 ?k2 ?k3 ?k4 ?k5 ?kA ?kf ?kk ?k6 ?k7 ?k8 ?k9 ?kB ?_ ?c2 ?c3 ?c4 ?c5; (case kA => exact rfl); (case kf => assumption); (case kk => assumption); (case k1 => k_asm); (case k2 => k_asm); (case k3 => k_asm); (case k4 => k_asm); (case k5 => k_asm); (case k6 => k_is); (case k7 => k_is); (case k8 => ktr_room); (case k9 => first | exact BindsTo.of_eq rfl | exact binds_K (by k_in) rfl (by k_is) rfl rfl rfl); (case c5 => decide); (case kB => exact locs rfl); (case c2 => exact rfl); (case c3 => exact rfl); (case c4 => exact rfl); k_whole; intro g' L' h' FG' F' N' B' X' T' D'; (try dsimp only); (try k_lift B'); (try k_fold))
  (repeat' (first | (with_reducible refine Nx.use (by with_reducible assumption) ?_; (try dsimp only)) | (with_reducible refine Rt.use (by with_reducible assumption) ?_; (try dsimp only)) | (with_reducible refine Er.use (by with_reducible assumption) ?_; (try dsimp only)) | (k_here; (with_reducible show wpAny _ _ (exec (Stmt.Raise (some (Expr.Call (Expr.Name _ _) _ [] _)) none _) _) _ _ _); k_dflt refine Raise_new rfl ?_) | (k_here; (with_reducible show wpAny _ _ (call (Value.builtin "len") [Value.ref _]) _ _ _); k_dflt (refine' Mine.len_vs ?k1 ?k2 ?k3 ?_; (case k1 => k_asm); (case k2 => k_mem); (case k3 => first | assumption | omega)); intro _ _) | (k_here; (with_reducible show wpAny _ _ (truthy (Value.str _ _)) _ _ _); k_dflt (first | (refine' Mine.truthy_yes ?k1 ?k2 ?_; (case k1 => omega); (case k2 => omega)) | (refine' Mine.truthy_text ?k1 ?_ ?_; (case k1 => omega); all_goals intro _))) | (k_here; (with_reducible show wpAny _ _ (call (Value.builtin "str.split") [_, _]) _ _ _); k_dflt (refine' Mine.split_ways ?k1 ?k2 ?k3 ?k4 ?_ ?_ ?_ ?_; (case k1 => k_asm); (case k2 => k_asm); (case k3 => omega); (case k4 => omega)); all_goals (intros; (try k_sweep))) | (k_here; (with_reducible show wpAny _ _ (call (Value.type "TypeError") [_]) _ _ _); k_dflt (refine' Mine.exc_made excClass_TypeError ?k1 ?k2 ?_; (case k1 => k_asm); (case k2 => k_asm); k_whole; intro h' e' o' x' n' F' N'; (try k_sweep))) | (k_here; (with_reducible show wpAny _ _ (call (Value.type "ValueError") [_]) _ _ _); k_dflt (refine' Mine.exc_made excClass_ValueError ?k1 ?k2 ?_; (case k1 => k_asm); (case k2 => k_asm); k_whole; intro h' e' o' x' n' F' N'; (try k_sweep))) | (k_here; (with_reducible show if (_ == _) = true then _ else _); k_dflt (first | (refine' Mine.ieq_no ?k1 ?_; (case k1 => omega)) | (refine' Mine.ieq_yes ?k1 ?_; (case k1 => omega)))) | ((with_reducible show Raisable _ _ _); first | k_dflt (refine' Mine.raise_made excClass_ValueError ?k1 ?k2 ?k3 ?k4 ?_; (case k1 => assumption); (case k2 => k_asm); (case k3 => k_asm); (case k4 => assumption); k_whole; intro h' x' F' N') | k_dflt (refine' Mine.raise_made excClass_TypeError ?k1 ?k2 ?k3 ?k4 ?_; (case k1 => assumption); (case k2 => k_asm); (case k3 => k_asm); (case k4 => assumption); k_whole; intro h' x' F' N')) | ((with_reducible show wpC _ _ _ _ _ _); plain_pass; first | (k_here; (with_reducible show wpC _ _ (execs (_ :: _) _) _ _ _); k_dflt refine wpC_execs_cons ?_) | (k_here; (with_reducible show wpC _ _ (execs [] _) _ _ _); k_dflt refine wpC_execs_nil ?_) | (k_here; (with_reducible show wpC _ _ (exec (Stmt.Try _ (_ :: _) _ [] _) _) _ _ _); k_dflt refine wpC_Try_except ?_) | (k_here; (with_reducible show wpC _ _ (exec (Stmt.If _ _ _ _) _) _ _ _); k_dflt refine wpC_If (wpC_of_any ?_)) | (k_here; (with_reducible show wpC _ _ (exec (Stmt.Assign [Expr.Name _ _] (Expr.Call (Expr.Name _ _) [_, _] [] _) _) _) _ _ _); k_dflt refine wpC_Assign_Name ?_) | (k_here; (with_reducible show wpC _ _ (exec (Stmt.Return (some (Expr.Call (Expr.Name _ _) _ [] _)) _) _) _ _ _); k_dflt refine wpC_Return_some ?_) | (k_here; (with_reducible show wpC _ _ (eval (Expr.Call (Expr.Name _ _) _ [] _) _) _ _ _); k_dflt refine wpC_Call_Name rfl ?_) | (k_here; (with_reducible show wpC _ _ (call (Value.type "int") [Value.str _ _, Value.int _ _]) _ _ _); k_dflt (refine' int_any ?kh ?kb ?kx ?kl ?kn ?k0 ?_ ?_; (case kh => exact rfl); (case kb => assumption); (case kx => first | (with_reducible assumption) | exact ok_in2 (by assumption) (by assumption) (by assumption) | exact ok_in3 (by assumption) (by assumption) (by assumption)); (case kl => omega); (case kn => omega); (case k0 => first | exact zz_a (by assumption) | exact zz_b (by assumption)); all_goals (intros; (try dsimp only)))) | (k_here; (with_reducible show wpC _ _ (callWith _ (Value.type _) _ _ _) _ _ _); k_dflt refine wpC_callWith_int ?_) | (k_here; (with_reducible show wpC _ _ (callWith _ (Value.ref _) _ _ _) _ _ _); k_dflt (refine' wpC_callWith_K (K := Mine.hd.heap_39 _) ?k1 ?_; (case k1 => k_is))) | (k_here; (with_reducible show wpC _ _ (call (Value.ref 83) _) _ _ _); k_dflt (refine' mc3_call hU hg hf hm hm0 hb hdv hok ?k1 ?k2 ?k3 ?k4 ?k5 ?kD ?k6 ?k7 ?k8 ?k9 ?_ ?_; (case k1 => k_asm); (case k2 => k_asm); (case k3 => k_asm); (case k4 => k_asm); (case k5 => k_asm); (case kD => with_reducible assumption); (case k6 => first | exact rfl | assumption); (case k7 => first | exact rfl | assumption); (case k8 => ktr_room); (case k9 => ktr_units)); intro v' n' h' t' F' N' r'; (obtain ⟨-, r'⟩ := r'); (try k_sweep); (try dsimp only); rotate_left; intro e' g' n' h' t' b' i' F' R' S' U'; (try dsimp only); rotate_left) | ((fail_if_success (with_reducible show wpC _ _ (callWith _ _ _ _ _) _ _ _)); (fail_if_success (with_reducible show wpC _ _ (call _ _) _ _ _)); k_dflt (refine wpC_of_any ?_))) | (k_unfold; (try dsimp only)) | (k_end; wrow_close) | walk1 | dsimp only | (leave1; (try dsimp only))))
  all_goals first
    | (refine' end_err hret (by with_reducible assumption) ?r2 ?r3 ?r4; (case r2 => (k_asm)); (case r3 => (k_asm)); (case r4 => with_reducible assumption))
    | (refine' hret _ _ _ _ ?r1 ?r2 (by with_reducible assumption); (case r1 => k_asm); (case r2 => k_asm))
end
end Mine
end
-- O1
section
open PySem PySem.W PyProof.Rows PySem.Calls PySem.Spec
namespace Mine
section
-- contracts at their calls
-- the caller-aware goals
set_option maxRecDepth 100000 in
set_option maxHeartbeats 2000000 in
theorem one_text {w : World} {dv : Value} {x : Str} {b : Nat} {dflt : Option Int} {t t4 : Tok} {news : List (Addr × Obj)} (hx : OkS x) (hg : x.length ≤ 600) (hb : b = 10 ∨ b = 16) (hdv : DvIs dv dflt) :
    AskC w 163 [.str x t, .int (b : Int) t4, dv] news (fun r n => DtIn n r (specRounds x b dflt)) := by
  intro p loose mean mg mb A₀ dp un gd h₀ L m s env Q E B F X N T hfr hk hd hu hret
  refine wpC_call ?_
  k_dflt (refine' codeC_top ?k1 ?k2 ?k3 ?k4 ?k5 ?kA ?kf ?kk ?k6 ?k7 ?k8 ?k9 ?kB ?_ ?c2 ?c3 ?c4 ?c5; (case kA => exact rfl); (case kf => assumption); (case kk => assumption); (case k1 => k_asm); (case k2 => k_asm); (case k3 => k_asm); (case k4 => k_asm); (case k5 => k_asm); (case k6 => k_is); (case k7 => k_is); (case k8 => ktr_room); (case k9 => first | exact BindsTo.of_eq rfl | exact binds_K (by k_in) rfl (by k_is) rfl rfl rfl); (case c5 => decide); (case kB => exact locs rfl); (case c2 => exact rfl); (case c3 => exact rfl); (case c4 => exact rfl); k_whole; intro g' L' h' FG' F' N' B' X' T' D'; (try dsimp only); (try k_lift B'); (try k_fold))
  (repeat' (first | (k_here; (with_reducible show wpAny _ _ (binaryOp Operator.Mod (Value.str _ _) (Value.str _ _)) _ _ _); (first | refine' mod_s [122,101,114,111,45,112,97,100,100,101,100,32] [32,102,105,101,108,100] ?pk1 ?pk2 ?pk3 ?_; (case pk1 => decide +kernel); (case pk2 => rfl); (case pk3 => kpc_size) | refine' mod_s [101,109,112,116,121,32] [32,102,105,101,108,100] ?pk1 ?pk2 ?pk3 ?_; (case pk1 => decide +kernel); (case pk2 => rfl); (case pk3 => kpc_size)); intro _ _) | (k_here; (with_reducible show wpAny _ _ (exec (Stmt.Raise (some (Expr.Call (Expr.Name _ _) _ [] _)) none _) _) _ _ _); k_dflt refine Raise_new rfl ?_) | (k_here; (with_reducible show wpAny _ _ (compareOp CmpOp.Is _ Value.none) _ _ _); k_dflt ((rename DvIs _ _ => hdv); refine' is_none_dv hdv ?_ ?_; all_goals (intros; subst_vars; (try dsimp only)))) | (k_here; (with_reducible show wpAny _ _ (call (Value.ref 51) [Value.none, Value.str _ _]) _ _ _); k_dflt (refine' mal_call2 (by first | with_reducible assumption | decide +kernel | omega) (by first | with_reducible assumption | decide +kernel | omega) ?k1 ?k2 ?k3 ?k4 ?k5 ?k6 ?k7 ?k8 ?k9 ?_; (case k1 => k_asm); (case k2 => k_asm); (case k3 => k_asm); (case k4 => k_asm); (case k5 => k_asm); (case k6 => first | exact rfl | assumption); (case k7 => first | exact rfl | assumption); (case k8 => ktr_room); (case k9 => ktr_units); intro v' n' h' t' F' N' a' r'; obtain ⟨e', o', hv', hn', x'⟩ := r'; subst hv' hn'; (replace a' := fun p hp => a' p hp (e', o') (List.Mem.head _)); (simp only [List.cons_append, List.nil_append] at N'); (try k_sweep); (try dsimp only))) | (k_here; (with_reducible show wpAny _ _ (call (Value.ref 59) [Value.none]) _ _ _); k_dflt (refine' zer_call ?k1 ?k2 ?k3 ?k4 ?k5 ?k6 ?k7 ?k8 ?k9 ?_; (case k1 => k_asm); (case k2 => k_asm); (case k3 => k_asm); (case k4 => k_asm); (case k5 => k_asm); (case k6 => first | exact rfl | assumption); (case k7 => first | exact rfl | assumption); (case k8 => ktr_room); (case k9 => ktr_units); intro v' n' h' t' F' N' a' r'; obtain ⟨e', o', hv', hn', x'⟩ := r'; subst hv' hn'; (replace a' := fun p hp => a' p hp (e', o') (List.Mem.head _)); (simp only [List.cons_append, List.nil_append] at N'); (try k_sweep); (try dsimp only))) | (k_here; (with_reducible show wpAny _ _ (call (Value.ref 51) [Value.none]) _ _ _); k_dflt (refine' mal_call ?k1 ?k2 ?k3 ?k4 ?k5 ?k6 ?k7 ?k8 ?k9 ?_; (case k1 => k_asm); (case k2 => k_asm); (case k3 => k_asm); (case k4 => k_asm); (case k5 => k_asm); (case k6 => first | exact rfl | assumption); (case k7 => first | exact rfl | assumption); (case k8 => ktr_room); (case k9 => ktr_units); intro v' n' h' t' F' N' a' r'; obtain ⟨e', o', hv', hn', x'⟩ := r'; subst hv' hn'; (replace a' := fun p hp => a' p hp (e', o') (List.Mem.head _)); (simp only [List.cons_append, List.nil_append] at N'); (try k_sweep); (try dsimp only))) | (k_here; (with_reducible show wpAny _ _ (call (Value.ref 43) [Value.none]) _ _ _); k_dflt (refine' inv_call ?k1 ?k2 ?k3 ?k4 ?k5 ?k6 ?k7 ?k8 ?k9 ?_; (case k1 => k_asm); (case k2 => k_asm); (case k3 => k_asm); (case k4 => k_asm); (case k5 => k_asm); (case k6 => first | exact rfl | assumption); (case k7 => first | exact rfl | assumption); (case k8 => ktr_room); (case k9 => ktr_units); intro v' n' h' t' F' N' a' r'; obtain ⟨e', o', hv', hn', x'⟩ := r'; subst hv' hn'; (replace a' := fun p hp => a' p hp (e', o') (List.Mem.head _)); (simp only [List.cons_append, List.nil_append] at N'); (try k_sweep); (try dsimp only))) | (k_here; (with_reducible show wpAny _ _ (call (Value.ref 67) [_, _, _]) _ _ _); k_dflt ((rename UniIs _ _ _ => hU); refine' hU _ _ _ ?k1 ?k2 ?k3 ?k4 ?k5 ?k6 ?k7 ?k8 ?k9 ?_; (case k1 => k_asm); (case k2 => k_asm); (case k3 => k_asm); (case k4 => k_asm); (case k5 => k_asm); (case k6 => first | exact rfl | assumption); (case k7 => first | exact rfl | assumption); (case k8 => ktr_room); (case k9 => ktr_units); intro v' n' h' t' F' N' a' r'; obtain ⟨hn', t', hv'⟩ := r'; subst hv' hn'; clear a'; (simp only [List.nil_append] at N'); (try k_sweep); (try dsimp only))) | (k_here; (with_reducible show wpAny _ _ (call (Value.builtin "len") [Value.ref _]) _ _ _); k_dflt (refine' Mine.len_vs ?k1 ?k2 ?k3 ?_; (case k1 => k_asm); (case k2 => k_mem); (case k3 => first | assumption | omega)); intro _ _) | (k_here; (with_reducible show wpAny _ _ (truthy (Value.str _ _)) _ _ _); k_dflt (first | (refine' Mine.truthy_yes ?k1 ?k2 ?_; (case k1 => omega); (case k2 => omega)) | (refine' Mine.truthy_text ?k1 ?_ ?_; (case k1 => omega); all_goals intro _))) | (k_here; (with_reducible show wpAny _ _ (call (Value.builtin "str.split") [_, _]) _ _ _); k_dflt (refine' Mine.split_ways ?k1 ?k2 ?k3 ?k4 ?_ ?_ ?_ ?_; (case k1 => k_asm); (case k2 => k_asm); (case k3 => omega); (case k4 => omega)); all_goals (intros; (try k_sweep))) | (k_here; (with_reducible show wpAny _ _ (call (Value.type "TypeError") [_]) _ _ _); k_dflt (refine' Mine.exc_made excClass_TypeError ?k1 ?k2 ?_; (case k1 => k_asm); (case k2 => k_asm); k_whole; intro h' e' o' x' n' F' N'; (try k_sweep))) | (k_here; (with_reducible show wpAny _ _ (call (Value.type "ValueError") [_]) _ _ _); k_dflt (refine' Mine.exc_made excClass_ValueError ?k1 ?k2 ?_; (case k1 => k_asm); (case k2 => k_asm); k_whole; intro h' e' o' x' n' F' N'; (try k_sweep))) | (k_here; (with_reducible show wpAny _ _ (call (Value.ref _) _) _ _ _); k_dflt (refine wpAny_call ?_; (refine' code_def ?k1 ?k2 ?k3 ?k4 ?k5 ?kA ?kF ?kK ?k6 ?k7 ?k8 ?k9 ?kB ?_ ?c2 ?c3 ?c4 ?c5; (case kA => exact rfl); (case kF => first | exact rfl | assumption); (case kK => first | exact rfl | assumption); (case k1 => k_asm); (case k2 => k_asm); (case k3 => k_asm); (case k4 => k_asm); (case k5 => k_asm); (case k6 => k_is); (case k7 => k_is); (case k8 => ktr_room); (case k9 => first | exact BindsTo.of_eq rfl | exact binds_K (by k_in) rfl (by k_is) rfl rfl rfl); (case c5 => decide); (case kB => exact locs rfl); (case c2 => exact rfl); (case c3 => exact rfl); (case c4 => exact rfl); k_whole; intro g' L' h' FG' F' N' B' X' T'; (try dsimp only); (try k_lift B'); (try k_fold)))) | (k_here; (with_reducible show if (_ == _) = true then _ else _); k_dflt (first | (refine' Mine.ieq_no ?k1 ?_; (case k1 => omega)) | (refine' Mine.ieq_yes ?k1 ?_; (case k1 => omega)))) | ((with_reducible show Raisable _ _ _); first | k_dflt (refine' Mine.raise_made excClass_ValueError ?k1 ?k2 ?k3 ?k4 ?_; (case k1 => assumption); (case k2 => k_asm); (case k3 => k_asm); (case k4 => assumption); k_whole; intro h' x' F' N') | k_dflt (refine' Mine.raise_made excClass_TypeError ?k1 ?k2 ?k3 ?k4 ?_; (case k1 => assumption); (case k2 => k_asm); (case k3 => k_asm); (case k4 => assumption); k_whole; intro h' x' F' N')) | ((with_reducible show wpC _ _ _ _ _ _); plain_pass; first | (k_here; (with_reducible show wpC _ _ (execs (_ :: _) _) _ _ _); k_dflt refine wpC_execs_cons ?_) | (k_here; (with_reducible show wpC _ _ (execs [] _) _ _ _); k_dflt refine wpC_execs_nil ?_) | (k_here; (with_reducible show wpC _ _ (exec (Stmt.Try _ (_ :: _) _ [] _) _) _ _ _); k_dflt refine wpC_Try_except ?_) | (k_here; (with_reducible show wpC _ _ (exec (Stmt.If _ _ _ _) _) _ _ _); k_dflt refine wpC_If (wpC_of_any ?_)) | (k_here; (with_reducible show wpC _ _ (exec (Stmt.Assign [Expr.Name _ _] (Expr.Call (Expr.Name _ _) [_, _] [] _) _) _) _ _ _); k_dflt refine wpC_Assign_Name ?_) | (k_here; (with_reducible show wpC _ _ (exec (Stmt.Return (some (Expr.Call (Expr.Name _ _) _ [] _)) _) _) _ _ _); k_dflt refine wpC_Return_some ?_) | (k_here; (with_reducible show wpC _ _ (eval (Expr.Call (Expr.Name _ _) _ [] _) _) _ _ _); k_dflt refine wpC_Call_Name rfl ?_) | (k_here; (with_reducible show wpC _ _ (call (Value.type "int") [Value.str _ _, Value.int _ _]) _ _ _); k_dflt (refine' int_any ?kh ?kb ?kx ?kl ?kn ?k0 ?_ ?_; (case kh => exact rfl); (case kb => assumption); (case kx => first | with_reducible assumption); (case kl => omega); (case kn => omega); (case k0 => first | exact zz_a (by assumption) | exact zz_b (by assumption)); all_goals (intros; (try dsimp only)))) | (k_here; (with_reducible show wpC _ _ (callWith _ (Value.type _) _ _ _) _ _ _); k_dflt refine wpC_callWith_int ?_) | (k_here; (with_reducible show wpC _ _ (callWith _ (Value.ref _) _ _ _) _ _ _); k_dflt (refine' wpC_callWith_K (K := Mine.hd.heap_39 _) ?k1 ?_; (case k1 => k_is))) | (k_here; (with_reducible show wpC _ _ (call (Value.ref _) _) _ _ _); k_dflt (refine wpC_call ?_; (refine' codeC_def ?k1 ?k2 ?k3 ?k4 ?k5 ?kA ?kF ?kK ?k6 ?k7 ?k8 ?k9 ?kB ?_ ?c2 ?c3 ?c4 ?c5; (case kA => exact rfl); (case kF => first | exact rfl | assumption); (case kK => first | exact rfl | assumption); (case k1 => k_asm); (case k2 => k_asm); (case k3 => k_asm); (case k4 => k_asm); (case k5 => k_asm); (case k6 => k_is); (case k7 => k_is); (case k8 => ktr_room); (case k9 => first | exact BindsTo.of_eq rfl | exact binds_K (by k_in) rfl (by k_is) rfl rfl rfl); (case c5 => decide); (case kB => exact locs rfl); (case c2 => exact rfl); (case c3 => exact rfl); (case c4 => exact rfl); k_whole; intro g' L' h' FG' F' N' B' X' T'; (try dsimp only); (try k_lift B'); (try k_fold)))) | ((fail_if_success (with_reducible show wpC _ _ (callWith _ _ _ _ _) _ _ _)); (fail_if_success (with_reducible show wpC _ _ (call _ _) _ _ _)); k_dflt (refine wpC_of_any ?_))) | (k_unfold; (try dsimp only)) | (k_end; wrow_close) | walk1 | dsimp only | (leave1; (try dsimp only))))
  all_goals first
    | (refine' end_err hret ?r1 ?r2 ?r3 ?r4; (case r1 => (first | exact sR_zero' (by with_reducible assumption) (by with_reducible assumption) | exact sR_nil (by with_reducible assumption) | exact sR_bad (by with_reducible assumption) (zz_a (by with_reducible assumption)) (by with_reducible assumption) | exact sR_bad (by with_reducible assumption) (zz_b (by with_reducible assumption)) (by with_reducible assumption))); (case r2 => (k_asm)); (case r3 => (k_asm)); (case r4 => (with_reducible (repeat (refine sub_more ?_)); exact sub_self)))
    | (refine' end_int hret ?r1 ?r2 ?r3 ?r4; (case r1 => (first | exact sR_dflt (by with_reducible assumption) | exact sR_ok (by with_reducible assumption) (zz_a (by with_reducible assumption)) (by with_reducible assumption) | exact sR_ok (by with_reducible assumption) (zz_b (by with_reducible assumption)) (by with_reducible assumption))); (case r2 => (k_asm)); (case r3 => (k_asm)); (case r4 => (with_reducible (repeat (refine sub_more ?_)); exact sub_self)))
end
end Mine
end
-- Cod1
section
open PySem PySem.W PyProof.Rows PySem.Calls PySem.Spec
open PySem.Builtin PySem.Builtin._codecs
namespace Mine
theorem forIn_steps {β : Type} {f : Nat → β → Sem (ForInStep β)} (I : Nat → β) : ∀ (n j a : Nat), (∀ k x, j ≤ k → k < j + n → f x (I k) = pure (.yield (I (k + 1)))) → forIn (List.range' a n) (I j) f = pure (I (j + n)) := by
  intro n
  induction n with
  | zero => intro j a _; rfl
  | succ n ih =>
    intro j a h
    rw [List.range'_succ, List.forIn_cons, h j a (Nat.le_refl _) (by omega)]
    refine (ih (j + 1) (a + 1) fun k x h1 h2 => h k x (by omega) (by omega)).trans ?_
    congr 2; omega
theorem forIn_once {β : Type} {f : Nat → β → Sem (ForInStep β)} {n : Nat} {s0 s1 : β} (h0 : n = 0 → s0 = s1) (h1 : n ≠ 0 → ∀ x, f x s0 = pure (.yield s1)) (h2 : ∀ x, f x s1 = pure (.done s1)) (a : Nat) : forIn (List.range' a n) s0 f = pure s1 := by
  cases n with
  | zero => rw [h0 rfl]; rfl
  | succ n =>
    rw [List.range'_succ, List.forIn_cons, h1 (by omega)]
    cases n with
    | zero => rfl
    | succ n =>
      refine (congrArg (fun z => z) (?_ : forIn (List.range' (a + 1) (n + 1)) s1 f = _))
      rw [List.range'_succ, List.forIn_cons, h2]
      rfl
theorem steps_bind {β γ : Type} {f : Nat → β → Sem (ForInStep β)} {g : β → Sem γ} {b : β} (I : Nat → β) (n : Nat) {n' : Nat} (hI : b = I 0) (hn : n' = n) (h : ∀ k x, k < n → f x (I k) = pure (.yield (I (k + 1)))) : (forIn (List.range' 0 n') b f >>= g) = g (I n) := by
  subst hI hn
  rw [forIn_steps I n' 0 0 fun k x _ hk => h k x (by omega), Nat.zero_add]
  rfl
theorem once_bind {β γ : Type} {f : Nat → β → Sem (ForInStep β)} {g : β → Sem γ} {s0 : β} (s1 : β) (n : Nat) {n' : Nat} (hn : n' = n) (h0 : n = 0 → s0 = s1) (h1 : n ≠ 0 → ∀ x, f x s0 = pure (.yield s1)) (h2 : ∀ x, f x s1 = pure (.done s1)) : (forIn (List.range' 0 n') s0 f >>= g) = g s1 := by
  subst hn
  rw [forIn_once h0 h1 h2 0]
  rfl
/-- the text's signs as bytes -/
def bytesOf (g : Str) : Array UInt8 := (g.cps.toList.map Nat.toUInt8).toArray
def Ascii (g : Str) : Prop := ∀ c ∈ g.cps.toList, c < 128
theorem dec_run {id : String} {g : Str} (hg : Ascii g) (hl : g.length ≤ 1000) : runDecoder id asciiDecoder none true (bytesOf g) 0 [] = pure (g.cps, (bytesOf g).size) := by
  unfold runDecoder
  have hsz : (bytesOf g).size = g.cps.toList.length := by simp [bytesOf]
  simp only [Std.Legacy.Range.forIn_eq_forIn_range']
  let I : Nat → Nat × Array Nat × Faults := fun k => (k, (g.cps.toList.take k).toArray, { held := [] })
  refine (steps_bind I (bytesOf g).size rfl (by simp [Std.Legacy.Range.size]) fun k x hk => ?_).trans ?_
  rotate_left
  · have : I (bytesOf g).size = ((bytesOf g).size, g.cps, { held := [] }) := by
      show (_, _, _) = _
      rw [hsz, List.take_length]
    rw [this]
  ·
    have hk' : k < g.cps.toList.length := by omega
    have h1 : ¬ ((g.cps.toList.take k).toArray.size > sizeLine) := by
      rw [sizeLine_eq]
      simp only [List.size_toArray, List.length_take]
      have : g.cps.toList.length = g.length := by simp [Str.length]
      omega
    have h2 : ¬ (k ≥ (bytesOf g).size) := by omega
    have hc : g.cps.toList[k] < 128 := hg _ (List.getElem_mem _)
    have h3 : ((bytesOf g).getD k 0).toNat = g.cps.toList[k] := by
      have : (bytesOf g).getD k 0 = (g.cps.toList[k]).toUInt8 := by
        unfold bytesOf
        rw [Array.getD_eq_getD_getElem?]
        rw [show (List.map Nat.toUInt8 g.cps.toList).toArray[k]? = some (g.cps.toList[k]).toUInt8 by simp only [List.getElem?_toArray, List.getElem?_map, List.getElem?_eq_getElem hk', Option.map]]
        rfl
      rw [this]
      simp only [Nat.toUInt8, UInt8.toNat_ofNat']
      omega
    have h4 : asciiDecoder.find true (bytesOf g) k = .text [g.cps.toList[k]] (k + 1) := by
      show (if ((bytesOf g).getD k 0).toNat < 128 then Found.char ((bytesOf g).getD k 0).toNat (k + 1) else _) = _
      rw [h3, if_pos hc]
      rfl
    show (if _ > sizeLine then _ else _) = _
    rw [if_neg h1]
    show (if k ≥ _ then _ else _) = _
    rw [if_neg h2]
    dsimp only [I]
    rw [h4]
    dsimp only
    congr 3
    rw [← List.take_append_getElem hk']
    simp
theorem enc_run {id : String} {self : Value} {g : Str} (hg : Ascii g) (hl : g.length ≤ 1000) : encodeNarrow id asciiCodec none self g = pure (bytesOf g) := by
  unfold encodeNarrow
  simp only [Std.Legacy.Range.forIn_eq_forIn_range']
  refine (once_bind (g.length, bytesOf g, {}) g.length (by simp [Std.Legacy.Range.size]) ?_ ?_ ?_).trans ?_
  rotate_right
  · rfl
  · intro h
    have : g.cps = #[] := by simpa [Str.length] using h
    rw [h]
    unfold bytesOf
    rw [this]
    rfl
  · intro h x
    have hpos : 0 < g.cps.size := by simpa [Str.length, Nat.pos_iff_ne_zero] using h
    have hf : Array.findIdx? asciiCodec.bad (g.cps.extract 0) = none := by
      rw [Array.findIdx?_eq_none_iff]
      intro c hc
      have : c ∈ g.cps.toList := by simpa using hc
      have := hg c this
      show decide (c ≥ 128) = false
      simp; omega
    have h0 : g.cps[0]? = some (g.cps[0]) := by simp [hpos]
    have hb : asciiCodec.bad (g.cps[0]) = false := by
      have := hg (g.cps[0]) (by simp)
      show decide (_ ≥ 128) = false
      simp; omega
    dsimp only
    rw [if_neg (by simp), h0]
    dsimp only
    rw [if_pos (by rw [hb]; rfl), hf]
    dsimp only [Option.getD]
    have e1 : 0 + (g.cps.extract 0).size = g.length := by simp [Str.length]
    have e2 : ((g.cps.extract 0).extract 0 (g.cps.extract 0).size).foldl (fun acc y => acc ++ (asciiCodec.bytesOf y).toArray) #[] = bytesOf g := by
      have : ∀ (l : List Nat) (a : Array UInt8), (l.foldl (fun acc y => acc ++ (asciiCodec.bytesOf y).toArray) a) = a ++ (l.map Nat.toUInt8).toArray := by
        intro l
        induction l with
        | nil => intro a; simp
        | cons c l ih => intro a; rw [List.foldl_cons, ih]; simp [asciiCodec]
      rw [← Array.foldl_toList, this]
      simp [bytesOf]
    rw [e1, e2]
  · intro x
    have h0 : g.cps[g.length]? = none := by simp [Str.length]
    have h1 : ¬ ((bytesOf g).size > sizeLine) := by
      rw [sizeLine_eq]
      unfold bytesOf
      have : g.cps.toList.length = g.length := by simp [Str.length]
      simp only [List.size_toArray, List.length_map]
      omega
    dsimp only
    rw [if_neg h1, h0]
end Mine
end
-- Cod2
section
open PySem PySem.W PyProof.Rows PySem.Calls PySem.Spec
open PySem.Builtin
set_option maxRecDepth 100000
namespace Mine
section
variable {c : UInt8} {cs : List UInt8} {b : Array UInt8} {t t1 t2 u : Tok} {g : Str}
theorem road_dec {id : String} : _codecs.decodeRoad id b (Str.ofString "ascii") none [] = (_codecs.runDecoder id _codecs.asciiDecoder none true b 0 [] >>= fun r => mkStr ⟨r.1⟩) := by kernel_rfl
theorem road_enc {id : String} {self : Value} : _codecs.encodeRoad id self g (Str.ofString "ascii") none = (_codecs.encodeNarrow id _codecs.asciiCodec none self g >>= fun r => mkBytes r) := by kernel_rfl
theorem args_dec (a b : Value) : argsOk "bytes.decode" ⟨[a, b], []⟩ := by
  unfold argsOk; rw [signature?_of (id := "bytes.decode") (n := ['e', 'd', 'o', 'c', 'e', 'd']) (o := ['s', 'e', 't', 'y', 'b']) (by kernel_rfl) FB.owner_bytes]; kernel_rfl
theorem meets_text2 (hg : Ascii g) (hl : g.length ≤ 1000) :
    Meets («_codecs.decode.text» ⟨[.bytes (bytesOf g) t, .str (Str.ofString "ascii") t1, .none, .str (Str.ofString "bytes.decode") t2], []⟩) (fun _ R s => R (.ok (.ret (.str g s.toks))) { s with toks := s.toks + 1 }) := by
  refine .of_wp fun prog w A R s h => ?_
  show wpAny _ _ (Bytes.bytesLike _ (.bytes (bytesOf g) t) >>= fun r => _) _ _ s
  refine wpAny_bind (wpAny_of_eq KBd.like_eq ?_)
  refine wpAny_bind (wpAny_of_eq KBd.held_eq ?_)
  show wpAny _ _ (_codecs.decodeRoad _ (bytesOf g) (Str.ofString "ascii") none [] >>= fun v => _) _ _ s
  rw [road_dec, dec_run hg hl]
  refine wpAny_bind (wpAny_bind (wpAny_pure ?_))
  exact wpAny_mkStr (wpAny_pure ⟨_, rfl, h⟩) (by rw [sizeLine_eq]; show g.length ≤ _; omega)
theorem entry_dec : «bytes.decode» ⟨[.bytes (c :: cs).toArray t, .str (Str.ofString "ascii") u], []⟩ = (mkStr (Str.ofString "utf-8") >>= fun _ => mkStr (Str.ofString "ascii") >>= fun e => mkStr (Str.ofString "bytes.decode") >>= fun d =>
    call (.builtin "_codecs.decode.text") [.bytes (c :: cs).toArray t, e, .none, d] >>= fun v => ret v) := by kernel_rfl
theorem entry_dec0 : «bytes.decode» ⟨[.bytes #[] t, .str (Str.ofString "ascii") u], []⟩ = (rule "bytes.decode.empty" >>= fun _ => mkStr Str.empty >>= fun v => ret v) := by kernel_rfl
theorem entry_enc : «str.encode» ⟨[.str g t, .str (Str.ofString "ascii") u], []⟩ = (_codecs.encodeRoad "str.encode" (.str g t) g (Str.ofString "ascii") none >>= fun v => ret v) := by kernel_rfl
theorem meets_decode2 (hg : Ascii g) (hl : g.length ≤ 1000) : Meets («bytes.decode» ⟨[.bytes (bytesOf g) t, .str (Str.ofString "ascii") u], []⟩) (fun _ R s => ∀ t' k, R (.ok (.ret (.str g t'))) { s with toks := k }) := by
  refine .of_wp fun prog w A R s h => ?_
  rcases e : g.cps.toList with _ | ⟨c, cs⟩
  · have e1 : bytesOf g = #[] := by unfold bytesOf; rw [e]; rfl
    have e2 : g = Str.empty := by
      have : g.cps = #[] := by rw [← Array.toList_inj]; exact e
      cases g
      simp only at this
      subst this
      rfl
    rw [e1, entry_dec0]
    subst e2
    exact wpAny_bind (wpAny_rule (wpAny_bind (wpAny_mkStr (wpAny_pure ⟨_, rfl, h _ _⟩) (by decide))))
  · have e1 : bytesOf g = (c.toUInt8 :: cs.map Nat.toUInt8).toArray := by unfold bytesOf; rw [e]; rfl
    rw [e1, entry_dec]
    refine wpAny_bind (wpAny_mkStr ?_ (by decide))
    refine wpAny_bind (wpAny_mkStr ?_ (by decide))
    refine wpAny_bind (wpAny_mkStr ?_ (by decide))
    rw [← e1]
    exact wpAny_bind (call_function_meets KBd.kind_text KBd.plain_text KBd.entry_text (KBd.args_text _ _ _ _) (meets_text2 hg hl) (wpAny_pure ⟨_, rfl, h _ _⟩))
theorem meets_encode2 (hg : Ascii g) (hl : g.length ≤ 1000) : Meets («str.encode» ⟨[.str g t, .str (Str.ofString "ascii") u], []⟩) (fun _ R s => ∀ t' k, R (.ok (.ret (.bytes (bytesOf g) t'))) { s with toks := k }) := by
  refine .of_wp fun prog w A R s h => ?_
  rw [entry_enc, road_enc, enc_run hg hl]
  refine wpAny_bind (wpAny_bind (wpAny_pure ?_))
  have hs : ¬ ((bytesOf g).size > sizeLine) := by
    rw [sizeLine_eq]
    unfold bytesOf
    have : g.cps.toList.length = g.length := by simp [Str.length]
    simp only [List.size_toArray, List.length_map]
    omega
  unfold mkBytes
  rw [if_neg hs]
  exact wpAny_bind (wpAny_fresh (wpAny_pure (wpAny_pure ⟨_, rfl, h _ _⟩)))
end
section
variable {prog : Program} {w : World} {A : Around} {E : Value → Shared → Prop} {s : Shared} {g : Str} {t u : Tok}
theorem decode2 {Q : Value → Shared → Prop} (hg : Ascii g) (hl : g.length ≤ 1000) (h : ∀ t' k, Q (.str g t') { s with toks := k }) :
    wpAny (model prog w) A (call (.builtin "bytes.decode") [.bytes (bytesOf g) t, .str (Str.ofString "ascii") u]) Q E s :=
  call_meets FB.slot_bytes_decode (typeIs_bytes _ _ _) FB.entry_bytes_decode (args_dec _ _) (meets_decode2 hg hl) h
theorem encode2 {Q : Value → Shared → Prop} (hg : Ascii g) (hl : g.length ≤ 1000) (h : ∀ t' k, Q (.bytes (bytesOf g) t') { s with toks := k }) :
    wpAny (model prog w) A (call (.builtin "str.encode") [.str g t, .str (Str.ofString "ascii") u]) Q E s :=
  call_meets F.slot_str_encode (typeIs_str _ _ _) F.entry_str_encode (F.args_str_encode_2 _ _) (meets_encode2 hg hl) h
end
end Mine
end
-- U2
section
open PySem PySem.W PyProof.Rows PySem.Calls PySem.Spec
namespace Mine
section
set_option maxRecDepth 100000 in
set_option maxHeartbeats 2000000 in
theorem uni_bytes {w : World} {g : Str} {t : Tok} (hg : Ascii g) (hl : g.length ≤ 1000) : UniIs w (.bytes (bytesOf g) t) g := by
  intro t1 t2 news p loose mean mg mb A₀ dp un gd base h₀ L m s env outer Q E B F X N T hf hk hd hu hret
  refine wpAny_call ?_
  k_dflt (refine' code_def ?k1 ?k2 ?k3 ?k4 ?k5 ?kA ?kF ?kK ?k6 ?k7 ?k8 ?k9 ?kB ?_ ?c2 ?c3 ?c4 ?c5; (case kA => exact rfl); (case kF => assumption); (case kK => assumption); (case k1 => k_asm); (case k2 => k_asm); (case k3 => k_asm); (case k4 => k_asm); (case k5 => k_asm); (case k6 => k_is); (case k7 => k_is); (case k8 => ktr_room); (case k9 => first | exact BindsTo.of_eq rfl | exact binds_K (by k_in) rfl (by k_is) rfl rfl rfl); (case c5 => decide); (case kB => exact locs rfl); (case c2 => exact rfl); (case c3 => exact rfl); (case c4 => exact rfl); k_whole; intro g' L' h' FG' F' N' B' X' T'; (try dsimp only); (try k_lift B'); (try k_fold))
  repeat' (first | (k_here; (with_reducible show wpAny _ _ (exec (Stmt.Raise (some (Expr.Call (Expr.Name _ _) _ [] _)) none _) _) _ _ _); k_dflt refine Raise_new rfl ?_) | (k_here; (with_reducible show wpAny _ _ (call (Value.builtin "bytes.decode") [Value.bytes (bytesOf _) _, _]) _ _ _); k_dflt (refine' decode2 ?k1 ?k2 ?_; (case k1 => with_reducible assumption); (case k2 => omega); intro _ _)) | (k_here; (with_reducible show wpAny _ _ (call (Value.builtin "len") [Value.ref _]) _ _ _); k_dflt (refine' Mine.len_vs ?k1 ?k2 ?k3 ?_; (case k1 => k_asm); (case k2 => k_mem); (case k3 => first | assumption | omega)); intro _ _) | (k_here; (with_reducible show wpAny _ _ (truthy (Value.str _ _)) _ _ _); k_dflt (first | (refine' Mine.truthy_yes ?k1 ?k2 ?_; (case k1 => omega); (case k2 => omega)) | (refine' Mine.truthy_text ?k1 ?_ ?_; (case k1 => omega); all_goals intro _))) | (k_here; (with_reducible show wpAny _ _ (call (Value.builtin "str.split") [_, _]) _ _ _); k_dflt (refine' Mine.split_ways ?k1 ?k2 ?k3 ?k4 ?_ ?_ ?_ ?_; (case k1 => k_asm); (case k2 => k_asm); (case k3 => omega); (case k4 => omega)); all_goals (intros; (try k_sweep))) | (k_here; (with_reducible show wpAny _ _ (call (Value.type "TypeError") [_]) _ _ _); k_dflt (refine' Mine.exc_made excClass_TypeError ?k1 ?k2 ?_; (case k1 => k_asm); (case k2 => k_asm); k_whole; intro h' e' o' x' n' F' N'; (try k_sweep))) | (k_here; (with_reducible show wpAny _ _ (call (Value.type "ValueError") [_]) _ _ _); k_dflt (refine' Mine.exc_made excClass_ValueError ?k1 ?k2 ?_; (case k1 => k_asm); (case k2 => k_asm); k_whole; intro h' e' o' x' n' F' N'; (try k_sweep))) | (k_here; (with_reducible show wpAny _ _ (call (Value.ref _) _) _ _ _); k_dflt (refine wpAny_call ?_; (refine' code_def ?k1 ?k2 ?k3 ?k4 ?k5 ?kA ?kF ?kK ?k6 ?k7 ?k8 ?k9 ?kB ?_ ?c2 ?c3 ?c4 ?c5; (case kA => exact rfl); (case kF => assumption); (case kK => assumption); (case k1 => k_asm); (case k2 => k_asm); (case k3 => k_asm); (case k4 => k_asm); (case k5 => k_asm); (case k6 => k_is); (case k7 => k_is); (case k8 => ktr_room); (case k9 => first | exact BindsTo.of_eq rfl | exact binds_K (by k_in) rfl (by k_is) rfl rfl rfl); (case c5 => decide); (case kB => exact locs rfl); (case c2 => exact rfl); (case c3 => exact rfl); (case c4 => exact rfl); k_whole; intro g' L' h' FG' F' N' B' X' T'; (try dsimp only); (try k_lift B'); (try k_fold)))) | (k_here; (with_reducible show if (_ == _) = true then _ else _); k_dflt (first | (refine' Mine.ieq_no ?k1 ?_; (case k1 => omega)) | (refine' Mine.ieq_yes ?k1 ?_; (case k1 => omega)))) | ((with_reducible show Raisable _ _ _); first | k_dflt (refine' Mine.raise_made excClass_ValueError ?k1 ?k2 ?k3 ?k4 ?_; (case k1 => assumption); (case k2 => k_asm); (case k3 => k_asm); (case k4 => assumption); k_whole; intro h' x' F' N') | k_dflt (refine' Mine.raise_made excClass_TypeError ?k1 ?k2 ?k3 ?k4 ?_; (case k1 => assumption); (case k2 => k_asm); (case k3 => k_asm); (case k4 => assumption); k_whole; intro h' x' F' N')) | (k_unfold; (try dsimp only)) | (k_end; wrow_close) | walk1 | dsimp only | (leave1; (try dsimp only)))
  all_goals (refine' hret _ [] _ _ ?r1 ?r2 ?r3 ⟨rfl, _, rfl⟩; (case r1 => k_asm); (case r2 => first | exact news_drop1 (by k_asm) | k_asm); (case r3 => (intro _ _ _ h; cases h)))
end
end Mine
end
-- B1
section
open PySem PySem.W PyProof.Rows PySem.Calls PySem.Spec
namespace Mine
/-- the value v is neither text nor bytes -/
def BadV (w : World) (v : Value) (n0 : List (Addr × Obj)) : Prop :=
  ∀ {T : String} {A : Around} {Q : Value → Shared → Prop} {E : Value → Shared → Prop} {s : Shared} {h₀ : Heap} {L : Addr} {n1 : List (Addr × Obj)}, (T = "str" ∨ T = "bytes") → (hd.heap_39 w.params).In s.heap → News h₀ L s.heap n1 → (∀ p ∈ n0, p ∈ n1) →
    (∀ tk, Q (.bool false) { s with toks := tk }) → wpAny (model PySem.Challenge.pw_iw0004_01 w) A (call (.builtin "isinstance") [v, .type T]) Q E s
theorem bad_none {w : World} {n0 : List (Addr × Obj)} : BadV w .none n0 := by
  intro T A Q E s h₀ L n1 hT X N hs h
  rcases hT with rfl | rfl
  · exact kia_one kitx_none X trivial (by kit_is) (by kit_nb) h
  · exact kia_one kitx_none X trivial (by kit_is) (by kit_nb) h
theorem bad_int {w : World} {n0 : List (Addr × Obj)} {n : Int} {t : Tok} : BadV w (.int n t) n0 := by
  intro T A Q E s h₀ L n1 hT X N hs h
  rcases hT with rfl | rfl
  · exact kia_one kitx_int X trivial (by kit_is) (by kit_nb) h
  · exact kia_one kitx_int X trivial (by kit_is) (by kit_nb) h
theorem bad_list {w : World} {n0 : List (Addr × Obj)} {D : Addr} {o : Obj} (hm : (D, o) ∈ n0) (hc : o.cls = .type "list") : BadV w (.ref D) n0 := by
  intro T A Q E s h₀ L n1 hT X N hs h
  rcases hT with rfl | rfl
  · exact kia_one kitx_list X (kitAt_N N (hs _ hm) hc) (by kit_is) (by kit_nb) h
  · exact kia_one kitx_list X (kitAt_N N (hs _ hm) hc) (by kit_is) (by kit_nb) h
theorem bad_tuple {w : World} {n0 : List (Addr × Obj)} {D : Addr} {o : Obj} (hm : (D, o) ∈ n0) (hc : o.cls = .type "tuple") : BadV w (.ref D) n0 := by
  intro T A Q E s h₀ L n1 hT X N hs h
  rcases hT with rfl | rfl
  · exact kia_one kitx_tuple X (kitAt_N N (hs _ hm) hc) (by kit_is) (by kit_nb) h
  · exact kia_one kitx_tuple X (kitAt_N N (hs _ hm) hc) (by kit_is) (by kit_nb) h
section
set_option maxRecDepth 100000 in
set_option maxHeartbeats 2000000 in
theorem two_bad {w : World} {v : Value} {fr mk : Str} {t2 t3 : Tok} {news : List (Addr × Obj)} (hB : BadV w v news) :
    Asks w 149 [v, .str fr t2, .str mk t3] news (fun r n => DtIn n r (.err sTE)) := by
  intro p loose mean mg mb A₀ dp un gd h₀ L m s env Q E B F X N T hfr hk hd hu hret
  refine wpAny_call ?_
  k_dflt (refine' code_top ?k1 ?k2 ?k3 ?k4 ?k5 ?kA ?kf ?kk ?k6 ?k7 ?k8 ?k9 ?kB ?_ ?c2 ?c3 ?c4 ?c5; (case kA => exact rfl); (case kf => assumption); (case kk => assumption); (case k1 => k_asm); (case k2 => k_asm); (case k3 => k_asm); (case k4 => k_asm); (case k5 => k_asm); (case k6 => k_is); (case k7 => k_is); (case k8 => ktr_room); (case k9 => first | exact BindsTo.of_eq rfl | exact binds_K (by k_in) rfl (by k_is) rfl rfl rfl); (case c5 => decide); (case kB => exact locs rfl); (case c2 => exact rfl); (case c3 => exact rfl); (case c4 => exact rfl); k_whole; intro g' L' h' FG' F' N' B' X' T' D'; (try dsimp only); (try k_lift B'); (try k_fold))
  (repeat' (first | (k_here; (with_reducible show wpAny _ _ (exec (Stmt.Raise (some (Expr.Call (Expr.Name _ _) _ [] _)) none _) _) _ _ _); k_dflt refine Raise_new rfl ?_) | (k_here; (with_reducible show wpAny _ _ (call (Value.builtin "isinstance") [_, Value.type _]) _ _ _); k_dflt ((rename BadV _ _ _ => hB); refine' hB ?k1 ?k2 ?k3 ?k4 ?_; (case k1 => first | exact .inl rfl | exact .inr rfl); (case k2 => k_in); (case k3 => k_asm); (case k4 => with_reducible (repeat (refine sub_more ?_)); exact sub_self); intro _; (try dsimp only))) | (k_here; (with_reducible show wpAny _ _ (call (Value.ref 35) [_, Value.str _ _]) _ _ _); k_dflt (refine' exs_call ?k1 ?k2 ?k3 ?k4 ?k5 ?k6 ?k7 ?k8 ?k9 ?_; (case k1 => k_asm); (case k2 => k_asm); (case k3 => k_asm); (case k4 => k_asm); (case k5 => k_asm); (case k6 => first | exact rfl | assumption); (case k7 => first | exact rfl | assumption); (case k8 => ktr_room); (case k9 => ktr_units); intro v' n' h' t' F' N' a' r'; obtain ⟨e', o', hv', hn', x'⟩ := r'; subst hv' hn'; (replace a' := fun p hp => a' p hp (e', o') (List.Mem.head _)); (simp only [List.cons_append, List.nil_append] at N'); (try k_sweep); (try dsimp only))) | (k_here; (with_reducible show wpAny _ _ (call (Value.builtin "len") [Value.ref _]) _ _ _); k_dflt (refine' Mine.len_vs ?k1 ?k2 ?k3 ?_; (case k1 => k_asm); (case k2 => k_mem); (case k3 => first | assumption | omega)); intro _ _) | (k_here; (with_reducible show wpAny _ _ (truthy (Value.str _ _)) _ _ _); k_dflt (first | (refine' Mine.truthy_yes ?k1 ?k2 ?_; (case k1 => omega); (case k2 => omega)) | (refine' Mine.truthy_text ?k1 ?_ ?_; (case k1 => omega); all_goals intro _))) | (k_here; (with_reducible show wpAny _ _ (call (Value.builtin "str.split") [_, _]) _ _ _); k_dflt (refine' Mine.split_ways ?k1 ?k2 ?k3 ?k4 ?_ ?_ ?_ ?_; (case k1 => k_asm); (case k2 => k_asm); (case k3 => omega); (case k4 => omega)); all_goals (intros; (try k_sweep))) | (k_here; (with_reducible show wpAny _ _ (call (Value.type "TypeError") [_]) _ _ _); k_dflt (refine' Mine.exc_made excClass_TypeError ?k1 ?k2 ?_; (case k1 => k_asm); (case k2 => k_asm); k_whole; intro h' e' o' x' n' F' N'; (try k_sweep))) | (k_here; (with_reducible show wpAny _ _ (call (Value.type "ValueError") [_]) _ _ _); k_dflt (refine' Mine.exc_made excClass_ValueError ?k1 ?k2 ?_; (case k1 => k_asm); (case k2 => k_asm); k_whole; intro h' e' o' x' n' F' N'; (try k_sweep))) | (k_here; (with_reducible show wpAny _ _ (call (Value.ref _) _) _ _ _); k_dflt (refine wpAny_call ?_; (refine' code_top ?k1 ?k2 ?k3 ?k4 ?k5 ?kA ?kf ?kk ?k6 ?k7 ?k8 ?k9 ?kB ?_ ?c2 ?c3 ?c4 ?c5; (case kA => exact rfl); (case kf => assumption); (case kk => assumption); (case k1 => k_asm); (case k2 => k_asm); (case k3 => k_asm); (case k4 => k_asm); (case k5 => k_asm); (case k6 => k_is); (case k7 => k_is); (case k8 => ktr_room); (case k9 => first | exact BindsTo.of_eq rfl | exact binds_K (by k_in) rfl (by k_is) rfl rfl rfl); (case c5 => decide); (case kB => exact locs rfl); (case c2 => exact rfl); (case c3 => exact rfl); (case c4 => exact rfl); k_whole; intro g' L' h' FG' F' N' B' X' T' D'; (try dsimp only); (try k_lift B'); (try k_fold)))) | (k_here; (with_reducible show if (_ == _) = true then _ else _); k_dflt (first | (refine' Mine.ieq_no ?k1 ?_; (case k1 => omega)) | (refine' Mine.ieq_yes ?k1 ?_; (case k1 => omega)))) | ((with_reducible show Raisable _ _ _); first | k_dflt (refine' Mine.raise_made excClass_ValueError ?k1 ?k2 ?k3 ?k4 ?_; (case k1 => assumption); (case k2 => k_asm); (case k3 => k_asm); (case k4 => assumption); k_whole; intro h' x' F' N') | k_dflt (refine' Mine.raise_made excClass_TypeError ?k1 ?k2 ?k3 ?k4 ?_; (case k1 => assumption); (case k2 => k_asm); (case k3 => k_asm); (case k4 => assumption); k_whole; intro h' x' F' N')) | (k_unfold; (try dsimp only)) | (k_end; wrow_close) | walk1 | dsimp only | (leave1; (try dsimp only))))
  all_goals first
    | (refine' end_err hret rfl ?r2 ?r3 ?r4; (case r2 => k_asm); (case r3 => k_asm); (case r4 => (with_reducible (repeat (refine sub_more ?_)); exact sub_self)))
set_option maxRecDepth 100000 in
set_option maxHeartbeats 2000000 in
theorem three_bad {w : World} {v dv : Value} {fr mk : Str} {b : Int} {t4 t2 t3 : Tok} {news : List (Addr × Obj)} (hB : BadV w v news) :
    Asks w 156 [v, .str fr t2, .str mk t3, .int b t4, dv] news (fun r n => DtIn n r (.err sTE)) := by
  intro p loose mean mg mb A₀ dp un gd h₀ L m s env Q E B F X N T hfr hk hd hu hret
  refine wpAny_call ?_
  k_dflt (refine' code_top ?k1 ?k2 ?k3 ?k4 ?k5 ?kA ?kf ?kk ?k6 ?k7 ?k8 ?k9 ?kB ?_ ?c2 ?c3 ?c4 ?c5; (case kA => exact rfl); (case kf => assumption); (case kk => assumption); (case k1 => k_asm); (case k2 => k_asm); (case k3 => k_asm); (case k4 => k_asm); (case k5 => k_asm); (case k6 => k_is); (case k7 => k_is); (case k8 => ktr_room); (case k9 => first | exact BindsTo.of_eq rfl | exact binds_K (by k_in) rfl (by k_is) rfl rfl rfl); (case c5 => decide); (case kB => exact locs rfl); (case c2 => exact rfl); (case c3 => exact rfl); (case c4 => exact rfl); k_whole; intro g' L' h' FG' F' N' B' X' T' D'; (try dsimp only); (try k_lift B'); (try k_fold))
  (repeat' (first | (k_here; (with_reducible show wpAny _ _ (exec (Stmt.Raise (some (Expr.Call (Expr.Name _ _) _ [] _)) none _) _) _ _ _); k_dflt refine Raise_new rfl ?_) | (k_here; (with_reducible show wpAny _ _ (call (Value.builtin "isinstance") [_, Value.type _]) _ _ _); k_dflt ((rename BadV _ _ _ => hB); refine' hB ?k1 ?k2 ?k3 ?k4 ?_; (case k1 => first | exact .inl rfl | exact .inr rfl); (case k2 => k_in); (case k3 => k_asm); (case k4 => with_reducible (repeat (refine sub_more ?_)); exact sub_self); intro _; (try dsimp only))) | (k_here; (with_reducible show wpAny _ _ (call (Value.ref 35) [_, Value.str _ _]) _ _ _); k_dflt (refine' exs_call ?k1 ?k2 ?k3 ?k4 ?k5 ?k6 ?k7 ?k8 ?k9 ?_; (case k1 => k_asm); (case k2 => k_asm); (case k3 => k_asm); (case k4 => k_asm); (case k5 => k_asm); (case k6 => first | exact rfl | assumption); (case k7 => first | exact rfl | assumption); (case k8 => ktr_room); (case k9 => ktr_units); intro v' n' h' t' F' N' a' r'; obtain ⟨e', o', hv', hn', x'⟩ := r'; subst hv' hn'; (replace a' := fun p hp => a' p hp (e', o') (List.Mem.head _)); (simp only [List.cons_append, List.nil_append] at N'); (try k_sweep); (try dsimp only))) | (k_here; (with_reducible show wpAny _ _ (call (Value.builtin "len") [Value.ref _]) _ _ _); k_dflt (refine' Mine.len_vs ?k1 ?k2 ?k3 ?_; (case k1 => k_asm); (case k2 => k_mem); (case k3 => first | assumption | omega)); intro _ _) | (k_here; (with_reducible show wpAny _ _ (truthy (Value.str _ _)) _ _ _); k_dflt (first | (refine' Mine.truthy_yes ?k1 ?k2 ?_; (case k1 => omega); (case k2 => omega)) | (refine' Mine.truthy_text ?k1 ?_ ?_; (case k1 => omega); all_goals intro _))) | (k_here; (with_reducible show wpAny _ _ (call (Value.builtin "str.split") [_, _]) _ _ _); k_dflt (refine' Mine.split_ways ?k1 ?k2 ?k3 ?k4 ?_ ?_ ?_ ?_; (case k1 => k_asm); (case k2 => k_asm); (case k3 => omega); (case k4 => omega)); all_goals (intros; (try k_sweep))) | (k_here; (with_reducible show wpAny _ _ (call (Value.type "TypeError") [_]) _ _ _); k_dflt (refine' Mine.exc_made excClass_TypeError ?k1 ?k2 ?_; (case k1 => k_asm); (case k2 => k_asm); k_whole; intro h' e' o' x' n' F' N'; (try k_sweep))) | (k_here; (with_reducible show wpAny _ _ (call (Value.type "ValueError") [_]) _ _ _); k_dflt (refine' Mine.exc_made excClass_ValueError ?k1 ?k2 ?_; (case k1 => k_asm); (case k2 => k_asm); k_whole; intro h' e' o' x' n' F' N'; (try k_sweep))) | (k_here; (with_reducible show wpAny _ _ (call (Value.ref _) _) _ _ _); k_dflt (refine wpAny_call ?_; (refine' code_top ?k1 ?k2 ?k3 ?k4 ?k5 ?kA ?kf ?kk ?k6 ?k7 ?k8 ?k9 ?kB ?_ ?c2 ?c3 ?c4 ?c5; (case kA => exact rfl); (case kf => assumption); (case kk => assumption); (case k1 => k_asm); (case k2 => k_asm); (case k3 => k_asm); (case k4 => k_asm); (case k5 => k_asm); (case k6 => k_is); (case k7 => k_is); (case k8 => ktr_room); (case k9 => first | exact BindsTo.of_eq rfl | exact binds_K (by k_in) rfl (by k_is) rfl rfl rfl); (case c5 => decide); (case kB => exact locs rfl); (case c2 => exact rfl); (case c3 => exact rfl); (case c4 => exact rfl); k_whole; intro g' L' h' FG' F' N' B' X' T' D'; (try dsimp only); (try k_lift B'); (try k_fold)))) | (k_here; (with_reducible show if (_ == _) = true then _ else _); k_dflt (first | (refine' Mine.ieq_no ?k1 ?_; (case k1 => omega)) | (refine' Mine.ieq_yes ?k1 ?_; (case k1 => omega)))) | ((with_reducible show Raisable _ _ _); first | k_dflt (refine' Mine.raise_made excClass_ValueError ?k1 ?k2 ?k3 ?k4 ?_; (case k1 => assumption); (case k2 => k_asm); (case k3 => k_asm); (case k4 => assumption); k_whole; intro h' x' F' N') | k_dflt (refine' Mine.raise_made excClass_TypeError ?k1 ?k2 ?k3 ?k4 ?_; (case k1 => assumption); (case k2 => k_asm); (case k3 => k_asm); (case k4 => assumption); k_whole; intro h' x' F' N')) | (k_unfold; (try dsimp only)) | (k_end; wrow_close) | walk1 | dsimp only | (leave1; (try dsimp only))))
  all_goals first
    | (refine' end_err hret rfl ?r2 ?r3 ?r4; (case r2 => k_asm); (case r3 => k_asm); (case r4 => (with_reducible (repeat (refine sub_more ?_)); exact sub_self)))
end
end Mine
end
-- St1
section
open PySem PySem.W PyProof.Rows PySem.Calls PySem.Spec
namespace Mine

section
variable {prog : Program} {w : World} {A : Around} {E : Value → Shared → Prop} {s : Shared} {env : Env}
/-- for over a text, left early or not -/
theorem For_str {h₀ : Heap} {m : Str → Option Value} {news : List (Addr × Obj)} {x : Str} {pt : Pos} {iter : Expr} {body : List Stmt} {pos : Pos} {g : Str} {t : Tok} {Q : Flow → Shared → Prop} (hh : A.handled = none) (hg : Ascii g)
    (J : Nat → (Str → Option Value) → Prop) (hJ : J 0 m)
    (hx : env.kindOf x = some .local) (hp : (env.scope.kind == .class || (env.scope.kind == .module && env.locals != env.globals)) = false)
    (hs : ∀ x, foldedSetIterable iter env x = pure x) (ht : ∀ it v, letOwnedTupleGo (.Name x pt) it v = pure ())
    (h : wpAny (model prog w) A (eval iter env) (fun v s₁ => v = .str g t ∧ Fr h₀ env.locals s₁.heap m ∧ News h₀ env.locals s₁.heap news ∧ s₁.gens = s.gens ∧ s₁.drawn = s.drawn ∧ s₁.os = s.os) E s)
    (step : ∀ i c tc m₁ h' tk it o E', g.cps[i]? = some c → J i m₁ → (∀ p ∈ news, p.1 ≠ it) → Fr h₀ env.locals h' (fun y => if y = x then some (.str ⟨#[c]⟩ tc) else m₁ y) → News h₀ env.locals h' ((it, o) :: news) →
      wpAny (model prog w) A (execs body env) (fun f s₃ => (f = .next ∧ ∃ h₃ tk₃ m₂, s₃ = { s with heap := h₃, toks := tk₃ } ∧ J (i + 1) m₂ ∧ Fr h₀ env.locals h₃ m₂ ∧ News h₀ env.locals h₃ ((it, o) :: news)) ∨ (∃ v, f = .ret v ∧ Q (.ret v) s₃)) E' { s with heap := h', toks := tk })
    (done : ∀ h' tk m₁, J g.cps.size m₁ → Fr h₀ env.locals h' m₁ → News h₀ env.locals h' news → Q .next { s with heap := h', toks := tk }) :
    wpAny (model prog w) A (exec (.For (.Name x pt) iter body [] pos) env) Q E s := by
  refine wpAny_For (wpAny_mono h (fun v s₁ h₁ => ?_) fun _ _ e => e) hs
  obtain ⟨rfl, F, N, hgn, hd, ho⟩ := h₁
  obtain ⟨hp₁, g₁, d₁, t₁, o₁⟩ := s₁
  simp only at hgn hd ho F N
  subst hgn hd ho
  have ha : g.cps.all (· < 128) = true := by
    rw [Array.all_eq_true]
    intro i hi
    simpa using hg _ (by simp)
  refine wpAny_pyIter_ascii ha ?_
  have itN : ∀ p ∈ news, p.1 ≠ hp₁.objs.size := fun p hp => Nat.ne_of_lt (Heap.lt_size (N p hp).1)
  have it0 : h₀.get? hp₁.objs.size = none := by
    cases q : h₀.get? hp₁.objs.size with
    | none => rfl
    | some o => exact absurd (Heap.lt_size (F.keep _ _ q)) (Nat.lt_irrefl _)
  have itL : hp₁.objs.size ≠ env.locals := by
    obtain ⟨oL, _, _, hL, _⟩ := F.ns
    exact Nat.ne_of_gt (Heap.lt_size hL)
  refine codeAny_forLoop (fun k s' => ∃ h' tk i o m₁, s' = { s with heap := h', toks := tk } ∧ k = g.cps.size - i ∧ i ≤ g.cps.size ∧ J i m₁ ∧ h'.IsStrIter hp₁.objs.size "str_ascii_iterator" g t i ∧ Fr h₀ env.locals h' m₁ ∧ News h₀ env.locals h' ((hp₁.objs.size, o) :: news)) ?_ g.cps.size
    ⟨_, _, 0, _, m, rfl, rfl, Nat.zero_le _, hJ, ⟨_, Heap.get?_push_size _ rfl, rfl, rfl⟩, F.push _, News.push F N _⟩
  rintro k s' ⟨h', tk, i, o, m₁, rfl, rfl, hi, hJi, hli, F', N'⟩
  generalize hp₁.objs.size = it at *
  have frame : ∀ {h'' : Heap} {o'' : Obj}, (∀ b, b ≠ it → h''.get? b = h'.get? b) → h''.get? it = some o'' → Fr h₀ env.locals h'' m₁ ∧ News h₀ env.locals h'' ((it, o'') :: news) := by
    intro h'' o'' hb hb'
    refine ⟨⟨F'.ns.at' fun o q => (hb _ (Ne.symm itL)).trans q, fun b o q => (hb b (fun e => by rw [e, it0] at q; cases q)).trans (F'.keep b o q), F'.above⟩, fun p hp => ?_⟩
    rcases List.mem_cons.mp hp with rfl | hp
    · exact ⟨hb', itL, it0⟩
    · have := N' p (.tail _ hp)
      exact ⟨(hb _ (itN p hp)).trans this.1, this.2⟩
  cases hv : g.cps[i]? with
  | none =>
    have hsz : i = g.cps.size := Nat.le_antisymm hi (by simpa using hv)
    refine wpAny_pyNext_ascii_end hh hli hv fun h'' hx'' => wpAny_execs_nil ?_
    refine done h'' _ m₁ (hsz ▸ hJi) ⟨F'.ns.at' fun o q => hx'' _ _ (Ne.symm itL) q, fun b o q => hx'' _ _ (fun e => by rw [e, it0] at q; cases q) (F'.keep b o q), F'.above⟩ fun p hp => ?_
    have := N' p (.tail _ hp)
    exact ⟨hx'' _ _ (itN p hp) this.1, this.2⟩
  | some c =>
    have hlt : i < g.cps.size := (Array.getElem?_eq_some_iff.mp hv).1
    refine wpAny_pyNext_ascii_item hli hv fun h'' hli' hsb => ?_
    obtain ⟨o'', ho'', hc'', hd''⟩ := id hli'
    obtain ⟨F₂, N₂⟩ := frame hsb.2 ho''
    refine wpAny_assign_Name (wpAny_storeName_local hx F₂.ns (fun h₃ hn hs₃ => ?_) hp)
    have F₃ := F₂.set hn hs₃
    have N₃ := N₂.set hs₃
    refine wpAny_mono (step i c _ m₁ h₃ _ it o'' _ hv hJi itN F₃ N₃) (fun f s₃ hf => ?_) fun _ _ e => e
    rcases hf with ⟨rfl, h₄, tk₄, m₂, rfl, hJ', F₄, N₄⟩ | ⟨v, rfl, hq⟩
    · have hli₄ : h₄.IsStrIter it "str_ascii_iterator" g t (i + 1) := ⟨o'', (N₄ _ (.head _)).1, hc'', hd''⟩
      exact ⟨g.cps.size - (i + 1), by omega, h₄, tk₄, i + 1, o'', m₂, rfl, rfl, by omega, hJ', hli₄, F₄, N₄⟩
    · exact hq
theorem For_strN {h₀ : Heap} {L : Addr} {m : Str → Option Value} {news : List (Addr × Obj)} {x sn : Str} {pt ps : Pos} {body : List Stmt} {pos : Pos} {g : Str} {t : Tok} {Q : Flow → Shared → Prop} (F : Fr h₀ L s.heap m) (N : News h₀ L s.heap news) (hL : env.locals = L) (hv : m sn = some (.str g t)) (hh : A.handled = none) (hg : Ascii g)
    (J : Nat → (Str → Option Value) → Prop) (hJ : J 0 m)
    (hx : env.kindOf x = some .local) (hp : (env.scope.kind == .class || (env.scope.kind == .module && env.locals != env.globals)) = false)
    (hs : ∀ x, foldedSetIterable (.Name sn ps) env x = pure x) (ht : ∀ it v, letOwnedTupleGo (.Name x pt) it v = pure ())
    (hld : ∀ Q', Q' (.str g t) s → wpAny (model prog w) A (eval (.Name sn ps) env) Q' E s)
    (step : ∀ i c tc m₁ h' tk it o E', g.cps[i]? = some c → J i m₁ → (∀ p ∈ news, p.1 ≠ it) → Fr h₀ L h' (fun y => if y = x then some (.str ⟨#[c]⟩ tc) else m₁ y) → News h₀ L h' ((it, o) :: news) →
      wpAny (model prog w) A (execs body env) (fun f s₃ => (f = .next ∧ ∃ h₃ tk₃ m₂, s₃ = { s with heap := h₃, toks := tk₃ } ∧ J (i + 1) m₂ ∧ Fr h₀ L h₃ m₂ ∧ News h₀ L h₃ ((it, o) :: news)) ∨ (∃ v, f = .ret v ∧ Q (.ret v) s₃)) E' { s with heap := h', toks := tk })
    (done : ∀ h' tk m₁, J g.cps.size m₁ → Fr h₀ L h' m₁ → News h₀ L h' news → Q .next { s with heap := h', toks := tk }) :
    wpAny (model prog w) A (exec (.For (.Name x pt) (.Name sn ps) body [] pos) env) Q E s := by
  subst hL
  exact For_str hh hg J hJ hx hp hs ht (hld _ ⟨rfl, F, N, rfl, rfl, rfl⟩) step done
end
end Mine
end
-- M1
section
open PySem PySem.W PyProof.Rows PySem.Calls PySem.Spec
namespace Mine
def NumOn (g : Str) (b : Nat) : Prop := OkS g ∧ (b = 10 ∨ b = 16)
def NumJ {g : Str} {b : Nat} (_ : NumOn g b) (i : Nat) (m : Str → Option Value) : Prop := ∃ (acc : Nat) (tn t1 t2 : Tok) (op os : Option Value), readNum b acc (g.cps.toList.drop i) = numOf b g ∧
  m = fun y => if y = Str.ofString "place" then op else if y = Str.ofString "sign" then os else if y = Str.ofString "number" then some (.int acc tn) else if y = Str.ofString "signs" then some (.str g t1) else if y = Str.ofString "base" then some (.int b t2) else none
theorem num_ascii {g : Str} {b : Nat} (h : NumOn g b) : Ascii g := fun c hc => okc_lt (h.1 c hc)
theorem num_start {g : Str} {b : Nat} (h : NumOn g b) {m : Str → Option Value} {tn t1 t2 : Tok} (hm : m = fun y => if y = Str.ofString "number" then some (.int 0 tn) else List.lookup y [(Str.ofString "base", .int b t2), (Str.ofString "signs", .str g t1)]) : NumJ h 0 m := by
  refine ⟨0, tn, t1, t2, none, none, rfl, ?_⟩
  subst hm
  funext y
  by_cases h1 : y = Str.ofString "place"
  · subst h1; rfl
  by_cases h2 : y = Str.ofString "sign"
  · subst h2; rfl
  by_cases h3 : y = Str.ofString "number"
  · subst h3; rfl
  by_cases h4 : y = Str.ofString "signs"
  · subst h4; rfl
  by_cases h5 : y = Str.ofString "base"
  · subst h5; rfl
  simp only [h1, h2, h3, h4, h5, if_false, List.lookup]
  rw [show (y == Str.ofString "signs") = false by simpa using h4, show (y == Str.ofString "base") = false by simpa using h5]
def NumRet (b : Nat) (g : Str) (r : Value) : Prop := match numOf b g with | none => r = .none | some k => ∃ t, r = .int k t
theorem numret_none {b : Nat} {g : Str} (h : numOf b g = none) : NumRet b g .none := by unfold NumRet; rw [h]
theorem numret_some {b : Nat} {g : Str} {k : Nat} {t : Tok} (h : numOf b g = some k) : NumRet b g (.int k t) := by unfold NumRet; rw [h]; exact ⟨t, rfl⟩
theorem small_b {g : Str} {b : Nat} (h : NumOn g b) : Builtin.Int.intBits (b : Int) ≤ 64 := PySem.intBits_le_64 (by rcases h.2 with e | e <;> omega) (by rcases h.2 with e | e <;> omega)
abbrev digs : Str := Str.ofString "0123456789abcdef"
def fnd (b c : Nat) : Int := Txt.find (Txt.slice digs none (some (b : Int))) (Txt.lower ⟨#[c]⟩)
def chk (b c : Nat) : Bool := let f := Txt.find (Txt.slice digs none (some (b : Int))) ⟨#[lo1 c]⟩
  match NumText.digit? c with | some d => if d < b then f == (d : Int) else f == -1 | none => f == -1
theorem chk_10 : ∀ c, c < 128 → (okc c = true → chk 10 c = true) := by decide +kernel
theorem chk_16 : ∀ c, c < 128 → (okc c = true → chk 16 c = true) := by decide +kernel
theorem fnd_digit {b c : Nat} (hc : okc c = true) (hb : b = 10 ∨ b = 16) : (∃ d, NumText.digit? c = some d ∧ d < b ∧ fnd b c = (d : Int)) ∨ (fnd b c = -1 ∧ ∀ d, NumText.digit? c = some d → ¬ d < b) := by
  have hl : Txt.lower ⟨#[c]⟩ = ⟨#[lo1 c]⟩ := (lower_ascii (x := ⟨#[c]⟩) (by intro c' h; simp at h; subst h; exact okc_lt hc)).trans (by simp)
  have h : chk b c = true := by
    rcases hb with rfl | rfl
    · exact chk_10 c (okc_lt hc) hc
    · exact chk_16 c (okc_lt hc) hc
  unfold chk at h
  unfold fnd
  rw [hl]
  cases e : NumText.digit? c with
  | none =>
    rw [e] at h
    exact .inr ⟨by simpa using h, fun d q => nomatch q⟩
  | some d =>
    rw [e] at h
    dsimp only at h
    by_cases hd : d < b
    · rw [if_pos hd] at h
      exact .inl ⟨d, rfl, hd, by simpa using h⟩
    · rw [if_neg hd] at h
      exact .inr ⟨by simpa using h, fun d' q => by cases q; exact hd⟩
theorem num_ok {g : Str} {b i c : Nat} (h : NumOn g b) (hc : g.cps[i]? = some c) : okc c = true := h.1 c (by simpa using Array.mem_of_getElem? hc)
theorem num_drop {g : Str} {i c : Nat} (hc : g.cps[i]? = some c) : g.cps.toList.drop i = c :: g.cps.toList.drop (i + 1) := by
  have hi : i < g.cps.toList.length := by simpa using (Array.getElem?_eq_some_iff.mp hc).1
  rw [List.drop_eq_getElem_cons hi]
  congr 1
  obtain ⟨h1, h2⟩ := Array.getElem?_eq_some_iff.mp hc
  simpa using h2
theorem num_bad {g : Str} {b i c acc : Nat} (h : NumOn g b) (hc : g.cps[i]? = some c) (hr : readNum b acc (g.cps.toList.drop i) = numOf b g) (hp : fnd b c < 0) : numOf b g = none := by
  rw [num_drop hc] at hr
  rcases fnd_digit (num_ok h hc) h.2 with ⟨d, _, _, e⟩ | ⟨_, e⟩
  · omega
  · rw [← hr]
    unfold readNum
    cases q : NumText.digit? c with
    | none => rfl
    | some d => exact if_neg (e d q)
theorem num_step {g : Str} {b i c acc : Nat} (h : NumOn g b) (hc : g.cps[i]? = some c) (hr : readNum b acc (g.cps.toList.drop i) = numOf b g) (hp : ¬ fnd b c < 0) {m : Str → Option Value} {tn t1 t2 : Tok} {op os : Option Value}
    (hm : ∀ y, m y = if y = Str.ofString "number" then some (.int ((acc : Int) * (b : Int) + fnd b c) tn) else if y = Str.ofString "place" then op else if y = Str.ofString "sign" then os else if y = Str.ofString "signs" then some (.str g t1) else if y = Str.ofString "base" then some (.int b t2) else none) : NumJ h (i + 1) m := by
  rcases fnd_digit (num_ok h hc) h.2 with ⟨d, e1, e2, e3⟩ | ⟨e, _⟩
  · refine ⟨acc * b + d, tn, t1, t2, op, os, ?_, ?_⟩
    · rw [num_drop hc] at hr
      rw [← hr]
      conv => rhs; unfold readNum
      rw [e1]
      exact (if_pos e2).symm
    · funext y
      rw [hm y, e3]
      by_cases h1 : y = Str.ofString "place"
      · subst h1; rfl
      by_cases h2 : y = Str.ofString "sign"
      · subst h2; rfl
      simp only [h1, h2, if_false]
      rfl
  · omega
theorem num_done {g : Str} {b acc : Nat} (hr : readNum b acc (g.cps.toList.drop g.cps.size) = numOf b g) : numOf b g = some acc := by
  rw [← hr, List.drop_eq_nil_of_le (by simp)]
  rfl
section
set_option maxRecDepth 100000 in
set_option maxHeartbeats 2000000 in
theorem number_call {w : World} {g : Str} {b : Nat} {t1 t2 : Tok} {news : List (Addr × Obj)} (hN : NumOn g b) : AskN w 128 [.str g t1, .int (b : Int) t2] news (fun r n => n = [] ∧ NumRet b g r) := by
  intro p loose mean mg mb A₀ dp un gd base h₀ L m s env outer Q E B F X N T hf hk hd hu hret
  refine wpAny_call ?_
  k_dflt (refine' code_def ?k1 ?k2 ?k3 ?k4 ?k5 ?kA ?kF ?kK ?k6 ?k7 ?k8 ?k9 ?kB ?_ ?c2 ?c3 ?c4 ?c5; (case kA => exact rfl); (case kF => assumption); (case kK => assumption); (case k1 => k_asm); (case k2 => k_asm); (case k3 => k_asm); (case k4 => k_asm); (case k5 => k_asm); (case k6 => k_is); (case k7 => k_is); (case k8 => ktr_room); (case k9 => first | exact BindsTo.of_eq rfl | exact binds_K (by k_in) rfl (by k_is) rfl rfl rfl); (case c5 => decide); (case kB => exact locs rfl); (case c2 => exact rfl); (case c3 => exact rfl); (case c4 => exact rfl); k_whole; intro g' L' h' FG' F' N' B' X' T'; (try dsimp only); (try k_lift B'); (try k_fold))
  repeat' ((fail_if_success (with_reducible show wpAny _ _ (exec (Stmt.For _ _ _ _ _) _) _ _ _)); first | (k_here; (with_reducible show wpAny _ _ (exec (Stmt.Raise (some (Expr.Call (Expr.Name _ _) _ [] _)) none _) _) _ _ _); k_dflt refine Raise_new rfl ?_) | (k_here; (with_reducible show wpAny _ _ (call (Value.builtin "str.find") [Value.str _ _, Value.str _ _]) _ _ _); k_dflt (refine' SC.find ?_)) | (k_here; (with_reducible show wpAny _ _ (call (Value.builtin "str.lower") [Value.str _ _]) _ _ _); k_dflt (refine' SCL.lower (show 1 ≤ 5592405 by omega) ?_; intro _)) | (k_here; (with_reducible show wpAny _ _ (binaryOp Operator.Mult (Value.int _ _) (Value.int _ _)) _ _ _); k_dflt ((rename NumOn _ _ => hN); refine' PyProof.Rows.mul_int ?_ (IntMulOk.of_right (small_b hN)))) | (k_here; (with_reducible show wpAny _ _ (exec (Stmt.For (Expr.Name _ _) (Expr.Name _ _) _ [] _) _) _ _ _); k_dflt ((rename NumOn _ _ => hN); (rename Fr _ _ _ _ => F'); (rename News _ _ _ _ => N'); refine' For_str (g := _) ?q1 (num_ascii hN) (NumJ hN) (num_start hN rfl) ?q4 ?q5 ?q6 ?q7 ?qh ?q9 ?q10; (case q1 => exact rfl); (case q4 => exact rfl); (case q5 => exact rfl); (case q6 => intro _; exact rfl); (case q7 => intro _ _; exact rfl); (case qh => exact ld F' rfl ⟨rfl, F', N', rfl, rfl, rfl⟩); (case q9 => intro i' c' tc' m' h' tk' it' o' E' hc' hJ' hit' F' N'; obtain ⟨acc', tn', t1', t2', op', os', hr', hm'⟩ := hJ'; subst hm'); (case q10 => intro h' tk' m' hJ' F' N'; obtain ⟨acc', tn', t1', t2', op', os', hr', hm'⟩ := hJ'; subst hm'; (try k_sweep)))) | (k_here; (with_reducible show wpAny _ _ (call (Value.builtin "len") [Value.ref _]) _ _ _); k_dflt (refine' Mine.len_vs ?k1 ?k2 ?k3 ?_; (case k1 => k_asm); (case k2 => k_mem); (case k3 => first | assumption | omega)); intro _ _) | (k_here; (with_reducible show wpAny _ _ (truthy (Value.str _ _)) _ _ _); k_dflt (first | (refine' Mine.truthy_yes ?k1 ?k2 ?_; (case k1 => omega); (case k2 => omega)) | (refine' Mine.truthy_text ?k1 ?_ ?_; (case k1 => omega); all_goals intro _))) | (k_here; (with_reducible show wpAny _ _ (call (Value.builtin "str.split") [_, _]) _ _ _); k_dflt (refine' Mine.split_ways ?k1 ?k2 ?k3 ?k4 ?_ ?_ ?_ ?_; (case k1 => k_asm); (case k2 => k_asm); (case k3 => omega); (case k4 => omega)); all_goals (intros; (try k_sweep))) | (k_here; (with_reducible show wpAny _ _ (call (Value.type "TypeError") [_]) _ _ _); k_dflt (refine' Mine.exc_made excClass_TypeError ?k1 ?k2 ?_; (case k1 => k_asm); (case k2 => k_asm); k_whole; intro h' e' o' x' n' F' N'; (try k_sweep))) | (k_here; (with_reducible show wpAny _ _ (call (Value.type "ValueError") [_]) _ _ _); k_dflt (refine' Mine.exc_made excClass_ValueError ?k1 ?k2 ?_; (case k1 => k_asm); (case k2 => k_asm); k_whole; intro h' e' o' x' n' F' N'; (try k_sweep))) | (k_here; (with_reducible show wpAny _ _ (call (Value.ref _) _) _ _ _); k_dflt (refine wpAny_call ?_; (refine' code_def ?k1 ?k2 ?k3 ?k4 ?k5 ?kA ?kF ?kK ?k6 ?k7 ?k8 ?k9 ?kB ?_ ?c2 ?c3 ?c4 ?c5; (case kA => exact rfl); (case kF => assumption); (case kK => assumption); (case k1 => k_asm); (case k2 => k_asm); (case k3 => k_asm); (case k4 => k_asm); (case k5 => k_asm); (case k6 => k_is); (case k7 => k_is); (case k8 => ktr_room); (case k9 => first | exact BindsTo.of_eq rfl | exact binds_K (by k_in) rfl (by k_is) rfl rfl rfl); (case c5 => decide); (case kB => exact locs rfl); (case c2 => exact rfl); (case c3 => exact rfl); (case c4 => exact rfl); k_whole; intro g' L' h' FG' F' N' B' X' T'; (try dsimp only); (try k_lift B'); (try k_fold)))) | (k_dflt (refine' Or.inr ⟨_, rfl, ?_⟩)) | (k_here; (with_reducible show if (_ == _) = true then _ else _); k_dflt (first | (refine' Mine.ieq_no ?k1 ?_; (case k1 => omega)) | (refine' Mine.ieq_yes ?k1 ?_; (case k1 => omega)))) | ((with_reducible show Raisable _ _ _); first | k_dflt (refine' Mine.raise_made excClass_ValueError ?k1 ?k2 ?k3 ?k4 ?_; (case k1 => assumption); (case k2 => k_asm); (case k3 => k_asm); (case k4 => assumption); k_whole; intro h' x' F' N') | k_dflt (refine' Mine.raise_made excClass_TypeError ?k1 ?k2 ?k3 ?k4 ?_; (case k1 => assumption); (case k2 => k_asm); (case k3 => k_asm); (case k4 => assumption); k_whole; intro h' x' F' N')) | (k_unfold; (try dsimp only)) | (k_end; wrow_close) | walk1 | dsimp only | (leave1; (try dsimp only)))
  rename_i tk
  k_dflt ((rename NumOn _ _ => hN); (rename Fr _ _ _ _ => F'); (rename News _ _ _ _ => N'))
  refine' For_strN F' N' ?q0 ?qv ?q1 (num_ascii hN) (NumJ hN) ?qs ?q4 ?q5 ?q6 ?q7 ?qh ?q9 ?q10
  case q0 => exact rfl
  case qv => exact rfl
  case q1 => exact rfl
  case qs =>
    refine' num_start hN ?qm
    case qm => with_unfolding_all rfl
  case q4 => exact rfl
  case q5 => exact rfl
  case q6 => intro _; exact rfl
  case q7 => intro _ _; exact rfl
  case qh => exact fun _ h => ld F' rfl h
  case q9 =>
    intro i' c' tc' m' h' tk' it' o' E' hc' hJ' hit' F' N'
    obtain ⟨acc', tn', t1', t2', op', os', hr', hm'⟩ := hJ'
    subst hm'
    repeat' (first | (k_here; (with_reducible show wpAny _ _ (exec (Stmt.Raise (some (Expr.Call (Expr.Name _ _) _ [] _)) none _) _) _ _ _); k_dflt refine Raise_new rfl ?_) | (k_here; (with_reducible show wpAny _ _ (call (Value.builtin "str.find") [Value.str _ _, Value.str _ _]) _ _ _); k_dflt (refine' SC.find ?_)) | (k_here; (with_reducible show wpAny _ _ (call (Value.builtin "str.lower") [Value.str _ _]) _ _ _); k_dflt (refine' SCL.lower (show 1 ≤ 5592405 by omega) ?_; intro _)) | (k_here; (with_reducible show wpAny _ _ (binaryOp Operator.Mult (Value.int _ _) (Value.int _ _)) _ _ _); k_dflt ((rename NumOn _ _ => hN); refine' PyProof.Rows.mul_int ?_ (IntMulOk.of_right (small_b hN)))) | (k_here; (with_reducible show wpAny _ _ (exec (Stmt.For (Expr.Name _ _) (Expr.Name _ _) _ [] _) _) _ _ _); k_dflt ((rename NumOn _ _ => hN); (rename Fr _ _ _ _ => F'); (rename News _ _ _ _ => N'); refine' For_str (g := _) ?q1 (num_ascii hN) (NumJ hN) (num_start hN rfl) ?q4 ?q5 ?q6 ?q7 ?qh ?q9 ?q10; (case q1 => exact rfl); (case q4 => exact rfl); (case q5 => exact rfl); (case q6 => intro _; exact rfl); (case q7 => intro _ _; exact rfl); (case qh => exact ld F' rfl ⟨rfl, F', N', rfl, rfl, rfl⟩); (case q9 => intro i' c' tc' m' h' tk' it' o' E' hc' hJ' hit' F' N'; obtain ⟨acc', tn', t1', t2', op', os', hr', hm'⟩ := hJ'; subst hm'); (case q10 => intro h' tk' m' hJ' F' N'; obtain ⟨acc', tn', t1', t2', op', os', hr', hm'⟩ := hJ'; subst hm'; (try k_sweep)))) | (k_here; (with_reducible show wpAny _ _ (call (Value.builtin "len") [Value.ref _]) _ _ _); k_dflt (refine' Mine.len_vs ?k1 ?k2 ?k3 ?_; (case k1 => k_asm); (case k2 => k_mem); (case k3 => first | assumption | omega)); intro _ _) | (k_here; (with_reducible show wpAny _ _ (truthy (Value.str _ _)) _ _ _); k_dflt (first | (refine' Mine.truthy_yes ?k1 ?k2 ?_; (case k1 => omega); (case k2 => omega)) | (refine' Mine.truthy_text ?k1 ?_ ?_; (case k1 => omega); all_goals intro _))) | (k_here; (with_reducible show wpAny _ _ (call (Value.builtin "str.split") [_, _]) _ _ _); k_dflt (refine' Mine.split_ways ?k1 ?k2 ?k3 ?k4 ?_ ?_ ?_ ?_; (case k1 => k_asm); (case k2 => k_asm); (case k3 => omega); (case k4 => omega)); all_goals (intros; (try k_sweep))) | (k_here; (with_reducible show wpAny _ _ (call (Value.type "TypeError") [_]) _ _ _); k_dflt (refine' Mine.exc_made excClass_TypeError ?k1 ?k2 ?_; (case k1 => k_asm); (case k2 => k_asm); k_whole; intro h' e' o' x' n' F' N'; (try k_sweep))) | (k_here; (with_reducible show wpAny _ _ (call (Value.type "ValueError") [_]) _ _ _); k_dflt (refine' Mine.exc_made excClass_ValueError ?k1 ?k2 ?_; (case k1 => k_asm); (case k2 => k_asm); k_whole; intro h' e' o' x' n' F' N'; (try k_sweep))) | (k_here; (with_reducible show wpAny _ _ (call (Value.ref _) _) _ _ _); k_dflt (refine wpAny_call ?_; (refine' code_def ?k1 ?k2 ?k3 ?k4 ?k5 ?kA ?kF ?kK ?k6 ?k7 ?k8 ?k9 ?kB ?_ ?c2 ?c3 ?c4 ?c5; (case kA => exact rfl); (case kF => assumption); (case kK => assumption); (case k1 => k_asm); (case k2 => k_asm); (case k3 => k_asm); (case k4 => k_asm); (case k5 => k_asm); (case k6 => k_is); (case k7 => k_is); (case k8 => ktr_room); (case k9 => first | exact BindsTo.of_eq rfl | exact binds_K (by k_in) rfl (by k_is) rfl rfl rfl); (case c5 => decide); (case kB => exact locs rfl); (case c2 => exact rfl); (case c3 => exact rfl); (case c4 => exact rfl); k_whole; intro g' L' h' FG' F' N' B' X' T'; (try dsimp only); (try k_lift B'); (try k_fold)))) | (k_dflt (refine' Or.inr ⟨_, rfl, ?_⟩)) | (k_here; (with_reducible show if (_ == _) = true then _ else _); k_dflt (first | (refine' Mine.ieq_no ?k1 ?_; (case k1 => omega)) | (refine' Mine.ieq_yes ?k1 ?_; (case k1 => omega)))) | ((with_reducible show Raisable _ _ _); first | k_dflt (refine' Mine.raise_made excClass_ValueError ?k1 ?k2 ?k3 ?k4 ?_; (case k1 => assumption); (case k2 => k_asm); (case k3 => k_asm); (case k4 => assumption); k_whole; intro h' x' F' N') | k_dflt (refine' Mine.raise_made excClass_TypeError ?k1 ?k2 ?k3 ?k4 ?_; (case k1 => assumption); (case k2 => k_asm); (case k3 => k_asm); (case k4 => assumption); k_whole; intro h' x' F' N')) | (k_unfold; (try dsimp only)) | (k_end; wrow_close) | walk1 | dsimp only | (leave1; (try dsimp only)))
    all_goals (rename NumOn _ _ => hN)
    all_goals first
      | (refine' hret _ [] _ _ ?r1 ?r2 ?r3 ⟨rfl, numret_none (num_bad hN hc' hr' (by assumption))⟩; (case r1 => k_asm); (case r2 => first | k_asm | exact news_drop1 (by k_asm)); (case r3 => (intro _ _ _ h; cases h)))
      | (refine' Or.inl ⟨rfl, _, _, _, rfl, num_step hN hc' hr' (by assumption) ?r4, ?r1, ?r2⟩; (case r1 => k_asm); (case r2 => k_asm); (case r4 => (intro y; by_cases h1 : y = Str.ofString "number"; (· subst h1; rfl); by_cases h2 : y = Str.ofString "place"; (· subst h2; rfl); by_cases h3 : y = Str.ofString "sign"; (· subst h3; rfl); simp only [h1, h2, h3, if_false]; try rfl)))
  case q10 =>
    intro h' tk' m' hJ' F' N'
    obtain ⟨acc', tn', t1', t2', op', os', hr', hm'⟩ := hJ'
    subst hm'
    (try k_sweep)
    repeat' (first | (k_here; (with_reducible show wpAny _ _ (exec (Stmt.Raise (some (Expr.Call (Expr.Name _ _) _ [] _)) none _) _) _ _ _); k_dflt refine Raise_new rfl ?_) | (k_here; (with_reducible show wpAny _ _ (call (Value.builtin "str.find") [Value.str _ _, Value.str _ _]) _ _ _); k_dflt (refine' SC.find ?_)) | (k_here; (with_reducible show wpAny _ _ (call (Value.builtin "str.lower") [Value.str _ _]) _ _ _); k_dflt (refine' SCL.lower (show 1 ≤ 5592405 by omega) ?_; intro _)) | (k_here; (with_reducible show wpAny _ _ (binaryOp Operator.Mult (Value.int _ _) (Value.int _ _)) _ _ _); k_dflt ((rename NumOn _ _ => hN); refine' PyProof.Rows.mul_int ?_ (IntMulOk.of_right (small_b hN)))) | (k_here; (with_reducible show wpAny _ _ (exec (Stmt.For (Expr.Name _ _) (Expr.Name _ _) _ [] _) _) _ _ _); k_dflt ((rename NumOn _ _ => hN); (rename Fr _ _ _ _ => F'); (rename News _ _ _ _ => N'); refine' For_str (g := _) ?q1 (num_ascii hN) (NumJ hN) (num_start hN rfl) ?q4 ?q5 ?q6 ?q7 ?qh ?q9 ?q10; (case q1 => exact rfl); (case q4 => exact rfl); (case q5 => exact rfl); (case q6 => intro _; exact rfl); (case q7 => intro _ _; exact rfl); (case qh => exact ld F' rfl ⟨rfl, F', N', rfl, rfl, rfl⟩); (case q9 => intro i' c' tc' m' h' tk' it' o' E' hc' hJ' hit' F' N'; obtain ⟨acc', tn', t1', t2', op', os', hr', hm'⟩ := hJ'; subst hm'); (case q10 => intro h' tk' m' hJ' F' N'; obtain ⟨acc', tn', t1', t2', op', os', hr', hm'⟩ := hJ'; subst hm'; (try k_sweep)))) | (k_here; (with_reducible show wpAny _ _ (call (Value.builtin "len") [Value.ref _]) _ _ _); k_dflt (refine' Mine.len_vs ?k1 ?k2 ?k3 ?_; (case k1 => k_asm); (case k2 => k_mem); (case k3 => first | assumption | omega)); intro _ _) | (k_here; (with_reducible show wpAny _ _ (truthy (Value.str _ _)) _ _ _); k_dflt (first | (refine' Mine.truthy_yes ?k1 ?k2 ?_; (case k1 => omega); (case k2 => omega)) | (refine' Mine.truthy_text ?k1 ?_ ?_; (case k1 => omega); all_goals intro _))) | (k_here; (with_reducible show wpAny _ _ (call (Value.builtin "str.split") [_, _]) _ _ _); k_dflt (refine' Mine.split_ways ?k1 ?k2 ?k3 ?k4 ?_ ?_ ?_ ?_; (case k1 => k_asm); (case k2 => k_asm); (case k3 => omega); (case k4 => omega)); all_goals (intros; (try k_sweep))) | (k_here; (with_reducible show wpAny _ _ (call (Value.type "TypeError") [_]) _ _ _); k_dflt (refine' Mine.exc_made excClass_TypeError ?k1 ?k2 ?_; (case k1 => k_asm); (case k2 => k_asm); k_whole; intro h' e' o' x' n' F' N'; (try k_sweep))) | (k_here; (with_reducible show wpAny _ _ (call (Value.type "ValueError") [_]) _ _ _); k_dflt (refine' Mine.exc_made excClass_ValueError ?k1 ?k2 ?_; (case k1 => k_asm); (case k2 => k_asm); k_whole; intro h' e' o' x' n' F' N'; (try k_sweep))) | (k_here; (with_reducible show wpAny _ _ (call (Value.ref _) _) _ _ _); k_dflt (refine wpAny_call ?_; (refine' code_def ?k1 ?k2 ?k3 ?k4 ?k5 ?kA ?kF ?kK ?k6 ?k7 ?k8 ?k9 ?kB ?_ ?c2 ?c3 ?c4 ?c5; (case kA => exact rfl); (case kF => assumption); (case kK => assumption); (case k1 => k_asm); (case k2 => k_asm); (case k3 => k_asm); (case k4 => k_asm); (case k5 => k_asm); (case k6 => k_is); (case k7 => k_is); (case k8 => ktr_room); (case k9 => first | exact BindsTo.of_eq rfl | exact binds_K (by k_in) rfl (by k_is) rfl rfl rfl); (case c5 => decide); (case kB => exact locs rfl); (case c2 => exact rfl); (case c3 => exact rfl); (case c4 => exact rfl); k_whole; intro g' L' h' FG' F' N' B' X' T'; (try dsimp only); (try k_lift B'); (try k_fold)))) | (k_dflt (refine' Or.inr ⟨_, rfl, ?_⟩)) | (k_here; (with_reducible show if (_ == _) = true then _ else _); k_dflt (first | (refine' Mine.ieq_no ?k1 ?_; (case k1 => omega)) | (refine' Mine.ieq_yes ?k1 ?_; (case k1 => omega)))) | ((with_reducible show Raisable _ _ _); first | k_dflt (refine' Mine.raise_made excClass_ValueError ?k1 ?k2 ?k3 ?k4 ?_; (case k1 => assumption); (case k2 => k_asm); (case k3 => k_asm); (case k4 => assumption); k_whole; intro h' x' F' N') | k_dflt (refine' Mine.raise_made excClass_TypeError ?k1 ?k2 ?k3 ?k4 ?_; (case k1 => assumption); (case k2 => k_asm); (case k3 => k_asm); (case k4 => assumption); k_whole; intro h' x' F' N')) | (k_unfold; (try dsimp only)) | (k_end; wrow_close) | walk1 | dsimp only | (leave1; (try dsimp only)))
    all_goals (refine' hret _ [] _ _ ?r1 ?r2 ?r3 ⟨rfl, numret_some (num_done hr')⟩; (case r1 => k_asm); (case r2 => k_asm); (case r3 => (intro _ _ _ h; cases h)))
end
end Mine
end
-- M2p
section
open PySem PySem.W PyProof.Rows PySem.Calls PySem.Spec
namespace Mine
theorem mr_nil {x : Str} (h : (x == Str.ofString "") = true) : x.length = 0 := by
  have : x = Str.ofString "" := by simpa using h
  rw [this]; decide
theorem mr_pos {x : Str} (h : (x == Str.ofString "") = false) : 1 ≤ x.length := by
  cases e : x.length with
  | succ n => omega
  | zero =>
    have : x = Str.ofString "" := by
      have h1 : x.cps = #[] := by simpa [Str.length] using e
      have h2 : Str.ofString "" = ⟨#[]⟩ := by decide +kernel
      cases x
      simp only at h1
      rw [h2, h1]
    rw [this] at h
    simp at h
theorem first_zero {x : Str} (h : 1 ≤ x.length) : (Txt.item x 0 == s0) = Txt.startswith x s0 := by
  have hs : s0 = Str.mk #[48] := by decide +kernel
  rcases e : x.cps.toList with _ | ⟨c, r⟩
  · have h2 : x.length = x.cps.toList.length := by simp [Str.length]
    rw [e] at h2
    simp at h2
    omega
  · have hx : x = Str.mk (c :: r).toArray := by rw [← e]
    rw [hx, hs]
    have h1 : Txt.item (Str.mk (c :: r).toArray) 0 = Str.mk #[c] := by
      unfold Txt.item Txt.charAt
      have : seqIndex? 0 (Str.mk (c :: r).toArray).length = some 0 := by
        unfold seqIndex?
        simp [Str.length]
      rw [this]
      simp
    rw [h1]
    unfold Txt.startswith Builtin.Str.subAt
    have h3 : (Str.mk #[48]).length = 1 := rfl
    rw [h3]
    have h4 : (Str.mk (c :: r).toArray).cps.extract 0 (0 + 1) = #[c] := by simp
    rw [h4]
    have h5 : decide (0 + 1 ≤ (Str.mk (c :: r).toArray).length) = true := by simp [Str.length]
    rw [h5, Bool.true_and]
    by_cases hc : c = 48
    · subst hc; simp
    · have e1 : (Str.mk #[c] == Str.mk #[48]) = false := by simpa using hc
      have e2 : (#[c] == (Str.mk #[48]).cps) = false := by simpa using hc
      rw [e1, e2]
theorem mr_zero {x : Str} (h : (x == Str.ofString "") = false) (h0 : (Txt.item x 0 == s0) = true) (hl : (1 : Int) < x.length) : Txt.startswith x s0 = true ∧ (x != s0) = true := by
  refine ⟨by rw [← first_zero (mr_pos h)]; exact h0, ?_⟩
  rw [bne_iff_ne]
  intro e
  rw [e] at hl
  have : s0.length = 1 := by decide
  omega
theorem mr_one {x : Str} (h : (x == Str.ofString "") = false) (h0 : (Txt.item x 0 == s0) = true) (hl : ¬ (1 : Int) < x.length) : ¬ (Txt.startswith x s0 = true ∧ x ≠ s0) := by
  intro ⟨_, h2⟩
  apply h2
  have hp := mr_pos h
  have hs : s0 = Str.mk #[48] := by decide +kernel
  have h0' : Txt.item x 0 = s0 := by simpa using h0
  rcases e : x.cps.toList with _ | ⟨c, r⟩
  · have h2 : x.length = x.cps.toList.length := by simp [Str.length]
    rw [e] at h2
    simp at h2
    omega
  · have h2 : x.length = x.cps.toList.length := by simp [Str.length]
    rw [e] at h2
    simp at h2
    have hr : r = [] := List.eq_nil_of_length_eq_zero (by omega)
    subst hr
    have hx : x = Str.mk #[c] := by
      show x = Str.mk [c].toArray
      rw [← e]
    rw [← h0', hx]
    unfold Txt.item Txt.charAt
    have : seqIndex? 0 (Str.mk #[c]).length = some 0 := by
      unfold seqIndex?
      simp [Str.length]
    rw [this]
    simp
theorem mr_no {x : Str} (h : (x == Str.ofString "") = false) (h0 : (Txt.item x 0 == s0) = false) : ¬ (Txt.startswith x s0 = true ∧ x ≠ s0) := zz_a (by rw [← first_zero (mr_pos h)]; exact h0)
end Mine
end
-- M2
section
open PySem PySem.W PyProof.Rows PySem.Calls PySem.Spec
namespace Mine
theorem numret_cases {b : Nat} {g : Str} {r : Value} (h : NumRet b g r) : (numOf b g = none ∧ r = .none) ∨ ∃ k t, numOf b g = some k ∧ r = .int (Int.ofNat k) t := by
  unfold NumRet at h
  cases e : numOf b g with
  | none => rw [e] at h; exact .inl ⟨rfl, h⟩
  | some k => rw [e] at h; obtain ⟨t, h⟩ := h; exact .inr ⟨k, t, rfl, h⟩
section
set_option maxRecDepth 100000 in
set_option maxHeartbeats 2000000 in
theorem rounds_text {w : World} {dv : Value} {x : Str} {b : Nat} {dflt : Option Int} {t t4 : Tok} {news : List (Addr × Obj)} (hN : NumOn x b) (hg : x.length ≤ 600) (hdv : DvIs dv dflt) :
    Asks w 135 [.str x t, .int (b : Int) t4, dv] news (fun r n => DtIn n r (specRounds x b dflt)) := by
  intro p loose mean mg mb A₀ dp un gd h₀ L m s env Q E B F X N T hfr hk hd hu hret
  refine wpAny_call ?_
  k_dflt (refine' code_top ?k1 ?k2 ?k3 ?k4 ?k5 ?kA ?kf ?kk ?k6 ?k7 ?k8 ?k9 ?kB ?_ ?c2 ?c3 ?c4 ?c5; (case kA => exact rfl); (case kf => assumption); (case kk => assumption); (case k1 => k_asm); (case k2 => k_asm); (case k3 => k_asm); (case k4 => k_asm); (case k5 => k_asm); (case k6 => k_is); (case k7 => k_is); (case k8 => ktr_room); (case k9 => first | exact BindsTo.of_eq rfl | exact binds_K (by k_in) rfl (by k_is) rfl rfl rfl); (case c5 => decide); (case kB => exact locs rfl); (case c2 => exact rfl); (case c3 => exact rfl); (case c4 => exact rfl); k_whole; intro g' L' h' FG' F' N' B' X' T' D'; (try dsimp only); (try k_lift B'); (try k_fold))
  (repeat' (first | (k_here; (with_reducible show wpAny _ _ (exec (Stmt.Raise (some (Expr.Call (Expr.Name _ _) _ [] _)) none _) _) _ _ _); k_dflt refine Raise_new rfl ?_) | (k_here; (with_reducible show wpAny _ _ (call (Value.ref 128) [_, _]) _ _ _); k_dflt ((rename NumOn _ _ => hN); refine' number_call hN ?k1 ?k2 ?k3 ?k4 ?k5 ?k6 ?k7 ?k8 ?k9 ?_; (case k1 => k_asm); (case k2 => k_asm); (case k3 => k_asm); (case k4 => k_asm); (case k5 => k_asm); (case k6 => first | exact rfl | assumption); (case k7 => first | exact rfl | assumption); (case k8 => ktr_room); (case k9 => ktr_units); intro v' n' h' t' F' N' a' r'; obtain ⟨hn', hv'⟩ := r'; subst hn'; clear a'; (simp only [List.nil_append] at N'); obtain ⟨hz', hv'⟩ | ⟨k', t', hz', hv'⟩ := numret_cases hv' <;> (subst hv'; (try k_sweep); (try dsimp only)))) | (k_here; (with_reducible show wpAny _ _ (compareOp CmpOp.Is _ Value.none) _ _ _); k_dflt ((rename DvIs _ _ => hdv); refine' is_none_dv hdv ?_ ?_; all_goals (intros; subst_vars; (try dsimp only)))) | (k_here; (with_reducible show wpAny _ _ (call (Value.builtin "len") [Value.ref _]) _ _ _); k_dflt (refine' Mine.len_vs ?k1 ?k2 ?k3 ?_; (case k1 => k_asm); (case k2 => k_mem); (case k3 => first | assumption | omega)); intro _ _) | (k_here; (with_reducible show wpAny _ _ (truthy (Value.str _ _)) _ _ _); k_dflt (first | (refine' Mine.truthy_yes ?k1 ?k2 ?_; (case k1 => omega); (case k2 => omega)) | (refine' Mine.truthy_text ?k1 ?_ ?_; (case k1 => omega); all_goals intro _))) | (k_here; (with_reducible show wpAny _ _ (call (Value.builtin "str.split") [_, _]) _ _ _); k_dflt (refine' Mine.split_ways ?k1 ?k2 ?k3 ?k4 ?_ ?_ ?_ ?_; (case k1 => k_asm); (case k2 => k_asm); (case k3 => omega); (case k4 => omega)); all_goals (intros; (try k_sweep))) | (k_here; (with_reducible show wpAny _ _ (call (Value.type "TypeError") [_]) _ _ _); k_dflt (refine' Mine.exc_made excClass_TypeError ?k1 ?k2 ?_; (case k1 => k_asm); (case k2 => k_asm); k_whole; intro h' e' o' x' n' F' N'; (try k_sweep))) | (k_here; (with_reducible show wpAny _ _ (call (Value.type "ValueError") [_]) _ _ _); k_dflt (refine' Mine.exc_made excClass_ValueError ?k1 ?k2 ?_; (case k1 => k_asm); (case k2 => k_asm); k_whole; intro h' e' o' x' n' F' N'; (try k_sweep))) | (k_here; (with_reducible show wpAny _ _ (call (Value.ref _) _) _ _ _); k_dflt (refine wpAny_call ?_; (refine' code_top ?k1 ?k2 ?k3 ?k4 ?k5 ?kA ?kf ?kk ?k6 ?k7 ?k8 ?k9 ?kB ?_ ?c2 ?c3 ?c4 ?c5; (case kA => exact rfl); (case kf => assumption); (case kk => assumption); (case k1 => k_asm); (case k2 => k_asm); (case k3 => k_asm); (case k4 => k_asm); (case k5 => k_asm); (case k6 => k_is); (case k7 => k_is); (case k8 => ktr_room); (case k9 => first | exact BindsTo.of_eq rfl | exact binds_K (by k_in) rfl (by k_is) rfl rfl rfl); (case c5 => decide); (case kB => exact locs rfl); (case c2 => exact rfl); (case c3 => exact rfl); (case c4 => exact rfl); k_whole; intro g' L' h' FG' F' N' B' X' T' D'; (try dsimp only); (try k_lift B'); (try k_fold)))) | (k_here; (with_reducible show if (_ == _) = true then _ else _); k_dflt (first | (refine' Mine.ieq_no ?k1 ?_; (case k1 => omega)) | (refine' Mine.ieq_yes ?k1 ?_; (case k1 => omega)))) | ((with_reducible show Raisable _ _ _); first | k_dflt (refine' Mine.raise_made excClass_ValueError ?k1 ?k2 ?k3 ?k4 ?_; (case k1 => assumption); (case k2 => k_asm); (case k3 => k_asm); (case k4 => assumption); k_whole; intro h' x' F' N') | k_dflt (refine' Mine.raise_made excClass_TypeError ?k1 ?k2 ?k3 ?k4 ?_; (case k1 => assumption); (case k2 => k_asm); (case k3 => k_asm); (case k4 => assumption); k_whole; intro h' x' F' N')) | (k_unfold; (try dsimp only)) | (k_end; wrow_close) | walk1 | dsimp only | (leave1; (try dsimp only))))
  all_goals first
    | (refine' end_err hret ?r1 ?r2 ?r3 ?r4; (case r1 => first | exact sR_nil (mr_nil (by with_reducible assumption)) | exact sR_zero' (mr_zero (by with_reducible assumption) (by with_reducible assumption) (by with_reducible assumption)).1 (mr_zero (by with_reducible assumption) (by with_reducible assumption) (by with_reducible assumption)).2 | exact sR_bad (mr_pos (by with_reducible assumption)) (mr_one (by with_reducible assumption) (by with_reducible assumption) (by with_reducible assumption)) (by with_reducible assumption) | exact sR_bad (mr_pos (by with_reducible assumption)) (mr_no (by with_reducible assumption) (by with_reducible assumption)) (by with_reducible assumption)); (case r2 => k_asm); (case r3 => k_asm); (case r4 => with_reducible (repeat (refine sub_more ?_)); exact sub_self))
    | (refine' end_int hret ?r1 ?r2 ?r3 ?r4; (case r1 => first | exact sR_dflt (mr_nil (by with_reducible assumption)) | exact sR_ok (mr_pos (by with_reducible assumption)) (mr_one (by with_reducible assumption) (by with_reducible assumption) (by with_reducible assumption)) (by with_reducible assumption) | exact sR_ok (mr_pos (by with_reducible assumption)) (mr_no (by with_reducible assumption) (by with_reducible assumption)) (by with_reducible assumption)); (case r2 => k_asm); (case r3 => k_asm); (case r4 => with_reducible (repeat (refine sub_more ?_)); exact sub_self))
end
end Mine
end
-- R1
section
open PySem PySem.W PyProof.Rows PySem.Calls PySem.Spec
namespace Mine
/-- the texts put together -/
abbrev cat (l : List Str) : Str := Txt.join (Str.ofString "") l
theorem truthy_no {prog : Program} {w : World} {A : Around} {E : Value → Shared → Prop} {s : Shared} {x : Str} {t : Tok} {Q : Bool → Shared → Prop} (hp : x.length = 0) (h1 : Q false { s with toks := s.toks + 1 + 1 }) : wpAny (model prog w) A (truthy (.str x t)) Q E s := truthy_text (by omega) (fun _ => h1) fun h => by omega
section
set_option maxRecDepth 100000 in
set_option maxHeartbeats 2000000 in
theorem mc2_none {w : World} {fr sa mk c : Str} {t1 t2 t3 t4 t5 t6 : Tok} {news : List (Addr × Obj)} (h1 : fr.length ≤ 600) (h2 : sa.length ≤ 600) (h3 : mk.length ≤ 600) (h4 : c.length ≤ 600) : Asks w 99 [.str fr t1, .str sa t2, .none, .str mk t3] news (fun r n => n = [] ∧ ∃ t, r = .str (cat [fr, sa]) t) := by
  intro p loose mean mg mb A₀ dp un gd h₀ L m s env Q E B F X N T hf hk hd hu hret
  have he0 : (Str.ofString "").length ≤ 600 := by decide
  refine wpAny_call ?_
  k_dflt (refine' code_def ?k1 ?k2 ?k3 ?k4 ?k5 ?kA ?kF ?kK ?k6 ?k7 ?k8 ?k9 ?kB ?_ ?c2 ?c3 ?c4 ?c5; (case kA => exact rfl); (case kF => assumption); (case kK => assumption); (case k1 => k_asm); (case k2 => k_asm); (case k3 => k_asm); (case k4 => k_asm); (case k5 => k_asm); (case k6 => k_is); (case k7 => k_is); (case k8 => ktr_room); (case k9 => first | exact BindsTo.of_eq rfl | exact binds_K (by k_in) rfl (by k_is) rfl rfl rfl); (case c5 => decide); (case kB => exact locs rfl); (case c2 => exact rfl); (case c3 => exact rfl); (case c4 => exact rfl); k_whole; intro g' L' h' FG' F' N' B' X' T'; (try dsimp only); (try k_lift B'); (try k_fold))
  repeat' (first | (k_here; (with_reducible show wpAny _ _ (exec (Stmt.Raise (some (Expr.Call (Expr.Name _ _) _ [] _)) none _) _) _ _ _); k_dflt refine Raise_new rfl ?_) | (k_here; (with_reducible show wpAny _ _ (call (Value.type "str") [Value.int _ _]) _ _ _); k_dflt (refine' P.str_of_int ?k1 ?_; (case k1 => with_reducible assumption))) | (k_here; (with_reducible show wpAny _ _ (truthy (Value.str _ _)) _ _ _); k_dflt (refine' truthy_no ?k1 ?_; (case k1 => with_reducible assumption))) | (k_here; (with_reducible show wpAny _ _ (call (Value.builtin "len") [Value.ref _]) _ _ _); k_dflt (refine' Mine.len_vs ?k1 ?k2 ?k3 ?_; (case k1 => k_asm); (case k2 => k_mem); (case k3 => first | assumption | omega)); intro _ _) | (k_here; (with_reducible show wpAny _ _ (truthy (Value.str _ _)) _ _ _); k_dflt (first | (refine' Mine.truthy_yes ?k1 ?k2 ?_; (case k1 => omega); (case k2 => omega)) | (refine' Mine.truthy_text ?k1 ?_ ?_; (case k1 => omega); all_goals intro _))) | (k_here; (with_reducible show wpAny _ _ (call (Value.builtin "str.split") [_, _]) _ _ _); k_dflt (refine' Mine.split_ways ?k1 ?k2 ?k3 ?k4 ?_ ?_ ?_ ?_; (case k1 => k_asm); (case k2 => k_asm); (case k3 => omega); (case k4 => omega)); all_goals (intros; (try k_sweep))) | (k_here; (with_reducible show wpAny _ _ (call (Value.type "TypeError") [_]) _ _ _); k_dflt (refine' Mine.exc_made excClass_TypeError ?k1 ?k2 ?_; (case k1 => k_asm); (case k2 => k_asm); k_whole; intro h' e' o' x' n' F' N'; (try k_sweep))) | (k_here; (with_reducible show wpAny _ _ (call (Value.type "ValueError") [_]) _ _ _); k_dflt (refine' Mine.exc_made excClass_ValueError ?k1 ?k2 ?_; (case k1 => k_asm); (case k2 => k_asm); k_whole; intro h' e' o' x' n' F' N'; (try k_sweep))) | (k_here; (with_reducible show wpAny _ _ (call (Value.ref _) _) _ _ _); k_dflt (refine wpAny_call ?_; (refine' code_def ?k1 ?k2 ?k3 ?k4 ?k5 ?kA ?kF ?kK ?k6 ?k7 ?k8 ?k9 ?kB ?_ ?c2 ?c3 ?c4 ?c5; (case kA => exact rfl); (case kF => assumption); (case kK => assumption); (case k1 => k_asm); (case k2 => k_asm); (case k3 => k_asm); (case k4 => k_asm); (case k5 => k_asm); (case k6 => k_is); (case k7 => k_is); (case k8 => ktr_room); (case k9 => first | exact BindsTo.of_eq rfl | exact binds_K (by k_in) rfl (by k_is) rfl rfl rfl); (case c5 => decide); (case kB => exact locs rfl); (case c2 => exact rfl); (case c3 => exact rfl); (case c4 => exact rfl); k_whole; intro g' L' h' FG' F' N' B' X' T'; (try dsimp only); (try k_lift B'); (try k_fold)))) | (k_here; (with_reducible show if (_ == _) = true then _ else _); k_dflt (first | (refine' Mine.ieq_no ?k1 ?_; (case k1 => omega)) | (refine' Mine.ieq_yes ?k1 ?_; (case k1 => omega)))) | ((with_reducible show Raisable _ _ _); first | k_dflt (refine' Mine.raise_made excClass_ValueError ?k1 ?k2 ?k3 ?k4 ?_; (case k1 => assumption); (case k2 => k_asm); (case k3 => k_asm); (case k4 => assumption); k_whole; intro h' x' F' N') | k_dflt (refine' Mine.raise_made excClass_TypeError ?k1 ?k2 ?k3 ?k4 ?_; (case k1 => assumption); (case k2 => k_asm); (case k3 => k_asm); (case k4 => assumption); k_whole; intro h' x' F' N')) | (k_unfold; (try dsimp only)) | (k_end; wrow_close) | walk1 | dsimp only | (leave1; (try dsimp only)))
  all_goals first
    | (refine' hret _ [] _ _ ?r1 ?r2 ⟨rfl, _, rfl⟩; (case r1 => k_asm); (case r2 => first | k_asm | exact news_drop1 (by k_asm)))
set_option maxRecDepth 100000 in
set_option maxHeartbeats 2000000 in
theorem mc2_some {w : World} {fr sa mk c : Str} {t1 t2 t3 t4 t5 t6 : Tok} {news : List (Addr × Obj)} (h1 : fr.length ≤ 600) (h2 : sa.length ≤ 600) (h3 : mk.length ≤ 600) (h4 : c.length ≤ 600) (hc : 1 ≤ c.length) : Asks w 99 [.str fr t1, .str sa t2, .str c t4, .str mk t3] news (fun r n => n = [] ∧ ∃ t, r = .str (cat [fr, sa, mk, c]) t) := by
  intro p loose mean mg mb A₀ dp un gd h₀ L m s env Q E B F X N T hf hk hd hu hret
  have he0 : (Str.ofString "").length ≤ 600 := by decide
  refine wpAny_call ?_
  k_dflt (refine' code_def ?k1 ?k2 ?k3 ?k4 ?k5 ?kA ?kF ?kK ?k6 ?k7 ?k8 ?k9 ?kB ?_ ?c2 ?c3 ?c4 ?c5; (case kA => exact rfl); (case kF => assumption); (case kK => assumption); (case k1 => k_asm); (case k2 => k_asm); (case k3 => k_asm); (case k4 => k_asm); (case k5 => k_asm); (case k6 => k_is); (case k7 => k_is); (case k8 => ktr_room); (case k9 => first | exact BindsTo.of_eq rfl | exact binds_K (by k_in) rfl (by k_is) rfl rfl rfl); (case c5 => decide); (case kB => exact locs rfl); (case c2 => exact rfl); (case c3 => exact rfl); (case c4 => exact rfl); k_whole; intro g' L' h' FG' F' N' B' X' T'; (try dsimp only); (try k_lift B'); (try k_fold))
  repeat' (first | (k_here; (with_reducible show wpAny _ _ (exec (Stmt.Raise (some (Expr.Call (Expr.Name _ _) _ [] _)) none _) _) _ _ _); k_dflt refine Raise_new rfl ?_) | (k_here; (with_reducible show wpAny _ _ (call (Value.type "str") [Value.int _ _]) _ _ _); k_dflt (refine' P.str_of_int ?k1 ?_; (case k1 => with_reducible assumption))) | (k_here; (with_reducible show wpAny _ _ (truthy (Value.str _ _)) _ _ _); k_dflt (refine' truthy_no ?k1 ?_; (case k1 => with_reducible assumption))) | (k_here; (with_reducible show wpAny _ _ (call (Value.builtin "len") [Value.ref _]) _ _ _); k_dflt (refine' Mine.len_vs ?k1 ?k2 ?k3 ?_; (case k1 => k_asm); (case k2 => k_mem); (case k3 => first | assumption | omega)); intro _ _) | (k_here; (with_reducible show wpAny _ _ (truthy (Value.str _ _)) _ _ _); k_dflt (first | (refine' Mine.truthy_yes ?k1 ?k2 ?_; (case k1 => omega); (case k2 => omega)) | (refine' Mine.truthy_text ?k1 ?_ ?_; (case k1 => omega); all_goals intro _))) | (k_here; (with_reducible show wpAny _ _ (call (Value.builtin "str.split") [_, _]) _ _ _); k_dflt (refine' Mine.split_ways ?k1 ?k2 ?k3 ?k4 ?_ ?_ ?_ ?_; (case k1 => k_asm); (case k2 => k_asm); (case k3 => omega); (case k4 => omega)); all_goals (intros; (try k_sweep))) | (k_here; (with_reducible show wpAny _ _ (call (Value.type "TypeError") [_]) _ _ _); k_dflt (refine' Mine.exc_made excClass_TypeError ?k1 ?k2 ?_; (case k1 => k_asm); (case k2 => k_asm); k_whole; intro h' e' o' x' n' F' N'; (try k_sweep))) | (k_here; (with_reducible show wpAny _ _ (call (Value.type "ValueError") [_]) _ _ _); k_dflt (refine' Mine.exc_made excClass_ValueError ?k1 ?k2 ?_; (case k1 => k_asm); (case k2 => k_asm); k_whole; intro h' e' o' x' n' F' N'; (try k_sweep))) | (k_here; (with_reducible show wpAny _ _ (call (Value.ref _) _) _ _ _); k_dflt (refine wpAny_call ?_; (refine' code_def ?k1 ?k2 ?k3 ?k4 ?k5 ?kA ?kF ?kK ?k6 ?k7 ?k8 ?k9 ?kB ?_ ?c2 ?c3 ?c4 ?c5; (case kA => exact rfl); (case kF => assumption); (case kK => assumption); (case k1 => k_asm); (case k2 => k_asm); (case k3 => k_asm); (case k4 => k_asm); (case k5 => k_asm); (case k6 => k_is); (case k7 => k_is); (case k8 => ktr_room); (case k9 => first | exact BindsTo.of_eq rfl | exact binds_K (by k_in) rfl (by k_is) rfl rfl rfl); (case c5 => decide); (case kB => exact locs rfl); (case c2 => exact rfl); (case c3 => exact rfl); (case c4 => exact rfl); k_whole; intro g' L' h' FG' F' N' B' X' T'; (try dsimp only); (try k_lift B'); (try k_fold)))) | (k_here; (with_reducible show if (_ == _) = true then _ else _); k_dflt (first | (refine' Mine.ieq_no ?k1 ?_; (case k1 => omega)) | (refine' Mine.ieq_yes ?k1 ?_; (case k1 => omega)))) | ((with_reducible show Raisable _ _ _); first | k_dflt (refine' Mine.raise_made excClass_ValueError ?k1 ?k2 ?k3 ?k4 ?_; (case k1 => assumption); (case k2 => k_asm); (case k3 => k_asm); (case k4 => assumption); k_whole; intro h' x' F' N') | k_dflt (refine' Mine.raise_made excClass_TypeError ?k1 ?k2 ?k3 ?k4 ?_; (case k1 => assumption); (case k2 => k_asm); (case k3 => k_asm); (case k4 => assumption); k_whole; intro h' x' F' N')) | (k_unfold; (try dsimp only)) | (k_end; wrow_close) | walk1 | dsimp only | (leave1; (try dsimp only)))
  all_goals first
    | (refine' hret _ [] _ _ ?r1 ?r2 ⟨rfl, _, rfl⟩; (case r1 => k_asm); (case r2 => first | k_asm | exact news_drop1 (by k_asm)))
set_option maxRecDepth 100000 in
set_option maxHeartbeats 2000000 in
theorem mc2_zero {w : World} {fr sa mk c : Str} {t1 t2 t3 t4 t5 t6 : Tok} {news : List (Addr × Obj)} (h1 : fr.length ≤ 600) (h2 : sa.length ≤ 600) (h3 : mk.length ≤ 600) (h4 : c.length ≤ 600) (hc : c.length = 0) : Asks w 99 [.str fr t1, .str sa t2, .str c t4, .str mk t3] news (fun r n => n = [] ∧ ∃ t, r = .str (cat [fr, sa]) t) := by
  intro p loose mean mg mb A₀ dp un gd h₀ L m s env Q E B F X N T hf hk hd hu hret
  have he0 : (Str.ofString "").length ≤ 600 := by decide
  refine wpAny_call ?_
  k_dflt (refine' code_def ?k1 ?k2 ?k3 ?k4 ?k5 ?kA ?kF ?kK ?k6 ?k7 ?k8 ?k9 ?kB ?_ ?c2 ?c3 ?c4 ?c5; (case kA => exact rfl); (case kF => assumption); (case kK => assumption); (case k1 => k_asm); (case k2 => k_asm); (case k3 => k_asm); (case k4 => k_asm); (case k5 => k_asm); (case k6 => k_is); (case k7 => k_is); (case k8 => ktr_room); (case k9 => first | exact BindsTo.of_eq rfl | exact binds_K (by k_in) rfl (by k_is) rfl rfl rfl); (case c5 => decide); (case kB => exact locs rfl); (case c2 => exact rfl); (case c3 => exact rfl); (case c4 => exact rfl); k_whole; intro g' L' h' FG' F' N' B' X' T'; (try dsimp only); (try k_lift B'); (try k_fold))
  repeat' (first | (k_here; (with_reducible show wpAny _ _ (exec (Stmt.Raise (some (Expr.Call (Expr.Name _ _) _ [] _)) none _) _) _ _ _); k_dflt refine Raise_new rfl ?_) | (k_here; (with_reducible show wpAny _ _ (call (Value.type "str") [Value.int _ _]) _ _ _); k_dflt (refine' P.str_of_int ?k1 ?_; (case k1 => with_reducible assumption))) | (k_here; (with_reducible show wpAny _ _ (truthy (Value.str _ _)) _ _ _); k_dflt (refine' truthy_no ?k1 ?_; (case k1 => with_reducible assumption))) | (k_here; (with_reducible show wpAny _ _ (call (Value.builtin "len") [Value.ref _]) _ _ _); k_dflt (refine' Mine.len_vs ?k1 ?k2 ?k3 ?_; (case k1 => k_asm); (case k2 => k_mem); (case k3 => first | assumption | omega)); intro _ _) | (k_here; (with_reducible show wpAny _ _ (truthy (Value.str _ _)) _ _ _); k_dflt (first | (refine' Mine.truthy_yes ?k1 ?k2 ?_; (case k1 => omega); (case k2 => omega)) | (refine' Mine.truthy_text ?k1 ?_ ?_; (case k1 => omega); all_goals intro _))) | (k_here; (with_reducible show wpAny _ _ (call (Value.builtin "str.split") [_, _]) _ _ _); k_dflt (refine' Mine.split_ways ?k1 ?k2 ?k3 ?k4 ?_ ?_ ?_ ?_; (case k1 => k_asm); (case k2 => k_asm); (case k3 => omega); (case k4 => omega)); all_goals (intros; (try k_sweep))) | (k_here; (with_reducible show wpAny _ _ (call (Value.type "TypeError") [_]) _ _ _); k_dflt (refine' Mine.exc_made excClass_TypeError ?k1 ?k2 ?_; (case k1 => k_asm); (case k2 => k_asm); k_whole; intro h' e' o' x' n' F' N'; (try k_sweep))) | (k_here; (with_reducible show wpAny _ _ (call (Value.type "ValueError") [_]) _ _ _); k_dflt (refine' Mine.exc_made excClass_ValueError ?k1 ?k2 ?_; (case k1 => k_asm); (case k2 => k_asm); k_whole; intro h' e' o' x' n' F' N'; (try k_sweep))) | (k_here; (with_reducible show wpAny _ _ (call (Value.ref _) _) _ _ _); k_dflt (refine wpAny_call ?_; (refine' code_def ?k1 ?k2 ?k3 ?k4 ?k5 ?kA ?kF ?kK ?k6 ?k7 ?k8 ?k9 ?kB ?_ ?c2 ?c3 ?c4 ?c5; (case kA => exact rfl); (case kF => assumption); (case kK => assumption); (case k1 => k_asm); (case k2 => k_asm); (case k3 => k_asm); (case k4 => k_asm); (case k5 => k_asm); (case k6 => k_is); (case k7 => k_is); (case k8 => ktr_room); (case k9 => first | exact BindsTo.of_eq rfl | exact binds_K (by k_in) rfl (by k_is) rfl rfl rfl); (case c5 => decide); (case kB => exact locs rfl); (case c2 => exact rfl); (case c3 => exact rfl); (case c4 => exact rfl); k_whole; intro g' L' h' FG' F' N' B' X' T'; (try dsimp only); (try k_lift B'); (try k_fold)))) | (k_here; (with_reducible show if (_ == _) = true then _ else _); k_dflt (first | (refine' Mine.ieq_no ?k1 ?_; (case k1 => omega)) | (refine' Mine.ieq_yes ?k1 ?_; (case k1 => omega)))) | ((with_reducible show Raisable _ _ _); first | k_dflt (refine' Mine.raise_made excClass_ValueError ?k1 ?k2 ?k3 ?k4 ?_; (case k1 => assumption); (case k2 => k_asm); (case k3 => k_asm); (case k4 => assumption); k_whole; intro h' x' F' N') | k_dflt (refine' Mine.raise_made excClass_TypeError ?k1 ?k2 ?k3 ?k4 ?_; (case k1 => assumption); (case k2 => k_asm); (case k3 => k_asm); (case k4 => assumption); k_whole; intro h' x' F' N')) | (k_unfold; (try dsimp only)) | (k_end; wrow_close) | walk1 | dsimp only | (leave1; (try dsimp only)))
  all_goals first
    | (refine' hret _ [] _ _ ?r1 ?r2 ⟨rfl, _, rfl⟩; (case r1 => k_asm); (case r2 => first | k_asm | exact news_drop1 (by k_asm)))
set_option maxRecDepth 100000 in
set_option maxHeartbeats 2000000 in
theorem mc3n_none {w : World} {fr sa mk c : Str} {b : Int} {t1 t2 t3 t4 t5 t6 : Tok} {news : List (Addr × Obj)} (h1 : fr.length ≤ 600) (h2 : sa.length ≤ 600) (h3 : mk.length ≤ 600) (h4 : c.length ≤ 600) : Asks w 107 [.str fr t1, .none, .str sa t2, .none, .str mk t3, .int b t5] news (fun r n => n = [] ∧ ∃ t, r = .str (cat [fr, Str.ofString "", mk, sa]) t) := by
  intro p loose mean mg mb A₀ dp un gd h₀ L m s env Q E B F X N T hf hk hd hu hret
  have he0 : (Str.ofString "").length ≤ 600 := by decide
  refine wpAny_call ?_
  k_dflt (refine' code_def ?k1 ?k2 ?k3 ?k4 ?k5 ?kA ?kF ?kK ?k6 ?k7 ?k8 ?k9 ?kB ?_ ?c2 ?c3 ?c4 ?c5; (case kA => exact rfl); (case kF => assumption); (case kK => assumption); (case k1 => k_asm); (case k2 => k_asm); (case k3 => k_asm); (case k4 => k_asm); (case k5 => k_asm); (case k6 => k_is); (case k7 => k_is); (case k8 => ktr_room); (case k9 => first | exact BindsTo.of_eq rfl | exact binds_K (by k_in) rfl (by k_is) rfl rfl rfl); (case c5 => decide); (case kB => exact locs rfl); (case c2 => exact rfl); (case c3 => exact rfl); (case c4 => exact rfl); k_whole; intro g' L' h' FG' F' N' B' X' T'; (try dsimp only); (try k_lift B'); (try k_fold))
  repeat' (first | (k_here; (with_reducible show wpAny _ _ (exec (Stmt.Raise (some (Expr.Call (Expr.Name _ _) _ [] _)) none _) _) _ _ _); k_dflt refine Raise_new rfl ?_) | (k_here; (with_reducible show wpAny _ _ (call (Value.type "str") [Value.int _ _]) _ _ _); k_dflt (refine' P.str_of_int ?k1 ?_; (case k1 => with_reducible assumption))) | (k_here; (with_reducible show wpAny _ _ (truthy (Value.str _ _)) _ _ _); k_dflt (refine' truthy_no ?k1 ?_; (case k1 => with_reducible assumption))) | (k_here; (with_reducible show wpAny _ _ (call (Value.builtin "len") [Value.ref _]) _ _ _); k_dflt (refine' Mine.len_vs ?k1 ?k2 ?k3 ?_; (case k1 => k_asm); (case k2 => k_mem); (case k3 => first | assumption | omega)); intro _ _) | (k_here; (with_reducible show wpAny _ _ (truthy (Value.str _ _)) _ _ _); k_dflt (first | (refine' Mine.truthy_yes ?k1 ?k2 ?_; (case k1 => omega); (case k2 => omega)) | (refine' Mine.truthy_text ?k1 ?_ ?_; (case k1 => omega); all_goals intro _))) | (k_here; (with_reducible show wpAny _ _ (call (Value.builtin "str.split") [_, _]) _ _ _); k_dflt (refine' Mine.split_ways ?k1 ?k2 ?k3 ?k4 ?_ ?_ ?_ ?_; (case k1 => k_asm); (case k2 => k_asm); (case k3 => omega); (case k4 => omega)); all_goals (intros; (try k_sweep))) | (k_here; (with_reducible show wpAny _ _ (call (Value.type "TypeError") [_]) _ _ _); k_dflt (refine' Mine.exc_made excClass_TypeError ?k1 ?k2 ?_; (case k1 => k_asm); (case k2 => k_asm); k_whole; intro h' e' o' x' n' F' N'; (try k_sweep))) | (k_here; (with_reducible show wpAny _ _ (call (Value.type "ValueError") [_]) _ _ _); k_dflt (refine' Mine.exc_made excClass_ValueError ?k1 ?k2 ?_; (case k1 => k_asm); (case k2 => k_asm); k_whole; intro h' e' o' x' n' F' N'; (try k_sweep))) | (k_here; (with_reducible show wpAny _ _ (call (Value.ref _) _) _ _ _); k_dflt (refine wpAny_call ?_; (refine' code_def ?k1 ?k2 ?k3 ?k4 ?k5 ?kA ?kF ?kK ?k6 ?k7 ?k8 ?k9 ?kB ?_ ?c2 ?c3 ?c4 ?c5; (case kA => exact rfl); (case kF => assumption); (case kK => assumption); (case k1 => k_asm); (case k2 => k_asm); (case k3 => k_asm); (case k4 => k_asm); (case k5 => k_asm); (case k6 => k_is); (case k7 => k_is); (case k8 => ktr_room); (case k9 => first | exact BindsTo.of_eq rfl | exact binds_K (by k_in) rfl (by k_is) rfl rfl rfl); (case c5 => decide); (case kB => exact locs rfl); (case c2 => exact rfl); (case c3 => exact rfl); (case c4 => exact rfl); k_whole; intro g' L' h' FG' F' N' B' X' T'; (try dsimp only); (try k_lift B'); (try k_fold)))) | (k_here; (with_reducible show if (_ == _) = true then _ else _); k_dflt (first | (refine' Mine.ieq_no ?k1 ?_; (case k1 => omega)) | (refine' Mine.ieq_yes ?k1 ?_; (case k1 => omega)))) | ((with_reducible show Raisable _ _ _); first | k_dflt (refine' Mine.raise_made excClass_ValueError ?k1 ?k2 ?k3 ?k4 ?_; (case k1 => assumption); (case k2 => k_asm); (case k3 => k_asm); (case k4 => assumption); k_whole; intro h' x' F' N') | k_dflt (refine' Mine.raise_made excClass_TypeError ?k1 ?k2 ?k3 ?k4 ?_; (case k1 => assumption); (case k2 => k_asm); (case k3 => k_asm); (case k4 => assumption); k_whole; intro h' x' F' N')) | (k_unfold; (try dsimp only)) | (k_end; wrow_close) | walk1 | dsimp only | (leave1; (try dsimp only)))
  all_goals first
    | (refine' hret _ [] _ _ ?r1 ?r2 ⟨rfl, _, rfl⟩; (case r1 => k_asm); (case r2 => first | k_asm | exact news_drop1 (by k_asm)))
set_option maxRecDepth 100000 in
set_option maxHeartbeats 2000000 in
theorem mc3n_some {w : World} {fr sa mk c : Str} {b : Int} {t1 t2 t3 t4 t5 t6 : Tok} {news : List (Addr × Obj)} (h1 : fr.length ≤ 600) (h2 : sa.length ≤ 600) (h3 : mk.length ≤ 600) (h4 : c.length ≤ 600) (hc : 1 ≤ c.length) : Asks w 107 [.str fr t1, .none, .str sa t2, .str c t4, .str mk t3, .int b t5] news (fun r n => n = [] ∧ ∃ t, r = .str (cat [fr, Str.ofString "", mk, sa, mk, c]) t) := by
  intro p loose mean mg mb A₀ dp un gd h₀ L m s env Q E B F X N T hf hk hd hu hret
  have he0 : (Str.ofString "").length ≤ 600 := by decide
  refine wpAny_call ?_
  k_dflt (refine' code_def ?k1 ?k2 ?k3 ?k4 ?k5 ?kA ?kF ?kK ?k6 ?k7 ?k8 ?k9 ?kB ?_ ?c2 ?c3 ?c4 ?c5; (case kA => exact rfl); (case kF => assumption); (case kK => assumption); (case k1 => k_asm); (case k2 => k_asm); (case k3 => k_asm); (case k4 => k_asm); (case k5 => k_asm); (case k6 => k_is); (case k7 => k_is); (case k8 => ktr_room); (case k9 => first | exact BindsTo.of_eq rfl | exact binds_K (by k_in) rfl (by k_is) rfl rfl rfl); (case c5 => decide); (case kB => exact locs rfl); (case c2 => exact rfl); (case c3 => exact rfl); (case c4 => exact rfl); k_whole; intro g' L' h' FG' F' N' B' X' T'; (try dsimp only); (try k_lift B'); (try k_fold))
  repeat' (first | (k_here; (with_reducible show wpAny _ _ (exec (Stmt.Raise (some (Expr.Call (Expr.Name _ _) _ [] _)) none _) _) _ _ _); k_dflt refine Raise_new rfl ?_) | (k_here; (with_reducible show wpAny _ _ (call (Value.type "str") [Value.int _ _]) _ _ _); k_dflt (refine' P.str_of_int ?k1 ?_; (case k1 => with_reducible assumption))) | (k_here; (with_reducible show wpAny _ _ (truthy (Value.str _ _)) _ _ _); k_dflt (refine' truthy_no ?k1 ?_; (case k1 => with_reducible assumption))) | (k_here; (with_reducible show wpAny _ _ (call (Value.builtin "len") [Value.ref _]) _ _ _); k_dflt (refine' Mine.len_vs ?k1 ?k2 ?k3 ?_; (case k1 => k_asm); (case k2 => k_mem); (case k3 => first | assumption | omega)); intro _ _) | (k_here; (with_reducible show wpAny _ _ (truthy (Value.str _ _)) _ _ _); k_dflt (first | (refine' Mine.truthy_yes ?k1 ?k2 ?_; (case k1 => omega); (case k2 => omega)) | (refine' Mine.truthy_text ?k1 ?_ ?_; (case k1 => omega); all_goals intro _))) | (k_here; (with_reducible show wpAny _ _ (call (Value.builtin "str.split") [_, _]) _ _ _); k_dflt (refine' Mine.split_ways ?k1 ?k2 ?k3 ?k4 ?_ ?_ ?_ ?_; (case k1 => k_asm); (case k2 => k_asm); (case k3 => omega); (case k4 => omega)); all_goals (intros; (try k_sweep))) | (k_here; (with_reducible show wpAny _ _ (call (Value.type "TypeError") [_]) _ _ _); k_dflt (refine' Mine.exc_made excClass_TypeError ?k1 ?k2 ?_; (case k1 => k_asm); (case k2 => k_asm); k_whole; intro h' e' o' x' n' F' N'; (try k_sweep))) | (k_here; (with_reducible show wpAny _ _ (call (Value.type "ValueError") [_]) _ _ _); k_dflt (refine' Mine.exc_made excClass_ValueError ?k1 ?k2 ?_; (case k1 => k_asm); (case k2 => k_asm); k_whole; intro h' e' o' x' n' F' N'; (try k_sweep))) | (k_here; (with_reducible show wpAny _ _ (call (Value.ref _) _) _ _ _); k_dflt (refine wpAny_call ?_; (refine' code_def ?k1 ?k2 ?k3 ?k4 ?k5 ?kA ?kF ?kK ?k6 ?k7 ?k8 ?k9 ?kB ?_ ?c2 ?c3 ?c4 ?c5; (case kA => exact rfl); (case kF => assumption); (case kK => assumption); (case k1 => k_asm); (case k2 => k_asm); (case k3 => k_asm); (case k4 => k_asm); (case k5 => k_asm); (case k6 => k_is); (case k7 => k_is); (case k8 => ktr_room); (case k9 => first | exact BindsTo.of_eq rfl | exact binds_K (by k_in) rfl (by k_is) rfl rfl rfl); (case c5 => decide); (case kB => exact locs rfl); (case c2 => exact rfl); (case c3 => exact rfl); (case c4 => exact rfl); k_whole; intro g' L' h' FG' F' N' B' X' T'; (try dsimp only); (try k_lift B'); (try k_fold)))) | (k_here; (with_reducible show if (_ == _) = true then _ else _); k_dflt (first | (refine' Mine.ieq_no ?k1 ?_; (case k1 => omega)) | (refine' Mine.ieq_yes ?k1 ?_; (case k1 => omega)))) | ((with_reducible show Raisable _ _ _); first | k_dflt (refine' Mine.raise_made excClass_ValueError ?k1 ?k2 ?k3 ?k4 ?_; (case k1 => assumption); (case k2 => k_asm); (case k3 => k_asm); (case k4 => assumption); k_whole; intro h' x' F' N') | k_dflt (refine' Mine.raise_made excClass_TypeError ?k1 ?k2 ?k3 ?k4 ?_; (case k1 => assumption); (case k2 => k_asm); (case k3 => k_asm); (case k4 => assumption); k_whole; intro h' x' F' N')) | (k_unfold; (try dsimp only)) | (k_end; wrow_close) | walk1 | dsimp only | (leave1; (try dsimp only)))
  all_goals first
    | (refine' hret _ [] _ _ ?r1 ?r2 ⟨rfl, _, rfl⟩; (case r1 => k_asm); (case r2 => first | k_asm | exact news_drop1 (by k_asm)))
set_option maxRecDepth 100000 in
set_option maxHeartbeats 2000000 in
theorem mc3n_zero4 {w : World} {fr sa mk c : Str} {b : Int} {t1 t2 t3 t4 t5 t6 : Tok} {news : List (Addr × Obj)} (h1 : fr.length ≤ 600) (h2 : sa.length ≤ 600) (h3 : mk.length ≤ 600) (h4 : c.length ≤ 600) (hc : c.length = 0) : Asks w 107 [.str fr t1, .none, .str sa t2, .str c t4, .str mk t3] news (fun r n => n = [] ∧ ∃ t, r = .str (cat [fr, Str.ofString "", mk, sa]) t) := by
  intro p loose mean mg mb A₀ dp un gd h₀ L m s env Q E B F X N T hf hk hd hu hret
  have he0 : (Str.ofString "").length ≤ 600 := by decide
  refine wpAny_call ?_
  k_dflt (refine' code_def ?k1 ?k2 ?k3 ?k4 ?k5 ?kA ?kF ?kK ?k6 ?k7 ?k8 ?k9 ?kB ?_ ?c2 ?c3 ?c4 ?c5; (case kA => exact rfl); (case kF => assumption); (case kK => assumption); (case k1 => k_asm); (case k2 => k_asm); (case k3 => k_asm); (case k4 => k_asm); (case k5 => k_asm); (case k6 => k_is); (case k7 => k_is); (case k8 => ktr_room); (case k9 => first | exact BindsTo.of_eq rfl | exact binds_K (by k_in) rfl (by k_is) rfl rfl rfl); (case c5 => decide); (case kB => exact locs rfl); (case c2 => exact rfl); (case c3 => exact rfl); (case c4 => exact rfl); k_whole; intro g' L' h' FG' F' N' B' X' T'; (try dsimp only); (try k_lift B'); (try k_fold))
  repeat' (first | (k_here; (with_reducible show wpAny _ _ (exec (Stmt.Raise (some (Expr.Call (Expr.Name _ _) _ [] _)) none _) _) _ _ _); k_dflt refine Raise_new rfl ?_) | (k_here; (with_reducible show wpAny _ _ (call (Value.type "str") [Value.int _ _]) _ _ _); k_dflt (refine' P.str_of_int ?k1 ?_; (case k1 => with_reducible assumption))) | (k_here; (with_reducible show wpAny _ _ (truthy (Value.str _ _)) _ _ _); k_dflt (refine' truthy_no ?k1 ?_; (case k1 => with_reducible assumption))) | (k_here; (with_reducible show wpAny _ _ (call (Value.builtin "len") [Value.ref _]) _ _ _); k_dflt (refine' Mine.len_vs ?k1 ?k2 ?k3 ?_; (case k1 => k_asm); (case k2 => k_mem); (case k3 => first | assumption | omega)); intro _ _) | (k_here; (with_reducible show wpAny _ _ (truthy (Value.str _ _)) _ _ _); k_dflt (first | (refine' Mine.truthy_yes ?k1 ?k2 ?_; (case k1 => omega); (case k2 => omega)) | (refine' Mine.truthy_text ?k1 ?_ ?_; (case k1 => omega); all_goals intro _))) | (k_here; (with_reducible show wpAny _ _ (call (Value.builtin "str.split") [_, _]) _ _ _); k_dflt (refine' Mine.split_ways ?k1 ?k2 ?k3 ?k4 ?_ ?_ ?_ ?_; (case k1 => k_asm); (case k2 => k_asm); (case k3 => omega); (case k4 => omega)); all_goals (intros; (try k_sweep))) | (k_here; (with_reducible show wpAny _ _ (call (Value.type "TypeError") [_]) _ _ _); k_dflt (refine' Mine.exc_made excClass_TypeError ?k1 ?k2 ?_; (case k1 => k_asm); (case k2 => k_asm); k_whole; intro h' e' o' x' n' F' N'; (try k_sweep))) | (k_here; (with_reducible show wpAny _ _ (call (Value.type "ValueError") [_]) _ _ _); k_dflt (refine' Mine.exc_made excClass_ValueError ?k1 ?k2 ?_; (case k1 => k_asm); (case k2 => k_asm); k_whole; intro h' e' o' x' n' F' N'; (try k_sweep))) | (k_here; (with_reducible show wpAny _ _ (call (Value.ref _) _) _ _ _); k_dflt (refine wpAny_call ?_; (refine' code_def ?k1 ?k2 ?k3 ?k4 ?k5 ?kA ?kF ?kK ?k6 ?k7 ?k8 ?k9 ?kB ?_ ?c2 ?c3 ?c4 ?c5; (case kA => exact rfl); (case kF => assumption); (case kK => assumption); (case k1 => k_asm); (case k2 => k_asm); (case k3 => k_asm); (case k4 => k_asm); (case k5 => k_asm); (case k6 => k_is); (case k7 => k_is); (case k8 => ktr_room); (case k9 => first | exact BindsTo.of_eq rfl | exact binds_K (by k_in) rfl (by k_is) rfl rfl rfl); (case c5 => decide); (case kB => exact locs rfl); (case c2 => exact rfl); (case c3 => exact rfl); (case c4 => exact rfl); k_whole; intro g' L' h' FG' F' N' B' X' T'; (try dsimp only); (try k_lift B'); (try k_fold)))) | (k_here; (with_reducible show if (_ == _) = true then _ else _); k_dflt (first | (refine' Mine.ieq_no ?k1 ?_; (case k1 => omega)) | (refine' Mine.ieq_yes ?k1 ?_; (case k1 => omega)))) | ((with_reducible show Raisable _ _ _); first | k_dflt (refine' Mine.raise_made excClass_ValueError ?k1 ?k2 ?k3 ?k4 ?_; (case k1 => assumption); (case k2 => k_asm); (case k3 => k_asm); (case k4 => assumption); k_whole; intro h' x' F' N') | k_dflt (refine' Mine.raise_made excClass_TypeError ?k1 ?k2 ?k3 ?k4 ?_; (case k1 => assumption); (case k2 => k_asm); (case k3 => k_asm); (case k4 => assumption); k_whole; intro h' x' F' N')) | (k_unfold; (try dsimp only)) | (k_end; wrow_close) | walk1 | dsimp only | (leave1; (try dsimp only)))
  all_goals first
    | (refine' hret _ [] _ _ ?r1 ?r2 ⟨rfl, _, rfl⟩; (case r1 => k_asm); (case r2 => first | k_asm | exact news_drop1 (by k_asm)))
set_option maxRecDepth 100000 in
set_option maxHeartbeats 2000000 in
theorem mc3d_none {w : World} {fr sa mk c : Str} {k : Int} {t1 t2 t3 t4 t5 t6 : Tok} {news : List (Addr × Obj)} (h1 : fr.length ≤ 600) (h2 : sa.length ≤ 600) (h3 : mk.length ≤ 600) (h4 : c.length ≤ 600) (hk : k.natAbs.log2 < 1920) (hk2 : (Str.ofString (toString k)).length ≤ 600) : Asks w 107 [.str fr t1, .int k t6, .str sa t2, .none, .str mk t3, .int 10 t5] news (fun r n => n = [] ∧ ∃ t, r = .str (cat [fr, Str.ofString (toString k), mk, sa]) t) := by
  intro p loose mean mg mb A₀ dp un gd h₀ L m s env Q E B F X N T hf hk hd hu hret
  have he0 : (Str.ofString "").length ≤ 600 := by decide
  refine wpAny_call ?_
  k_dflt (refine' code_def ?k1 ?k2 ?k3 ?k4 ?k5 ?kA ?kF ?kK ?k6 ?k7 ?k8 ?k9 ?kB ?_ ?c2 ?c3 ?c4 ?c5; (case kA => exact rfl); (case kF => assumption); (case kK => assumption); (case k1 => k_asm); (case k2 => k_asm); (case k3 => k_asm); (case k4 => k_asm); (case k5 => k_asm); (case k6 => k_is); (case k7 => k_is); (case k8 => ktr_room); (case k9 => first | exact BindsTo.of_eq rfl | exact binds_K (by k_in) rfl (by k_is) rfl rfl rfl); (case c5 => decide); (case kB => exact locs rfl); (case c2 => exact rfl); (case c3 => exact rfl); (case c4 => exact rfl); k_whole; intro g' L' h' FG' F' N' B' X' T'; (try dsimp only); (try k_lift B'); (try k_fold))
  repeat' (first | (k_here; (with_reducible show wpAny _ _ (exec (Stmt.Raise (some (Expr.Call (Expr.Name _ _) _ [] _)) none _) _) _ _ _); k_dflt refine Raise_new rfl ?_) | (k_here; (with_reducible show wpAny _ _ (call (Value.type "str") [Value.int _ _]) _ _ _); k_dflt (refine' P.str_of_int ?k1 ?_; (case k1 => with_reducible assumption))) | (k_here; (with_reducible show wpAny _ _ (truthy (Value.str _ _)) _ _ _); k_dflt (refine' truthy_no ?k1 ?_; (case k1 => with_reducible assumption))) | (k_here; (with_reducible show wpAny _ _ (call (Value.builtin "len") [Value.ref _]) _ _ _); k_dflt (refine' Mine.len_vs ?k1 ?k2 ?k3 ?_; (case k1 => k_asm); (case k2 => k_mem); (case k3 => first | assumption | omega)); intro _ _) | (k_here; (with_reducible show wpAny _ _ (truthy (Value.str _ _)) _ _ _); k_dflt (first | (refine' Mine.truthy_yes ?k1 ?k2 ?_; (case k1 => omega); (case k2 => omega)) | (refine' Mine.truthy_text ?k1 ?_ ?_; (case k1 => omega); all_goals intro _))) | (k_here; (with_reducible show wpAny _ _ (call (Value.builtin "str.split") [_, _]) _ _ _); k_dflt (refine' Mine.split_ways ?k1 ?k2 ?k3 ?k4 ?_ ?_ ?_ ?_; (case k1 => k_asm); (case k2 => k_asm); (case k3 => omega); (case k4 => omega)); all_goals (intros; (try k_sweep))) | (k_here; (with_reducible show wpAny _ _ (call (Value.type "TypeError") [_]) _ _ _); k_dflt (refine' Mine.exc_made excClass_TypeError ?k1 ?k2 ?_; (case k1 => k_asm); (case k2 => k_asm); k_whole; intro h' e' o' x' n' F' N'; (try k_sweep))) | (k_here; (with_reducible show wpAny _ _ (call (Value.type "ValueError") [_]) _ _ _); k_dflt (refine' Mine.exc_made excClass_ValueError ?k1 ?k2 ?_; (case k1 => k_asm); (case k2 => k_asm); k_whole; intro h' e' o' x' n' F' N'; (try k_sweep))) | (k_here; (with_reducible show wpAny _ _ (call (Value.ref _) _) _ _ _); k_dflt (refine wpAny_call ?_; (refine' code_def ?k1 ?k2 ?k3 ?k4 ?k5 ?kA ?kF ?kK ?k6 ?k7 ?k8 ?k9 ?kB ?_ ?c2 ?c3 ?c4 ?c5; (case kA => exact rfl); (case kF => assumption); (case kK => assumption); (case k1 => k_asm); (case k2 => k_asm); (case k3 => k_asm); (case k4 => k_asm); (case k5 => k_asm); (case k6 => k_is); (case k7 => k_is); (case k8 => ktr_room); (case k9 => first | exact BindsTo.of_eq rfl | exact binds_K (by k_in) rfl (by k_is) rfl rfl rfl); (case c5 => decide); (case kB => exact locs rfl); (case c2 => exact rfl); (case c3 => exact rfl); (case c4 => exact rfl); k_whole; intro g' L' h' FG' F' N' B' X' T'; (try dsimp only); (try k_lift B'); (try k_fold)))) | (k_here; (with_reducible show if (_ == _) = true then _ else _); k_dflt (first | (refine' Mine.ieq_no ?k1 ?_; (case k1 => omega)) | (refine' Mine.ieq_yes ?k1 ?_; (case k1 => omega)))) | ((with_reducible show Raisable _ _ _); first | k_dflt (refine' Mine.raise_made excClass_ValueError ?k1 ?k2 ?k3 ?k4 ?_; (case k1 => assumption); (case k2 => k_asm); (case k3 => k_asm); (case k4 => assumption); k_whole; intro h' x' F' N') | k_dflt (refine' Mine.raise_made excClass_TypeError ?k1 ?k2 ?k3 ?k4 ?_; (case k1 => assumption); (case k2 => k_asm); (case k3 => k_asm); (case k4 => assumption); k_whole; intro h' x' F' N')) | (k_unfold; (try dsimp only)) | (k_end; wrow_close) | walk1 | dsimp only | (leave1; (try dsimp only)))
  all_goals first
    | (refine' hret _ [] _ _ ?r1 ?r2 ⟨rfl, _, rfl⟩; (case r1 => k_asm); (case r2 => first | k_asm | exact news_drop1 (by k_asm)))
set_option maxRecDepth 100000 in
set_option maxHeartbeats 2000000 in
theorem mc3d_some {w : World} {fr sa mk c : Str} {k : Int} {t1 t2 t3 t4 t5 t6 : Tok} {news : List (Addr × Obj)} (h1 : fr.length ≤ 600) (h2 : sa.length ≤ 600) (h3 : mk.length ≤ 600) (h4 : c.length ≤ 600) (hk : k.natAbs.log2 < 1920) (hk2 : (Str.ofString (toString k)).length ≤ 600) (hc : 1 ≤ c.length) : Asks w 107 [.str fr t1, .int k t6, .str sa t2, .str c t4, .str mk t3, .int 10 t5] news (fun r n => n = [] ∧ ∃ t, r = .str (cat [fr, Str.ofString (toString k), mk, sa, mk, c]) t) := by
  intro p loose mean mg mb A₀ dp un gd h₀ L m s env Q E B F X N T hf hk hd hu hret
  have he0 : (Str.ofString "").length ≤ 600 := by decide
  refine wpAny_call ?_
  k_dflt (refine' code_def ?k1 ?k2 ?k3 ?k4 ?k5 ?kA ?kF ?kK ?k6 ?k7 ?k8 ?k9 ?kB ?_ ?c2 ?c3 ?c4 ?c5; (case kA => exact rfl); (case kF => assumption); (case kK => assumption); (case k1 => k_asm); (case k2 => k_asm); (case k3 => k_asm); (case k4 => k_asm); (case k5 => k_asm); (case k6 => k_is); (case k7 => k_is); (case k8 => ktr_room); (case k9 => first | exact BindsTo.of_eq rfl | exact binds_K (by k_in) rfl (by k_is) rfl rfl rfl); (case c5 => decide); (case kB => exact locs rfl); (case c2 => exact rfl); (case c3 => exact rfl); (case c4 => exact rfl); k_whole; intro g' L' h' FG' F' N' B' X' T'; (try dsimp only); (try k_lift B'); (try k_fold))
  repeat' (first | (k_here; (with_reducible show wpAny _ _ (exec (Stmt.Raise (some (Expr.Call (Expr.Name _ _) _ [] _)) none _) _) _ _ _); k_dflt refine Raise_new rfl ?_) | (k_here; (with_reducible show wpAny _ _ (call (Value.type "str") [Value.int _ _]) _ _ _); k_dflt (refine' P.str_of_int ?k1 ?_; (case k1 => with_reducible assumption))) | (k_here; (with_reducible show wpAny _ _ (truthy (Value.str _ _)) _ _ _); k_dflt (refine' truthy_no ?k1 ?_; (case k1 => with_reducible assumption))) | (k_here; (with_reducible show wpAny _ _ (call (Value.builtin "len") [Value.ref _]) _ _ _); k_dflt (refine' Mine.len_vs ?k1 ?k2 ?k3 ?_; (case k1 => k_asm); (case k2 => k_mem); (case k3 => first | assumption | omega)); intro _ _) | (k_here; (with_reducible show wpAny _ _ (truthy (Value.str _ _)) _ _ _); k_dflt (first | (refine' Mine.truthy_yes ?k1 ?k2 ?_; (case k1 => omega); (case k2 => omega)) | (refine' Mine.truthy_text ?k1 ?_ ?_; (case k1 => omega); all_goals intro _))) | (k_here; (with_reducible show wpAny _ _ (call (Value.builtin "str.split") [_, _]) _ _ _); k_dflt (refine' Mine.split_ways ?k1 ?k2 ?k3 ?k4 ?_ ?_ ?_ ?_; (case k1 => k_asm); (case k2 => k_asm); (case k3 => omega); (case k4 => omega)); all_goals (intros; (try k_sweep))) | (k_here; (with_reducible show wpAny _ _ (call (Value.type "TypeError") [_]) _ _ _); k_dflt (refine' Mine.exc_made excClass_TypeError ?k1 ?k2 ?_; (case k1 => k_asm); (case k2 => k_asm); k_whole; intro h' e' o' x' n' F' N'; (try k_sweep))) | (k_here; (with_reducible show wpAny _ _ (call (Value.type "ValueError") [_]) _ _ _); k_dflt (refine' Mine.exc_made excClass_ValueError ?k1 ?k2 ?_; (case k1 => k_asm); (case k2 => k_asm); k_whole; intro h' e' o' x' n' F' N'; (try k_sweep))) | (k_here; (with_reducible show wpAny _ _ (call (Value.ref _) _) _ _ _); k_dflt (refine wpAny_call ?_; (refine' code_def ?k1 ?k2 ?k3 ?k4 ?k5 ?kA ?kF ?kK ?k6 ?k7 ?k8 ?k9 ?kB ?_ ?c2 ?c3 ?c4 ?c5; (case kA => exact rfl); (case kF => assumption); (case kK => assumption); (case k1 => k_asm); (case k2 => k_asm); (case k3 => k_asm); (case k4 => k_asm); (case k5 => k_asm); (case k6 => k_is); (case k7 => k_is); (case k8 => ktr_room); (case k9 => first | exact BindsTo.of_eq rfl | exact binds_K (by k_in) rfl (by k_is) rfl rfl rfl); (case c5 => decide); (case kB => exact locs rfl); (case c2 => exact rfl); (case c3 => exact rfl); (case c4 => exact rfl); k_whole; intro g' L' h' FG' F' N' B' X' T'; (try dsimp only); (try k_lift B'); (try k_fold)))) | (k_here; (with_reducible show if (_ == _) = true then _ else _); k_dflt (first | (refine' Mine.ieq_no ?k1 ?_; (case k1 => omega)) | (refine' Mine.ieq_yes ?k1 ?_; (case k1 => omega)))) | ((with_reducible show Raisable _ _ _); first | k_dflt (refine' Mine.raise_made excClass_ValueError ?k1 ?k2 ?k3 ?k4 ?_; (case k1 => assumption); (case k2 => k_asm); (case k3 => k_asm); (case k4 => assumption); k_whole; intro h' x' F' N') | k_dflt (refine' Mine.raise_made excClass_TypeError ?k1 ?k2 ?k3 ?k4 ?_; (case k1 => assumption); (case k2 => k_asm); (case k3 => k_asm); (case k4 => assumption); k_whole; intro h' x' F' N')) | (k_unfold; (try dsimp only)) | (k_end; wrow_close) | walk1 | dsimp only | (leave1; (try dsimp only)))
  all_goals first
    | (refine' hret _ [] _ _ ?r1 ?r2 ⟨rfl, _, rfl⟩; (case r1 => k_asm); (case r2 => first | k_asm | exact news_drop1 (by k_asm)))
end
end Mine
end
-- Hex
section
open PySem PySem.W PyProof.Rows PySem.Calls PySem.Spec
open PySem.Builtin PySem.Builtin.Str
set_option maxRecDepth 100000
namespace Mine
/-- the text of '%x' % n -/
def hexS (n : Int) : PySem.Str := ⟨((Nat.toDigits 16 n.natAbs).map Char.toNat).toArray⟩
theorem hex_text (c : Percent) (h1 : c.alt = false) (h2 : c.type = 120) (h3 : c.prec = none) {n : Int} (hn : 0 ≤ n) (d : List Nat) : percentInt c (decide (n < 0)) d = d := by
  have hneg : decide (n < 0) = false := decide_eq_false (by omega)
  unfold percentInt
  simp [h1, h2, h3, hneg]
theorem hex_meets {t u : Tok} {n : Int} (hn : 0 ≤ n) (hl : (hexS n).length ≤ 1000) : Meets («str.__mod__» ⟨[.str ⟨#[37, 120]⟩ t, .int n u], []⟩) (fun _ R s => ∀ t' k, R (.ok (.ret (.str (hexS n) t'))) { s with toks := k }) := by
  apply KPc.meets_of
  intro prog w A s Q E h
  rw [KPc.entry_is]
  unfold Builtin.Str.percentFormat
  refine wpAny_bind (wpAny_isInstance (typeIs_int _ _ _) F.sub_int_tuple ?_)
  refine wpAny_bind (wpAny_of_eq (a := none) rfl ?_)
  refine wpAny_bind (wpAny_of_eq (KPc.fills _ _) ?_)
  kpc_if
  refine wpAny_bind (wpAny_pure ?_)
  refine wpAny_bind ?_
  rw [KPc.range_list]
  refine KPc.start ?_
  intro w' g'
  refine KPc.turn ?_
  kpc_check
  (repeat kpc_if)
  refine wpAny_bind ?_
  refine wpAny_holding ?_
  (repeat kpc_if)
  refine wpAny_bind (wpAny_of_eq (a := _) rfl ?_)
  (repeat kpc_if)
  first
    | (refine wpAny_bind ?_; (repeat kpc_if); refine wpAny_pure ?_)
    | skip
  first
    | (refine wpAny_pure ?_; refine wpAny_pure ?_)
    | skip
  rw [hex_text _ rfl rfl rfl hn]
  have e : (⟨((Nat.toDigits 16 n.natAbs).map Char.toNat).toArray⟩ : PySem.Str) = ⟨(hexS n).cps.toList.toArray⟩ := by unfold hexS; rfl
  rw [e]
  refine KPc.after_str0 (by assumption) hl (by kpc_obj) ?_
  intro w2 g2
  kpc_turns
theorem mod_hex {prog : Program} {w : World} {A : Around} {E : Value → Shared → Prop} {s : Shared} {n : Int} {t u : Tok} {Q : Value → Shared → Prop} (hn : 0 ≤ n) (hd : n.natAbs.log2 < 1920) (hl : (hexS n).length ≤ 1000) (h : ∀ t' k, Q (.str (hexS n) t') { s with toks := k }) :
    wpAny (model prog w) A (binaryOp .Mod (.str (PySem.Str.ofString "%x") t) (.int n u)) Q E s :=
  KPc.mod_lit (X' := ⟨#[37, 120]⟩) (by decide +kernel) hd (fun _ _ => hex_meets hn hl) h
end Mine
end
-- R2
section
open PySem PySem.W PyProof.Rows PySem.Calls PySem.Spec
namespace Mine
section
set_option maxRecDepth 100000 in
set_option maxHeartbeats 2000000 in
theorem mc3x_none {w : World} {fr sa mk c : Str} {k : Int} {t1 t2 t3 t4 t5 t6 : Tok} {news : List (Addr × Obj)} (h1 : fr.length ≤ 600) (h2 : sa.length ≤ 600) (h3 : mk.length ≤ 600) (h4 : c.length ≤ 600) (hn : 0 ≤ k) (hk : k.natAbs.log2 < 1920) (hk2 : (hexS k).length ≤ 600) : Asks w 107 [.str fr t1, .int k t6, .str sa t2, .none, .str mk t3, .int 16 t5] news (fun r n => n = [] ∧ ∃ t, r = .str (cat [fr, hexS k, mk, sa]) t) := by
  intro p loose mean mg mb A₀ dp un gd h₀ L m s env Q E B F X N T hf hk hd hu hret
  have he0 : (Str.ofString "").length ≤ 600 := by decide
  refine wpAny_call ?_
  k_dflt (refine' code_def ?k1 ?k2 ?k3 ?k4 ?k5 ?kA ?kF ?kK ?k6 ?k7 ?k8 ?k9 ?kB ?_ ?c2 ?c3 ?c4 ?c5; (case kA => exact rfl); (case kF => assumption); (case kK => assumption); (case k1 => k_asm); (case k2 => k_asm); (case k3 => k_asm); (case k4 => k_asm); (case k5 => k_asm); (case k6 => k_is); (case k7 => k_is); (case k8 => ktr_room); (case k9 => first | exact BindsTo.of_eq rfl | exact binds_K (by k_in) rfl (by k_is) rfl rfl rfl); (case c5 => decide); (case kB => exact locs rfl); (case c2 => exact rfl); (case c3 => exact rfl); (case c4 => exact rfl); k_whole; intro g' L' h' FG' F' N' B' X' T'; (try dsimp only); (try k_lift B'); (try k_fold))
  repeat' (first | (k_here; (with_reducible show wpAny _ _ (exec (Stmt.Raise (some (Expr.Call (Expr.Name _ _) _ [] _)) none _) _) _ _ _); k_dflt refine Raise_new rfl ?_) | (k_here; (with_reducible show wpAny _ _ (binaryOp Operator.Mod (Value.str _ _) (Value.int _ _)) _ _ _); k_dflt (refine' mod_hex ?k1 ?k2 ?k3 ?_; (case k1 => with_reducible assumption); (case k2 => with_reducible assumption); (case k3 => omega); intro _ _)) | (k_here; (with_reducible show wpAny _ _ (call (Value.type "str") [Value.int _ _]) _ _ _); k_dflt (refine' P.str_of_int ?k1 ?_; (case k1 => with_reducible assumption))) | (k_here; (with_reducible show wpAny _ _ (truthy (Value.str _ _)) _ _ _); k_dflt (refine' truthy_no ?k1 ?_; (case k1 => with_reducible assumption))) | (k_here; (with_reducible show wpAny _ _ (call (Value.builtin "len") [Value.ref _]) _ _ _); k_dflt (refine' Mine.len_vs ?k1 ?k2 ?k3 ?_; (case k1 => k_asm); (case k2 => k_mem); (case k3 => first | assumption | omega)); intro _ _) | (k_here; (with_reducible show wpAny _ _ (truthy (Value.str _ _)) _ _ _); k_dflt (first | (refine' Mine.truthy_yes ?k1 ?k2 ?_; (case k1 => omega); (case k2 => omega)) | (refine' Mine.truthy_text ?k1 ?_ ?_; (case k1 => omega); all_goals intro _))) | (k_here; (with_reducible show wpAny _ _ (call (Value.builtin "str.split") [_, _]) _ _ _); k_dflt (refine' Mine.split_ways ?k1 ?k2 ?k3 ?k4 ?_ ?_ ?_ ?_; (case k1 => k_asm); (case k2 => k_asm); (case k3 => omega); (case k4 => omega)); all_goals (intros; (try k_sweep))) | (k_here; (with_reducible show wpAny _ _ (call (Value.type "TypeError") [_]) _ _ _); k_dflt (refine' Mine.exc_made excClass_TypeError ?k1 ?k2 ?_; (case k1 => k_asm); (case k2 => k_asm); k_whole; intro h' e' o' x' n' F' N'; (try k_sweep))) | (k_here; (with_reducible show wpAny _ _ (call (Value.type "ValueError") [_]) _ _ _); k_dflt (refine' Mine.exc_made excClass_ValueError ?k1 ?k2 ?_; (case k1 => k_asm); (case k2 => k_asm); k_whole; intro h' e' o' x' n' F' N'; (try k_sweep))) | (k_here; (with_reducible show wpAny _ _ (call (Value.ref _) _) _ _ _); k_dflt (refine wpAny_call ?_; (refine' code_def ?k1 ?k2 ?k3 ?k4 ?k5 ?kA ?kF ?kK ?k6 ?k7 ?k8 ?k9 ?kB ?_ ?c2 ?c3 ?c4 ?c5; (case kA => exact rfl); (case kF => assumption); (case kK => assumption); (case k1 => k_asm); (case k2 => k_asm); (case k3 => k_asm); (case k4 => k_asm); (case k5 => k_asm); (case k6 => k_is); (case k7 => k_is); (case k8 => ktr_room); (case k9 => first | exact BindsTo.of_eq rfl | exact binds_K (by k_in) rfl (by k_is) rfl rfl rfl); (case c5 => decide); (case kB => exact locs rfl); (case c2 => exact rfl); (case c3 => exact rfl); (case c4 => exact rfl); k_whole; intro g' L' h' FG' F' N' B' X' T'; (try dsimp only); (try k_lift B'); (try k_fold)))) | (k_here; (with_reducible show if (_ == _) = true then _ else _); k_dflt (first | (refine' Mine.ieq_no ?k1 ?_; (case k1 => omega)) | (refine' Mine.ieq_yes ?k1 ?_; (case k1 => omega)))) | ((with_reducible show Raisable _ _ _); first | k_dflt (refine' Mine.raise_made excClass_ValueError ?k1 ?k2 ?k3 ?k4 ?_; (case k1 => assumption); (case k2 => k_asm); (case k3 => k_asm); (case k4 => assumption); k_whole; intro h' x' F' N') | k_dflt (refine' Mine.raise_made excClass_TypeError ?k1 ?k2 ?k3 ?k4 ?_; (case k1 => assumption); (case k2 => k_asm); (case k3 => k_asm); (case k4 => assumption); k_whole; intro h' x' F' N')) | (k_unfold; (try dsimp only)) | (k_end; wrow_close) | walk1 | dsimp only | (leave1; (try dsimp only)))
  all_goals first
    | (refine' hret _ [] _ _ ?r1 ?r2 ⟨rfl, _, rfl⟩; (case r1 => k_asm); (case r2 => first | k_asm | exact news_drop1 (by k_asm)))
set_option maxRecDepth 100000 in
set_option maxHeartbeats 2000000 in
theorem mc3x_some {w : World} {fr sa mk c : Str} {k : Int} {t1 t2 t3 t4 t5 t6 : Tok} {news : List (Addr × Obj)} (h1 : fr.length ≤ 600) (h2 : sa.length ≤ 600) (h3 : mk.length ≤ 600) (h4 : c.length ≤ 600) (hn : 0 ≤ k) (hk : k.natAbs.log2 < 1920) (hk2 : (hexS k).length ≤ 600) (hc : 1 ≤ c.length) : Asks w 107 [.str fr t1, .int k t6, .str sa t2, .str c t4, .str mk t3, .int 16 t5] news (fun r n => n = [] ∧ ∃ t, r = .str (cat [fr, hexS k, mk, sa, mk, c]) t) := by
  intro p loose mean mg mb A₀ dp un gd h₀ L m s env Q E B F X N T hf hk hd hu hret
  have he0 : (Str.ofString "").length ≤ 600 := by decide
  refine wpAny_call ?_
  k_dflt (refine' code_def ?k1 ?k2 ?k3 ?k4 ?k5 ?kA ?kF ?kK ?k6 ?k7 ?k8 ?k9 ?kB ?_ ?c2 ?c3 ?c4 ?c5; (case kA => exact rfl); (case kF => assumption); (case kK => assumption); (case k1 => k_asm); (case k2 => k_asm); (case k3 => k_asm); (case k4 => k_asm); (case k5 => k_asm); (case k6 => k_is); (case k7 => k_is); (case k8 => ktr_room); (case k9 => first | exact BindsTo.of_eq rfl | exact binds_K (by k_in) rfl (by k_is) rfl rfl rfl); (case c5 => decide); (case kB => exact locs rfl); (case c2 => exact rfl); (case c3 => exact rfl); (case c4 => exact rfl); k_whole; intro g' L' h' FG' F' N' B' X' T'; (try dsimp only); (try k_lift B'); (try k_fold))
  repeat' (first | (k_here; (with_reducible show wpAny _ _ (exec (Stmt.Raise (some (Expr.Call (Expr.Name _ _) _ [] _)) none _) _) _ _ _); k_dflt refine Raise_new rfl ?_) | (k_here; (with_reducible show wpAny _ _ (binaryOp Operator.Mod (Value.str _ _) (Value.int _ _)) _ _ _); k_dflt (refine' mod_hex ?k1 ?k2 ?k3 ?_; (case k1 => with_reducible assumption); (case k2 => with_reducible assumption); (case k3 => omega); intro _ _)) | (k_here; (with_reducible show wpAny _ _ (call (Value.type "str") [Value.int _ _]) _ _ _); k_dflt (refine' P.str_of_int ?k1 ?_; (case k1 => with_reducible assumption))) | (k_here; (with_reducible show wpAny _ _ (truthy (Value.str _ _)) _ _ _); k_dflt (refine' truthy_no ?k1 ?_; (case k1 => with_reducible assumption))) | (k_here; (with_reducible show wpAny _ _ (call (Value.builtin "len") [Value.ref _]) _ _ _); k_dflt (refine' Mine.len_vs ?k1 ?k2 ?k3 ?_; (case k1 => k_asm); (case k2 => k_mem); (case k3 => first | assumption | omega)); intro _ _) | (k_here; (with_reducible show wpAny _ _ (truthy (Value.str _ _)) _ _ _); k_dflt (first | (refine' Mine.truthy_yes ?k1 ?k2 ?_; (case k1 => omega); (case k2 => omega)) | (refine' Mine.truthy_text ?k1 ?_ ?_; (case k1 => omega); all_goals intro _))) | (k_here; (with_reducible show wpAny _ _ (call (Value.builtin "str.split") [_, _]) _ _ _); k_dflt (refine' Mine.split_ways ?k1 ?k2 ?k3 ?k4 ?_ ?_ ?_ ?_; (case k1 => k_asm); (case k2 => k_asm); (case k3 => omega); (case k4 => omega)); all_goals (intros; (try k_sweep))) | (k_here; (with_reducible show wpAny _ _ (call (Value.type "TypeError") [_]) _ _ _); k_dflt (refine' Mine.exc_made excClass_TypeError ?k1 ?k2 ?_; (case k1 => k_asm); (case k2 => k_asm); k_whole; intro h' e' o' x' n' F' N'; (try k_sweep))) | (k_here; (with_reducible show wpAny _ _ (call (Value.type "ValueError") [_]) _ _ _); k_dflt (refine' Mine.exc_made excClass_ValueError ?k1 ?k2 ?_; (case k1 => k_asm); (case k2 => k_asm); k_whole; intro h' e' o' x' n' F' N'; (try k_sweep))) | (k_here; (with_reducible show wpAny _ _ (call (Value.ref _) _) _ _ _); k_dflt (refine wpAny_call ?_; (refine' code_def ?k1 ?k2 ?k3 ?k4 ?k5 ?kA ?kF ?kK ?k6 ?k7 ?k8 ?k9 ?kB ?_ ?c2 ?c3 ?c4 ?c5; (case kA => exact rfl); (case kF => assumption); (case kK => assumption); (case k1 => k_asm); (case k2 => k_asm); (case k3 => k_asm); (case k4 => k_asm); (case k5 => k_asm); (case k6 => k_is); (case k7 => k_is); (case k8 => ktr_room); (case k9 => first | exact BindsTo.of_eq rfl | exact binds_K (by k_in) rfl (by k_is) rfl rfl rfl); (case c5 => decide); (case kB => exact locs rfl); (case c2 => exact rfl); (case c3 => exact rfl); (case c4 => exact rfl); k_whole; intro g' L' h' FG' F' N' B' X' T'; (try dsimp only); (try k_lift B'); (try k_fold)))) | (k_here; (with_reducible show if (_ == _) = true then _ else _); k_dflt (first | (refine' Mine.ieq_no ?k1 ?_; (case k1 => omega)) | (refine' Mine.ieq_yes ?k1 ?_; (case k1 => omega)))) | ((with_reducible show Raisable _ _ _); first | k_dflt (refine' Mine.raise_made excClass_ValueError ?k1 ?k2 ?k3 ?k4 ?_; (case k1 => assumption); (case k2 => k_asm); (case k3 => k_asm); (case k4 => assumption); k_whole; intro h' x' F' N') | k_dflt (refine' Mine.raise_made excClass_TypeError ?k1 ?k2 ?k3 ?k4 ?_; (case k1 => assumption); (case k2 => k_asm); (case k3 => k_asm); (case k4 => assumption); k_whole; intro h' x' F' N')) | (k_unfold; (try dsimp only)) | (k_end; wrow_close) | walk1 | dsimp only | (leave1; (try dsimp only)))
  all_goals first
    | (refine' hret _ [] _ _ ?r1 ?r2 ⟨rfl, _, rfl⟩; (case r1 => k_asm); (case r2 => first | k_asm | exact news_drop1 (by k_asm)))
end
end Mine
end
-- M3
section
open PySem PySem.W PyProof.Rows PySem.Calls PySem.Spec
namespace Mine
/-- the signs of n written with the base b -/
def codes (b n : Nat) : List Nat := (Nat.toDigits b n).map Char.toNat
def digS (b n : Nat) : Str := ⟨(codes b n).toArray⟩
theorem codes_lt {b n : Nat} (h : n < b) : codes b n = [(Nat.digitChar n).toNat] := by
  unfold codes
  rw [Nat.toDigits_of_lt_base h]
  rfl
theorem codes_ge {b n : Nat} (hb : 1 < b) (h : b ≤ n) : codes b n = codes b (n / b) ++ [(Nat.digitChar (n % b)).toNat] := by
  unfold codes
  rw [Nat.toDigits_of_base_le hb h]
  simp
def DigOn (b N : Nat) : Prop := (b = 10 ∨ b = 16) ∧ N < 10 ^ 30
theorem fm_nat {n b : Nat} : (n : Int).fmod (b : Int) = ((n % b : Nat) : Int) := by rw [Int.fmod_eq_emod_of_nonneg _ (Int.natCast_nonneg b)]; rfl
theorem fd_nat {n b : Nat} : (n : Int).fdiv (b : Int) = ((n / b : Nat) : Int) := by rw [Int.fdiv_eq_ediv_of_nonneg _ (Int.natCast_nonneg b)]; rfl
theorem digs_len : (Str.ofString "0123456789abcdef").length = 16 := by decide
theorem dig_lt {b N n : Nat} (h : DigOn b N) : n % b < 16 := by
  rcases h.1 with rfl | rfl
  · have := Nat.mod_lt n (show 10 > 0 by omega); omega
  · exact Nat.mod_lt n (by omega)
theorem dig_fit {b N n : Nat} (h : DigOn b N) : fitsSsize ((n : Int).fmod b) = true := by
  rw [fm_nat]
  have := dig_lt (n := n) h
  exact fitsSsize_of (N := 9223372036854775808) (by omega) (by omega) (Int.le_refl _)
theorem dig_lo {b N n : Nat} (h : DigOn b N) : -((Str.ofString "0123456789abcdef").length : Int) ≤ (n : Int).fmod b := by
  rw [fm_nat]; omega
theorem dig_hi {b N n : Nat} (h : DigOn b N) : (n : Int).fmod b < (Str.ofString "0123456789abcdef").length := by
  rw [fm_nat, digs_len]
  have := dig_lt (n := n) h
  omega
theorem item_dig' : ∀ d, d < 16 → Txt.item (Str.ofString "0123456789abcdef") ((d : Nat) : Int) = ⟨#[(Nat.digitChar d).toNat]⟩ := by decide +kernel
theorem item_dig {b N n : Nat} (h : DigOn b N) : Txt.item (Str.ofString "0123456789abcdef") ((n : Int).fmod b) = ⟨#[(Nat.digitChar (n % b)).toNat]⟩ := by
  rw [fm_nat]; exact item_dig' _ (dig_lt h)
def DigF (b N n k : Nat) (sg : Str) : Prop := sg.length ≤ 31 ∧ n * 10 ^ sg.length ≤ N ∧
  ((sg.length = 0 ∧ n = N ∧ k = n + 1) ∨ (1 ≤ sg.length ∧ codes b N = (if n = 0 then [] else codes b n) ++ sg.cps.toList ∧ k = n))
def DigJ {b N : Nat} (_ : DigOn b N) (news : List (Addr × Obj)) (k : Nat) (m : Str → Option Value) (news' : List (Addr × Obj)) : Prop := ∃ (n : Nat) (sg : Str) (tn ts tb : Tok), news' = news ∧ DigF b N n k sg ∧
  m = fun y => if y = Str.ofString "number" then some (.int n tn) else if y = Str.ofString "signs" then some (.str sg ts) else if y = Str.ofString "base" then some (.int b tb) else none
theorem codes_cut {b n : Nat} (hb : 1 < b) : codes b n = (if n / b = 0 then [] else codes b (n / b)) ++ [(Nat.digitChar (n % b)).toNat] := by
  by_cases h : n < b
  · rw [if_pos (Nat.div_eq_of_lt h), Nat.mod_eq_of_lt h, codes_lt h]; rfl
  · rw [if_neg, codes_ge hb (by omega)]
    have := Nat.div_pos (show b ≤ n by omega) (by omega)
    omega
theorem dig_step {b N n k : Nat} {sg : Str} (h : DigOn b N) (hF : DigF b N n k sg) (ht : (0 : Int) < n ∨ sg.length = 0) : n / b < k ∧ DigF b N (n / b) (n / b) (Txt.item (Str.ofString "0123456789abcdef") ((n : Int).fmod b) ++ sg) := by
  obtain ⟨h1, h2, h3⟩ := hF
  have hb : 10 ≤ b := by rcases h.1 with e | e <;> omega
  have hN := h.2
  have hd : n / b * 10 ≤ n := Nat.le_trans (Nat.mul_le_mul_left _ hb) (Nat.div_mul_le_self n b)
  have hle : n / b ≤ n := Nat.div_le_self n b
  have hlt : 0 < n → n / b < n := fun q => Nat.div_lt_self q (by omega)
  rw [item_dig h]
  have hlen : ((⟨#[(Nat.digitChar (n % b)).toNat]⟩ : Str) ++ sg).length = sg.length + 1 := by
    rw [Str.length_append]
    show 1 + sg.length = _
    omega
  have hcps : ((⟨#[(Nat.digitChar (n % b)).toNat]⟩ : Str) ++ sg).cps.toList = (Nat.digitChar (n % b)).toNat :: sg.cps.toList := by
    rw [Str.cps_append]
    simp
  have hl : sg.length ≤ 30 := by
    rcases Nat.lt_or_ge sg.length 31 with q | q
    · omega
    · exfalso
      have hs : sg.length = 31 := by omega
      rw [hs] at h2
      rcases ht with ht | ht
      · have : 1 * 10 ^ 31 ≤ n * 10 ^ 31 := Nat.mul_le_mul_right _ (by omega)
        have : (10 : Nat) ^ 30 < 10 ^ 31 := by decide
        omega
      · omega
  refine ⟨?_, by rw [hlen]; omega, ?_, .inr ⟨by rw [hlen]; omega, ?_, rfl⟩⟩
  · rcases h3 with ⟨_, _, e⟩ | ⟨e0, _, e⟩
    · omega
    · rcases ht with ht | ht
      · have := hlt (by omega); omega
      · omega
  · rw [hlen, Nat.pow_succ, Nat.mul_comm (10 ^ sg.length) 10, ← Nat.mul_assoc]
    exact Nat.le_trans (Nat.mul_le_mul_right _ hd) h2
  · rw [hcps]
    rcases h3 with ⟨e0, e1, _⟩ | ⟨e0, e1, _⟩
    · have : sg.cps.toList = [] := List.eq_nil_of_length_eq_zero (by simpa [Str.length] using e0)
      rw [this, ← e1]
      exact codes_cut (by omega)
    · have hn : n ≠ 0 := by
        rcases ht with ht | ht
        · omega
        · omega
      rw [e1, if_neg hn, codes_cut (b := b) (n := n) (by omega)]
      simp
theorem dig_end {b N n k : Nat} {sg : Str} (hF : DigF b N n k sg) (h0 : ¬ (0 : Int) < n) (hs : (sg == Str.ofString "") = false) : sg = digS b N := by
  have hp := mr_pos hs
  obtain ⟨_, _, h3⟩ := hF
  rcases h3 with ⟨e0, _⟩ | ⟨_, e1, _⟩
  · omega
  · rw [if_pos (by omega), List.nil_append] at e1
    unfold digS
    rw [e1]
theorem dig_start {b N : Nat} (h : DigOn b N) {news : List (Addr × Obj)} {m : Str → Option Value} {ts t1 t2 : Tok} (hm : m = fun y => if y = Str.ofString "signs" then some (.str (Str.ofString "") ts) else List.lookup y [(Str.ofString "base", .int b t2), (Str.ofString "number", .int N t1)]) : DigJ h news (N + 1) m news := by
  refine ⟨N, Str.ofString "", t1, ts, t2, rfl, ⟨by decide, by rw [show (Str.ofString "").length = 0 by decide]; omega, .inl ⟨by decide, rfl, rfl⟩⟩, ?_⟩
  subst hm
  funext y
  by_cases h1 : y = Str.ofString "number"
  · subst h1; rfl
  by_cases h2 : y = Str.ofString "signs"
  · subst h2; rfl
  by_cases h3 : y = Str.ofString "base"
  · subst h3; rfl
  simp only [h1, h2, h3, if_false, List.lookup]
  rw [show (y == Str.ofString "base") = false by simpa using h3, show (y == Str.ofString "number") = false by simpa using h1]
section
set_option maxRecDepth 100000 in
set_option maxHeartbeats 2000000 in
theorem digits_call {w : World} {b N : Nat} {t1 t2 : Tok} {news : List (Addr × Obj)} (hN : DigOn b N) : Asks w 142 [.int (N : Int) t1, .int (b : Int) t2] news (fun r n => n = [] ∧ ∃ t, r = .str (digS b N) t) := by
  intro p loose mean mg mb A₀ dp un gd h₀ L m s env Q E B F X N0 T hf hk hd hu hret
  refine wpAny_call ?_
  k_dflt (refine' code_top ?k1 ?k2 ?k3 ?k4 ?k5 ?kA ?kf ?kk ?k6 ?k7 ?k8 ?k9 ?kB ?_ ?c2 ?c3 ?c4 ?c5; (case kA => exact rfl); (case kf => assumption); (case kk => assumption); (case k1 => k_asm); (case k2 => k_asm); (case k3 => k_asm); (case k4 => k_asm); (case k5 => k_asm); (case k6 => k_is); (case k7 => k_is); (case k8 => ktr_room); (case k9 => first | exact BindsTo.of_eq rfl | exact binds_K (by k_in) rfl (by k_is) rfl rfl rfl); (case c5 => decide); (case kB => exact locs rfl); (case c2 => exact rfl); (case c3 => exact rfl); (case c4 => exact rfl); k_whole; intro g' L' h' FG' F' N' B' X' T' D'; (try dsimp only); (try k_lift B'); (try k_fold))
  repeat' ((fail_if_success (with_reducible show wpAny _ _ (exec (Stmt.While _ _ _ _) _) _ _ _)); first | (k_here; (with_reducible show wpAny _ _ (exec (Stmt.Raise (some (Expr.Call (Expr.Name _ _) _ [] _)) none _) _) _ _ _); k_dflt refine Raise_new rfl ?_) | (k_here; (with_reducible show wpAny _ _ (call (Value.builtin "len") [Value.ref _]) _ _ _); k_dflt (refine' Mine.len_vs ?k1 ?k2 ?k3 ?_; (case k1 => k_asm); (case k2 => k_mem); (case k3 => first | assumption | omega)); intro _ _) | (k_here; (with_reducible show wpAny _ _ (truthy (Value.str _ _)) _ _ _); k_dflt (first | (refine' Mine.truthy_yes ?k1 ?k2 ?_; (case k1 => omega); (case k2 => omega)) | (refine' Mine.truthy_text ?k1 ?_ ?_; (case k1 => omega); all_goals intro _))) | (k_here; (with_reducible show wpAny _ _ (call (Value.builtin "str.split") [_, _]) _ _ _); k_dflt (refine' Mine.split_ways ?k1 ?k2 ?k3 ?k4 ?_ ?_ ?_ ?_; (case k1 => k_asm); (case k2 => k_asm); (case k3 => omega); (case k4 => omega)); all_goals (intros; (try k_sweep))) | (k_here; (with_reducible show wpAny _ _ (call (Value.type "TypeError") [_]) _ _ _); k_dflt (refine' Mine.exc_made excClass_TypeError ?k1 ?k2 ?_; (case k1 => k_asm); (case k2 => k_asm); k_whole; intro h' e' o' x' n' F' N'; (try k_sweep))) | (k_here; (with_reducible show wpAny _ _ (call (Value.type "ValueError") [_]) _ _ _); k_dflt (refine' Mine.exc_made excClass_ValueError ?k1 ?k2 ?_; (case k1 => k_asm); (case k2 => k_asm); k_whole; intro h' e' o' x' n' F' N'; (try k_sweep))) | (k_here; (with_reducible show wpAny _ _ (call (Value.ref _) _) _ _ _); k_dflt (refine wpAny_call ?_; (refine' code_top ?k1 ?k2 ?k3 ?k4 ?k5 ?kA ?kf ?kk ?k6 ?k7 ?k8 ?k9 ?kB ?_ ?c2 ?c3 ?c4 ?c5; (case kA => exact rfl); (case kf => assumption); (case kk => assumption); (case k1 => k_asm); (case k2 => k_asm); (case k3 => k_asm); (case k4 => k_asm); (case k5 => k_asm); (case k6 => k_is); (case k7 => k_is); (case k8 => ktr_room); (case k9 => first | exact BindsTo.of_eq rfl | exact binds_K (by k_in) rfl (by k_is) rfl rfl rfl); (case c5 => decide); (case kB => exact locs rfl); (case c2 => exact rfl); (case c3 => exact rfl); (case c4 => exact rfl); k_whole; intro g' L' h' FG' F' N' B' X' T' D'; (try dsimp only); (try k_lift B'); (try k_fold)))) | (k_here; (with_reducible show wpAny _ _ (subscriptTail _ _ (Value.str _ _) (Value.int (Int.fmod _ _) _)) _ _ _); k_dflt ((rename DigOn _ _ => hN); refine' item_str (dig_fit hN) (dig_lo hN) (dig_hi hN) ?_; intro _)) | (k_here; (with_reducible show if (_ == _) = true then _ else _); k_dflt (first | (refine' Mine.ieq_no ?k1 ?_; (case k1 => omega)) | (refine' Mine.ieq_yes ?k1 ?_; (case k1 => omega)))) | ((with_reducible show Raisable _ _ _); first | k_dflt (refine' Mine.raise_made excClass_ValueError ?k1 ?k2 ?k3 ?k4 ?_; (case k1 => assumption); (case k2 => k_asm); (case k3 => k_asm); (case k4 => assumption); k_whole; intro h' x' F' N') | k_dflt (refine' Mine.raise_made excClass_TypeError ?k1 ?k2 ?k3 ?k4 ?_; (case k1 => assumption); (case k2 => k_asm); (case k3 => k_asm); (case k4 => assumption); k_whole; intro h' x' F' N')) | (k_unfold; (try dsimp only)) | (k_end; wrow_close) | walk1 | dsimp only | (leave1; (try dsimp only)))
  rename Fr _ _ _ _ => F'
  rename News _ _ _ _ => N'
  refine' While_inv (DigJ hN news) (n₀ := N + 1) F' N' ?q1 ?q2
  case q1 =>
    refine' dig_start hN ?qm
    case qm => with_unfolding_all rfl
  case q2 =>
    intro k m₁ n₁ h₁ tk₁ F' N' hJ
    obtain ⟨n, sg, tn, ts, tb, hn1, hF, hm⟩ := hJ
    subst hm hn1
    have hb := hN.1
    have hl : sg.length ≤ 31 := hF.1
    repeat' (first | (k_here; (with_reducible show wpAny _ _ (exec (Stmt.Raise (some (Expr.Call (Expr.Name _ _) _ [] _)) none _) _) _ _ _); k_dflt refine Raise_new rfl ?_) | (k_here; (with_reducible show wpAny _ _ (call (Value.builtin "len") [Value.ref _]) _ _ _); k_dflt (refine' Mine.len_vs ?k1 ?k2 ?k3 ?_; (case k1 => k_asm); (case k2 => k_mem); (case k3 => first | assumption | omega)); intro _ _) | (k_here; (with_reducible show wpAny _ _ (truthy (Value.str _ _)) _ _ _); k_dflt (first | (refine' Mine.truthy_yes ?k1 ?k2 ?_; (case k1 => omega); (case k2 => omega)) | (refine' Mine.truthy_text ?k1 ?_ ?_; (case k1 => omega); all_goals intro _))) | (k_here; (with_reducible show wpAny _ _ (call (Value.builtin "str.split") [_, _]) _ _ _); k_dflt (refine' Mine.split_ways ?k1 ?k2 ?k3 ?k4 ?_ ?_ ?_ ?_; (case k1 => k_asm); (case k2 => k_asm); (case k3 => omega); (case k4 => omega)); all_goals (intros; (try k_sweep))) | (k_here; (with_reducible show wpAny _ _ (call (Value.type "TypeError") [_]) _ _ _); k_dflt (refine' Mine.exc_made excClass_TypeError ?k1 ?k2 ?_; (case k1 => k_asm); (case k2 => k_asm); k_whole; intro h' e' o' x' n' F' N'; (try k_sweep))) | (k_here; (with_reducible show wpAny _ _ (call (Value.type "ValueError") [_]) _ _ _); k_dflt (refine' Mine.exc_made excClass_ValueError ?k1 ?k2 ?_; (case k1 => k_asm); (case k2 => k_asm); k_whole; intro h' e' o' x' n' F' N'; (try k_sweep))) | (k_here; (with_reducible show wpAny _ _ (call (Value.ref _) _) _ _ _); k_dflt (refine wpAny_call ?_; (refine' code_top ?k1 ?k2 ?k3 ?k4 ?k5 ?kA ?kf ?kk ?k6 ?k7 ?k8 ?k9 ?kB ?_ ?c2 ?c3 ?c4 ?c5; (case kA => exact rfl); (case kf => assumption); (case kk => assumption); (case k1 => k_asm); (case k2 => k_asm); (case k3 => k_asm); (case k4 => k_asm); (case k5 => k_asm); (case k6 => k_is); (case k7 => k_is); (case k8 => ktr_room); (case k9 => first | exact BindsTo.of_eq rfl | exact binds_K (by k_in) rfl (by k_is) rfl rfl rfl); (case c5 => decide); (case kB => exact locs rfl); (case c2 => exact rfl); (case c3 => exact rfl); (case c4 => exact rfl); k_whole; intro g' L' h' FG' F' N' B' X' T' D'; (try dsimp only); (try k_lift B'); (try k_fold)))) | (k_here; (with_reducible show wpAny _ _ (subscriptTail _ _ (Value.str _ _) (Value.int (Int.fmod _ _) _)) _ _ _); k_dflt ((rename DigOn _ _ => hN); refine' item_str (dig_fit hN) (dig_lo hN) (dig_hi hN) ?_; intro _)) | (k_here; (with_reducible show if (_ == _) = true then _ else _); k_dflt (first | (refine' Mine.ieq_no ?k1 ?_; (case k1 => omega)) | (refine' Mine.ieq_yes ?k1 ?_; (case k1 => omega)))) | ((with_reducible show Raisable _ _ _); first | k_dflt (refine' Mine.raise_made excClass_ValueError ?k1 ?k2 ?k3 ?k4 ?_; (case k1 => assumption); (case k2 => k_asm); (case k3 => k_asm); (case k4 => assumption); k_whole; intro h' x' F' N') | k_dflt (refine' Mine.raise_made excClass_TypeError ?k1 ?k2 ?k3 ?k4 ?_; (case k1 => assumption); (case k2 => k_asm); (case k3 => k_asm); (case k4 => assumption); k_whole; intro h' x' F' N')) | (k_unfold; (try dsimp only)) | (k_end; wrow_close) | walk1 | dsimp only | (leave1; (try dsimp only)))
    all_goals (rename DigOn _ _ => hN)
    all_goals first
      | (refine' hret _ [] _ _ ?r1 ?r2 ⟨rfl, _, congrArg (fun z => Value.str z _) (dig_end hF (by assumption) (by assumption))⟩; (case r1 => k_asm); (case r2 => k_asm))
      | (refine' WhileStep.intro ?r1 ?r2 (dig_step hN hF (.inl (by assumption))).1 ⟨_, _, _, _, _, rfl, (dig_step hN hF (.inl (by assumption))).2, ?r3⟩; (case r1 => k_asm); (case r2 => k_asm); (case r3 => (funext y; (rw [fd_nat]); by_cases h1 : y = Str.ofString "number"; (· subst h1; rfl); by_cases h2 : y = Str.ofString "signs"; (· subst h2; rfl); simp only [h1, h2, if_false]; try rfl)))
      | (refine' WhileStep.intro ?r1 ?r2 (dig_step hN hF (.inr (mr_nil (by assumption)))).1 ⟨_, _, _, _, _, rfl, (dig_step hN hF (.inr (mr_nil (by assumption)))).2, ?r3⟩; (case r1 => k_asm); (case r2 => k_asm); (case r3 => (funext y; (rw [fd_nat]); by_cases h1 : y = Str.ofString "number"; (· subst h1; rfl); by_cases h2 : y = Str.ofString "signs"; (· subst h2; rfl); simp only [h1, h2, if_false]; try rfl)))
end
end Mine
end
-- P1
section
open PySem PySem.W PyProof.Rows PySem.Calls PySem.Spec
open PySem.Builtin PySem.Builtin.Str PySem.StrLaws
namespace Mine
abbrev lst (x : PySem.Str) : List Nat := x.cps.toList
theorem lst_length (x : PySem.Str) : (lst x).length = x.length := by simp [PySem.Str.length]
theorem lst_app (a b : PySem.Str) : lst (a ++ b) = lst a ++ lst b := by simp [lst, PySem.Str.cps_append]
theorem lst_inj {a b : PySem.Str} (h : lst a = lst b) : a = b := by
  have : a.cps = b.cps := by rw [← Array.toList_inj]; exact h
  cases a; cases b
  simp only at this
  rw [this]
theorem at_iff {x y : PySem.Str} {i : Nat} : At x y x.length i ↔ i + y.length ≤ x.length ∧ ((lst x).drop i).take y.length = lst y := by
  unfold At
  rw [subAt_eq]
  simp only [beq_iff_eq]
theorem at_sign {x y : PySem.Str} {i c : Nat} {yr : List Nat} (hy : lst y = c :: yr) (h : At x y x.length i) : ((lst x).drop i).head? = some c := by
  have h2 := (at_iff.mp h).2
  have : (((lst x).drop i).take y.length).head? = some c := by rw [h2, hy]; rfl
  cases e : (lst x).drop i with
  | nil => rw [e] at this; simp at this
  | cons d r =>
    rw [e] at this
    have hl : y.length = yr.length + 1 := by rw [← lst_length, hy]; rfl
    rw [hl] at this
    simpa using this
theorem parts_join {x y : PySem.Str} {c : Nat} {yr : List Nat} (hy : lst y = c :: yr) : ∀ (l : List PySem.Str) (a : Nat) (cuts : List Nat) (f : Nat), l ≠ [] → (∀ p ∈ l, c ∉ lst p) → (lst x).drop a = lst (PySem.Str.join y l) → a ≤ x.length →
    ChainG x y x.length a cuts f → (∀ k, f ≤ k → ¬ At x y x.length k) → partsFrom x y.length a cuts = l := by
  intro l
  induction l with
  | nil => intro a cuts f h; exact absurd rfl h
  | cons p r ih =>
    intro a cuts f _ hfree hx ha hG hn
    have nope : ∀ (i : Nat) (tl : List Nat), a ≤ i → i < a + p.length → (lst x).drop a = lst p ++ tl → At x y x.length i → False := by
      intro i tl h1 h2 h3 hA
      have h4 := at_sign hy hA
      have h5 : (lst x).drop i = (lst p).drop (i - a) ++ tl := by
        have : (lst x).drop i = ((lst x).drop a).drop (i - a) := by rw [List.drop_drop]; congr 1; omega
        rw [this, h3, List.drop_append_of_le_length (by rw [lst_length]; omega)]
      have hlt : i - a < (lst p).length := by rw [lst_length]; omega
      rw [h5, List.drop_eq_getElem_cons hlt] at h4
      have : (lst p)[i - a] = c := by simpa using h4
      exact hfree p (.head _) (this ▸ List.getElem_mem _)
    cases r with
    | nil =>
      have hj : PySem.Str.join y [p] = p := rfl
      rw [hj] at hx
      have hlen : x.length = a + p.length := by
        have := congrArg List.length hx
        rw [List.length_drop, lst_length, lst_length] at this
        omega
      cases cuts with
      | nil =>
        have e : f = a := hG
        show [strSub x a x.length] = [p]
        congr 1
        apply lst_inj
        show (strSub x a x.length).cps.toList = _
        rw [strSub_toList]
        have : (lst x).drop a = lst p := hx
        show ((lst x).drop a).take _ = _
        rw [this]
        exact List.take_of_length_le (by rw [lst_length]; omega)
      | cons i cs =>
        exfalso
        obtain ⟨h1, h2, h3, h4⟩ := hG
        have h5 := (at_iff.mp h2).1
        have h6 : 1 ≤ y.length := by rw [← lst_length, hy]; simp
        exact nope i [] h1 (by omega) (by rw [hx]; simp) h2
    | cons q r =>
      have hj : PySem.Str.join y (p :: q :: r) = p ++ y ++ PySem.Str.join y (q :: r) := rfl
      rw [hj, lst_app, lst_app, List.append_assoc] at hx
      have hlen : x.length = a + p.length + y.length + (PySem.Str.join y (q :: r)).length := by
        have := congrArg List.length hx
        rw [List.length_drop, List.length_append, List.length_append, lst_length, lst_length, lst_length, lst_length] at this
        omega
      have hd : (lst x).drop (a + p.length) = lst y ++ lst (PySem.Str.join y (q :: r)) := by
        rw [← List.drop_drop, hx, List.drop_append_of_le_length (by rw [lst_length]; omega), List.drop_eq_nil_of_le (by rw [lst_length]; omega)]
        rfl
      have hAt : At x y x.length (a + p.length) := by
        rw [at_iff]
        refine ⟨by omega, ?_⟩
        rw [hd, List.take_append_of_le_length (by rw [lst_length]; omega)]
        exact List.take_of_length_le (by rw [lst_length]; omega)
      cases cuts with
      | nil =>
        exfalso
        have e : f = a := hG
        exact hn (a + p.length) (by omega) hAt
      | cons i cs =>
        obtain ⟨h1, h2, h3, h4⟩ := hG
        have hi : i = a + p.length := by
          rcases Nat.lt_trichotomy i (a + p.length) with h | h | h
          · exact absurd h2 (fun h2 => nope i _ h1 h hx h2)
          · exact h
          · exact absurd hAt (h3 _ (by omega) h)
        subst hi
        show strSub x a (a + p.length) :: partsFrom x y.length (a + p.length + y.length) cs = p :: q :: r
        congr 1
        · apply lst_inj
          show (strSub x a (a + p.length)).cps.toList = _
          rw [strSub_toList]
          show ((lst x).drop a).take _ = _
          rw [hx, show a + p.length - a = p.length by omega, List.take_append_of_le_length (by rw [lst_length]; omega)]
          exact List.take_of_length_le (by rw [lst_length]; omega)
        · refine ih _ cs f (by simp) (fun p' hp' => hfree p' (.tail _ hp')) ?_ (by omega) h4 hn
          rw [← List.drop_drop, hd, List.drop_append_of_le_length (by rw [lst_length]; omega), List.drop_eq_nil_of_le (by rw [lst_length]; omega)]
          rfl
theorem split_join' {y : PySem.Str} {c : Nat} {yr : List Nat} (hy : lst y = c :: yr) (l : List PySem.Str) (hl : l ≠ []) (hfree : ∀ p ∈ l, c ∉ lst p) (hk : ¬ strKind (PySem.Str.join y l) < strKind y) : Txt.split (PySem.Str.join y l) y = l := by
  generalize hx : PySem.Str.join y l = x at hk
  have h6 : 1 ≤ y.length := by rw [← lst_length, hy]; simp
  obtain ⟨f, hG, hn⟩ := occ_tight x y h6
  have key := parts_join hy l 0 _ f hl hfree (by rw [List.drop_zero, hx]) (Nat.zero_le _) hG hn
  unfold Txt.split
  split
  · rename_i h
    rw [Bool.or_eq_true, decide_eq_true_eq, decide_eq_true_eq] at h
    rcases h with h | h
    · match l, hl, hx with
      | [p], _, hx => rw [show p = x from hx]
      | p :: q :: r, _, hx =>
        exfalso
        have hj : PySem.Str.join y (p :: q :: r) = p ++ y ++ PySem.Str.join y (q :: r) := rfl
        rw [hj] at hx
        have := congrArg PySem.Str.length hx
        rw [PySem.Str.length_append, PySem.Str.length_append] at this
        omega
    · exact absurd h hk
  · split
    · rename_i h
      have e0 : occurrences x y 0 x.length (x.length + 1) = [] := List.isEmpty_iff.mp h
      rw [e0] at key
      rw [← key]
      show [x] = [strSub x 0 x.length]
      rw [sub_whole]
    · rw [partsBetween_eq]
      exact key
end Mine
end
-- P2
section
open PySem PySem.W PyProof.Rows PySem.Calls PySem.Spec
open PySem.Builtin PySem.Builtin.Str PySem.StrLaws
namespace Mine
theorem kind_ge (x : PySem.Str) : 1 ≤ PySem.Builtin.Str.strKind x := by
  unfold PySem.Builtin.Str.strKind
  split
  · omega
  · split <;> omega
theorem kind_one {y : PySem.Str} (h : Ascii y) : PySem.Builtin.Str.strKind y = 1 := by
  unfold PySem.Builtin.Str.strKind
  rw [if_pos]
  rw [Array.all_eq_true]
  intro i hi
  have := h _ (show y.cps[i] ∈ y.cps.toList by simp)
  simp
  omega
theorem start_app (fr z : PySem.Str) : Txt.startswith (fr ++ z) fr = true := by
  unfold Txt.startswith
  rw [subAt_eq]
  have h1 : (fr ++ z).cps.toList = fr.cps.toList ++ z.cps.toList := lst_app fr z
  rw [h1, List.drop_zero, List.take_append_of_le_length (by simp [PySem.Str.length]), List.take_of_length_le (by simp [PySem.Str.length])]
  simp [PySem.Str.length_append]
theorem idx_none {a n : Nat} (h : a ≤ n) : strSliceIndices (some (a : Int)) none 1 n = (List.range (n - a)).map (fun k => a + k) := by
  rw [← strSliceIndices_plain h (Nat.le_refl n)]
  have h2 : ¬ ((n : Int) < 0) := by omega
  have e2 : max (0 : Int) (min (n : Int) (n : Int)) = n := by omega
  simp only [strSliceIndices, h2, if_false, e2, show ((1 : Int) > 0) = True from by simp, if_true]
theorem slice_lst {x : PySem.Str} {a : Nat} (h : a ≤ x.length) : lst (Txt.slice x (some (a : Int)) none) = (lst x).drop a := by
  unfold Txt.slice
  rw [idx_none h]
  split
  · rename_i e
    have : a = 0 := by
      simp at e
      omega
    rw [this]; rfl
  · have hp := picks (lst x) (x.length - a) a (by rw [lst_length]; omega)
    have e2 : ((lst x).drop a).take (x.length - a) = (lst x).drop a := List.take_of_length_le (by rw [List.length_drop, lst_length]; omega)
    rw [e2] at hp
    show (((List.range (x.length - a)).map fun k => a + k).filterMap (x.cps[·]?)).toArray.toList = _
    rw [List.toList_toArray]
    simpa [lst] using hp
theorem slice_app (fr z : PySem.Str) : Txt.slice (fr ++ z) (some (fr.length : Int)) none = z := by
  apply lst_inj
  rw [slice_lst (by rw [PySem.Str.length_append]; omega), lst_app, List.drop_append_of_le_length (by rw [lst_length]; omega), List.drop_eq_nil_of_le (by rw [lst_length]; omega)]
  rfl
/-- the marks of the law -/
def MarkIs (mk : PySem.Str) : Prop := mk = ⟨#[36]⟩ ∨ mk = ⟨#[58, 58]⟩
theorem okc_mark {c : Nat} (h : okc c = true) : c ≠ 36 ∧ c ≠ 58 := by
  have := okc_cases h
  omega
theorem split_ok {mk : PySem.Str} {l : List PySem.Str} (hm : MarkIs mk) (hl : l ≠ []) (hok : ∀ p ∈ l, OkS p) : Txt.split (PySem.Str.join mk l) mk = l := by
  rcases hm with rfl | rfl
  · refine split_join' (c := 36) (yr := []) rfl l hl (fun p hp hc => (okc_mark (hok p hp _ hc)).1 rfl) ?_
    rw [kind_one (y := ⟨#[36]⟩) (by intro c hc; simp at hc; omega)]
    have := kind_ge (PySem.Str.join ⟨#[36]⟩ l)
    omega
  · refine split_join' (c := 58) (yr := [58]) rfl l hl (fun p hp hc => (okc_mark (hok p hp _ hc)).2 rfl) ?_
    rw [kind_one (y := ⟨#[58, 58]⟩) (by intro c hc; simp at hc; omega)]
    have := kind_ge (PySem.Str.join ⟨#[58, 58]⟩ l)
    omega
def dueTwo : List PySem.Str → Dt
  | [a] => .two a none
  | [a, c] => .two a (optS c)
  | _ => .err sVE
def dueThree (b : Nat) (dflt : Option Int) : List PySem.Str → Dt
  | [r, a] => withRounds (specRounds r b dflt) a none
  | [r, a, c] => withRounds (specRounds r b dflt) a (optS c)
  | _ => .err sVE
section
variable {fr mk : PySem.Str} {l : List PySem.Str} {b : Nat} {dflt : Option Int}
theorem parts_app (hm : MarkIs mk) (hl : l ≠ []) (hok : ∀ p ∈ l, OkS p) : Txt.split (Txt.slice (fr ++ PySem.Str.join mk l) (some (fr.length : Int)) none) mk = l := by
  rw [slice_app, split_ok hm hl hok]
theorem okparts_app (hm : MarkIs mk) (hl : l ≠ []) (hok : ∀ p ∈ l, OkS p) : OkParts (fr ++ PySem.Str.join mk l) fr mk := fun _ p hp => by
  rw [parts_app hm hl hok] at hp
  exact hok p hp
/-- parse_mc2 on front and fields -/
theorem two_app (hm : MarkIs mk) (hl : l ≠ []) (hok : ∀ p ∈ l, OkS p) : specTwo (fr ++ PySem.Str.join mk l) fr mk = dueTwo l := by
  unfold specTwo
  rw [if_pos (start_app _ _), parts_app hm hl hok]
  rfl
/-- parse_mc3 on front and fields -/
theorem three_app (hm : MarkIs mk) (hl : l ≠ []) (hok : ∀ p ∈ l, OkS p) : specThree (fr ++ PySem.Str.join mk l) fr mk b dflt = dueThree b dflt l := by
  unfold specThree
  rw [if_pos (start_app _ _), parts_app hm hl hok]
  rfl
end
end Mine
end
-- P3
section
open PySem PySem.W PyProof.Rows PySem.Calls PySem.Spec
namespace Mine
theorem dc_digit : ∀ d, d < 16 → NumText.digit? (Nat.digitChar d).toNat = some d := by decide +kernel
theorem dc_ok : ∀ d, d < 16 → okc (Nat.digitChar d).toNat = true := by decide +kernel
theorem dc_zero : ∀ d, d < 16 → d ≠ 0 → (Nat.digitChar d).toNat ≠ 48 := by decide +kernel
theorem readNum_cons {b acc c : Nat} {r : List Nat} : readNum b acc (c :: r) = match NumText.digit? c with | some d => if d < b then readNum b (acc * b + d) r else none | none => none := rfl
theorem readNum_app (b : Nat) : ∀ (l m : List Nat) (acc : Nat), readNum b acc (l ++ m) = (readNum b acc l).bind fun a => readNum b a m := by
  intro l
  induction l with
  | nil => intro m acc; rfl
  | cons c r ih =>
    intro m acc
    rw [List.cons_append, readNum_cons, readNum_cons]
    cases NumText.digit? c with
    | none => rfl
    | some d =>
      dsimp only
      by_cases h : d < b
      · rw [if_pos h, if_pos h]; exact ih m _
      · rw [if_neg h, if_neg h]; rfl
theorem base_le {b : Nat} (hb : b = 10 ∨ b = 16) : 10 ≤ b ∧ b ≤ 16 := by omega
theorem codes_ind {b : Nat} (hb : b = 10 ∨ b = 16) {P : Nat → List Nat → Prop} (h1 : ∀ n, n < b → P n [(Nat.digitChar n).toNat]) (h2 : ∀ n l, b ≤ n → P (n / b) l → P n (l ++ [(Nat.digitChar (n % b)).toNat])) : ∀ n, P n (codes b n) := by
  have := base_le hb
  intro n
  induction n using Nat.strongRecOn with
  | ind n ih =>
    by_cases h : n < b
    · rw [codes_lt h]; exact h1 n h
    · rw [codes_ge (by omega) (by omega)]
      exact h2 n _ (by omega) (ih _ (Nat.div_lt_self (by omega) (by omega)))
theorem codes_num {b : Nat} (hb : b = 10 ∨ b = 16) (n : Nat) : readNum b 0 (codes b n) = some n := by
  have hbb := base_le hb
  refine codes_ind (P := fun n l => readNum b 0 l = some n) hb (fun n h => ?_) (fun n l h ih => ?_) n
  · unfold readNum
    rw [dc_digit n (by omega)]
    dsimp only
    rw [if_pos h]
    simp [readNum]
  · rw [readNum_app, ih]
    show readNum b (n / b) [_] = _
    have hm := Nat.mod_lt n (show b > 0 by omega)
    unfold readNum
    rw [dc_digit _ (by omega)]
    dsimp only
    rw [if_pos hm]
    show some (n / b * b + n % b) = some n
    rw [Nat.div_add_mod']
theorem codes_ok {b : Nat} (hb : b = 10 ∨ b = 16) (n : Nat) : ∀ c ∈ codes b n, okc c = true := by
  have hbb := base_le hb
  refine codes_ind (P := fun n l => ∀ c ∈ l, okc c = true) hb (fun n h c hc => ?_) (fun n l h ih c hc => ?_) n
  · rw [List.mem_singleton] at hc; subst hc; exact dc_ok n (by omega)
  · rcases List.mem_append.mp hc with hc | hc
    · exact ih c hc
    · rw [List.mem_singleton] at hc; subst hc
      exact dc_ok _ (by have := Nat.mod_lt n (show b > 0 by omega); omega)
theorem codes_head {b : Nat} (hb : b = 10 ∨ b = 16) (n : Nat) : codes b n ≠ [] ∧ (n ≠ 0 → (codes b n).head? ≠ some 48) := by
  have hbb := base_le hb
  refine codes_ind (P := fun n l => l ≠ [] ∧ (n ≠ 0 → l.head? ≠ some 48)) hb (fun n h => ⟨by simp, fun hn => ?_⟩) (fun n l h ih => ⟨by simp, fun hn => ?_⟩) n
  · simp only [List.head?_cons, ne_eq, Option.some.injEq]
    exact dc_zero n (by omega) hn
  · have hq : n / b ≠ 0 := by have := Nat.div_pos h (by omega); omega
    cases l with
    | nil => exact absurd rfl ih.1
    | cons c r => exact ih.2 hq
theorem codes_len {b : Nat} (hb : b = 10 ∨ b = 16) (n : Nat) : ∀ k, 1 ≤ k → n < 10 ^ k → (codes b n).length ≤ k := by
  have hbb := base_le hb
  refine codes_ind (P := fun n l => ∀ k, 1 ≤ k → n < 10 ^ k → l.length ≤ k) hb (fun n h k hk _ => by simpa using hk) (fun n l h ih k hk hn => ?_) n
  rw [List.length_append, List.length_singleton]
  cases k with
  | zero => omega
  | succ k =>
    have hlt : n / b < 10 ^ k := by
      have h1 : n / b * 10 ≤ n := Nat.le_trans (Nat.mul_le_mul_left _ hbb.1) (Nat.div_mul_le_self n b)
      rw [Nat.pow_succ] at hn
      omega
    have hk1 : 1 ≤ k := by
      rcases Nat.eq_zero_or_pos k with rfl | q
      · exfalso
        have : n / b ≥ 1 := Nat.div_pos h (by omega)
        simp at hlt
        omega
      · exact q
    have := ih k hk1 hlt
    omega
section
variable {b n : Nat}
theorem dig_lst : (digS b n).cps.toList = codes b n := by unfold digS; rfl
theorem dig_length : (digS b n).length = (codes b n).length := by rw [← lst_length]; show (digS b n).cps.toList.length = _; rw [dig_lst]
theorem dig_ok (hb : b = 10 ∨ b = 16) : OkS (digS b n) := fun c hc => codes_ok hb n c (by rw [← dig_lst]; exact hc)
theorem dig_len (hb : b = 10 ∨ b = 16) (hn : n < 10 ^ 30) : (digS b n).length ≤ 30 := by rw [dig_length]; exact codes_len hb n 30 (by omega) hn
theorem dig_pos (hb : b = 10 ∨ b = 16) : 1 ≤ (digS b n).length := by
  rw [dig_length]
  have := (codes_head hb n).1
  cases e : codes b n with
  | nil => exact absurd e this
  | cons c r => simp
theorem dig_num (hb : b = 10 ∨ b = 16) : numOf b (digS b n) = some n := by unfold numOf; rw [dig_lst]; exact codes_num hb n
theorem dig_nozero (hb : b = 10 ∨ b = 16) : ¬ (Txt.startswith (digS b n) s0 = true ∧ digS b n ≠ s0) := by
  have hs : s0 = PySem.Str.mk #[48] := by decide +kernel
  intro ⟨h1, h2⟩
  have hbb := base_le hb
  by_cases h0 : n = 0
  · apply h2
    subst h0
    apply lst_inj
    show (digS b 0).cps.toList = _
    rw [dig_lst, codes_lt (by omega), hs]
    decide
  · have hh := (codes_head hb n).2 h0
    unfold Txt.startswith at h1
    rw [Bool.and_eq_true, StrLaws.subAt_eq, dig_lst, hs] at h1
    have h3 := h1.2
    rw [List.drop_zero] at h3
    cases e : codes b n with
    | nil => rw [e] at h3; simp at h3
    | cons c r =>
      rw [e] at h3 hh
      have : c = 48 := by simpa [PySem.Str.length] using h3
      subst this
      exact hh rfl
theorem dig_rounds (hb : b = 10 ∨ b = 16) {dflt : Option Int} : specRounds (digS b n) b dflt = .int n := sR_ok (dig_pos hb) (dig_nozero hb) (dig_num hb)
theorem hex_dig : hexS (n : Int) = digS 16 n := rfl
theorem str_dig : PySem.Str.ofString (toString (n : Int)) = digS 10 n := by
  have : toString (n : Int) = String.ofList (Nat.toDigits 10 n) := rfl
  rw [this, PySem.W.Fast.ofString_ofList]
  rfl
theorem log_small (hn : n < 10 ^ 30) : (n : Int).natAbs.log2 < 1920 := by
  show n.log2 < 1920
  by_cases h : n = 0
  · subst h; decide
  · rw [Nat.log2_lt h]
    have : (10 : Nat) ^ 30 < 2 ^ 1920 := by decide +kernel
    omega
end
end Mine
end
-- Lib6
section
open PySem PySem.W PyProof.Rows PySem.Calls PySem.Spec PySem.SeqAt
open Sem (wp)
namespace Mine
def optD : Option Str → PyData
  | none => .none
  | some a => .str a
/-- a datum as the model's plain data -/
def dtD : Dt → PyData
  | .err x => .str x
  | .int n => .int n
  | .two a o => .tuple [.str a, optD o]
  | .three n a o => .tuple [.int n, .str a, optD o]
theorem optD_reads {h : Heap} {y : Value} {o : Option Str} (hy : OptIs y o) : ∃ as, Reads h y (optD o) as := by
  cases o with
  | none => exact ⟨[], by rw [show y = .none from hy]; exact .none⟩
  | some a => obtain ⟨t, rfl⟩ := hy; exact ⟨[], .str a t⟩
theorem dt_reads {h₀ h : Heap} {L : Addr} {news : List (Addr × Obj)} {v : Value} {d : Dt} (N : News h₀ L h news) (hd : DtIn news v d) : ∃ as, Reads h v (dtD d) as := by
  cases d with
  | err x => obtain ⟨t, rfl⟩ := hd; exact ⟨[], .str x t⟩
  | int n => obtain ⟨t, rfl⟩ := hd; exact ⟨[], .int n t⟩
  | two a o =>
    obtain ⟨c, t, y, rfl, hm, ho⟩ := hd
    obtain ⟨as, ra⟩ := optD_reads (h := h) ho
    exact ⟨_, .tuple (N _ hm).1 rfl rfl (by rw [List.toList_toArray]; exact .cons (.str a t) (.cons ra .nil))⟩
  | three n a o =>
    obtain ⟨c, u, t, y, rfl, hm, ho⟩ := hd
    obtain ⟨as, ra⟩ := optD_reads (h := h) ho
    exact ⟨_, .tuple (N _ hm).1 rfl rfl (by rw [List.toList_toArray]; exact .cons (.int n u) (.cons (.str a t) (.cons ra .nil)))⟩
/-- the texts of a datum are texts -/
def DtOk : Dt → Prop
  | .err x => PyData.strOk x = true
  | .int _ => True
  | .two a o => PyData.strOk a = true ∧ ∀ c, o = some c → PyData.strOk c = true
  | .three _ a o => PyData.strOk a = true ∧ ∀ c, o = some c → PyData.strOk c = true
theorem dt_shaped {d : Dt} (h : DtOk d) : shaped (dtD d) = true := by
  cases d with
  | err x => simpa [DtOk, shaped, dtD, PyData.canLay0, PyData.depth] using h
  | int n => rfl
  | two a o =>
    cases o with
    | none => simpa [DtOk, shaped, dtD, optD, PyData.canLay0, PyData.canLayAll0, PyData.depth, PyData.depthAll] using h.1
    | some c => simpa [DtOk, shaped, dtD, optD, PyData.canLay0, PyData.canLayAll0, PyData.depth, PyData.depthAll] using And.intro h.1 (h.2 c rfl)
  | three n a o =>
    cases o with
    | none => simpa [DtOk, shaped, dtD, optD, PyData.canLay0, PyData.canLayAll0, PyData.depth, PyData.depthAll] using h.1
    | some c => simpa [DtOk, shaped, dtD, optD, PyData.canLay0, PyData.canLayAll0, PyData.depth, PyData.depthAll] using And.intro h.1 (h.2 c rfl)
theorem dt_refl {d : Dt} (h : DtOk d) : PyData.eqv (dtD d) (dtD d) = true := PySem.SeqAt.eqv_refl _ (canLay_of_shaped (dt_shaped h))
section
variable {prog : Program} {w : World} {A : Around} {E : Value → Shared → Prop} {s : Shared} {h₀ : Heap} {L : Addr} {news : List (Addr × Obj)} {v v' : Value} {d : Dt} {Q : Value → Shared → Prop}
theorem ne_dt (N : News h₀ L s.heap news) (h1 : DtIn news v d) (h2 : DtIn news v' d) (hok : DtOk d) (hu : A.units + 64 < cLine) (h : Q (.bool false) s) : wpAny (model prog w) A (compareOp .NotEq v v') Q E s := by
  obtain ⟨_, r1⟩ := dt_reads N h1
  obtain ⟨_, r2⟩ := dt_reads N h2
  refine ne_dataH r1 r2 (dt_shaped hok) (dt_shaped hok) hu ?_
  rw [dt_refl hok]
  exact h
theorem eq_dt (N : News h₀ L s.heap news) (h1 : DtIn news v d) (h2 : DtIn news v' d) (hok : DtOk d) (hu : A.units + 64 < cLine) (h : Q (.bool true) s) : wpAny (model prog w) A (compareOp .Eq v v') Q E s := by
  obtain ⟨_, r1⟩ := dt_reads N h1
  obtain ⟨_, r2⟩ := dt_reads N h2
  refine eq_dataH r1 r2 (dt_shaped hok) (dt_shaped hok) hu ?_
  rw [dt_refl hok]
  exact h
end
theorem wp_execs_app {M : Model} {Γ : PySem.Ctx} {env : Env} {E : Value → Pos → Shared → Prop} {Q1 Q : Flow → Pos → Shared → Prop} {l2 : List Stmt} : ∀ (l1 : List Stmt) (p : Pos) (s : Shared), wp M Γ (execs l1 env) Q1 E p s →
    (∀ f p s, Q1 f p s → match f with | .next => wp M Γ (execs l2 env) Q E p s | f => Q f p s) → wp M Γ (execs (l1 ++ l2) env) Q E p s
  | [], p, s, h, h2 => h2 .next p s h
  | st :: r, p, s, h, h2 => by
    rw [List.cons_append, execs_cons, Sem.wp_bind']
    rw [execs_cons, Sem.wp_bind'] at h
    refine Sem.wp_mono M Γ _ (fun f p' s' h' => ?_) (fun _ _ _ h' => h') _ _ h
    cases f with
    | next => exact wp_execs_app r p' s' h' h2
    | ret v => exact h2 (.ret v) p' s' h'
    | brk => exact h2 .brk p' s' h'
    | cont => exact h2 .cont p' s' h'
section
variable {M : Model} {A : Around} {E : Value → Shared → Prop} {s : Shared} {env : Env} {l : List Stmt} {Q : Flow → Shared → Prop}
theorem wpC_cutC (n : Nat) (R : Shared → Prop) (h1 : wpC M A (execs (l.take n) env) (fun f s' => f = .next ∧ R s') E s) (h2 : ∀ s', R s' → wpC M A (execs (l.drop n) env) Q E s') : wpC M A (execs l env) Q E s := fun Γ p hΓ hc => by
  conv => lhs
  rw [← List.take_append_drop n l]
  refine wp_execs_app _ _ _ (h1 Γ p hΓ hc) fun f p' s' h => ?_
  obtain ⟨rfl, hR⟩ := h
  exact h2 s' hR Γ p' hΓ hc
theorem wpC_cut (n : Nat) (R : Shared → Prop) (h1 : wpAny M A (execs (l.take n) env) (fun f s' => f = .next ∧ R s') E s) (h2 : ∀ s', R s' → wpC M A (execs (l.drop n) env) Q E s') : wpC M A (execs l env) Q E s := wpC_cutC n R (wpC_of_any h1) h2
end
/-- a state of the outermost frame, its names and its ledger as P says -/
def AtS (s : Shared) (h₀ : Heap) (L : Addr) (P : (Str → Option Value) → List (Addr × Obj) → Prop) (s' : Shared) : Prop := ∃ h' tk m news, s' = { s with heap := h', toks := tk } ∧ Fr h₀ L h' m ∧ News h₀ L h' news ∧ P m news
theorem AtS.mk {s : Shared} {h₀ h' : Heap} {L : Addr} {P : (Str → Option Value) → List (Addr × Obj) → Prop} {tk : Nat} {m : Str → Option Value} {news : List (Addr × Obj)} (F : Fr h₀ L h' m) (N : News h₀ L h' news) (hP : P m news) : AtS s h₀ L P { s with heap := h', toks := tk } := ⟨_, _, _, _, rfl, F, N, hP⟩
/-- where a statement that gives x a value ends -/
def CutR (P : Value → Prop) (s : Shared) (h₀ : Heap) (L : Addr) (m : Str → Option Value) (news : List (Addr × Obj)) (x : Str) (s' : Shared) : Prop :=
  ∃ v h' tk, s' = { s with heap := h', toks := tk } ∧ Fr h₀ L h' (fun y => if y = x then some v else m y) ∧ News h₀ L h' news ∧ P v
theorem cut_end {P : Value → Prop} {s : Shared} {h₀ h' : Heap} {L : Addr} {m : Str → Option Value} {news news' : List (Addr × Obj)} {x : Str} {tk : Nat} {v : Value} (F : Fr h₀ L h' (fun y => if y = x then some v else m y)) (N : News h₀ L h' news') (hs : ∀ p ∈ news, p ∈ news') (hP : P v) :
    Flow.next = Flow.next ∧ CutR P s h₀ L m news x { s with heap := h', toks := tk } := ⟨rfl, v, h', tk, rfl, F, fun p hp => N p (hs p hp), hP⟩
section
variable {M : Model} {A : Around} {E : Value → Shared → Prop} {s : Shared} {name : Str} {scope : Scope} {L a : Addr} {cd : Value} {h₀ : Heap} {m : Str → Option Value}
theorem ldL {x : Str} {pos : Pos} {v : Value} {Q : Value → Shared → Prop} (F : Fr h₀ L s.heap m) (hv : m x = some v) (h : Q v s)
    (hk : scope.kind = .function) (hl : (envOfC name scope L a cd).kindOf x = some .local)
    (hd : (x == ("__debug__" : Str)) = false) : wpAny M A (eval (.Name x pos) (envOfC name scope L a cd)) Q E s := wpAny_Name (wpAny_loadName_local hk hl F.ns hv h) hd
end
section
variable {M : Model} {A : Around} {E : Value → Shared → Prop} {s : Shared} {name : Str} {scope : Scope} {L a : Addr} {cd : Value} {h₀ : Heap} {m : Str → Option Value}
theorem ldLn {x : Str} {v : Value} {Q : Value → Shared → Prop} (F : Fr h₀ L s.heap m) (hv : m x = some v) (h : Q v s)
    (hk : scope.kind = .function) (hl : (envOfC name scope L a cd).kindOf x = some .local) : wpAny M A (loadName (envOfC name scope L a cd) x) Q E s := wpAny_loadName_local hk hl F.ns hv h
end
/-- one of the law's fronts -/
def FrontIs (fr : Str) : Prop := fr = Str.ofString "$1$" ∨ fr = Str.ofString "$sha1$" ∨ fr = Str.ofString "" ∨ fr = Str.ofString "_"
def PFront (v : Value) : Prop := ∃ fr t, v = .str fr t ∧ FrontIs fr
def PMark (v : Value) : Prop := ∃ mk t, v = .str mk t ∧ MarkIs mk
def PBase (v : Value) : Prop := ∃ (b : Nat) (t : Tok), v = .int (b : Int) t ∧ (b = 10 ∨ b = 16)
def PDef (v : Value) : Prop := ∃ dflt, DvIs v dflt
theorem pf1 {t : Tok} : PFront (.str (Str.ofString "$1$") t) := ⟨_, _, rfl, .inl rfl⟩
theorem pf2 {t : Tok} : PFront (.str (Str.ofString "$sha1$") t) := ⟨_, _, rfl, .inr (.inl rfl)⟩
theorem pf3 {t : Tok} : PFront (.str (Str.ofString "") t) := ⟨_, _, rfl, .inr (.inr (.inl rfl))⟩
theorem pf4 {t : Tok} : PFront (.str (Str.ofString "_") t) := ⟨_, _, rfl, .inr (.inr (.inr rfl))⟩
theorem pm1 {t : Tok} : PMark (.str (Str.ofString "$") t) := ⟨_, _, rfl, .inl (by decide +kernel)⟩
theorem pm2 {t : Tok} : PMark (.str (Str.ofString "::") t) := ⟨_, _, rfl, .inr (by decide +kernel)⟩
theorem pb1 {t : Tok} : PBase (.int 10 t) := ⟨10, t, rfl, .inl rfl⟩
theorem pb2 {t : Tok} : PBase (.int 16 t) := ⟨16, t, rfl, .inr rfl⟩
theorem pd1 : PDef .none := ⟨none, rfl⟩
theorem pd2 {n : Int} {t : Tok} : PDef (.int n t) := ⟨some n, t, rfl⟩
theorem ints_pair {ys : List Value} {ns : List Int} (h : IntsAre ys ns) (hl : ns.length = 2) : ∃ a b t1 t2, ys = [.int a t1, .int b t2] := by
  match ns, hl with
  | [a, b], _ =>
    obtain ⟨t1, vs1, rfl, h1⟩ := IntsAre.cons_inv h
    obtain ⟨t2, vs2, rfl, h2⟩ := IntsAre.cons_inv h1
    obtain rfl := IntsAre.nil_inv h2
    exact ⟨a, b, t1, t2, rfl⟩
/-- the law's text -/
def lawBody : List Stmt := match PySem.Challenge.pw_iw0004_01.main.body.getLast? with
  | some (.FunctionDef _ _ b _ _ _ _ _ _ _) => b
  | _ => []
def lawScope : Scope := match PySem.Challenge.pw_iw0004_01.main.body.getLast? with
  | some (.FunctionDef _ _ _ _ _ _ sc _ _ _) => sc
  | _ => default
def lawPart (i n : Nat) : List Stmt := (lawBody.drop i).take n
abbrev lawEnv (L fa : Addr) (cd : Value) : Env := envOfC (Str.ofString "law") lawScope L fa cd
theorem lit_C {M : Model} {L fa : Addr} {cd : Value} {Q : Flow → Shared → Prop} {E : Value → Shared → Prop} {s : Shared} {l l' : List Stmt} {sc : Scope} (e1 : l = l') (e2 : lawScope = sc)
    (h : wpC M (callerA.deeper (envOfC (Str.ofString "law") sc L fa cd)) (execs l' (envOfC (Str.ofString "law") sc L fa cd)) Q E s) : wpC M (callerA.deeper (lawEnv L fa cd)) (execs l (lawEnv L fa cd)) Q E s := by
  subst e1 e2
  exact h
theorem lit_A {M : Model} {L fa : Addr} {cd : Value} {Q : Flow → Shared → Prop} {E : Value → Shared → Prop} {s : Shared} {l l' : List Stmt} {sc : Scope} (e1 : l = l') (e2 : lawScope = sc)
    (h : wpAny M (callerA.deeper (envOfC (Str.ofString "law") sc L fa cd)) (execs l' (envOfC (Str.ofString "law") sc L fa cd)) Q E s) : wpAny M (callerA.deeper (lawEnv L fa cd)) (execs l (lawEnv L fa cd)) Q E s := by
  subst e1 e2
  exact h
theorem len_body : lawBody.length = 37 := rfl
/-- m' is m but for the names xs -/
def KeptBut (xs : List Str) (m m' : Str → Option Value) : Prop := ∀ y, y ∉ xs → m' y = m y
theorem KeptBut.refl {xs : List Str} {m : Str → Option Value} : KeptBut xs m m := fun _ _ => rfl
theorem KeptBut.set {xs : List Str} {m m' : Str → Option Value} {x : Str} {u : Option Value} (h : KeptBut xs m m') (hx : x ∈ xs) : KeptBut xs m (fun y => if y = x then u else m' y) := fun y hy => by
  show (if y = x then u else m' y) = m y
  rw [if_neg (fun e => hy (by rw [e]; exact hx))]
  exact h y hy
theorem LookIs.kept {xs : List Str} {m m' : Str → Option Value} {x : Str} {v : Value} (h : LookIs m x v) (k : KeptBut xs m m') (hx : x ∉ xs) : LookIs m' x v := (k x hx).trans h
abbrev namesL : List Str := [Str.ofString "$1$", Str.ofString "$sha1$", Str.ofString "", Str.ofString "_"]
abbrev fieldsL : List Str := [Str.ofString "0", Str.ofString "00", Str.ofString "07", Str.ofString "0a", Str.ofString "", Str.ofString "7", Str.ofString "10", Str.ofString "480000", Str.ofString "ff", Str.ofString "a0"]
theorem pf_in {x : Str} {t : Tok} (h : x ∈ namesL) : PFront (.str x t) := ⟨x, t, rfl, by
  simp only [namesL, List.mem_cons, List.not_mem_nil, or_false] at h
  exact h⟩
/-- a field as the law builds them -/
def FieldIs (x : Str) : Prop := OkS x ∧ x.length ≤ 6
theorem field_in : ∀ x ∈ fieldsL, (x.cps.toList.all okc && decide (x.length ≤ 6)) = true := by decide +kernel
theorem fieldIs_in {x : Str} (h : x ∈ fieldsL) : FieldIs x := by
  have := field_in x h
  rw [Bool.and_eq_true, List.all_eq_true] at this
  exact ⟨this.1, by simpa using this.2⟩
section
variable {prog : Program} {w : World} {A : Around} {E : Value → Shared → Prop} {s : Shared} {h₀ : Heap} {L : Addr} {news : List (Addr × Obj)} {Q : Value → Shared → Prop}
theorem sub_mod {value slice : Expr} {D : Addr} {vs : List Value} {n0 : Nat} {ws : List Str} {a b : Int} {u : Tok} (N : News h₀ L s.heap news) (hm : (D, listOf vs.toArray n0) ∈ news) (hw : StrsAre vs ws) (hb : (ws.length : Int) = b) (h0 : 0 < b) (hfit : b < 2 ^ 63)
    (h : ∀ x t', x ∈ ws → Q (.str x t') s)
    (hs : subscripted slice false (.ref D) (.int (a.fmod b) u) = operate [.ref D, .int (a.fmod b) u] (getItem (.ref D) (.int (a.fmod b) u)) := by with_unfolding_all rfl) :
    wpAny (model prog w) A (subscriptTail value slice (.ref D) (.int (a.fmod b) u)) Q E s := by
  have h1 : 0 ≤ a.fmod b := Int.fmod_nonneg_of_pos _ h0
  have h2 : a.fmod b < b := Int.fmod_lt_of_pos _ h0
  refine KTb.item_list (N.isList hm) hw h1 (by omega) (by omega) (fun t' hlt => ?_) hs
  refine h _ t' ?_
  rw [List.getD_eq_getElem?_getD, List.getElem?_eq_getElem hlt]
  exact List.getElem_mem hlt
end
end Mine
end
-- Lib7
section
open PySem PySem.W PyProof.Rows PySem.Calls PySem.Spec
namespace Mine
/-- where a loop over a made list begins -/
def LoopIn (s : Shared) (h₀ : Heap) (L : Addr) (PV : List Value → Prop) (J : Nat → (Str → Option Value) → List (Addr × Obj) → Prop) (v : Value) (s' : Shared) : Prop :=
  ∃ D n0 vs m news h' tk, v = .ref D ∧ s' = { s with heap := h', toks := tk } ∧ Fr h₀ L h' m ∧ News h₀ L h' ((D, listOf vs.toArray n0) :: news) ∧ (∀ p ∈ news, p.1 ≠ D) ∧ PV vs ∧ J 0 m news
/-- where a turn of it ends -/
def TurnOut (s : Shared) (h₀ : Heap) (L : Addr) (it : Addr) (o : Obj) (D : Addr) (oD : Obj) (J : (Str → Option Value) → List (Addr × Obj) → Prop) (s' : Shared) : Prop :=
  ∃ m news h' tk, s' = { s with heap := h', toks := tk } ∧ Fr h₀ L h' m ∧ News h₀ L h' ((it, o) :: (D, oD) :: news) ∧ (∀ p ∈ news, p.1 ≠ it) ∧ (∀ p ∈ news, p.1 ≠ D) ∧ J m news
section
variable {prog : Program} {w : World} {A : Around} {E : Value → Shared → Prop} {s : Shared} {env : Env}
/-- a for over a made list; the ledger and the frame turn with the loop -/
theorem For_listJ {h₀ : Heap} {x : Str} {pt : Pos} {iter : Expr} {body : List Stmt} {pos : Pos} {Q : Flow → Shared → Prop} (hh : A.handled = none) (PV : List Value → Prop)
    (J : Nat → (Str → Option Value) → List (Addr × Obj) → Prop)
    (hx : env.kindOf x = some .local) (hp : (env.scope.kind == .class || (env.scope.kind == .module && env.locals != env.globals)) = false)
    (hs : ∀ x, foldedSetIterable iter env x = pure x) (ht : ∀ it v, letOwnedTupleGo (.Name x pt) it v = pure ())
    (h : wpAny (model prog w) A (eval iter env) (LoopIn s h₀ env.locals PV J) E s)
    (step : ∀ vs n0 D i v h' tk it o m news E', PV vs → vs[i]? = some v → J i m news → (∀ p ∈ news, p.1 ≠ it) → (∀ p ∈ news, p.1 ≠ D) → D ≠ it → Fr h₀ env.locals h' (fun y => if y = x then some v else m y) → News h₀ env.locals h' ((it, o) :: (D, listOf vs.toArray n0) :: news) →
      wpAny (model prog w) A (execs body env) (fun f s₃ => f = .next ∧ TurnOut s h₀ env.locals it o D (listOf vs.toArray n0) (J (i + 1)) s₃) E' { s with heap := h', toks := tk })
    (done : ∀ vs n0 D h' tk m news, PV vs → J vs.length m news → (∀ p ∈ news, p.1 ≠ D) → Fr h₀ env.locals h' m → News h₀ env.locals h' ((D, listOf vs.toArray n0) :: news) → Q .next { s with heap := h', toks := tk }) :
    wpAny (model prog w) A (exec (.For (.Name x pt) iter body [] pos) env) Q E s := by
  refine wpAny_For (wpAny_mono h (fun v s₁ h₁ => ?_) fun _ _ e => e) hs
  obtain ⟨D, n0, vs, m, news, hp₁, t₁, rfl, rfl, F, N, hap, hPV, hJ⟩ := h₁
  have hl := N.isList (.head _)
  refine wpAny_pyIter_list hl ?_
  have itN : ∀ p ∈ (D, listOf vs.toArray n0) :: news, p.1 ≠ hp₁.objs.size := fun p hp => Nat.ne_of_lt (Heap.lt_size (N p hp).1)
  have it0 : h₀.get? hp₁.objs.size = none := by
    cases q : h₀.get? hp₁.objs.size with
    | none => rfl
    | some o => exact absurd (Heap.lt_size (F.keep _ _ q)) (Nat.lt_irrefl _)
  have itL : hp₁.objs.size ≠ env.locals := by
    obtain ⟨oL, _, _, hL, _⟩ := F.ns
    exact Nat.ne_of_gt (Heap.lt_size hL)
  dsimp only
  generalize hit : hp₁.objs.size = it at *
  have hDit : D ≠ it := itN _ (.head _)
  refine codeAny_forLoop (fun k s' => ∃ h' tk i o m news, s' = { s with heap := h', toks := tk } ∧ k = vs.length - i ∧ i ≤ vs.length ∧ J i m news ∧ h'.IsListIter it D i ∧ Fr h₀ env.locals h' m ∧ News h₀ env.locals h' ((it, o) :: (D, listOf vs.toArray n0) :: news) ∧ (∀ p ∈ news, p.1 ≠ it) ∧ (∀ p ∈ news, p.1 ≠ D)) ?_ vs.length
    ⟨_, _, 0, { cls := .type "list_iterator", data := .fields #[.ref D, .int 0 0] }, m, news, rfl, rfl, Nat.zero_le _, hJ, ?i1, ?i2, ?i3, fun p hp => itN p (.tail _ hp), hap⟩ (ht _)
  case i1 => exact ⟨_, by rw [← hit]; exact Heap.get?_push_size _ rfl, rfl, rfl⟩
  case i2 => exact F.push _
  case i3 => rw [← hit]; exact News.push F N _
  rintro k s' ⟨h', tk, i, o, m, news, rfl, rfl, hi, hJi, hli, F', N', ap1, ap2⟩
  have hl' : h'.IsList D vs.toArray := N'.isList (.tail _ (.head _))
  have itA : ∀ p ∈ (D, listOf vs.toArray n0) :: news, p.1 ≠ it := fun p hp => by
    rcases List.mem_cons.mp hp with rfl | hp
    · exact hDit
    · exact ap1 p hp
  cases hv : vs[i]? with
  | none =>
    have hsz : i = vs.length := Nat.le_antisymm hi (by simpa using hv)
    refine wpAny_pyNext_list_end (items := vs.toArray) hh hli hl' (by simpa using hv) fun h'' hx'' => ?_
    refine wpAny_execs_nil ?_
    refine done vs n0 D h'' _ m news hPV (hsz ▸ hJi) ap2 ⟨F'.ns.at' fun o q => hx'' _ _ (Ne.symm itL) q, fun b o q => hx'' _ _ (fun e => by rw [e, it0] at q; cases q) (F'.keep b o q), F'.above⟩ fun p hp => ?_
    have := N' p (.tail _ hp)
    exact ⟨hx'' _ _ (itA p hp) this.1, this.2⟩
  | some v =>
    have hlt : i < vs.length := (List.getElem?_eq_some_iff.mp hv).1
    refine wpAny_pyNext_list_item (items := vs.toArray) hli hl' (by simpa using hv) fun h'' hli' hsb => ?_
    obtain ⟨o'', ho'', hc'', hd''⟩ := id hli'
    have F₂ : Fr h₀ env.locals h'' m := ⟨F'.ns.at' fun o q => (hsb.2 _ (Ne.symm itL)).trans q, fun b o q => (hsb.2 b (fun e => by rw [e, it0] at q; cases q)).trans (F'.keep b o q), F'.above⟩
    have N₂ : News h₀ env.locals h'' ((it, o'') :: (D, listOf vs.toArray n0) :: news) := fun p hp => by
      rcases List.mem_cons.mp hp with rfl | hp
      · exact ⟨ho'', itL, it0⟩
      · have := N' p (.tail _ hp)
        exact ⟨(hsb.2 _ (itA p hp)).trans this.1, this.2⟩
    refine wpAny_assign_Name (wpAny_storeName_local hx F₂.ns (fun h₃ hn hs₃ => ?_) hp)
    have F₃ := F₂.set hn hs₃
    have N₃ := N₂.set hs₃
    refine wpAny_mono (step vs n0 D i v h₃ _ it o'' m news _ hPV hv hJi ap1 ap2 hDit F₃ N₃) (fun f s₃ hf => ?_) fun _ _ e => e
    obtain ⟨rfl, m₄, news₄, h₄, tk₄, rfl, F₄, N₄, ap1', ap2', hJ'⟩ := hf
    have hli₄ : h₄.IsListIter it D (i + 1) := ⟨o'', (N₄ _ (.head _)).1, hc'', hd''⟩
    exact ⟨vs.length - (i + 1), by omega, h₄, tk₄, i + 1, o'', m₄, news₄, rfl, rfl, by omega, hJ', hli₄, F₄, N₄, ap1', ap2'⟩
end
/-- where a loop over a range from nought begins -/
def RangeIn (s : Shared) (h₀ : Heap) (L : Addr) (news : List (Addr × Obj)) (c : Nat) (J : Nat → (Str → Option Value) → Prop) (v : Value) (s' : Shared) : Prop :=
  ∃ r t u z m h' tk, v = .ref r ∧ s' = { s with heap := h', toks := tk } ∧ IsRange h' r 0 (c : Int) 1 t u z ∧ Fr h₀ L h' m ∧ News h₀ L h' news ∧ J 0 m
section
variable {prog : Program} {w : World} {A : Around} {E : Value → Shared → Prop} {s : Shared} {env : Env}
theorem range_one (c : Nat) : Builtin.Range.rangeSize 0 (c : Int) 1 = (c : Int) := by
  rw [rangeSize_one]
  split <;> omega
/-- a for over a range: the frame turns with the loop, the ledger stands -/
theorem For_rangeJ {h₀ : Heap} {news : List (Addr × Obj)} {x : Str} {pt : Pos} {iter : Expr} {body : List Stmt} {pos : Pos} {Q : Flow → Shared → Prop} (hh : A.handled = none) (c : Nat) (hc : c < 1000)
    (J : Nat → (Str → Option Value) → Prop)
    (hx : env.kindOf x = some .local) (hp : (env.scope.kind == .class || (env.scope.kind == .module && env.locals != env.globals)) = false)
    (hs : ∀ x, foldedSetIterable iter env x = pure x) (ht : ∀ it v, letOwnedTupleGo (.Name x pt) it v = pure ())
    (h : wpAny (model prog w) A (eval iter env) (RangeIn s h₀ env.locals news c J) E s)
    (step : ∀ i h' tk it o tv m E', i < c → J i m → (∀ p ∈ news, p.1 ≠ it) → Fr h₀ env.locals h' (fun y => if y = x then some (.int (i : Int) tv) else m y) → News h₀ env.locals h' ((it, o) :: news) →
      wpAny (model prog w) A (execs body env) (fun f s₃ => f = .next ∧ AtS s h₀ env.locals (fun m' n' => J (i + 1) m' ∧ ∀ q ∈ (it, o) :: news, q ∈ n') s₃) E' { s with heap := h', toks := tk })
    (done : ∀ h' tk m, J c m → Fr h₀ env.locals h' m → News h₀ env.locals h' news → Q .next { s with heap := h', toks := tk }) :
    wpAny (model prog w) A (exec (.For (.Name x pt) iter body [] pos) env) Q E s := by
  refine wpAny_For (wpAny_mono h (fun v s₁ h₁ => ?_) fun _ _ e => e) hs
  obtain ⟨r, t, u, z, m, hp₁, t₁, rfl, rfl, hr, F, N, hJ⟩ := h₁
  refine wpAny_pyIter_range hr (small_one (by omega) (by omega) (by omega) (by omega)) ?_
  rw [range_one]
  have itN : ∀ p ∈ news, p.1 ≠ hp₁.objs.size := fun p hp => Nat.ne_of_lt (Heap.lt_size (N p hp).1)
  have it0 : h₀.get? hp₁.objs.size = none := by
    cases q : h₀.get? hp₁.objs.size with
    | none => rfl
    | some o => exact absurd (Heap.lt_size (F.keep _ _ q)) (Nat.lt_irrefl _)
  have itL : hp₁.objs.size ≠ env.locals := by
    obtain ⟨oL, _, _, hL, _⟩ := F.ns
    exact Nat.ne_of_gt (Heap.lt_size hL)
  dsimp only
  generalize hit : hp₁.objs.size = it at *
  refine codeAny_forLoop (fun k s' => ∃ h' tk i o m, s' = { s with heap := h', toks := tk } ∧ k = c - i ∧ i ≤ c ∧ J i m ∧ o = { cls := .type "range_iterator", dict := none, data := .fields #[rawInt (i : Int), rawInt ((c : Int) - (i : Int)), rawInt 1], slots := #[] } ∧ Fr h₀ env.locals h' m ∧ News h₀ env.locals h' ((it, o) :: news)) ?_ c
    ⟨_, _, 0, _, m, rfl, rfl, Nat.zero_le _, hJ, rfl, ?i2, ?i3⟩ (ht _)
  case i2 => exact F.push _
  case i3 =>
    have := News.push F N { cls := .type "range_iterator", data := .fields #[rawInt 0, rawInt (c : Int), rawInt 1] }
    rw [hit] at this
    simpa using this
  rintro k s' ⟨h', tk, i, o, m, rfl, rfl, hi, hJi, ho, F', N'⟩
  have hri : IsRangeIter h' it (i : Int) ((c : Int) - (i : Int)) 1 := by
    have := (N' _ (.head _)).1
    rw [ho] at this
    exact this
  by_cases hlt : i < c
  · refine wpAny_pyNext_range_item hri (by omega) fun h'' hli' hsb => ?_
    have F₂ : Fr h₀ env.locals h'' m := ⟨F'.ns.at' fun o q => (hsb.2 _ (Ne.symm itL)).trans q, fun b o q => (hsb.2 b (fun e => by rw [e, it0] at q; cases q)).trans (F'.keep b o q), F'.above⟩
    have N₂ : News h₀ env.locals h'' ((it, { cls := .type "range_iterator", dict := none, data := .fields #[rawInt ((i : Int) + 1), rawInt ((c : Int) - (i : Int) - 1), rawInt 1], slots := #[] }) :: news) := fun p hp => by
      rcases List.mem_cons.mp hp with rfl | hp
      · exact ⟨hli', itL, it0⟩
      · have := N' p (.tail _ hp)
        exact ⟨(hsb.2 _ (itN p hp)).trans this.1, this.2⟩
    refine wpAny_assign_Name (wpAny_storeName_local hx F₂.ns (fun h₃ hn hs₃ => ?_) hp)
    have F₃ := F₂.set hn hs₃
    have N₃ := N₂.set hs₃
    refine wpAny_mono (step i h₃ _ it _ _ m _ hlt hJi itN F₃ N₃) (fun f s₃ hf => ?_) fun _ _ e => e
    obtain ⟨rfl, h₄, tk₄, m₄, news₄, rfl, F₄, N₄, hJ', hsub⟩ := hf
    exact ⟨c - (i + 1), by omega, h₄, tk₄, i + 1, _, m₄, rfl, rfl, by omega, hJ', by rw [show ((i + 1 : Nat) : Int) = (i : Int) + 1 by omega, show (c : Int) - ((i : Int) + 1) = (c : Int) - (i : Int) - 1 by omega], F₄, fun p hp => N₄ p (hsub p hp)⟩
  · have hin : i = c := by omega
    subst hin
    refine wpAny_pyNext_range_end hh hri (by omega) fun h'' hx'' => ?_
    refine wpAny_execs_nil ?_
    refine done h'' _ m hJi ⟨F'.ns.at' fun o q => hx'' _ _ (Ne.symm itL) q, fun b o q => hx'' _ _ (fun e => by rw [e, it0] at q; cases q) (F'.keep b o q), F'.above⟩ fun p hp => ?_
    have := N' p (.tail _ hp)
    exact ⟨hx'' _ _ (itN p hp) this.1, this.2⟩
end
def PVI (vs : List Value) : Prop := ∃ ns, IntsAre vs ns ∧ ns.length ≤ 5
theorem pvi_at {vs : List Value} {i : Nat} {v : Value} (h : PVI vs) (hv : vs[i]? = some v) : ∃ n t, v = .int n t := by
  obtain ⟨ns, h, _⟩ := h
  have : ∀ {vs ns}, IntsAre vs ns → ∀ v ∈ vs, ∃ n t, v = .int n t := by
    intro vs ns h
    induction h with
    | nil => intro v hv; cases hv
    | cons n t _ ih =>
      intro v hv
      rcases List.mem_cons.mp hv with rfl | hv
      · exact ⟨_, _, rfl⟩
      · exact ih v hv
  exact this h v (List.mem_of_getElem? hv)
/-- the loop that builds the fields -/
def FJ (m0 : Str → Option Value) (news0 : List (Addr × Obj)) (q : Addr) (i : Nat) (m : Str → Option Value) (news : List (Addr × Obj)) : Prop :=
  KeptBut [Str.ofString "number", Str.ofString "signs", Str.ofString "k"] m0 m ∧ ∃ ws l n, news = (q, listOf ws.toArray n) :: news0 ∧ StrsAre ws l ∧ l.length = i ∧ ∀ x ∈ l, FieldIs x
/-- the loop that builds one field's signs -/
def SJ (m1 : Str → Option Value) (i : Nat) (m : Str → Option Value) : Prop := KeptBut [Str.ofString "k", Str.ofString "signs"] m1 m ∧ ∃ x t, LookIs m (Str.ofString "signs") (.str x t) ∧ OkS x ∧ x.length = i
theorem append_sub {prog : Program} {w : World} {A : Around} {E : Value → Shared → Prop} {s : Shared} {h₀ : Heap} {L : Addr} {m : Str → Option Value} {news : List (Addr × Obj)} {D : Addr} {its : Array Value} {n : Nat} {x : Value} {Q : Value → Shared → Prop} (pre post : List (Addr × Obj))
    (F : Fr h₀ L s.heap m) (N : News h₀ L s.heap news) (hs : ∀ p ∈ pre ++ (D, listOf its n) :: post, p ∈ news) (h1 : ∀ p ∈ pre, p.1 ≠ D) (h2 : ∀ p ∈ post, p.1 ≠ D)
    (h : ∀ h', Fr h₀ L h' m → News h₀ L h' (pre ++ (D, listOf (its.push x) (n + 1)) :: post) → Q .none { s with heap := h' })
    (hsz : its.size ≤ sizeLine) :
    wpAny (model prog w) A (call (.builtin "list.append") [.ref D, x]) Q E s := by
  have N2 : News h₀ L s.heap (pre ++ (D, listOf its n) :: post) := fun p hp => N p (hs p hp)
  have hm := N2 (D, listOf its n) (List.mem_append_right _ (.head _))
  exact append_at (hsz := hsz) hm.1 fun h' hs' ho' => h h' (F.change hs' hm.2.1 hm.2.2) (N2.setAt h1 h2 hs' ho')
theorem five_cases {i : Nat} (h : i < 5) : i = 0 ∨ i = 1 ∨ i = 2 ∨ i = 3 ∨ i = 4 := by omega
theorem pvi_len {vs : List Value} {i : Nat} {v : Value} (h : PVI vs) (hv : vs[i]? = some v) : i < 5 := by
  obtain ⟨ns, h, hl⟩ := h
  have h1 : i < vs.length := (List.getElem?_eq_some_iff.mp hv).1
  have h2 := h.length
  omega
theorem size_small {ws : List Value} {l : List Str} {i : Nat} (h : StrsAre ws l) (hl : l.length = i) (hi : i < 5) : ws.toArray.size ≤ sizeLine := by
  have := h.length
  rw [List.size_toArray]
  exact Nat.le_trans (show ws.length ≤ 5 by omega) (by decide)
theorem ok_empty : OkS (Str.ofString "") := by
  intro c hc
  have : (Str.ofString "").cps.toList = [] := by decide +kernel
  rw [this] at hc
  cases hc
/-- the body of the loop over the script -/
def fBody : List Stmt := match lawPart 6 1 with
  | [.For _ _ b _ _] => b
  | _ => []
/-- the body of the loop over a field's signs -/
def kBody : List Stmt := match fBody with
  | [_, .If _ _ [.For _ _ b _ _] _, _] => b
  | _ => []
theorem len_fBody : fBody.length = 3 := rfl
theorem len_kBody : kBody.length = 1 := rfl
abbrev lettersS : Str := Str.ofString "./0123456789abcdefABCDEFxyz"
theorem letter_chk : ∀ j : Nat, j < 27 → ((Txt.item lettersS (j : Int)).cps.toList.all okc && decide ((Txt.item lettersS (j : Int)).length = 1)) = true := by decide +kernel
theorem letter_ok (a : Int) : OkS (Txt.item lettersS (a.fmod 27)) ∧ (Txt.item lettersS (a.fmod 27)).length = 1 := by
  have h1 : 0 ≤ a.fmod 27 := Int.fmod_nonneg_of_pos _ (by decide)
  have h2 : a.fmod 27 < 27 := Int.fmod_lt_of_pos _ (by decide)
  have h := letter_chk (a.fmod 27).toNat (by omega)
  rw [Int.toNat_of_nonneg h1, Bool.and_eq_true, List.all_eq_true] at h
  exact ⟨h.1, by simpa using h.2⟩
theorem ok_app {x y : Str} (h1 : OkS x) (h2 : OkS y) : OkS (x ++ y) := fun c hc => by
  rcases List.mem_append.mp (show c ∈ x.cps.toList ++ y.cps.toList from lst_app x y ▸ hc) with h | h
  · exact h1 c h
  · exact h2 c h
theorem letter_len {x : Str} {i : Nat} (a : Int) (h : x.length = i) : (x ++ Txt.item lettersS (a.fmod 27)).length = i + 1 := by
  rw [PySem.Str.length_append, (letter_ok a).2, h]
theorem pow27_ok {i : Nat} (h : i < 5) : (Builtin.Int.intBits 27 : Int) * (i : Int) ≤ 2 ^ 27 := by
  have : Builtin.Int.intBits 27 = 5 := by decide +kernel
  rw [this]
  omega
theorem pow27_ne {k : Nat} : (27 : Int) ^ k ≠ 0 := Int.ne_of_gt (Int.pow_pos (by decide))
theorem small_i {i : Nat} (h : i < 5) : Builtin.Int.intBits (i : Int) ≤ 64 := PySem.intBits_le_64 (by omega) (by omega)
theorem pow27_pl {a : Int} {i : Nat} (h : i < 5) : Builtin.divisionGoesByPylong a (27 ^ ((i : Int).toNat)) = false := by
  rcases five_cases h with rfl | rfl | rfl | rfl | rfl <;> exact PyProof.noPylong_of_log2 (by decide +kernel)
theorem StrsAre.snoc {vs : List Value} {ys : List Str} (h : StrsAre vs ys) (y : Str) (t : Tok) : StrsAre (vs ++ [.str y t]) (ys ++ [y]) := by
  induction h with
  | nil => exact .cons y t .nil
  | cons a b _ ih => exact .cons a b ih
theorem push_apart {l' : Addr} {a b : Obj} {c : Addr × Obj} {D : Addr} (h : ∀ p ∈ [(l', a), c], p.1 ≠ D) : ∀ p ∈ [(l', b), c], p.1 ≠ D := fun p hp => by
  rcases List.mem_cons.mp hp with rfl | hp
  · exact h (l', a) (.head _)
  · exact h _ (.tail _ hp)
theorem KeptBut.trans {xs : List Str} {m m' m'' : Str → Option Value} (h : KeptBut xs m m') (h' : KeptBut xs m' m'') : KeptBut xs m m'' := fun y hy => (h' y hy).trans (h y hy)
theorem KeptBut.mono {xs ys : List Str} {m m' : Str → Option Value} (h : KeptBut xs m m') (hs : ∀ x ∈ xs, x ∈ ys) : KeptBut ys m m' := fun y hy => h y fun q => hy (hs y q)
theorem field_snoc {l : List Str} {x : Str} (h : ∀ y ∈ l, FieldIs y) (hx : FieldIs x) : ∀ y ∈ l ++ [x], FieldIs y := fun y hy => by
  rcases List.mem_append.mp hy with hy | hy
  · exact h y hy
  · rw [List.mem_singleton] at hy; subst hy; exact hx
end Mine
end
-- S0
section
open PySem PySem.W PyProof.Rows PySem.Calls PySem.Spec
namespace Mine
set_option maxRecDepth 100000 in
set_option maxHeartbeats 2000000 in
theorem seg0 {w : World} {p : Program} {loose : List Str} {mean : ExcName → Option Value} {mg mb : Str → Option Value} {s₁ : Shared} {h₁ : Heap} {L fa : Addr} {cd : Value} {tk : Nat} {E : Value → Shared → Prop} {D : Addr} {vs : List Value} {ns : List Int} {cell : Obj}
  (K0 : Below callerA s₁.heap [] s₁.heap) (KX : (hd.heap_39 w.params).In s₁.heap) (T : Top p loose mean mg mb s₁.heap) (F' : Fr s₁.heap L h₁ (fun _ => none)) (N' : News s₁.heap L h₁ [(L+1, cell)]) (hL : s₁.heap.IsList D vs.toArray) (hI : IntsAre vs ns) (h63 : ¬ 63 < ns.length) (hcell : cell.data = .cell (some (.ref D))) :
   wpC (model PySem.Challenge.pw_iw0004_01 w) (callerA.deeper (lawEnv L fa cd)) (execs (lawPart 0 1) (lawEnv L fa cd)) (fun f s' => f = .next ∧ AtS s₁ s₁.heap L (fun m' n' => (∃ (a : Int) (t : Tok), LookIs m' (Str.ofString "a") (.int a t)) ∧ (∃ (b : Int) (t : Tok), LookIs m' (Str.ofString "b") (.int b t)) ∧ (L+1, cell) ∈ n') s') E { s₁ with heap := h₁, toks := tk } := by
  refine wpC_absQ ?_
  intro Q0 hQ0
  refine' lit_C ?le1 ?le2 ?_
  case le1 => (dsimp only [lawPart, lawBody, PySem.Challenge.pw_iw0004_01, List.getLast?, List.getLast, List.drop, List.take] <;> exact rfl)
  case le2 => (dsimp only [lawScope, PySem.Challenge.pw_iw0004_01, List.getLast?, List.getLast] <;> exact rfl)
  repeat' (first | (with_reducible refine hQ0 _ _ ?_; (try dsimp only)) | (k_here; (with_reducible show wpAny _ _ (spliced _) _ _ _); k_dflt ((rename Fr _ _ _ _ => F'); (first | refine' args3 ?_ ?_ ?_ ?_ | refine' args5 ?_ ?_ ?_ ?_ ?_ ?_ | refine' args4 ?_ ?_ ?_ ?_ ?_ | refine' args6 ?_ ?_ ?_ ?_ ?_ ?_ ?_ | refine' args2 ?_ ?_ ?_ | refine' args1 ?_ ?_); (any_goals (first | exact atom_str | exact atom_int | exact atom_none | exact atom_local F' (by (repeat (refine (if_neg (by decide +kernel)).trans ?_)); first | exact if_pos rfl | (show LookIs _ _ _; with_reducible assumption)) rfl rfl rfl (by decide))); (fail_if_success (any_goals (with_reducible show AtomE _ _ _ _ _ _ _))); intros; (try dsimp only))) | (k_here; (with_reducible show wpAny _ _ (assign (Expr.Tuple [_, _] _ _) _ (Value.ref _)) _ _ _); k_dflt ((rename IntsAre _ [_, _] => hI8); obtain ⟨a', b', t1', t2', e'⟩ := ints_pair hI8 (by rfl); subst e'; clear hI8)) | (k_here; (with_reducible show if (_ == _) = true then _ else _); k_dflt (first | (refine' Mine.ieq_no ?k1 ?_; (case k1 => omega)) | (refine' Mine.ieq_yes ?k1 ?_; (case k1 => omega)))) | ((with_reducible show wpC _ _ _ _ _ _); plain_pass; first | (k_here; (with_reducible show wpC _ _ (execs (_ :: _) _) _ _ _); k_dflt refine wpC_execs_cons ?_) | (k_here; (with_reducible show wpC _ _ (execs [] _) _ _ _); k_dflt refine wpC_execs_nil ?_) | (k_dflt (refine wpC_of_any ?_))) | (k_unfold; (try dsimp only)) | (k_end; wrow_close) | walk1 | dsimp only | (leave1; (try dsimp only)))
  rename Fr _ _ _ _ => F'
  rename News _ _ _ _ => N'
  refine' AtS.mk F' N' ⟨⟨_, _, LookIs.miss LookIs.hit (by decide +kernel)⟩, ⟨_, _, LookIs.hit⟩, ?zm⟩
  case zm => k_mem
end Mine
end
-- S1
section
open PySem PySem.W PyProof.Rows PySem.Calls PySem.Spec
namespace Mine
set_option maxRecDepth 100000 in
set_option maxHeartbeats 400000 in
theorem seg1 {w : World} {p : Program} {loose : List Str} {mean : ExcName → Option Value} {mg mb : Str → Option Value} {s₁ : Shared} {h₁ : Heap} {L fa : Addr} {cd : Value} {tk : Nat} {E : Value → Shared → Prop} {m : Str → Option Value} {news : List (Addr × Obj)} {a : Int} {ta : Tok}
  (K0 : Below callerA s₁.heap [] s₁.heap) (KX : (hd.heap_39 w.params).In s₁.heap) (T : Top p loose mean mg mb s₁.heap) (F' : Fr s₁.heap L h₁ m) (N' : News s₁.heap L h₁ news) (ha : LookIs m (Str.ofString "a") (.int a ta)) :
   wpC (model PySem.Challenge.pw_iw0004_01 w) (callerA.deeper (lawEnv L fa cd)) (execs (lawPart 1 1) (lawEnv L fa cd)) (fun f s' => f = .next ∧ AtS s₁ s₁.heap L (fun m' n' => KeptBut [(Str.ofString "front")] m m' ∧ (∃ v, LookIs m' (Str.ofString "front") v ∧ PFront v) ∧ (∀ q ∈ news, q ∈ n')) s') E { s₁ with heap := h₁, toks := tk } := by
  refine wpC_absQ ?_
  intro Q0 hQ0
  refine' lit_C ?le1 ?le2 ?_
  case le1 => (dsimp only [lawPart, lawBody, PySem.Challenge.pw_iw0004_01, List.getLast?, List.getLast, List.drop, List.take] <;> exact rfl)
  case le2 => (dsimp only [lawScope, PySem.Challenge.pw_iw0004_01, List.getLast?, List.getLast] <;> exact rfl)
  repeat' (first | (with_reducible refine hQ0 _ _ ?_; (try dsimp only)) | (k_here; (with_reducible show wpAny _ _ (spliced _) _ _ _); k_dflt ((rename Fr _ _ _ _ => F'); (first | refine' args3 ?_ ?_ ?_ ?_ | refine' args5 ?_ ?_ ?_ ?_ ?_ ?_ | refine' args4 ?_ ?_ ?_ ?_ ?_ | refine' args6 ?_ ?_ ?_ ?_ ?_ ?_ ?_ | refine' args2 ?_ ?_ ?_ | refine' args1 ?_ ?_); (any_goals (first | exact atom_str | exact atom_int | exact atom_none | exact atom_local F' (by (repeat (refine (if_neg (by decide +kernel)).trans ?_)); first | exact if_pos rfl | (show LookIs _ _ _; with_reducible assumption)) rfl rfl rfl (by decide))); (fail_if_success (any_goals (with_reducible show AtomE _ _ _ _ _ _ _))); intros; (try dsimp only))) | (k_here; (with_reducible show wpAny _ _ (call (Value.ref 114) _) _ _ _); k_dflt (refine' names_call ?k1 ?k2 ?k3 ?k4 ?k5 ?k6 ?k7 ?k8 ?k9 ?_; (case k1 => k_asm); (case k2 => k_asm); (case k3 => k_asm); (case k4 => k_asm); (case k5 => k_asm); (case k6 => exact rfl); (case k7 => exact rfl); (case k8 => first | ktr_room | decide); (case k9 => first | ktr_units | decide); intro v' n' h' t' F' N' r'; obtain ⟨D', t0', t1', t2', t3', hv', hn'⟩ := r'; subst hv' hn'; (simp only [List.cons_append, List.nil_append] at N'); (try k_sweep); (try dsimp only))) | (k_here; (with_reducible show wpAny _ _ (eval (Expr.Name _ _) (envOfC _ _ _ _ _)) _ _ _); k_dflt ((rename Fr _ _ _ _ => F'); refine' ldL F' ?lq1 ?_ ?lq2 ?lq3 ?lq4; (case lq3 => rfl); (case lq1 => (repeat (refine (if_neg (by decide +kernel)).trans ?_)); first | exact if_pos rfl | (show LookIs _ _ _; with_reducible assumption)); (case lq2 => rfl); (case lq4 => decide); (try dsimp only))) | (k_here; (with_reducible show wpAny _ _ (subscriptTail _ _ (Value.ref _) (Value.int (Int.fmod _ _) _)) _ _ _); k_dflt ((rename News _ _ _ _ => N'); refine' sub_mod N' (.head _) ?sb1 ?sb0 ?sb2 ?sb3 ?_; (case sb1 => repeat constructor); (case sb0 => rfl); (case sb2 => decide); (case sb3 => decide); intro x' t' hx'; (try dsimp only))) | (k_here; (with_reducible show if (_ == _) = true then _ else _); k_dflt (first | (refine' Mine.ieq_no ?k1 ?_; (case k1 => omega)) | (refine' Mine.ieq_yes ?k1 ?_; (case k1 => omega)))) | ((with_reducible show wpC _ _ _ _ _ _); plain_pass; first | (k_here; (with_reducible show wpC _ _ (execs (_ :: _) _) _ _ _); k_dflt refine wpC_execs_cons ?_) | (k_here; (with_reducible show wpC _ _ (execs [] _) _ _ _); k_dflt refine wpC_execs_nil ?_) | (k_dflt (refine wpC_of_any ?_))) | (k_unfold; (try dsimp only)) | (k_end; wrow_close) | walk1 | dsimp only | (leave1; (try dsimp only)))
  all_goals first
    | (refine AtS.mk (by k_asm) (by k_asm) ⟨?kp, ⟨_, LookIs.hit, ?pp⟩, ?nn⟩; (case nn => with_reducible (repeat (refine sub_more ?_)); exact sub_self); (case kp => (repeat (refine KeptBut.set ?_ (by decide +kernel))); exact KeptBut.refl); (case pp => first | exact pf_in (by assumption)))
set_option maxRecDepth 100000 in
set_option maxHeartbeats 400000 in
theorem seg2 {w : World} {p : Program} {loose : List Str} {mean : ExcName → Option Value} {mg mb : Str → Option Value} {s₁ : Shared} {h₁ : Heap} {L fa : Addr} {cd : Value} {tk : Nat} {E : Value → Shared → Prop} {m : Str → Option Value} {news : List (Addr × Obj)} {a : Int} {ta : Tok}
  (K0 : Below callerA s₁.heap [] s₁.heap) (KX : (hd.heap_39 w.params).In s₁.heap) (T : Top p loose mean mg mb s₁.heap) (F' : Fr s₁.heap L h₁ m) (N' : News s₁.heap L h₁ news) (ha : LookIs m (Str.ofString "a") (.int a ta)) :
   wpC (model PySem.Challenge.pw_iw0004_01 w) (callerA.deeper (lawEnv L fa cd)) (execs (lawPart 2 1) (lawEnv L fa cd)) (fun f s' => f = .next ∧ AtS s₁ s₁.heap L (fun m' n' => KeptBut [(Str.ofString "mark")] m m' ∧ (∃ v, LookIs m' (Str.ofString "mark") v ∧ PMark v) ∧ (∀ q ∈ news, q ∈ n')) s') E { s₁ with heap := h₁, toks := tk } := by
  refine wpC_absQ ?_
  intro Q0 hQ0
  refine' lit_C ?le1 ?le2 ?_
  case le1 => (dsimp only [lawPart, lawBody, PySem.Challenge.pw_iw0004_01, List.getLast?, List.getLast, List.drop, List.take] <;> exact rfl)
  case le2 => (dsimp only [lawScope, PySem.Challenge.pw_iw0004_01, List.getLast?, List.getLast] <;> exact rfl)
  repeat' (first | (with_reducible refine hQ0 _ _ ?_; (try dsimp only)) | (k_here; (with_reducible show wpAny _ _ (spliced _) _ _ _); k_dflt ((rename Fr _ _ _ _ => F'); (first | refine' args3 ?_ ?_ ?_ ?_ | refine' args5 ?_ ?_ ?_ ?_ ?_ ?_ | refine' args4 ?_ ?_ ?_ ?_ ?_ | refine' args6 ?_ ?_ ?_ ?_ ?_ ?_ ?_ | refine' args2 ?_ ?_ ?_ | refine' args1 ?_ ?_); (any_goals (first | exact atom_str | exact atom_int | exact atom_none | exact atom_local F' (by (repeat (refine (if_neg (by decide +kernel)).trans ?_)); first | exact if_pos rfl | (show LookIs _ _ _; with_reducible assumption)) rfl rfl rfl (by decide))); (fail_if_success (any_goals (with_reducible show AtomE _ _ _ _ _ _ _))); intros; (try dsimp only))) | (k_here; (with_reducible show wpAny _ _ (call (Value.ref 114) _) _ _ _); k_dflt (refine' names_call ?k1 ?k2 ?k3 ?k4 ?k5 ?k6 ?k7 ?k8 ?k9 ?_; (case k1 => k_asm); (case k2 => k_asm); (case k3 => k_asm); (case k4 => k_asm); (case k5 => k_asm); (case k6 => exact rfl); (case k7 => exact rfl); (case k8 => first | ktr_room | decide); (case k9 => first | ktr_units | decide); intro v' n' h' t' F' N' r'; obtain ⟨D', t0', t1', t2', t3', hv', hn'⟩ := r'; subst hv' hn'; (simp only [List.cons_append, List.nil_append] at N'); (try k_sweep); (try dsimp only))) | (k_here; (with_reducible show wpAny _ _ (eval (Expr.Name _ _) (envOfC _ _ _ _ _)) _ _ _); k_dflt ((rename Fr _ _ _ _ => F'); refine' ldL F' ?lq1 ?_ ?lq2 ?lq3 ?lq4; (case lq3 => rfl); (case lq1 => (repeat (refine (if_neg (by decide +kernel)).trans ?_)); first | exact if_pos rfl | (show LookIs _ _ _; with_reducible assumption)); (case lq2 => rfl); (case lq4 => decide); (try dsimp only))) | (k_here; (with_reducible show wpAny _ _ (subscriptTail _ _ (Value.ref _) (Value.int (Int.fmod _ _) _)) _ _ _); k_dflt ((rename News _ _ _ _ => N'); refine' sub_mod N' (.head _) ?sb1 ?sb0 ?sb2 ?sb3 ?_; (case sb1 => repeat constructor); (case sb0 => rfl); (case sb2 => decide); (case sb3 => decide); intro x' t' hx'; (try dsimp only))) | (k_here; (with_reducible show if (_ == _) = true then _ else _); k_dflt (first | (refine' Mine.ieq_no ?k1 ?_; (case k1 => omega)) | (refine' Mine.ieq_yes ?k1 ?_; (case k1 => omega)))) | ((with_reducible show wpC _ _ _ _ _ _); plain_pass; first | (k_here; (with_reducible show wpC _ _ (execs (_ :: _) _) _ _ _); k_dflt refine wpC_execs_cons ?_) | (k_here; (with_reducible show wpC _ _ (execs [] _) _ _ _); k_dflt refine wpC_execs_nil ?_) | (k_dflt (refine wpC_of_any ?_))) | (k_unfold; (try dsimp only)) | (k_end; wrow_close) | walk1 | dsimp only | (leave1; (try dsimp only)))
  all_goals first
    | (refine AtS.mk (by k_asm) (by k_asm) ⟨?kp, ⟨_, LookIs.hit, ?pp⟩, ?nn⟩; (case nn => with_reducible (repeat (refine sub_more ?_)); exact sub_self); (case kp => (repeat (refine KeptBut.set ?_ (by decide +kernel))); exact KeptBut.refl); (case pp => first | exact pm1 | exact pm2))
set_option maxRecDepth 100000 in
set_option maxHeartbeats 400000 in
theorem seg3 {w : World} {p : Program} {loose : List Str} {mean : ExcName → Option Value} {mg mb : Str → Option Value} {s₁ : Shared} {h₁ : Heap} {L fa : Addr} {cd : Value} {tk : Nat} {E : Value → Shared → Prop} {m : Str → Option Value} {news : List (Addr × Obj)} {a : Int} {ta : Tok}
  (K0 : Below callerA s₁.heap [] s₁.heap) (KX : (hd.heap_39 w.params).In s₁.heap) (T : Top p loose mean mg mb s₁.heap) (F' : Fr s₁.heap L h₁ m) (N' : News s₁.heap L h₁ news) (ha : LookIs m (Str.ofString "a") (.int a ta)) :
   wpC (model PySem.Challenge.pw_iw0004_01 w) (callerA.deeper (lawEnv L fa cd)) (execs (lawPart 3 1) (lawEnv L fa cd)) (fun f s' => f = .next ∧ AtS s₁ s₁.heap L (fun m' n' => KeptBut [(Str.ofString "base")] m m' ∧ (∃ v, LookIs m' (Str.ofString "base") v ∧ PBase v) ∧ (∀ q ∈ news, q ∈ n')) s') E { s₁ with heap := h₁, toks := tk } := by
  refine wpC_absQ ?_
  intro Q0 hQ0
  refine' lit_C ?le1 ?le2 ?_
  case le1 => (dsimp only [lawPart, lawBody, PySem.Challenge.pw_iw0004_01, List.getLast?, List.getLast, List.drop, List.take] <;> exact rfl)
  case le2 => (dsimp only [lawScope, PySem.Challenge.pw_iw0004_01, List.getLast?, List.getLast] <;> exact rfl)
  repeat' (first | (with_reducible refine hQ0 _ _ ?_; (try dsimp only)) | (k_here; (with_reducible show wpAny _ _ (spliced _) _ _ _); k_dflt ((rename Fr _ _ _ _ => F'); (first | refine' args3 ?_ ?_ ?_ ?_ | refine' args5 ?_ ?_ ?_ ?_ ?_ ?_ | refine' args4 ?_ ?_ ?_ ?_ ?_ | refine' args6 ?_ ?_ ?_ ?_ ?_ ?_ ?_ | refine' args2 ?_ ?_ ?_ | refine' args1 ?_ ?_); (any_goals (first | exact atom_str | exact atom_int | exact atom_none | exact atom_local F' (by (repeat (refine (if_neg (by decide +kernel)).trans ?_)); first | exact if_pos rfl | (show LookIs _ _ _; with_reducible assumption)) rfl rfl rfl (by decide))); (fail_if_success (any_goals (with_reducible show AtomE _ _ _ _ _ _ _))); intros; (try dsimp only))) | (k_here; (with_reducible show wpAny _ _ (call (Value.ref 114) _) _ _ _); k_dflt (refine' names_call ?k1 ?k2 ?k3 ?k4 ?k5 ?k6 ?k7 ?k8 ?k9 ?_; (case k1 => k_asm); (case k2 => k_asm); (case k3 => k_asm); (case k4 => k_asm); (case k5 => k_asm); (case k6 => exact rfl); (case k7 => exact rfl); (case k8 => first | ktr_room | decide); (case k9 => first | ktr_units | decide); intro v' n' h' t' F' N' r'; obtain ⟨D', t0', t1', t2', t3', hv', hn'⟩ := r'; subst hv' hn'; (simp only [List.cons_append, List.nil_append] at N'); (try k_sweep); (try dsimp only))) | (k_here; (with_reducible show wpAny _ _ (eval (Expr.Name _ _) (envOfC _ _ _ _ _)) _ _ _); k_dflt ((rename Fr _ _ _ _ => F'); refine' ldL F' ?lq1 ?_ ?lq2 ?lq3 ?lq4; (case lq3 => rfl); (case lq1 => (repeat (refine (if_neg (by decide +kernel)).trans ?_)); first | exact if_pos rfl | (show LookIs _ _ _; with_reducible assumption)); (case lq2 => rfl); (case lq4 => decide); (try dsimp only))) | (k_here; (with_reducible show wpAny _ _ (subscriptTail _ _ (Value.ref _) (Value.int (Int.fmod _ _) _)) _ _ _); k_dflt ((rename News _ _ _ _ => N'); refine' sub_mod N' (.head _) ?sb1 ?sb0 ?sb2 ?sb3 ?_; (case sb1 => repeat constructor); (case sb0 => rfl); (case sb2 => decide); (case sb3 => decide); intro x' t' hx'; (try dsimp only))) | (k_here; (with_reducible show if (_ == _) = true then _ else _); k_dflt (first | (refine' Mine.ieq_no ?k1 ?_; (case k1 => omega)) | (refine' Mine.ieq_yes ?k1 ?_; (case k1 => omega)))) | ((with_reducible show wpC _ _ _ _ _ _); plain_pass; first | (k_here; (with_reducible show wpC _ _ (execs (_ :: _) _) _ _ _); k_dflt refine wpC_execs_cons ?_) | (k_here; (with_reducible show wpC _ _ (execs [] _) _ _ _); k_dflt refine wpC_execs_nil ?_) | (k_dflt (refine wpC_of_any ?_))) | (k_unfold; (try dsimp only)) | (k_end; wrow_close) | walk1 | dsimp only | (leave1; (try dsimp only)))
  all_goals first
    | (refine AtS.mk (by k_asm) (by k_asm) ⟨?kp, ⟨_, LookIs.hit, ?pp⟩, ?nn⟩; (case nn => with_reducible (repeat (refine sub_more ?_)); exact sub_self); (case kp => (repeat (refine KeptBut.set ?_ (by decide +kernel))); exact KeptBut.refl); (case pp => first | exact pb1 | exact pb2))
set_option maxRecDepth 100000 in
set_option maxHeartbeats 400000 in
theorem seg4 {w : World} {p : Program} {loose : List Str} {mean : ExcName → Option Value} {mg mb : Str → Option Value} {s₁ : Shared} {h₁ : Heap} {L fa : Addr} {cd : Value} {tk : Nat} {E : Value → Shared → Prop} {m : Str → Option Value} {news : List (Addr × Obj)} {a : Int} {ta : Tok}
  (K0 : Below callerA s₁.heap [] s₁.heap) (KX : (hd.heap_39 w.params).In s₁.heap) (T : Top p loose mean mg mb s₁.heap) (F' : Fr s₁.heap L h₁ m) (N' : News s₁.heap L h₁ news) (ha : LookIs m (Str.ofString "a") (.int a ta)) {b : Int} {tb : Tok} (hb : LookIs m (Str.ofString "b") (.int b tb)) :
   wpC (model PySem.Challenge.pw_iw0004_01 w) (callerA.deeper (lawEnv L fa cd)) (execs (lawPart 4 1) (lawEnv L fa cd)) (fun f s' => f = .next ∧ AtS s₁ s₁.heap L (fun m' n' => KeptBut [(Str.ofString "default")] m m' ∧ (∃ v, LookIs m' (Str.ofString "default") v ∧ PDef v) ∧ (∀ q ∈ news, q ∈ n')) s') E { s₁ with heap := h₁, toks := tk } := by
  refine wpC_absQ ?_
  intro Q0 hQ0
  refine' lit_C ?le1 ?le2 ?_
  case le1 => (dsimp only [lawPart, lawBody, PySem.Challenge.pw_iw0004_01, List.getLast?, List.getLast, List.drop, List.take] <;> exact rfl)
  case le2 => (dsimp only [lawScope, PySem.Challenge.pw_iw0004_01, List.getLast?, List.getLast] <;> exact rfl)
  repeat' (first | (with_reducible refine hQ0 _ _ ?_; (try dsimp only)) | (k_here; (with_reducible show wpAny _ _ (spliced _) _ _ _); k_dflt ((rename Fr _ _ _ _ => F'); (first | refine' args3 ?_ ?_ ?_ ?_ | refine' args5 ?_ ?_ ?_ ?_ ?_ ?_ | refine' args4 ?_ ?_ ?_ ?_ ?_ | refine' args6 ?_ ?_ ?_ ?_ ?_ ?_ ?_ | refine' args2 ?_ ?_ ?_ | refine' args1 ?_ ?_); (any_goals (first | exact atom_str | exact atom_int | exact atom_none | exact atom_local F' (by (repeat (refine (if_neg (by decide +kernel)).trans ?_)); first | exact if_pos rfl | (show LookIs _ _ _; with_reducible assumption)) rfl rfl rfl (by decide))); (fail_if_success (any_goals (with_reducible show AtomE _ _ _ _ _ _ _))); intros; (try dsimp only))) | (k_here; (with_reducible show wpAny _ _ (call (Value.ref 114) _) _ _ _); k_dflt (refine' names_call ?k1 ?k2 ?k3 ?k4 ?k5 ?k6 ?k7 ?k8 ?k9 ?_; (case k1 => k_asm); (case k2 => k_asm); (case k3 => k_asm); (case k4 => k_asm); (case k5 => k_asm); (case k6 => exact rfl); (case k7 => exact rfl); (case k8 => first | ktr_room | decide); (case k9 => first | ktr_units | decide); intro v' n' h' t' F' N' r'; obtain ⟨D', t0', t1', t2', t3', hv', hn'⟩ := r'; subst hv' hn'; (simp only [List.cons_append, List.nil_append] at N'); (try k_sweep); (try dsimp only))) | (k_here; (with_reducible show wpAny _ _ (eval (Expr.Name _ _) (envOfC _ _ _ _ _)) _ _ _); k_dflt ((rename Fr _ _ _ _ => F'); refine' ldL F' ?lq1 ?_ ?lq2 ?lq3 ?lq4; (case lq3 => rfl); (case lq1 => (repeat (refine (if_neg (by decide +kernel)).trans ?_)); first | exact if_pos rfl | (show LookIs _ _ _; with_reducible assumption)); (case lq2 => rfl); (case lq4 => decide); (try dsimp only))) | (k_here; (with_reducible show wpAny _ _ (subscriptTail _ _ (Value.ref _) (Value.int (Int.fmod _ _) _)) _ _ _); k_dflt ((rename News _ _ _ _ => N'); refine' sub_mod N' (.head _) ?sb1 ?sb0 ?sb2 ?sb3 ?_; (case sb1 => repeat constructor); (case sb0 => rfl); (case sb2 => decide); (case sb3 => decide); intro x' t' hx'; (try dsimp only))) | (k_here; (with_reducible show if (_ == _) = true then _ else _); k_dflt (first | (refine' Mine.ieq_no ?k1 ?_; (case k1 => omega)) | (refine' Mine.ieq_yes ?k1 ?_; (case k1 => omega)))) | ((with_reducible show wpC _ _ _ _ _ _); plain_pass; first | (k_here; (with_reducible show wpC _ _ (execs (_ :: _) _) _ _ _); k_dflt refine wpC_execs_cons ?_) | (k_here; (with_reducible show wpC _ _ (execs [] _) _ _ _); k_dflt refine wpC_execs_nil ?_) | (k_dflt (refine wpC_of_any ?_))) | (k_unfold; (try dsimp only)) | (k_end; wrow_close) | walk1 | dsimp only | (leave1; (try dsimp only)))
  all_goals first
    | (refine AtS.mk (by k_asm) (by k_asm) ⟨?kp, ⟨_, LookIs.hit, ?pp⟩, ?nn⟩; (case nn => with_reducible (repeat (refine sub_more ?_)); exact sub_self); (case kp => (repeat (refine KeptBut.set ?_ (by decide +kernel))); exact KeptBut.refl); (case pp => first | exact pd1 | exact pd2))
end Mine
end
-- S5a
section
open PySem PySem.W PyProof.Rows PySem.Calls PySem.Spec
namespace Mine
set_option maxRecDepth 100000 in
set_option maxHeartbeats 2000000 in
theorem k_turn {w : World} {p : Program} {loose : List Str} {mean : ExcName → Option Value} {mg mb : Str → Option Value} {s : Shared} {h₀ h' : Heap} {L fa : Addr} {cd : Value} {tk : Nat} {E : Value → Shared → Prop} {m : Str → Option Value} {news : List (Addr × Obj)} {i : Nat} {tv tx tz : Tok} {x : Str} {z : Int}
  (K0 : Below callerA h₀ [] h₀) (KX : (hd.heap_39 w.params).In h₀) (T : Top p loose mean mg mb h₀) (F' : Fr h₀ L h' (fun y => if y = Str.ofString "k" then some (.int (i : Int) tv) else m y)) (N' : News h₀ L h' news)
  (hlx : LookIs m (Str.ofString "signs") (.str x tx)) (hln : LookIs m (Str.ofString "number") (.int z tz)) (hi : i < 5) (hox : OkS x) (hxl : x.length = i) :
   wpAny (model PySem.Challenge.pw_iw0004_01 w) (callerA.deeper (lawEnv L fa cd)) (execs kBody (lawEnv L fa cd)) (fun f s' => f = .next ∧ AtS s h₀ L (fun m' n' => (KeptBut [Str.ofString "k", Str.ofString "signs"] m m' ∧ ∃ x t, LookIs m' (Str.ofString "signs") (.str x t) ∧ OkS x ∧ x.length = i + 1) ∧ ∀ q ∈ news, q ∈ n') s') E { s with heap := h', toks := tk } := by
  refine wpAny_absQ ?_
  intro Q0 hQ0
  refine' lit_A ?le1 ?le2 ?_
  case le1 => (dsimp only [kBody, fBody, lawPart, lawBody, PySem.Challenge.pw_iw0004_01, List.getLast?, List.getLast, List.drop, List.take] <;> exact rfl)
  case le2 => (dsimp only [lawScope, PySem.Challenge.pw_iw0004_01, List.getLast?, List.getLast] <;> exact rfl)
  repeat' (first | (with_reducible refine hQ0 _ _ ?_; (try dsimp only)) | (k_here; (with_reducible show wpAny _ _ (spliced _) _ _ _); k_dflt ((rename Fr _ _ _ _ => F'); (first | refine' args3 ?_ ?_ ?_ ?_ | refine' args5 ?_ ?_ ?_ ?_ ?_ ?_ | refine' args4 ?_ ?_ ?_ ?_ ?_ | refine' args6 ?_ ?_ ?_ ?_ ?_ ?_ ?_ | refine' args2 ?_ ?_ ?_ | refine' args1 ?_ ?_); (any_goals (first | exact atom_str | exact atom_int | exact atom_none | exact atom_local F' (by (repeat (refine (if_neg (by decide +kernel)).trans ?_)); first | exact if_pos rfl | (show LookIs _ _ _; with_reducible assumption)) rfl rfl rfl (by decide))); (fail_if_success (any_goals (with_reducible show AtomE _ _ _ _ _ _ _))); intros; (try dsimp only))) | (k_here; (with_reducible show wpAny _ _ (binaryOp Operator.Mult (Value.int _ _) (Value.int _ _)) _ _ _); k_dflt ((rename _ < 5 => hi'); refine' PyProof.Rows.mul_int ?_ (IntMulOk.of_right (small_i hi')); (try dsimp only))) | (k_here; (with_reducible show wpAny _ _ (binaryOp Operator.FloorDiv (Value.int _ _) (Value.int _ _)) _ _ _); k_dflt ((rename _ < 5 => hi'); refine PyProof.Rows.floordiv_int pow27_ne ?_ (Or.inl (pow27_pl hi')); (try dsimp only))) | (k_here; (with_reducible show wpAny _ _ (binaryOp Operator.Pow (Value.int _ _) (Value.int _ _)) _ _ _); k_dflt ((rename _ < 5 => hi'); refine PyProof.Rows.pow_int (Int.natCast_nonneg _) (pow27_ok hi') ?_; (try dsimp only))) | (k_here; (with_reducible show wpAny _ _ (call (Value.ref 114) _) _ _ _); k_dflt (refine' names_call ?k1 ?k2 ?k3 ?k4 ?k5 ?k6 ?k7 ?k8 ?k9 ?_; (case k1 => k_asm); (case k2 => k_asm); (case k3 => k_asm); (case k4 => k_asm); (case k5 => k_asm); (case k6 => exact rfl); (case k7 => exact rfl); (case k8 => first | ktr_room | decide); (case k9 => first | ktr_units | decide); intro v' n' h' t' F' N' r'; obtain ⟨D', t0', t1', t2', t3', hv', hn'⟩ := r'; subst hv' hn'; (simp only [List.cons_append, List.nil_append] at N'); (try k_sweep); (try dsimp only))) | (k_here; (with_reducible show wpAny _ _ (eval (Expr.Name _ _) (envOfC _ _ _ _ _)) _ _ _); k_dflt ((rename Fr _ _ _ _ => F'); refine' ldL F' ?lq1 ?_ ?lq2 ?lq3 ?lq4; (case lq3 => rfl); (case lq1 => (repeat (refine (if_neg (by decide +kernel)).trans ?_)); first | exact if_pos rfl | (show LookIs _ _ _; with_reducible assumption)); (case lq2 => rfl); (case lq4 => decide); (try dsimp only))) | (k_here; (with_reducible show wpAny _ _ (subscriptTail _ _ (Value.ref _) (Value.int (Int.fmod _ _) _)) _ _ _); k_dflt ((rename News _ _ _ _ => N'); refine' sub_mod N' (.head _) ?sb1 ?sb0 ?sb2 ?sb3 ?_; (case sb1 => repeat constructor); (case sb0 => rfl); (case sb2 => decide); (case sb3 => decide); intro x' t' hx'; (try dsimp only))) | (k_here; (with_reducible show wpAny _ _ (loadName (envOfC _ _ _ _ _) _) _ _ _); k_dflt ((rename Fr _ _ _ _ => F'); refine' ldLn F' ?lq1 ?_ ?lq2 ?lq3; (case lq3 => rfl); (case lq1 => (repeat (refine (if_neg (by decide +kernel)).trans ?_)); first | exact if_pos rfl | (show LookIs _ _ _; with_reducible assumption)); (case lq2 => rfl); (try dsimp only))) | (k_here; (with_reducible show if (_ == _) = true then _ else _); k_dflt (first | (refine' Mine.ieq_no ?k1 ?_; (case k1 => omega)) | (refine' Mine.ieq_yes ?k1 ?_; (case k1 => omega)))) | ((with_reducible show wpC _ _ _ _ _ _); plain_pass; first | (k_here; (with_reducible show wpC _ _ (execs (_ :: _) _) _ _ _); k_dflt refine wpC_execs_cons ?_) | (k_here; (with_reducible show wpC _ _ (execs [] _) _ _ _); k_dflt refine wpC_execs_nil ?_) | (k_dflt (refine wpC_of_any ?_))) | (k_unfold; (try dsimp only)) | (k_end; wrow_close) | walk1 | dsimp only | (leave1; (try dsimp only)))
  rename Fr _ _ _ _ => F'
  rename News _ _ _ _ => N'
  refine' AtS.mk F' N' ⟨⟨?kA0, _, _, LookIs.hit, ok_app hox (letter_ok _).1, letter_len _ hxl⟩, sub_self⟩
  (repeat (refine KeptBut.set ?_ (by decide +kernel)))
  exact KeptBut.refl
end Mine
end
-- S5b
section
open PySem PySem.W PyProof.Rows PySem.Calls PySem.Spec
namespace Mine
set_option maxRecDepth 100000 in
set_option maxHeartbeats 2000000 in
theorem f_turn {w : World} {p : Program} {loose : List Str} {mean : ExcName → Option Value} {mg mb : Str → Option Value} {s : Shared} {h₀ h' : Heap} {L fa : Addr} {cd : Value} {tk : Nat} {E : Value → Shared → Prop} {m₀ m₁ : Str → Option Value} {it D l' : Addr} {o oD : Obj} {c : Addr × Obj} {ws : List Value} {l : List Str} {n i : Nat} {tz : Tok} {z : Int}
  (K0 : Below callerA h₀ [] h₀) (KX : (hd.heap_39 w.params).In h₀) (T : Top p loose mean mg mb h₀) (F' : Fr h₀ L h' (fun y => if y = Str.ofString "number" then some (.int z tz) else m₁ y)) (N' : News h₀ L h' [(it, o), (D, oD), (l', listOf ws.toArray n), c])
  (hK : KeptBut [Str.ofString "number", Str.ofString "signs", Str.ofString "k"] m₀ m₁) (hf0 : LookIs m₀ (Str.ofString "fields") (.ref l')) (hws : StrsAre ws l) (hln : l.length = i) (hfl : ∀ x ∈ l, FieldIs x) (hi5 : i < 5)
  (ap1 : ∀ p ∈ [(l', listOf ws.toArray n), c], p.1 ≠ it) (ap2 : ∀ p ∈ [(l', listOf ws.toArray n), c], p.1 ≠ D) (apc : c.1 ≠ l') :
   wpAny (model PySem.Challenge.pw_iw0004_01 w) (callerA.deeper (lawEnv L fa cd)) (execs fBody (lawEnv L fa cd)) (fun f s' => f = .next ∧ TurnOut s h₀ L it o D oD (FJ m₀ [c] l' (i + 1)) s') E { s with heap := h', toks := tk } := by
  have hfd : LookIs m₁ (Str.ofString "fields") (.ref l') := LookIs.kept hf0 hK (by decide +kernel)
  refine wpAny_absQ ?_
  intro Q0 hQ0
  refine' lit_A ?le1 ?le2 ?_
  case le1 => (dsimp only [fBody, lawPart, lawBody, PySem.Challenge.pw_iw0004_01, List.getLast?, List.getLast, List.drop, List.take] <;> exact rfl)
  case le2 => (dsimp only [lawScope, PySem.Challenge.pw_iw0004_01, List.getLast?, List.getLast] <;> exact rfl)
  repeat' (first | (with_reducible refine hQ0 _ _ ?_; (try dsimp only)) | (k_here; (with_reducible show wpAny _ _ (spliced _) _ _ _); k_dflt ((rename Fr _ _ _ _ => F'); (first | refine' args3 ?_ ?_ ?_ ?_ | refine' args5 ?_ ?_ ?_ ?_ ?_ ?_ | refine' args4 ?_ ?_ ?_ ?_ ?_ | refine' args6 ?_ ?_ ?_ ?_ ?_ ?_ ?_ | refine' args2 ?_ ?_ ?_ | refine' args1 ?_ ?_); (any_goals (first | exact atom_str | exact atom_int | exact atom_none | exact atom_local F' (by (repeat (refine (if_neg (by decide +kernel)).trans ?_)); first | exact if_pos rfl | (show LookIs _ _ _; with_reducible assumption)) rfl rfl rfl (by decide))); (fail_if_success (any_goals (with_reducible show AtomE _ _ _ _ _ _ _))); intros; (try dsimp only))) | (k_here; (with_reducible show wpAny _ _ (call (Value.ref 121) _) _ _ _); k_dflt (refine' fields_call ?k1 ?k2 ?k3 ?k4 ?k5 ?k6 ?k7 ?k8 ?k9 ?_; (case k1 => k_asm); (case k2 => k_asm); (case k3 => k_asm); (case k4 => k_asm); (case k5 => k_asm); (case k6 => exact rfl); (case k7 => exact rfl); (case k8 => first | ktr_room | decide); (case k9 => first | ktr_units | decide); intro v' n' h' t' F' N' r'; obtain ⟨D', t0', t1', t2', t3', t4', t5', t6', t7', t8', t9', hv', hn'⟩ := r'; subst hv' hn'; (simp only [List.cons_append, List.nil_append] at N'); (try k_sweep); (try dsimp only))) | (k_here; (with_reducible show wpAny _ _ (call (Value.ref 114) _) _ _ _); k_dflt (refine' names_call ?k1 ?k2 ?k3 ?k4 ?k5 ?k6 ?k7 ?k8 ?k9 ?_; (case k1 => k_asm); (case k2 => k_asm); (case k3 => k_asm); (case k4 => k_asm); (case k5 => k_asm); (case k6 => exact rfl); (case k7 => exact rfl); (case k8 => first | ktr_room | decide); (case k9 => first | ktr_units | decide); intro v' n' h' t' F' N' r'; obtain ⟨D', t0', t1', t2', t3', hv', hn'⟩ := r'; subst hv' hn'; (simp only [List.cons_append, List.nil_append] at N'); (try k_sweep); (try dsimp only))) | (k_here; (with_reducible show wpAny _ _ (eval (Expr.Name _ _) (envOfC _ _ _ _ _)) _ _ _); k_dflt ((rename Fr _ _ _ _ => F'); refine' ldL F' ?lq1 ?_ ?lq2 ?lq3 ?lq4; (case lq3 => rfl); (case lq1 => (repeat (refine (if_neg (by decide +kernel)).trans ?_)); first | exact if_pos rfl | (show LookIs _ _ _; with_reducible assumption)); (case lq2 => rfl); (case lq4 => decide); (try dsimp only))) | (k_here; (with_reducible show wpAny _ _ (subscriptTail _ _ (Value.ref _) (Value.int (Int.fmod _ _) _)) _ _ _); k_dflt ((rename News _ _ _ _ => N'); refine' sub_mod N' (.head _) ?sb1 ?sb0 ?sb2 ?sb3 ?_; (case sb1 => repeat constructor); (case sb0 => rfl); (case sb2 => decide); (case sb3 => decide); intro x' t' hx'; (try dsimp only))) | (k_here; (with_reducible show wpAny _ _ (loadName (envOfC _ _ _ _ _) _) _ _ _); k_dflt ((rename Fr _ _ _ _ => F'); refine' ldLn F' ?lq1 ?_ ?lq2 ?lq3; (case lq3 => rfl); (case lq1 => (repeat (refine (if_neg (by decide +kernel)).trans ?_)); first | exact if_pos rfl | (show LookIs _ _ _; with_reducible assumption)); (case lq2 => rfl); (try dsimp only))) | (k_here; (with_reducible show if (_ == _) = true then _ else _); k_dflt (first | (refine' Mine.ieq_no ?k1 ?_; (case k1 => omega)) | (refine' Mine.ieq_yes ?k1 ?_; (case k1 => omega)))) | ((with_reducible show wpC _ _ _ _ _ _); plain_pass; first | (k_here; (with_reducible show wpC _ _ (execs (_ :: _) _) _ _ _); k_dflt refine wpC_execs_cons ?_) | (k_here; (with_reducible show wpC _ _ (execs [] _) _ _ _); k_dflt refine wpC_execs_nil ?_) | (k_dflt (refine wpC_of_any ?_))) | (k_unfold; (try dsimp only)) | (k_end; wrow_close) | walk1 | dsimp only | (leave1; (try dsimp only)))
  rotate_left
  · rename Fr _ _ _ _ => F'
    rename News _ _ _ _ => N'
    have hc5 : ∃ c : Nat, (z.fdiv 2).fmod 5 = (c : Int) ∧ c < 5 := ⟨((z.fdiv 2).fmod 5).toNat, by
      have h1 : 0 ≤ (z.fdiv 2).fmod 5 := Int.fmod_nonneg_of_pos _ (by decide)
      have h2 : (z.fdiv 2).fmod 5 < 5 := Int.fmod_lt_of_pos _ (by decide)
      omega⟩
    obtain ⟨cn, hc, hc5⟩ := hc5
    refine' For_rangeJ (h₀ := h₀) (news := [(it, o), (D, oD), (l', listOf ws.toArray n), c]) rfl cn (Nat.lt_trans hc5 (by decide)) (SJ (fun y => if y = Str.ofString "number" then some (.int z tz) else m₁ y)) ?rx ?rp ?rs ?rt ?rh ?rstep ?rdone
    case rx => exact rfl
    case rp => exact rfl
    case rs => intro _; exact rfl
    case rt => intro _ _; exact rfl
    case rh =>
      repeat' (first | (with_reducible refine hQ0 _ _ ?_; (try dsimp only)) | (k_here; (with_reducible show wpAny _ _ (spliced _) _ _ _); k_dflt ((rename Fr _ _ _ _ => F'); (first | refine' args3 ?_ ?_ ?_ ?_ | refine' args5 ?_ ?_ ?_ ?_ ?_ ?_ | refine' args4 ?_ ?_ ?_ ?_ ?_ | refine' args6 ?_ ?_ ?_ ?_ ?_ ?_ ?_ | refine' args2 ?_ ?_ ?_ | refine' args1 ?_ ?_); (any_goals (first | exact atom_str | exact atom_int | exact atom_none | exact atom_local F' (by (repeat (refine (if_neg (by decide +kernel)).trans ?_)); first | exact if_pos rfl | (show LookIs _ _ _; with_reducible assumption)) rfl rfl rfl (by decide))); (fail_if_success (any_goals (with_reducible show AtomE _ _ _ _ _ _ _))); intros; (try dsimp only))) | (k_here; (with_reducible show wpAny _ _ (call (Value.ref 121) _) _ _ _); k_dflt (refine' fields_call ?k1 ?k2 ?k3 ?k4 ?k5 ?k6 ?k7 ?k8 ?k9 ?_; (case k1 => k_asm); (case k2 => k_asm); (case k3 => k_asm); (case k4 => k_asm); (case k5 => k_asm); (case k6 => exact rfl); (case k7 => exact rfl); (case k8 => first | ktr_room | decide); (case k9 => first | ktr_units | decide); intro v' n' h' t' F' N' r'; obtain ⟨D', t0', t1', t2', t3', t4', t5', t6', t7', t8', t9', hv', hn'⟩ := r'; subst hv' hn'; (simp only [List.cons_append, List.nil_append] at N'); (try k_sweep); (try dsimp only))) | (k_here; (with_reducible show wpAny _ _ (call (Value.ref 114) _) _ _ _); k_dflt (refine' names_call ?k1 ?k2 ?k3 ?k4 ?k5 ?k6 ?k7 ?k8 ?k9 ?_; (case k1 => k_asm); (case k2 => k_asm); (case k3 => k_asm); (case k4 => k_asm); (case k5 => k_asm); (case k6 => exact rfl); (case k7 => exact rfl); (case k8 => first | ktr_room | decide); (case k9 => first | ktr_units | decide); intro v' n' h' t' F' N' r'; obtain ⟨D', t0', t1', t2', t3', hv', hn'⟩ := r'; subst hv' hn'; (simp only [List.cons_append, List.nil_append] at N'); (try k_sweep); (try dsimp only))) | (k_here; (with_reducible show wpAny _ _ (eval (Expr.Name _ _) (envOfC _ _ _ _ _)) _ _ _); k_dflt ((rename Fr _ _ _ _ => F'); refine' ldL F' ?lq1 ?_ ?lq2 ?lq3 ?lq4; (case lq3 => rfl); (case lq1 => (repeat (refine (if_neg (by decide +kernel)).trans ?_)); first | exact if_pos rfl | (show LookIs _ _ _; with_reducible assumption)); (case lq2 => rfl); (case lq4 => decide); (try dsimp only))) | (k_here; (with_reducible show wpAny _ _ (subscriptTail _ _ (Value.ref _) (Value.int (Int.fmod _ _) _)) _ _ _); k_dflt ((rename News _ _ _ _ => N'); refine' sub_mod N' (.head _) ?sb1 ?sb0 ?sb2 ?sb3 ?_; (case sb1 => repeat constructor); (case sb0 => rfl); (case sb2 => decide); (case sb3 => decide); intro x' t' hx'; (try dsimp only))) | (k_here; (with_reducible show wpAny _ _ (loadName (envOfC _ _ _ _ _) _) _ _ _); k_dflt ((rename Fr _ _ _ _ => F'); refine' ldLn F' ?lq1 ?_ ?lq2 ?lq3; (case lq3 => rfl); (case lq1 => (repeat (refine (if_neg (by decide +kernel)).trans ?_)); first | exact if_pos rfl | (show LookIs _ _ _; with_reducible assumption)); (case lq2 => rfl); (try dsimp only))) | (k_here; (with_reducible show if (_ == _) = true then _ else _); k_dflt (first | (refine' Mine.ieq_no ?k1 ?_; (case k1 => omega)) | (refine' Mine.ieq_yes ?k1 ?_; (case k1 => omega)))) | ((with_reducible show wpC _ _ _ _ _ _); plain_pass; first | (k_here; (with_reducible show wpC _ _ (execs (_ :: _) _) _ _ _); k_dflt refine wpC_execs_cons ?_) | (k_here; (with_reducible show wpC _ _ (execs [] _) _ _ _); k_dflt refine wpC_execs_nil ?_) | (k_dflt (refine wpC_of_any ?_))) | (k_unfold; (try dsimp only)) | (k_end; wrow_close) | walk1 | dsimp only | (leave1; (try dsimp only)))
      rename Fr _ _ _ _ => F'
      rename News _ _ _ _ => N'
      rename IsRange _ _ _ _ _ _ _ _ => hR
      refine' ⟨_, _, _, _, _, _, _, rfl, rfl, ?rr, F', ?rn, ⟨?rk, _, _, ?rl, ok_empty, ?r0⟩⟩
      case rr => rw [← hc]; exact hR
      case rn => first | exact N' | exact fun q hq => N' q (.tail _ hq)
      case rk => (repeat (refine KeptBut.set ?_ (by decide +kernel))); exact KeptBut.refl
      case rl => show _ = _; exact if_pos rfl
      case r0 => decide
    case rstep =>
      clear F' N'
      intro i h' tk it2 o2 tv m₂ E' hic hJ hap F' N'
      obtain ⟨hK2, x, tx, hlx, hox, hxl⟩ := hJ
      have hln : LookIs m₂ (Str.ofString "number") (.int z tz) := LookIs.kept LookIs.hit hK2 (by decide +kernel)
      refine wpAny_mono (k_turn K0 KX T F' N' hlx hln (Nat.lt_trans hic hc5) hox hxl) (fun f s' h => ?_) fun _ _ e => e
      obtain ⟨hf, h'', tk', m', n', e, F, N, ⟨hk, y, t, hy⟩, hs⟩ := h
      exact ⟨hf, h'', tk', m', n', e, F, N, ⟨KeptBut.trans hK2 hk, y, t, hy⟩, hs⟩
    case rdone =>
      clear F' N'
      intro h' tk m₂ hJ F' N'
      obtain ⟨hK2, x, tx, hlx, hox, hxl⟩ := hJ
      have hfd : LookIs m₂ (Str.ofString "fields") (.ref l') := LookIs.kept (LookIs.miss hfd (by decide +kernel)) hK2 (by decide +kernel)
      dsimp only
      repeat' (first | (with_reducible refine hQ0 _ _ ?_; (try dsimp only)) | (k_here; (with_reducible show wpAny _ _ (spliced _) _ _ _); k_dflt ((rename Fr _ _ _ _ => F'); (first | refine' args3 ?_ ?_ ?_ ?_ | refine' args5 ?_ ?_ ?_ ?_ ?_ ?_ | refine' args4 ?_ ?_ ?_ ?_ ?_ | refine' args6 ?_ ?_ ?_ ?_ ?_ ?_ ?_ | refine' args2 ?_ ?_ ?_ | refine' args1 ?_ ?_); (any_goals (first | exact atom_str | exact atom_int | exact atom_none | exact atom_local F' (by (repeat (refine (if_neg (by decide +kernel)).trans ?_)); first | exact if_pos rfl | (show LookIs _ _ _; with_reducible assumption)) rfl rfl rfl (by decide))); (fail_if_success (any_goals (with_reducible show AtomE _ _ _ _ _ _ _))); intros; (try dsimp only))) | (k_here; (with_reducible show wpAny _ _ (call (Value.ref 121) _) _ _ _); k_dflt (refine' fields_call ?k1 ?k2 ?k3 ?k4 ?k5 ?k6 ?k7 ?k8 ?k9 ?_; (case k1 => k_asm); (case k2 => k_asm); (case k3 => k_asm); (case k4 => k_asm); (case k5 => k_asm); (case k6 => exact rfl); (case k7 => exact rfl); (case k8 => first | ktr_room | decide); (case k9 => first | ktr_units | decide); intro v' n' h' t' F' N' r'; obtain ⟨D', t0', t1', t2', t3', t4', t5', t6', t7', t8', t9', hv', hn'⟩ := r'; subst hv' hn'; (simp only [List.cons_append, List.nil_append] at N'); (try k_sweep); (try dsimp only))) | (k_here; (with_reducible show wpAny _ _ (call (Value.ref 114) _) _ _ _); k_dflt (refine' names_call ?k1 ?k2 ?k3 ?k4 ?k5 ?k6 ?k7 ?k8 ?k9 ?_; (case k1 => k_asm); (case k2 => k_asm); (case k3 => k_asm); (case k4 => k_asm); (case k5 => k_asm); (case k6 => exact rfl); (case k7 => exact rfl); (case k8 => first | ktr_room | decide); (case k9 => first | ktr_units | decide); intro v' n' h' t' F' N' r'; obtain ⟨D', t0', t1', t2', t3', hv', hn'⟩ := r'; subst hv' hn'; (simp only [List.cons_append, List.nil_append] at N'); (try k_sweep); (try dsimp only))) | (k_here; (with_reducible show wpAny _ _ (eval (Expr.Name _ _) (envOfC _ _ _ _ _)) _ _ _); k_dflt ((rename Fr _ _ _ _ => F'); refine' ldL F' ?lq1 ?_ ?lq2 ?lq3 ?lq4; (case lq3 => rfl); (case lq1 => (repeat (refine (if_neg (by decide +kernel)).trans ?_)); first | exact if_pos rfl | (show LookIs _ _ _; with_reducible assumption)); (case lq2 => rfl); (case lq4 => decide); (try dsimp only))) | (k_here; (with_reducible show wpAny _ _ (subscriptTail _ _ (Value.ref _) (Value.int (Int.fmod _ _) _)) _ _ _); k_dflt ((rename News _ _ _ _ => N'); refine' sub_mod N' (.head _) ?sb1 ?sb0 ?sb2 ?sb3 ?_; (case sb1 => repeat constructor); (case sb0 => rfl); (case sb2 => decide); (case sb3 => decide); intro x' t' hx'; (try dsimp only))) | (k_here; (with_reducible show wpAny _ _ (loadName (envOfC _ _ _ _ _) _) _ _ _); k_dflt ((rename Fr _ _ _ _ => F'); refine' ldLn F' ?lq1 ?_ ?lq2 ?lq3; (case lq3 => rfl); (case lq1 => (repeat (refine (if_neg (by decide +kernel)).trans ?_)); first | exact if_pos rfl | (show LookIs _ _ _; with_reducible assumption)); (case lq2 => rfl); (try dsimp only))) | (k_here; (with_reducible show if (_ == _) = true then _ else _); k_dflt (first | (refine' Mine.ieq_no ?k1 ?_; (case k1 => omega)) | (refine' Mine.ieq_yes ?k1 ?_; (case k1 => omega)))) | ((with_reducible show wpC _ _ _ _ _ _); plain_pass; first | (k_here; (with_reducible show wpC _ _ (execs (_ :: _) _) _ _ _); k_dflt refine wpC_execs_cons ?_) | (k_here; (with_reducible show wpC _ _ (execs [] _) _ _ _); k_dflt refine wpC_execs_nil ?_) | (k_dflt (refine wpC_of_any ?_))) | (k_unfold; (try dsimp only)) | (k_end; wrow_close) | walk1 | dsimp only | (leave1; (try dsimp only)))
      rename Fr _ _ _ _ => F'
      rename News _ _ _ _ => N'
      refine' append_sub (its := ws.toArray) (n := n) [(it, o), (D, oD)] [c] F' N' ?as1 ?a11 ?a21 ?_ ?a31
      case as1 => exact sub_self
      case a11 =>
        intro p hp
        simp only [List.mem_cons, List.not_mem_nil, or_false] at hp
        rcases hp with rfl | rfl
        · exact fun e => ap1 _ (.head _) e.symm
        · exact fun e => ap2 _ (.head _) e.symm
      case a21 =>
        intro p hp
        simp only [List.mem_cons, List.not_mem_nil, or_false] at hp
        subst hp
        exact apc
      case a31 => exact size_small hws hln hi5
      intro h'' F' N'
      simp only [List.cons_append, List.nil_append] at N'
      repeat' (first | (with_reducible refine hQ0 _ _ ?_; (try dsimp only)) | (k_here; (with_reducible show wpAny _ _ (spliced _) _ _ _); k_dflt ((rename Fr _ _ _ _ => F'); (first | refine' args3 ?_ ?_ ?_ ?_ | refine' args5 ?_ ?_ ?_ ?_ ?_ ?_ | refine' args4 ?_ ?_ ?_ ?_ ?_ | refine' args6 ?_ ?_ ?_ ?_ ?_ ?_ ?_ | refine' args2 ?_ ?_ ?_ | refine' args1 ?_ ?_); (any_goals (first | exact atom_str | exact atom_int | exact atom_none | exact atom_local F' (by (repeat (refine (if_neg (by decide +kernel)).trans ?_)); first | exact if_pos rfl | (show LookIs _ _ _; with_reducible assumption)) rfl rfl rfl (by decide))); (fail_if_success (any_goals (with_reducible show AtomE _ _ _ _ _ _ _))); intros; (try dsimp only))) | (k_here; (with_reducible show wpAny _ _ (call (Value.ref 121) _) _ _ _); k_dflt (refine' fields_call ?k1 ?k2 ?k3 ?k4 ?k5 ?k6 ?k7 ?k8 ?k9 ?_; (case k1 => k_asm); (case k2 => k_asm); (case k3 => k_asm); (case k4 => k_asm); (case k5 => k_asm); (case k6 => exact rfl); (case k7 => exact rfl); (case k8 => first | ktr_room | decide); (case k9 => first | ktr_units | decide); intro v' n' h' t' F' N' r'; obtain ⟨D', t0', t1', t2', t3', t4', t5', t6', t7', t8', t9', hv', hn'⟩ := r'; subst hv' hn'; (simp only [List.cons_append, List.nil_append] at N'); (try k_sweep); (try dsimp only))) | (k_here; (with_reducible show wpAny _ _ (call (Value.ref 114) _) _ _ _); k_dflt (refine' names_call ?k1 ?k2 ?k3 ?k4 ?k5 ?k6 ?k7 ?k8 ?k9 ?_; (case k1 => k_asm); (case k2 => k_asm); (case k3 => k_asm); (case k4 => k_asm); (case k5 => k_asm); (case k6 => exact rfl); (case k7 => exact rfl); (case k8 => first | ktr_room | decide); (case k9 => first | ktr_units | decide); intro v' n' h' t' F' N' r'; obtain ⟨D', t0', t1', t2', t3', hv', hn'⟩ := r'; subst hv' hn'; (simp only [List.cons_append, List.nil_append] at N'); (try k_sweep); (try dsimp only))) | (k_here; (with_reducible show wpAny _ _ (eval (Expr.Name _ _) (envOfC _ _ _ _ _)) _ _ _); k_dflt ((rename Fr _ _ _ _ => F'); refine' ldL F' ?lq1 ?_ ?lq2 ?lq3 ?lq4; (case lq3 => rfl); (case lq1 => (repeat (refine (if_neg (by decide +kernel)).trans ?_)); first | exact if_pos rfl | (show LookIs _ _ _; with_reducible assumption)); (case lq2 => rfl); (case lq4 => decide); (try dsimp only))) | (k_here; (with_reducible show wpAny _ _ (subscriptTail _ _ (Value.ref _) (Value.int (Int.fmod _ _) _)) _ _ _); k_dflt ((rename News _ _ _ _ => N'); refine' sub_mod N' (.head _) ?sb1 ?sb0 ?sb2 ?sb3 ?_; (case sb1 => repeat constructor); (case sb0 => rfl); (case sb2 => decide); (case sb3 => decide); intro x' t' hx'; (try dsimp only))) | (k_here; (with_reducible show wpAny _ _ (loadName (envOfC _ _ _ _ _) _) _ _ _); k_dflt ((rename Fr _ _ _ _ => F'); refine' ldLn F' ?lq1 ?_ ?lq2 ?lq3; (case lq3 => rfl); (case lq1 => (repeat (refine (if_neg (by decide +kernel)).trans ?_)); first | exact if_pos rfl | (show LookIs _ _ _; with_reducible assumption)); (case lq2 => rfl); (try dsimp only))) | (k_here; (with_reducible show if (_ == _) = true then _ else _); k_dflt (first | (refine' Mine.ieq_no ?k1 ?_; (case k1 => omega)) | (refine' Mine.ieq_yes ?k1 ?_; (case k1 => omega)))) | ((with_reducible show wpC _ _ _ _ _ _); plain_pass; first | (k_here; (with_reducible show wpC _ _ (execs (_ :: _) _) _ _ _); k_dflt refine wpC_execs_cons ?_) | (k_here; (with_reducible show wpC _ _ (execs [] _) _ _ _); k_dflt refine wpC_execs_nil ?_) | (k_dflt (refine wpC_of_any ?_))) | (k_unfold; (try dsimp only)) | (k_end; wrow_close) | walk1 | dsimp only | (leave1; (try dsimp only)))
      rename Fr _ _ _ _ => F'
      rename News _ _ _ _ => N'
      refine' ⟨_, _, _, _, rfl, F', N', ?b11, ?b21, ?b31, ws ++ [_], l ++ [x], n + 1, ?b61, StrsAre.snoc hws _ _, ?b41, ?b51⟩
      case b11 => exact push_apart ap1
      case b21 => exact push_apart ap2
      case b31 =>
        refine KeptBut.trans hK ?_
        exact KeptBut.trans (KeptBut.set KeptBut.refl (by decide +kernel)) (KeptBut.mono hK2 (by decide +kernel))
      case b41 => rw [List.length_append, hln]; rfl
      case b51 => exact field_snoc hfl ⟨hox, by omega⟩
      case b61 => rw [List.push_toArray]
  repeat' (first | (with_reducible refine hQ0 _ _ ?_; (try dsimp only)) | (k_here; (with_reducible show wpAny _ _ (spliced _) _ _ _); k_dflt ((rename Fr _ _ _ _ => F'); (first | refine' args3 ?_ ?_ ?_ ?_ | refine' args5 ?_ ?_ ?_ ?_ ?_ ?_ | refine' args4 ?_ ?_ ?_ ?_ ?_ | refine' args6 ?_ ?_ ?_ ?_ ?_ ?_ ?_ | refine' args2 ?_ ?_ ?_ | refine' args1 ?_ ?_); (any_goals (first | exact atom_str | exact atom_int | exact atom_none | exact atom_local F' (by (repeat (refine (if_neg (by decide +kernel)).trans ?_)); first | exact if_pos rfl | (show LookIs _ _ _; with_reducible assumption)) rfl rfl rfl (by decide))); (fail_if_success (any_goals (with_reducible show AtomE _ _ _ _ _ _ _))); intros; (try dsimp only))) | (k_here; (with_reducible show wpAny _ _ (call (Value.ref 121) _) _ _ _); k_dflt (refine' fields_call ?k1 ?k2 ?k3 ?k4 ?k5 ?k6 ?k7 ?k8 ?k9 ?_; (case k1 => k_asm); (case k2 => k_asm); (case k3 => k_asm); (case k4 => k_asm); (case k5 => k_asm); (case k6 => exact rfl); (case k7 => exact rfl); (case k8 => first | ktr_room | decide); (case k9 => first | ktr_units | decide); intro v' n' h' t' F' N' r'; obtain ⟨D', t0', t1', t2', t3', t4', t5', t6', t7', t8', t9', hv', hn'⟩ := r'; subst hv' hn'; (simp only [List.cons_append, List.nil_append] at N'); (try k_sweep); (try dsimp only))) | (k_here; (with_reducible show wpAny _ _ (call (Value.ref 114) _) _ _ _); k_dflt (refine' names_call ?k1 ?k2 ?k3 ?k4 ?k5 ?k6 ?k7 ?k8 ?k9 ?_; (case k1 => k_asm); (case k2 => k_asm); (case k3 => k_asm); (case k4 => k_asm); (case k5 => k_asm); (case k6 => exact rfl); (case k7 => exact rfl); (case k8 => first | ktr_room | decide); (case k9 => first | ktr_units | decide); intro v' n' h' t' F' N' r'; obtain ⟨D', t0', t1', t2', t3', hv', hn'⟩ := r'; subst hv' hn'; (simp only [List.cons_append, List.nil_append] at N'); (try k_sweep); (try dsimp only))) | (k_here; (with_reducible show wpAny _ _ (eval (Expr.Name _ _) (envOfC _ _ _ _ _)) _ _ _); k_dflt ((rename Fr _ _ _ _ => F'); refine' ldL F' ?lq1 ?_ ?lq2 ?lq3 ?lq4; (case lq3 => rfl); (case lq1 => (repeat (refine (if_neg (by decide +kernel)).trans ?_)); first | exact if_pos rfl | (show LookIs _ _ _; with_reducible assumption)); (case lq2 => rfl); (case lq4 => decide); (try dsimp only))) | (k_here; (with_reducible show wpAny _ _ (subscriptTail _ _ (Value.ref _) (Value.int (Int.fmod _ _) _)) _ _ _); k_dflt ((rename News _ _ _ _ => N'); refine' sub_mod N' (.head _) ?sb1 ?sb0 ?sb2 ?sb3 ?_; (case sb1 => repeat constructor); (case sb0 => rfl); (case sb2 => decide); (case sb3 => decide); intro x' t' hx'; (try dsimp only))) | (k_here; (with_reducible show wpAny _ _ (loadName (envOfC _ _ _ _ _) _) _ _ _); k_dflt ((rename Fr _ _ _ _ => F'); refine' ldLn F' ?lq1 ?_ ?lq2 ?lq3; (case lq3 => rfl); (case lq1 => (repeat (refine (if_neg (by decide +kernel)).trans ?_)); first | exact if_pos rfl | (show LookIs _ _ _; with_reducible assumption)); (case lq2 => rfl); (try dsimp only))) | (k_here; (with_reducible show if (_ == _) = true then _ else _); k_dflt (first | (refine' Mine.ieq_no ?k1 ?_; (case k1 => omega)) | (refine' Mine.ieq_yes ?k1 ?_; (case k1 => omega)))) | ((with_reducible show wpC _ _ _ _ _ _); plain_pass; first | (k_here; (with_reducible show wpC _ _ (execs (_ :: _) _) _ _ _); k_dflt refine wpC_execs_cons ?_) | (k_here; (with_reducible show wpC _ _ (execs [] _) _ _ _); k_dflt refine wpC_execs_nil ?_) | (k_dflt (refine wpC_of_any ?_))) | (k_unfold; (try dsimp only)) | (k_end; wrow_close) | walk1 | dsimp only | (leave1; (try dsimp only)))
  rename Fr _ _ _ _ => F'
  rename News _ _ _ _ => N'
  refine' append_sub (its := ws.toArray) (n := n) [(it, o), (D, oD)] [c] F' N' ?as2 ?a12 ?a22 ?_ ?a32
  case as2 => exact sub_more sub_self
  case a12 =>
    intro p hp
    simp only [List.mem_cons, List.not_mem_nil, or_false] at hp
    rcases hp with rfl | rfl
    · exact fun e => ap1 _ (.head _) e.symm
    · exact fun e => ap2 _ (.head _) e.symm
  case a22 =>
    intro p hp
    simp only [List.mem_cons, List.not_mem_nil, or_false] at hp
    subst hp
    exact apc
  case a32 => exact size_small hws hln hi5
  intro h'' F' N'
  simp only [List.cons_append, List.nil_append] at N'
  repeat' (first | (with_reducible refine hQ0 _ _ ?_; (try dsimp only)) | (k_here; (with_reducible show wpAny _ _ (spliced _) _ _ _); k_dflt ((rename Fr _ _ _ _ => F'); (first | refine' args3 ?_ ?_ ?_ ?_ | refine' args5 ?_ ?_ ?_ ?_ ?_ ?_ | refine' args4 ?_ ?_ ?_ ?_ ?_ | refine' args6 ?_ ?_ ?_ ?_ ?_ ?_ ?_ | refine' args2 ?_ ?_ ?_ | refine' args1 ?_ ?_); (any_goals (first | exact atom_str | exact atom_int | exact atom_none | exact atom_local F' (by (repeat (refine (if_neg (by decide +kernel)).trans ?_)); first | exact if_pos rfl | (show LookIs _ _ _; with_reducible assumption)) rfl rfl rfl (by decide))); (fail_if_success (any_goals (with_reducible show AtomE _ _ _ _ _ _ _))); intros; (try dsimp only))) | (k_here; (with_reducible show wpAny _ _ (call (Value.ref 121) _) _ _ _); k_dflt (refine' fields_call ?k1 ?k2 ?k3 ?k4 ?k5 ?k6 ?k7 ?k8 ?k9 ?_; (case k1 => k_asm); (case k2 => k_asm); (case k3 => k_asm); (case k4 => k_asm); (case k5 => k_asm); (case k6 => exact rfl); (case k7 => exact rfl); (case k8 => first | ktr_room | decide); (case k9 => first | ktr_units | decide); intro v' n' h' t' F' N' r'; obtain ⟨D', t0', t1', t2', t3', t4', t5', t6', t7', t8', t9', hv', hn'⟩ := r'; subst hv' hn'; (simp only [List.cons_append, List.nil_append] at N'); (try k_sweep); (try dsimp only))) | (k_here; (with_reducible show wpAny _ _ (call (Value.ref 114) _) _ _ _); k_dflt (refine' names_call ?k1 ?k2 ?k3 ?k4 ?k5 ?k6 ?k7 ?k8 ?k9 ?_; (case k1 => k_asm); (case k2 => k_asm); (case k3 => k_asm); (case k4 => k_asm); (case k5 => k_asm); (case k6 => exact rfl); (case k7 => exact rfl); (case k8 => first | ktr_room | decide); (case k9 => first | ktr_units | decide); intro v' n' h' t' F' N' r'; obtain ⟨D', t0', t1', t2', t3', hv', hn'⟩ := r'; subst hv' hn'; (simp only [List.cons_append, List.nil_append] at N'); (try k_sweep); (try dsimp only))) | (k_here; (with_reducible show wpAny _ _ (eval (Expr.Name _ _) (envOfC _ _ _ _ _)) _ _ _); k_dflt ((rename Fr _ _ _ _ => F'); refine' ldL F' ?lq1 ?_ ?lq2 ?lq3 ?lq4; (case lq3 => rfl); (case lq1 => (repeat (refine (if_neg (by decide +kernel)).trans ?_)); first | exact if_pos rfl | (show LookIs _ _ _; with_reducible assumption)); (case lq2 => rfl); (case lq4 => decide); (try dsimp only))) | (k_here; (with_reducible show wpAny _ _ (subscriptTail _ _ (Value.ref _) (Value.int (Int.fmod _ _) _)) _ _ _); k_dflt ((rename News _ _ _ _ => N'); refine' sub_mod N' (.head _) ?sb1 ?sb0 ?sb2 ?sb3 ?_; (case sb1 => repeat constructor); (case sb0 => rfl); (case sb2 => decide); (case sb3 => decide); intro x' t' hx'; (try dsimp only))) | (k_here; (with_reducible show wpAny _ _ (loadName (envOfC _ _ _ _ _) _) _ _ _); k_dflt ((rename Fr _ _ _ _ => F'); refine' ldLn F' ?lq1 ?_ ?lq2 ?lq3; (case lq3 => rfl); (case lq1 => (repeat (refine (if_neg (by decide +kernel)).trans ?_)); first | exact if_pos rfl | (show LookIs _ _ _; with_reducible assumption)); (case lq2 => rfl); (try dsimp only))) | (k_here; (with_reducible show if (_ == _) = true then _ else _); k_dflt (first | (refine' Mine.ieq_no ?k1 ?_; (case k1 => omega)) | (refine' Mine.ieq_yes ?k1 ?_; (case k1 => omega)))) | ((with_reducible show wpC _ _ _ _ _ _); plain_pass; first | (k_here; (with_reducible show wpC _ _ (execs (_ :: _) _) _ _ _); k_dflt refine wpC_execs_cons ?_) | (k_here; (with_reducible show wpC _ _ (execs [] _) _ _ _); k_dflt refine wpC_execs_nil ?_) | (k_dflt (refine wpC_of_any ?_))) | (k_unfold; (try dsimp only)) | (k_end; wrow_close) | walk1 | dsimp only | (leave1; (try dsimp only)))
  rename Fr _ _ _ _ => F'
  rename News _ _ _ _ => N'
  refine' ⟨_, _, _, _, rfl, F', N', ?b12, ?b22, ?b32, ws ++ [_], l ++ [_], n + 1, ?b62, StrsAre.snoc hws _ _, ?b42, ?b52⟩
  case b12 => exact push_apart ap1
  case b22 => exact push_apart ap2
  case b32 =>
    refine KeptBut.trans hK ?_
    (repeat (refine KeptBut.set ?_ (by decide +kernel))); exact KeptBut.refl
  case b42 => rw [List.length_append, hln]; rfl
  case b52 => exact field_snoc hfl (fieldIs_in (by assumption))
  case b62 => rw [List.push_toArray]
end Mine
end
-- S5c
section
open PySem PySem.W PyProof.Rows PySem.Calls PySem.Spec
namespace Mine
set_option maxRecDepth 100000 in
set_option maxHeartbeats 2000000 in
theorem seg5 {w : World} {p : Program} {loose : List Str} {mean : ExcName → Option Value} {mg mb : Str → Option Value} {s₁ : Shared} {h₁ : Heap} {L fa : Addr} {cd : Value} {tk : Nat} {E : Value → Shared → Prop} {m : Str → Option Value} {D : Addr} {vs : List Value} {ns : List Int} {cell : Obj}
  (K0 : Below callerA s₁.heap [] s₁.heap) (KX : (hd.heap_39 w.params).In s₁.heap) (T : Top p loose mean mg mb s₁.heap) (F' : Fr s₁.heap L h₁ m) (N' : News s₁.heap L h₁ [(L+1, cell)]) (hL : s₁.heap.IsList D vs.toArray) (hI : IntsAre vs ns) (h63 : ¬ 63 < ns.length) (hcell : cell.data = .cell (some (.ref D))) :
   wpC (model PySem.Challenge.pw_iw0004_01 w) (callerA.deeper (lawEnv L fa cd)) (execs (lawPart 5 2) (lawEnv L fa cd)) (fun f s' => f = .next ∧ AtS s₁ s₁.heap L (fun m' n' => KeptBut [Str.ofString "fields", Str.ofString "number", Str.ofString "signs", Str.ofString "k"] m m' ∧ ∃ q ws l n, LookIs m' (Str.ofString "fields") (.ref q) ∧ (q, listOf ws.toArray n) ∈ n' ∧ StrsAre ws l ∧ l.length ≤ 5 ∧ ∀ x ∈ l, FieldIs x) s') E { s₁ with heap := h₁, toks := tk } := by
  refine wpC_absQ ?_
  intro Q0 hQ0
  refine' lit_C ?le1 ?le2 ?_
  case le1 => (dsimp only [lawPart, lawBody, PySem.Challenge.pw_iw0004_01, List.getLast?, List.getLast, List.drop, List.take] <;> exact rfl)
  case le2 => (dsimp only [lawScope, PySem.Challenge.pw_iw0004_01, List.getLast?, List.getLast] <;> exact rfl)
  repeat' ((fail_if_success (with_reducible show wpAny _ _ (exec (Stmt.For _ _ _ _ _) _) _ _ _)); first | (with_reducible refine hQ0 _ _ ?_; (try dsimp only)) | (k_here; (with_reducible show wpAny _ _ (spliced _) _ _ _); k_dflt ((rename Fr _ _ _ _ => F'); (first | refine' args3 ?_ ?_ ?_ ?_ | refine' args5 ?_ ?_ ?_ ?_ ?_ ?_ | refine' args4 ?_ ?_ ?_ ?_ ?_ | refine' args6 ?_ ?_ ?_ ?_ ?_ ?_ ?_ | refine' args2 ?_ ?_ ?_ | refine' args1 ?_ ?_); (any_goals (first | exact atom_str | exact atom_int | exact atom_none | exact atom_local F' (by (repeat (refine (if_neg (by decide +kernel)).trans ?_)); first | exact if_pos rfl | (show LookIs _ _ _; with_reducible assumption)) rfl rfl rfl (by decide))); (fail_if_success (any_goals (with_reducible show AtomE _ _ _ _ _ _ _))); intros; (try dsimp only))) | (k_here; (with_reducible show wpAny _ _ (eval (Expr.Name _ _) (envOfC _ _ _ _ _)) _ _ _); k_dflt ((rename Fr _ _ _ _ => F'); refine' ldL F' ?lq1 ?_ ?lq2 ?lq3 ?lq4; (case lq3 => rfl); (case lq1 => (repeat (refine (if_neg (by decide +kernel)).trans ?_)); first | exact if_pos rfl | (show LookIs _ _ _; with_reducible assumption)); (case lq2 => rfl); (case lq4 => decide); (try dsimp only))) | (k_here; (with_reducible show wpAny _ _ (loadName (envOfC _ _ _ _ _) _) _ _ _); k_dflt ((rename Fr _ _ _ _ => F'); refine' ldLn F' ?lq1 ?_ ?lq2 ?lq3; (case lq3 => rfl); (case lq1 => (repeat (refine (if_neg (by decide +kernel)).trans ?_)); first | exact if_pos rfl | (show LookIs _ _ _; with_reducible assumption)); (case lq2 => rfl); (try dsimp only))) | (k_here; (with_reducible show if (_ == _) = true then _ else _); k_dflt (first | (refine' Mine.ieq_no ?k1 ?_; (case k1 => omega)) | (refine' Mine.ieq_yes ?k1 ?_; (case k1 => omega)))) | ((with_reducible show wpC _ _ _ _ _ _); plain_pass; first | (k_here; (with_reducible show wpC _ _ (execs (_ :: _) _) _ _ _); k_dflt refine wpC_execs_cons ?_) | (k_here; (with_reducible show wpC _ _ (execs [] _) _ _ _); k_dflt refine wpC_execs_nil ?_) | (k_dflt (refine wpC_of_any ?_))) | (k_unfold; (try dsimp only)) | (k_end; wrow_close) | walk1 | dsimp only | (leave1; (try dsimp only)))
  rename Fr _ _ _ _ => F'
  rename News _ _ _ _ => N'
  rename_i l' hO l1 h'
  refine' For_listJ (h₀ := s₁.heap) rfl PVI (FJ (fun y => if y = Str.ofString "fields" then some (.ref l') else m y) [(L+1, cell)] l') ?rx ?rp ?rs ?rt ?rh ?rstep ?rdone
  case rx => exact rfl
  case rp => exact rfl
  case rs => intro _; exact rfl
  case rt => intro _ _; exact rfl
  case rh =>
    repeat' (first | (with_reducible refine hQ0 _ _ ?_; (try dsimp only)) | (k_here; (with_reducible show wpAny _ _ (spliced _) _ _ _); k_dflt ((rename Fr _ _ _ _ => F'); (first | refine' args3 ?_ ?_ ?_ ?_ | refine' args5 ?_ ?_ ?_ ?_ ?_ ?_ | refine' args4 ?_ ?_ ?_ ?_ ?_ | refine' args6 ?_ ?_ ?_ ?_ ?_ ?_ ?_ | refine' args2 ?_ ?_ ?_ | refine' args1 ?_ ?_); (any_goals (first | exact atom_str | exact atom_int | exact atom_none | exact atom_local F' (by (repeat (refine (if_neg (by decide +kernel)).trans ?_)); first | exact if_pos rfl | (show LookIs _ _ _; with_reducible assumption)) rfl rfl rfl (by decide))); (fail_if_success (any_goals (with_reducible show AtomE _ _ _ _ _ _ _))); intros; (try dsimp only))) | (k_here; (with_reducible show wpAny _ _ (eval (Expr.Name _ _) (envOfC _ _ _ _ _)) _ _ _); k_dflt ((rename Fr _ _ _ _ => F'); refine' ldL F' ?lq1 ?_ ?lq2 ?lq3 ?lq4; (case lq3 => rfl); (case lq1 => (repeat (refine (if_neg (by decide +kernel)).trans ?_)); first | exact if_pos rfl | (show LookIs _ _ _; with_reducible assumption)); (case lq2 => rfl); (case lq4 => decide); (try dsimp only))) | (k_here; (with_reducible show wpAny _ _ (loadName (envOfC _ _ _ _ _) _) _ _ _); k_dflt ((rename Fr _ _ _ _ => F'); refine' ldLn F' ?lq1 ?_ ?lq2 ?lq3; (case lq3 => rfl); (case lq1 => (repeat (refine (if_neg (by decide +kernel)).trans ?_)); first | exact if_pos rfl | (show LookIs _ _ _; with_reducible assumption)); (case lq2 => rfl); (try dsimp only))) | (k_here; (with_reducible show if (_ == _) = true then _ else _); k_dflt (first | (refine' Mine.ieq_no ?k1 ?_; (case k1 => omega)) | (refine' Mine.ieq_yes ?k1 ?_; (case k1 => omega)))) | ((with_reducible show wpC _ _ _ _ _ _); plain_pass; first | (k_here; (with_reducible show wpC _ _ (execs (_ :: _) _) _ _ _); k_dflt refine wpC_execs_cons ?_) | (k_here; (with_reducible show wpC _ _ (execs [] _) _ _ _); k_dflt refine wpC_execs_nil ?_) | (k_dflt (refine wpC_of_any ?_))) | (k_unfold; (try dsimp only)) | (k_end; wrow_close) | walk1 | dsimp only | (leave1; (try dsimp only)))
    rename IntsAre _ (List.take _ _) => hI'
    rename _ ∧ _ => l2
    rename Fr _ _ _ _ => F'
    rename News _ _ _ _ => N'
    refine' ⟨_, _, _, _, _, _, _, rfl, rfl, F', N', ?ap, ⟨_, hI', ?pl⟩, ⟨?kp, [], [], 0, rfl, .nil, rfl, ?al⟩⟩
    case ap =>
      intro p hp
      simp only [List.mem_cons, List.not_mem_nil, or_false] at hp
      rcases hp with rfl | rfl
      · exact Nat.ne_of_lt l2.1
      · exact Nat.ne_of_lt l2.2
    case pl =>
      simp only [List.length_take, List.length_drop]
      omega
    case kp => exact KeptBut.refl
    case al => intro x hx; cases hx
  case rstep =>
    clear F' N' hL hI hcell
    intro vs n0 D i v h' tk it o m₁ news₁ E' hPV hv hJ ap1 ap2 hDit F' N'
    obtain ⟨z, tz, rfl⟩ := pvi_at hPV hv
    obtain ⟨hK, ws, l, n, rfl, hws, hln, hfl⟩ := hJ
    exact f_turn K0 KX T F' N' hK LookIs.hit hws hln hfl (pvi_len hPV hv) ap1 ap2 (Nat.ne_of_lt l1)
  case rdone =>
    clear F' N'
    intro vs n0 D h' tk m₁ news₁ hPV hJ ap F' N'
    obtain ⟨hK, ws, l, n, rfl, hws, hln, hfl⟩ := hJ
    have hfd : LookIs m₁ (Str.ofString "fields") (.ref l') := LookIs.kept LookIs.hit hK (by decide +kernel)
    repeat' (first | (with_reducible refine hQ0 _ _ ?_; (try dsimp only)) | (k_here; (with_reducible show wpAny _ _ (spliced _) _ _ _); k_dflt ((rename Fr _ _ _ _ => F'); (first | refine' args3 ?_ ?_ ?_ ?_ | refine' args5 ?_ ?_ ?_ ?_ ?_ ?_ | refine' args4 ?_ ?_ ?_ ?_ ?_ | refine' args6 ?_ ?_ ?_ ?_ ?_ ?_ ?_ | refine' args2 ?_ ?_ ?_ | refine' args1 ?_ ?_); (any_goals (first | exact atom_str | exact atom_int | exact atom_none | exact atom_local F' (by (repeat (refine (if_neg (by decide +kernel)).trans ?_)); first | exact if_pos rfl | (show LookIs _ _ _; with_reducible assumption)) rfl rfl rfl (by decide))); (fail_if_success (any_goals (with_reducible show AtomE _ _ _ _ _ _ _))); intros; (try dsimp only))) | (k_here; (with_reducible show wpAny _ _ (eval (Expr.Name _ _) (envOfC _ _ _ _ _)) _ _ _); k_dflt ((rename Fr _ _ _ _ => F'); refine' ldL F' ?lq1 ?_ ?lq2 ?lq3 ?lq4; (case lq3 => rfl); (case lq1 => (repeat (refine (if_neg (by decide +kernel)).trans ?_)); first | exact if_pos rfl | (show LookIs _ _ _; with_reducible assumption)); (case lq2 => rfl); (case lq4 => decide); (try dsimp only))) | (k_here; (with_reducible show wpAny _ _ (loadName (envOfC _ _ _ _ _) _) _ _ _); k_dflt ((rename Fr _ _ _ _ => F'); refine' ldLn F' ?lq1 ?_ ?lq2 ?lq3; (case lq3 => rfl); (case lq1 => (repeat (refine (if_neg (by decide +kernel)).trans ?_)); first | exact if_pos rfl | (show LookIs _ _ _; with_reducible assumption)); (case lq2 => rfl); (try dsimp only))) | (k_here; (with_reducible show if (_ == _) = true then _ else _); k_dflt (first | (refine' Mine.ieq_no ?k1 ?_; (case k1 => omega)) | (refine' Mine.ieq_yes ?k1 ?_; (case k1 => omega)))) | ((with_reducible show wpC _ _ _ _ _ _); plain_pass; first | (k_here; (with_reducible show wpC _ _ (execs (_ :: _) _) _ _ _); k_dflt refine wpC_execs_cons ?_) | (k_here; (with_reducible show wpC _ _ (execs [] _) _ _ _); k_dflt refine wpC_execs_nil ?_) | (k_dflt (refine wpC_of_any ?_))) | (k_unfold; (try dsimp only)) | (k_end; wrow_close) | walk1 | dsimp only | (leave1; (try dsimp only)))
    refine' AtS.mk F' N' ⟨?z1, l', ws, l, n, hfd, .tail _ (.head _), hws, ?z2, hfl⟩
    case z1 => exact KeptBut.trans (KeptBut.set KeptBut.refl (by decide +kernel)) (KeptBut.mono hK (by decide +kernel))
    case z2 =>
      obtain ⟨ns, h1, h2⟩ := hPV
      have := h1.length
      omega
end Mine
end
-- Lib8
section
open PySem PySem.W PyProof.Rows PySem.Calls PySem.Spec
namespace Mine
theorem join_same (mk : Str) (l : List Str) : Txt.join mk l = PySem.Str.join mk l := by
  have := join_plain_closes mk l
  simpa using this
theorem empty_len (mk : Str) : (PySem.Str.join mk []).length = 0 := rfl
theorem join_le {mk : Str} (hm : mk.length ≤ 2) : ∀ l : List Str, (∀ x ∈ l, FieldIs x) → (PySem.Str.join mk l).length ≤ l.length * 8
  | [], _ => Nat.le_of_eq (empty_len mk)
  | [x], h => by
    have := (h x (.head _)).2
    show x.length ≤ _
    simp only [List.length_singleton]
    omega
  | x :: y :: r, h => by
    have h1 := (h x (.head _)).2
    have h2 := join_le hm (y :: r) fun z hz => h z (.tail _ hz)
    show (x ++ mk ++ PySem.Str.join mk (y :: r)).length ≤ _
    rw [PySem.Str.length_append, PySem.Str.length_append]
    simp only [List.length_cons] at h2 ⊢
    omega
theorem tjoin_le {mk : Str} {l : List Str} (hm : mk.length ≤ 2) (hl : l.length ≤ 5) (h : ∀ x ∈ l, FieldIs x) : (Txt.join mk l).length ≤ 40 := by
  rw [join_same]
  have := join_le hm l h
  omega
theorem sum_le : ∀ l : List Str, (∀ x ∈ l, FieldIs x) → (l.map (·.length)).sum ≤ l.length * 6
  | [], _ => Nat.le_refl _
  | x :: r, h => by
    have h1 := (h x (.head _)).2
    have h2 := sum_le r fun z hz => h z (.tail _ hz)
    simp only [List.map_cons, List.sum_cons, List.length_cons]
    omega
theorem joinok {mk : Str} {l : List Str} (hm : mk.length ≤ 2) (hl : l.length ≤ 5) (h : ∀ x ∈ l, FieldIs x) : (l.map (·.length)).sum + l.length * mk.length ≤ 16777216 := by
  have h1 := sum_le l h
  have h2 : l.length * mk.length ≤ 5 * 2 := Nat.mul_le_mul hl hm
  omega
/-- the chosen values: nothing for an empty field -/
inductive OptsAre : List Value → List Str → Prop
  | nil : OptsAre [] []
  | cons {y : Value} {x : Str} {ys : List Value} {l : List Str} : OptIs y (optS x) → OptsAre ys l → OptsAre (y :: ys) (x :: l)
theorem optIs_of {y : Value} {d : PyData} {o : Option Str} (h : Carried y d) (e : d = optD o) : OptIs y o := by
  cases o with
  | none => subst e; cases h; rfl
  | some a => subst e; cases h; exact ⟨_, rfl⟩
theorem optsAre_of : ∀ {ys : List Value} {l : List Str}, CarriedAll ys (l.map fun x => optD (optS x)) → OptsAre ys l
  | [], [], _ => .nil
  | [], _ :: _, h => by cases h
  | _ :: _, [], h => by cases h
  | y :: ys, x :: l, h => by
    cases h with
    | cons hc hr => exact .cons (optIs_of hc rfl) (optsAre_of hr)
theorem areOf_strs : ∀ {vs : List Value} {l : List Str}, StrsAre vs l → AreOf ItemKind.str vs l
  | _, _, .nil => .nil
  | _, _, .cons _ t h => .cons ⟨t, rfl⟩ (areOf_strs h)
theorem front_len {fr : Str} (h : FrontIs fr) : fr.length ≤ 6 := by
  rcases h with rfl | rfl | rfl | rfl <;> decide +kernel
theorem mark_len {mk : Str} (h : MarkIs mk) : 1 ≤ mk.length ∧ mk.length ≤ 2 := by
  rcases h with rfl | rfl <;> decide +kernel
theorem len_zero {a : Str} (h : a.length = 0) : a = Str.ofString "" := by
  obtain ⟨cs⟩ := a
  have : cs = #[] := by simpa [PySem.Str.length] using h
  subst this
  decide +kernel
theorem opt_ite (a : Str) : (if (a == Str.ofString "") = true then PyData.none else PyData.str a) = optD (optS a) := by
  unfold optS
  by_cases h : a.length = 0
  · rw [if_pos h, if_pos (by rw [len_zero h]; exact beq_self_eq_true _)]
    rfl
  · rw [if_neg h, if_neg (fun e => h (by rw [eq_of_beq e]; decide))]
    rfl
theorem chosen_of {ys : List Value} {l : List Str} (h : CarriedAll ys (List.map (fun a => if (a == Str.ofString "") = true then PyData.none else PyData.str a) (List.filter (fun _ => true) l))) : OptsAre ys l := by
  rw [List.filter_eq_self.mpr (fun _ _ => rfl)] at h
  refine optsAre_of ?_
  rwa [show (fun a : Str => if (a == Str.ofString "") = true then PyData.none else PyData.str a) = fun x => optD (optS x) from funext opt_ite] at h
theorem news_plain {h₀ h : Heap} {L D : Addr} {m : Str → Option Value} {news : List (Addr × Obj)} {ys : List Value} (F : Fr h₀ L h m) (N : News h₀ L h news) (hD : h₀.get? D = none) (hp : NewPlain h news D ys.toArray) : ∃ n, News h₀ L h ((D, listOf ys.toArray n) :: news) := by
  obtain ⟨n, e⟩ := hp.1
  refine ⟨n, fun p hq => ?_⟩
  rcases List.mem_cons.mp hq with rfl | hq
  · exact ⟨e, hp.ne_locals F, hD⟩
  · exact N p hq
end Mine
end
-- S7
section
open PySem PySem.W PyProof.Rows PySem.Calls PySem.Spec
namespace Mine
set_option maxRecDepth 100000 in
set_option maxHeartbeats 2000000 in
theorem seg7 {w : World} {p : Program} {loose : List Str} {mean : ExcName → Option Value} {mg mb : Str → Option Value} {s₁ : Shared} {h₁ : Heap} {L fa : Addr} {cd : Value} {tk : Nat} {E : Value → Shared → Prop} {m : Str → Option Value} {q : Addr} {ws : List Value} {l : List Str} {n : Nat}
  (K0 : Below callerA s₁.heap [] s₁.heap) (KX : (hd.heap_39 w.params).In s₁.heap) (T : Top p loose mean mg mb s₁.heap) (F' : Fr s₁.heap L h₁ m) (N' : News s₁.heap L h₁ [(q, listOf ws.toArray n)]) (hfd : LookIs m (Str.ofString "fields") (.ref q)) (hws : StrsAre ws l) (h5 : l.length ≤ 5) (hfl : ∀ x ∈ l, FieldIs x) :
   wpC (model PySem.Challenge.pw_iw0004_01 w) (callerA.deeper (lawEnv L fa cd)) (execs (lawPart 7 1) (lawEnv L fa cd)) (fun f s' => f = .next ∧ AtS s₁ s₁.heap L (fun m' n' => KeptBut [Str.ofString "fields"] m m' ∧ ∃ q ws l n, LookIs m' (Str.ofString "fields") (.ref q) ∧ (q, listOf ws.toArray n) ∈ n' ∧ StrsAre ws l ∧ l.length ≤ 5 ∧ l ≠ [] ∧ ∀ x ∈ l, FieldIs x) s') E { s₁ with heap := h₁, toks := tk } := by
  refine wpC_absQ ?_
  intro Q0 hQ0
  refine' lit_C ?le1 ?le2 ?_
  case le1 => (dsimp only [lawPart, lawBody, PySem.Challenge.pw_iw0004_01, List.getLast?, List.getLast, List.drop, List.take] <;> exact rfl)
  case le2 => (dsimp only [lawScope, PySem.Challenge.pw_iw0004_01, List.getLast?, List.getLast] <;> exact rfl)
  cases hws with
  | nil =>
    repeat' (first | (with_reducible refine hQ0 _ _ ?_; (try dsimp only)) | (k_here; (with_reducible show wpAny _ _ (truthy (Value.ref _)) _ _ _); k_dflt ((rename News _ _ _ _ => N'); refine' kgr_truthy N' (.head _) rfl rfl ?jo ?_; (case jo => assumption); (try dsimp only [List.isEmpty_cons, Bool.not_false]))) | (k_here; (with_reducible show wpAny _ _ (call (Value.builtin "str.join") [Value.str _ _, Value.ref _]) _ _ _); k_dflt ((rename StrsAre _ _ => hws'); (rename News _ _ _ _ => N'); refine' join_list (N'.isList (.head _)) hws' ?jo ?_; (case jo => (with_reducible exact joinok (by assumption) (by assumption) (by assumption))); intro t' k'; (try dsimp only))) | (k_here; (with_reducible show wpAny _ _ (eval (Expr.Name _ _) (envOfC _ _ _ _ _)) _ _ _); k_dflt ((rename Fr _ _ _ _ => F'); refine' ldL F' ?lq1 ?_ ?lq2 ?lq3 ?lq4; (case lq3 => rfl); (case lq1 => (repeat (refine (if_neg (by decide +kernel)).trans ?_)); first | exact if_pos rfl | (show LookIs _ _ _; with_reducible assumption)); (case lq2 => rfl); (case lq4 => decide); (try dsimp only))) | (k_here; (with_reducible show wpAny _ _ (loadName (envOfC _ _ _ _ _) _) _ _ _); k_dflt ((rename Fr _ _ _ _ => F'); refine' ldLn F' ?lq1 ?_ ?lq2 ?lq3; (case lq3 => rfl); (case lq1 => (repeat (refine (if_neg (by decide +kernel)).trans ?_)); first | exact if_pos rfl | (show LookIs _ _ _; with_reducible assumption)); (case lq2 => rfl); (try dsimp only))) | (k_here; (with_reducible show if (_ == _) = true then _ else _); k_dflt (first | (refine' Mine.ieq_no ?k1 ?_; (case k1 => omega)) | (refine' Mine.ieq_yes ?k1 ?_; (case k1 => omega)))) | ((with_reducible show wpC _ _ _ _ _ _); plain_pass; first | (k_here; (with_reducible show wpC _ _ (execs (_ :: _) _) _ _ _); k_dflt refine wpC_execs_cons ?_) | (k_here; (with_reducible show wpC _ _ (execs [] _) _ _ _); k_dflt refine wpC_execs_nil ?_) | (k_dflt (refine wpC_of_any ?_))) | (k_unfold; (try dsimp only)) | (k_end; wrow_close) | walk1 | dsimp only | (leave1; (try dsimp only)))
    rename Fr _ _ _ _ => F'
    rename News _ _ _ _ => N'
    refine' AtS.mk F' N' ⟨KeptBut.set KeptBut.refl (by decide +kernel), _, _, [Str.ofString ""], 0, LookIs.hit, .head _, .cons _ _ .nil, by decide, by decide, ?z1⟩
    case z1 =>
      intro x hx
      rw [List.mem_singleton] at hx
      subst hx
      exact ⟨ok_empty, by decide⟩
  | cons y t hws =>
    have hsz := (StrsAre.cons y t hws).length
    have hsz2 : (Value.str y t :: _).length < 2 ^ 62 := Nat.lt_of_le_of_lt (hsz ▸ h5) (by decide)
    repeat' (first | (with_reducible refine hQ0 _ _ ?_; (try dsimp only)) | (k_here; (with_reducible show wpAny _ _ (truthy (Value.ref _)) _ _ _); k_dflt ((rename News _ _ _ _ => N'); refine' kgr_truthy N' (.head _) rfl rfl ?jo ?_; (case jo => assumption); (try dsimp only [List.isEmpty_cons, Bool.not_false]))) | (k_here; (with_reducible show wpAny _ _ (call (Value.builtin "str.join") [Value.str _ _, Value.ref _]) _ _ _); k_dflt ((rename StrsAre _ _ => hws'); (rename News _ _ _ _ => N'); refine' join_list (N'.isList (.head _)) hws' ?jo ?_; (case jo => (with_reducible exact joinok (by assumption) (by assumption) (by assumption))); intro t' k'; (try dsimp only))) | (k_here; (with_reducible show wpAny _ _ (eval (Expr.Name _ _) (envOfC _ _ _ _ _)) _ _ _); k_dflt ((rename Fr _ _ _ _ => F'); refine' ldL F' ?lq1 ?_ ?lq2 ?lq3 ?lq4; (case lq3 => rfl); (case lq1 => (repeat (refine (if_neg (by decide +kernel)).trans ?_)); first | exact if_pos rfl | (show LookIs _ _ _; with_reducible assumption)); (case lq2 => rfl); (case lq4 => decide); (try dsimp only))) | (k_here; (with_reducible show wpAny _ _ (loadName (envOfC _ _ _ _ _) _) _ _ _); k_dflt ((rename Fr _ _ _ _ => F'); refine' ldLn F' ?lq1 ?_ ?lq2 ?lq3; (case lq3 => rfl); (case lq1 => (repeat (refine (if_neg (by decide +kernel)).trans ?_)); first | exact if_pos rfl | (show LookIs _ _ _; with_reducible assumption)); (case lq2 => rfl); (try dsimp only))) | (k_here; (with_reducible show if (_ == _) = true then _ else _); k_dflt (first | (refine' Mine.ieq_no ?k1 ?_; (case k1 => omega)) | (refine' Mine.ieq_yes ?k1 ?_; (case k1 => omega)))) | ((with_reducible show wpC _ _ _ _ _ _); plain_pass; first | (k_here; (with_reducible show wpC _ _ (execs (_ :: _) _) _ _ _); k_dflt refine wpC_execs_cons ?_) | (k_here; (with_reducible show wpC _ _ (execs [] _) _ _ _); k_dflt refine wpC_execs_nil ?_) | (k_dflt (refine wpC_of_any ?_))) | (k_unfold; (try dsimp only)) | (k_end; wrow_close) | walk1 | dsimp only | (leave1; (try dsimp only)))
    rename Fr _ _ _ _ => F'
    rename News _ _ _ _ => N'
    refine' AtS.mk F' N' ⟨KeptBut.set KeptBut.refl (by decide +kernel), _, _, _, n, LookIs.hit, ?z2, .cons y t hws, h5, by simp, hfl⟩
    case z2 => exact .head _
set_option maxRecDepth 100000 in
set_option maxHeartbeats 2000000 in
theorem seg8 {w : World} {p : Program} {loose : List Str} {mean : ExcName → Option Value} {mg mb : Str → Option Value} {s₁ : Shared} {h₁ : Heap} {L fa : Addr} {cd : Value} {tk : Nat} {E : Value → Shared → Prop} {m : Str → Option Value} {q : Addr} {ws : List Value} {l : List Str} {n : Nat} {fr mk : Str} {tf tm : Tok}
  (K0 : Below callerA s₁.heap [] s₁.heap) (KX : (hd.heap_39 w.params).In s₁.heap) (T : Top p loose mean mg mb s₁.heap) (F' : Fr s₁.heap L h₁ m) (N' : News s₁.heap L h₁ [(q, listOf ws.toArray n)]) (hfd : LookIs m (Str.ofString "fields") (.ref q)) (hfr : LookIs m (Str.ofString "front") (.str fr tf)) (hmk : LookIs m (Str.ofString "mark") (.str mk tm)) (hws : StrsAre ws l) (h5 : l.length ≤ 5) (hfl : ∀ x ∈ l, FieldIs x) (hf6 : fr.length ≤ 6) (hm2 : mk.length ≤ 2) :
   wpC (model PySem.Challenge.pw_iw0004_01 w) (callerA.deeper (lawEnv L fa cd)) (execs (lawPart 8 1) (lawEnv L fa cd)) (fun f s' => f = .next ∧ AtS s₁ s₁.heap L (fun m' n' => KeptBut [Str.ofString "given"] m m' ∧ (∃ t, LookIs m' (Str.ofString "given") (.str (fr ++ PySem.Str.join mk l) t)) ∧ ∀ e ∈ [(q, listOf ws.toArray n)], e ∈ n') s') E { s₁ with heap := h₁, toks := tk } := by
  refine wpC_absQ ?_
  intro Q0 hQ0
  refine' lit_C ?le1 ?le2 ?_
  case le1 => (dsimp only [lawPart, lawBody, PySem.Challenge.pw_iw0004_01, List.getLast?, List.getLast, List.drop, List.take] <;> exact rfl)
  case le2 => (dsimp only [lawScope, PySem.Challenge.pw_iw0004_01, List.getLast?, List.getLast] <;> exact rfl)
  have hj := tjoin_le hm2 h5 hfl
  repeat' (first | (with_reducible refine hQ0 _ _ ?_; (try dsimp only)) | (k_here; (with_reducible show wpAny _ _ (truthy (Value.ref _)) _ _ _); k_dflt ((rename News _ _ _ _ => N'); refine' kgr_truthy N' (.head _) rfl rfl ?jo ?_; (case jo => assumption); (try dsimp only [List.isEmpty_cons, Bool.not_false]))) | (k_here; (with_reducible show wpAny _ _ (call (Value.builtin "str.join") [Value.str _ _, Value.ref _]) _ _ _); k_dflt ((rename StrsAre _ _ => hws'); (rename News _ _ _ _ => N'); refine' join_list (N'.isList (.head _)) hws' ?jo ?_; (case jo => (with_reducible exact joinok (by assumption) (by assumption) (by assumption))); intro t' k'; (try dsimp only))) | (k_here; (with_reducible show wpAny _ _ (eval (Expr.Name _ _) (envOfC _ _ _ _ _)) _ _ _); k_dflt ((rename Fr _ _ _ _ => F'); refine' ldL F' ?lq1 ?_ ?lq2 ?lq3 ?lq4; (case lq3 => rfl); (case lq1 => (repeat (refine (if_neg (by decide +kernel)).trans ?_)); first | exact if_pos rfl | (show LookIs _ _ _; with_reducible assumption)); (case lq2 => rfl); (case lq4 => decide); (try dsimp only))) | (k_here; (with_reducible show wpAny _ _ (loadName (envOfC _ _ _ _ _) _) _ _ _); k_dflt ((rename Fr _ _ _ _ => F'); refine' ldLn F' ?lq1 ?_ ?lq2 ?lq3; (case lq3 => rfl); (case lq1 => (repeat (refine (if_neg (by decide +kernel)).trans ?_)); first | exact if_pos rfl | (show LookIs _ _ _; with_reducible assumption)); (case lq2 => rfl); (try dsimp only))) | (k_here; (with_reducible show if (_ == _) = true then _ else _); k_dflt (first | (refine' Mine.ieq_no ?k1 ?_; (case k1 => omega)) | (refine' Mine.ieq_yes ?k1 ?_; (case k1 => omega)))) | ((with_reducible show wpC _ _ _ _ _ _); plain_pass; first | (k_here; (with_reducible show wpC _ _ (execs (_ :: _) _) _ _ _); k_dflt refine wpC_execs_cons ?_) | (k_here; (with_reducible show wpC _ _ (execs [] _) _ _ _); k_dflt refine wpC_execs_nil ?_) | (k_dflt (refine wpC_of_any ?_))) | (k_unfold; (try dsimp only)) | (k_end; wrow_close) | walk1 | dsimp only | (leave1; (try dsimp only)))
  rename Fr _ _ _ _ => F'
  rename News _ _ _ _ => N'
  refine' AtS.mk F' N' ⟨KeptBut.set KeptBut.refl (by decide +kernel), ⟨_, ?z1⟩, sub_self⟩
  case z1 => rw [← join_same]; exact LookIs.hit
set_option maxRecDepth 100000 in
set_option maxHeartbeats 2000000 in
theorem seg9 {w : World} {p : Program} {loose : List Str} {mean : ExcName → Option Value} {mg mb : Str → Option Value} {s₁ : Shared} {h₁ : Heap} {L fa : Addr} {cd : Value} {tk : Nat} {E : Value → Shared → Prop} {m : Str → Option Value} {q : Addr} {ws : List Value} {l : List Str} {n : Nat}
  (K0 : Below callerA s₁.heap [] s₁.heap) (KX : (hd.heap_39 w.params).In s₁.heap) (T : Top p loose mean mg mb s₁.heap) (F' : Fr s₁.heap L h₁ m) (N' : News s₁.heap L h₁ [(q, listOf ws.toArray n)]) (hfd : LookIs m (Str.ofString "fields") (.ref q)) (hws : StrsAre ws l) (h5 : l.length ≤ 5) (hfl : ∀ x ∈ l, FieldIs x) :
   wpC (model PySem.Challenge.pw_iw0004_01 w) (callerA.deeper (lawEnv L fa cd)) (execs (lawPart 9 1) (lawEnv L fa cd)) (fun f s' => f = .next ∧ AtS s₁ s₁.heap L (fun m' n' => KeptBut [Str.ofString "chosen"] m m' ∧ ∃ c ys n2, LookIs m' (Str.ofString "chosen") (.ref c) ∧ (c, listOf ys.toArray n2) ∈ n' ∧ OptsAre ys l ∧ (q, listOf ws.toArray n) ∈ n') s') E { s₁ with heap := h₁, toks := tk } := by
  refine wpC_absQ ?_
  intro Q0 hQ0
  refine' lit_C ?le1 ?le2 ?_
  case le1 => (dsimp only [lawPart, lawBody, PySem.Challenge.pw_iw0004_01, List.getLast?, List.getLast, List.drop, List.take] <;> exact rfl)
  case le2 => (dsimp only [lawScope, PySem.Challenge.pw_iw0004_01, List.getLast?, List.getLast] <;> exact rfl)
  repeat' (first | (with_reducible refine hQ0 _ _ ?_; (try dsimp only)) | (k_here; (with_reducible apply Assign_ListComp_DCn); (case hsw => with_unfolding_all rfl); (case hL => with_unfolding_all rfl); (case hh => with_unfolding_all rfl); (case hclos => with_unfolding_all rfl); (case hcell => decide); (case hkind => with_unfolding_all rfl); (case hnames => decide); (case hx => with_unfolding_all rfl); (case hy => with_unfolding_all rfl); (case hp => with_unfolding_all rfl); (case hs => intro _; with_unfolding_all rfl); (case' h => with_reducible refine wpAny_compPack ?_)) | (k_here; (with_reducible show wpAny _ _ (truthy (Value.ref _)) _ _ _); k_dflt ((rename News _ _ _ _ => N'); refine' kgr_truthy N' (.head _) rfl rfl ?jo ?_; (case jo => assumption); (try dsimp only [List.isEmpty_cons, Bool.not_false]))) | (k_here; (with_reducible show wpAny _ _ (call (Value.builtin "str.join") [Value.str _ _, Value.ref _]) _ _ _); k_dflt ((rename StrsAre _ _ => hws'); (rename News _ _ _ _ => N'); refine' join_list (N'.isList (.head _)) hws' ?jo ?_; (case jo => (with_reducible exact joinok (by assumption) (by assumption) (by assumption))); intro t' k'; (try dsimp only))) | (k_here; (with_reducible show wpAny _ _ (eval (Expr.Name _ _) (envOfC _ _ _ _ _)) _ _ _); k_dflt ((rename Fr _ _ _ _ => F'); refine' ldL F' ?lq1 ?_ ?lq2 ?lq3 ?lq4; (case lq3 => rfl); (case lq1 => (repeat (refine (if_neg (by decide +kernel)).trans ?_)); first | exact if_pos rfl | (show LookIs _ _ _; with_reducible assumption)); (case lq2 => rfl); (case lq4 => decide); (try dsimp only))) | (k_here; (with_reducible show wpAny _ _ (loadName (envOfC _ _ _ _ _) _) _ _ _); k_dflt ((rename Fr _ _ _ _ => F'); refine' ldLn F' ?lq1 ?_ ?lq2 ?lq3; (case lq3 => rfl); (case lq1 => (repeat (refine (if_neg (by decide +kernel)).trans ?_)); first | exact if_pos rfl | (show LookIs _ _ _; with_reducible assumption)); (case lq2 => rfl); (try dsimp only))) | (k_here; (with_reducible show if (_ == _) = true then _ else _); k_dflt (first | (refine' Mine.ieq_no ?k1 ?_; (case k1 => omega)) | (refine' Mine.ieq_yes ?k1 ?_; (case k1 => omega)))) | ((with_reducible show wpC _ _ _ _ _ _); plain_pass; first | (k_here; (with_reducible show wpC _ _ (execs (_ :: _) _) _ _ _); k_dflt refine wpC_execs_cons ?_) | (k_here; (with_reducible show wpC _ _ (execs [] _) _ _ _); k_dflt refine wpC_execs_nil ?_) | (k_dflt (refine wpC_of_any ?_))) | (k_unfold; (try dsimp only)) | (k_end; wrow_close) | walk1 | dsimp only | (leave1; (try dsimp only)))
  rename CarriedAll _ _ => hC'
  rename NewPlain _ _ _ _ => hP'
  rename Heap.get? _ _ = none => hD'
  rename Fr _ _ _ _ => F'
  rename News _ _ _ _ => N'
  obtain ⟨n2, N2⟩ := news_plain F' N' hD' hP'
  refine' AtS.mk F' N2 ⟨KeptBut.set KeptBut.refl (by decide +kernel), _, _, n2, LookIs.hit, ?z1, chosen_of hC', ?z2⟩
  case z1 => exact .head _
  case z2 => exact .tail _ (.head _)
end Mine
end
-- Lib9
section
open PySem PySem.W PyProof.Rows PySem.Calls PySem.Spec
namespace Mine
theorem news_right {h₀ h : Heap} {L : Addr} {a b : List (Addr × Obj)} (N : News h₀ L h (a ++ b)) : News h₀ L h b := fun p hp => N p (List.mem_append_right _ hp)
theorem gm_encode {M : Model} {A : Around} {E : Value → Shared → Prop} {s : Shared} {x : Str} {t : Tok} {pl : Sem Bool} {Q : Value × List Value → Shared → Prop} (h : Q (.builtin "str.encode", [.str x t]) s) : wpAny M A (getMethod (.str x t) "encode" pl) Q E s := by
  with_reducible exact GM.of (.str x t) (typeIs_str _ _ _) F.slot_str_encode F.type_str_encode GM.noRef h
theorem sub_first {prog : Program} {w : World} {A : Around} {E : Value → Shared → Prop} {s : Shared} {h₀ : Heap} {L : Addr} {news : List (Addr × Obj)} {Q : Value → Shared → Prop} {value slice : Expr} {D : Addr} {v : Value} {vs : List Value} {n0 : Nat} {u : Tok} (N : News h₀ L s.heap news) (hm : (D, listOf (v :: vs).toArray n0) ∈ news)
    (h : Q v s) (hs : subscripted slice false (.ref D) (.int 0 u) = operate [.ref D, .int 0 u] (getItem (.ref D) (.int 0 u)) := by with_unfolding_all rfl) :
    wpAny (model prog w) A (subscriptTail value slice (.ref D) (.int 0 u)) Q E s :=
  tail_any (N.isList hm).typeIs slot_list_getitem.lookup (wpAny_getItem_list (N.isList hm) (Int.le_refl 0) (by decide) (x := v) (by simp) h) hs
theorem rounds_cases (x : Str) (b : Nat) (dflt : Option Int) : specRounds x b dflt = .err sVE ∨ ∃ n, specRounds x b dflt = .int n := by
  unfold specRounds
  split
  · cases dflt with
    | none => exact .inl rfl
    | some d => exact .inr ⟨d, rfl⟩
  · split
    · exact .inl rfl
    · cases numOf b x with
      | none => exact .inl rfl
      | some n => exact .inr ⟨n, rfl⟩
theorem strOk_ok {x : Str} (h : OkS x) : PyData.strOk x = true := by
  unfold PyData.strOk
  rw [Array.all_eq_true]
  intro i hi
  have := okc_lt (h _ (show x.cps[i] ∈ x.cps.toList by simp))
  simp
  omega
theorem optS_mem {x c : Str} (h : optS x = some c) : c = x := by
  unfold optS at h
  split at h
  · cases h
  · cases h; rfl
theorem dtok_ve : DtOk (.err sVE) := by show PyData.strOk _ = true; decide +kernel
theorem dtok_te : DtOk (.err sTE) := by show PyData.strOk _ = true; decide +kernel
theorem dtok_two {l : List Str} (h : ∀ x ∈ l, FieldIs x) : DtOk (dueTwo l) := by
  unfold dueTwo
  split
  · exact ⟨strOk_ok (h _ (.head _)).1, fun c e => by cases e⟩
  · exact ⟨strOk_ok (h _ (.head _)).1, fun c e => by rw [optS_mem e]; exact strOk_ok (h _ (.tail _ (.head _))).1⟩
  · exact dtok_ve
theorem dtok_rounds {x : Str} {b : Nat} {dflt : Option Int} : DtOk (specRounds x b dflt) := by
  rcases rounds_cases x b dflt with h | ⟨n, h⟩ <;> rw [h]
  · exact dtok_ve
  · trivial
theorem dtok_with {x : Str} {b : Nat} {dflt : Option Int} {a : Str} {o : Option Str} (ha : PyData.strOk a = true) (ho : ∀ c, o = some c → PyData.strOk c = true) : DtOk (withRounds (specRounds x b dflt) a o) := by
  rcases rounds_cases x b dflt with h | ⟨n, h⟩ <;> rw [h]
  · exact dtok_ve
  · exact ⟨ha, ho⟩
theorem dtok_three {l : List Str} {b : Nat} {dflt : Option Int} (h : ∀ x ∈ l, FieldIs x) : DtOk (dueThree b dflt l) := by
  unfold dueThree
  split
  · exact dtok_with (strOk_ok (h _ (.tail _ (.head _))).1) fun c e => by cases e
  · exact dtok_with (strOk_ok (h _ (.tail _ (.head _))).1) fun c e => by rw [optS_mem e]; exact strOk_ok (h _ (.tail _ (.tail _ (.head _)))).1
  · exact dtok_ve
end Mine
end
-- S10
section
open PySem PySem.W PyProof.Rows PySem.Calls PySem.Spec
namespace Mine
set_option maxRecDepth 100000 in
set_option maxHeartbeats 2000000 in
theorem seg10 {w : World} {p : Program} {loose : List Str} {mean : ExcName → Option Value} {mg mb : Str → Option Value} {s₁ : Shared} {h₁ : Heap} {L fa : Addr} {cd : Value} {tk : Nat} {E : Value → Shared → Prop} {m : Str → Option Value} {q c : Addr} {ws ys : List Value} {l : List Str} {n n2 : Nat}
  (K0 : Below callerA s₁.heap [] s₁.heap) (KX : (hd.heap_39 w.params).In s₁.heap) (T : Top p loose mean mg mb s₁.heap) (F' : Fr s₁.heap L h₁ m) (N' : News s₁.heap L h₁ [(c, listOf ys.toArray n2), (q, listOf ws.toArray n)]) (hfd : LookIs m (Str.ofString "fields") (.ref q)) (hch : LookIs m (Str.ofString "chosen") (.ref c)) (hws : StrsAre ws l) (hys : OptsAre ys l) (h5 : l.length ≤ 5) (hl0 : l ≠ []) :
   wpC (model PySem.Challenge.pw_iw0004_01 w) (callerA.deeper (lawEnv L fa cd)) (execs (lawPart 10 3) (lawEnv L fa cd)) (fun f s' => f = .next ∧ AtS s₁ s₁.heap L (fun m' n' => KeptBut [Str.ofString "due"] m m' ∧ (∃ v, LookIs m' (Str.ofString "due") v ∧ DtIn n' v (dueTwo l)) ∧ ∀ e ∈ [(c, listOf ys.toArray n2), (q, listOf ws.toArray n)], e ∈ n') s') E { s₁ with heap := h₁, toks := tk } := by
  refine wpC_absQ ?_
  intro Q0 hQ0
  refine' lit_C ?le1 ?le2 ?_
  case le1 => (dsimp only [lawPart, lawBody, PySem.Challenge.pw_iw0004_01, List.getLast?, List.getLast, List.drop, List.take] <;> exact rfl)
  case le2 => (dsimp only [lawScope, PySem.Challenge.pw_iw0004_01, List.getLast?, List.getLast] <;> exact rfl)
  have hz := hws.length
  cases hws with
  | nil => exact absurd rfl hl0
  | cons x1 t1 hws =>
    cases hys with
    | cons o1 hys =>
    cases hws with
    | nil =>
      cases hys
      repeat' (first | (with_reducible refine hQ0 _ _ ?_; (try dsimp only)) | (k_here; (with_reducible show wpAny _ _ (spliced _) _ _ _); k_dflt ((rename Fr _ _ _ _ => F'); (first | refine' args3 ?_ ?_ ?_ ?_ | refine' args5 ?_ ?_ ?_ ?_ ?_ ?_ | refine' args4 ?_ ?_ ?_ ?_ ?_ | refine' args6 ?_ ?_ ?_ ?_ ?_ ?_ ?_ | refine' args2 ?_ ?_ ?_ | refine' args1 ?_ ?_); (any_goals (first | exact atom_str | exact atom_int | exact atom_none | exact atom_local F' (by (repeat (refine (if_neg (by decide +kernel)).trans ?_)); first | exact if_pos rfl | (show LookIs _ _ _; with_reducible assumption)) rfl rfl rfl (by decide))); (fail_if_success (any_goals (with_reducible show AtomE _ _ _ _ _ _ _))); intros; (try dsimp only))) | (k_here; (with_reducible show wpAny _ _ (call (Value.builtin "len") [Value.ref _]) _ _ _); k_dflt ((rename News _ _ _ _ => N'); refine' Mine.len_vs N' ?k2 ?k3 ?_; (case k2 => k_mem); (case k3 => (simp only [List.length_cons, List.length_nil]; omega)); intro _ _; (try dsimp only [List.length_cons, List.length_nil]))) | (k_here; (with_reducible show wpAny _ _ (eval (Expr.Name _ _) (envOfC _ _ _ _ _)) _ _ _); k_dflt ((rename Fr _ _ _ _ => F'); refine' ldL F' ?lq1 ?_ ?lq2 ?lq3 ?lq4; (case lq3 => rfl); (case lq1 => (repeat (refine (if_neg (by decide +kernel)).trans ?_)); first | exact if_pos rfl | (show LookIs _ _ _; with_reducible assumption)); (case lq2 => rfl); (case lq4 => decide); (try dsimp only))) | (k_here; (with_reducible show wpAny _ _ (loadName (envOfC _ _ _ _ _) _) _ _ _); k_dflt ((rename Fr _ _ _ _ => F'); refine' ldLn F' ?lq1 ?_ ?lq2 ?lq3; (case lq3 => rfl); (case lq1 => (repeat (refine (if_neg (by decide +kernel)).trans ?_)); first | exact if_pos rfl | (show LookIs _ _ _; with_reducible assumption)); (case lq2 => rfl); (try dsimp only))) | (k_here; (with_reducible show if (_ == _) = true then _ else _); k_dflt (first | (refine' Mine.ieq_no ?k1 ?_; (case k1 => omega)) | (refine' Mine.ieq_yes ?k1 ?_; (case k1 => omega)))) | ((with_reducible show wpC _ _ _ _ _ _); plain_pass; first | (k_here; (with_reducible show wpC _ _ (execs (_ :: _) _) _ _ _); k_dflt refine wpC_execs_cons ?_) | (k_here; (with_reducible show wpC _ _ (execs [] _) _ _ _); k_dflt refine wpC_execs_nil ?_) | (k_dflt (refine wpC_of_any ?_))) | (k_unfold; (try dsimp only)) | (k_end; wrow_close) | walk1 | dsimp only | (leave1; (try dsimp only)))
      rename Fr _ _ _ _ => F'
      rename News _ _ _ _ => N'
      refine' AtS.mk F' N' ⟨?z1, ⟨_, LookIs.hit, ⟨_, _, _, rfl, .head _, rfl⟩⟩, sub_more sub_self⟩
      case z1 => (repeat (refine KeptBut.set ?_ (by decide +kernel))); exact KeptBut.refl
    | cons x2 t2 hws =>
      cases hys with
      | cons o2 hys =>
      cases hws with
      | nil =>
        cases hys
        repeat' (first | (with_reducible refine hQ0 _ _ ?_; (try dsimp only)) | (k_here; (with_reducible show wpAny _ _ (spliced _) _ _ _); k_dflt ((rename Fr _ _ _ _ => F'); (first | refine' args3 ?_ ?_ ?_ ?_ | refine' args5 ?_ ?_ ?_ ?_ ?_ ?_ | refine' args4 ?_ ?_ ?_ ?_ ?_ | refine' args6 ?_ ?_ ?_ ?_ ?_ ?_ ?_ | refine' args2 ?_ ?_ ?_ | refine' args1 ?_ ?_); (any_goals (first | exact atom_str | exact atom_int | exact atom_none | exact atom_local F' (by (repeat (refine (if_neg (by decide +kernel)).trans ?_)); first | exact if_pos rfl | (show LookIs _ _ _; with_reducible assumption)) rfl rfl rfl (by decide))); (fail_if_success (any_goals (with_reducible show AtomE _ _ _ _ _ _ _))); intros; (try dsimp only))) | (k_here; (with_reducible show wpAny _ _ (call (Value.builtin "len") [Value.ref _]) _ _ _); k_dflt ((rename News _ _ _ _ => N'); refine' Mine.len_vs N' ?k2 ?k3 ?_; (case k2 => k_mem); (case k3 => (simp only [List.length_cons, List.length_nil]; omega)); intro _ _; (try dsimp only [List.length_cons, List.length_nil]))) | (k_here; (with_reducible show wpAny _ _ (eval (Expr.Name _ _) (envOfC _ _ _ _ _)) _ _ _); k_dflt ((rename Fr _ _ _ _ => F'); refine' ldL F' ?lq1 ?_ ?lq2 ?lq3 ?lq4; (case lq3 => rfl); (case lq1 => (repeat (refine (if_neg (by decide +kernel)).trans ?_)); first | exact if_pos rfl | (show LookIs _ _ _; with_reducible assumption)); (case lq2 => rfl); (case lq4 => decide); (try dsimp only))) | (k_here; (with_reducible show wpAny _ _ (loadName (envOfC _ _ _ _ _) _) _ _ _); k_dflt ((rename Fr _ _ _ _ => F'); refine' ldLn F' ?lq1 ?_ ?lq2 ?lq3; (case lq3 => rfl); (case lq1 => (repeat (refine (if_neg (by decide +kernel)).trans ?_)); first | exact if_pos rfl | (show LookIs _ _ _; with_reducible assumption)); (case lq2 => rfl); (try dsimp only))) | (k_here; (with_reducible show if (_ == _) = true then _ else _); k_dflt (first | (refine' Mine.ieq_no ?k1 ?_; (case k1 => omega)) | (refine' Mine.ieq_yes ?k1 ?_; (case k1 => omega)))) | ((with_reducible show wpC _ _ _ _ _ _); plain_pass; first | (k_here; (with_reducible show wpC _ _ (execs (_ :: _) _) _ _ _); k_dflt refine wpC_execs_cons ?_) | (k_here; (with_reducible show wpC _ _ (execs [] _) _ _ _); k_dflt refine wpC_execs_nil ?_) | (k_dflt (refine wpC_of_any ?_))) | (k_unfold; (try dsimp only)) | (k_end; wrow_close) | walk1 | dsimp only | (leave1; (try dsimp only)))
        rename Fr _ _ _ _ => F'
        rename News _ _ _ _ => N'
        refine' AtS.mk F' N' ⟨?z1b, ⟨_, LookIs.hit, ⟨_, _, _, rfl, .head _, o2⟩⟩, sub_more sub_self⟩
        case z1b => (repeat (refine KeptBut.set ?_ (by decide +kernel))); exact KeptBut.refl
      | cons x3 t3 hws =>
        simp only [List.length_cons] at hz h5
        have hz0 := hws.length
        repeat' (first | (with_reducible refine hQ0 _ _ ?_; (try dsimp only)) | (k_here; (with_reducible show wpAny _ _ (spliced _) _ _ _); k_dflt ((rename Fr _ _ _ _ => F'); (first | refine' args3 ?_ ?_ ?_ ?_ | refine' args5 ?_ ?_ ?_ ?_ ?_ ?_ | refine' args4 ?_ ?_ ?_ ?_ ?_ | refine' args6 ?_ ?_ ?_ ?_ ?_ ?_ ?_ | refine' args2 ?_ ?_ ?_ | refine' args1 ?_ ?_); (any_goals (first | exact atom_str | exact atom_int | exact atom_none | exact atom_local F' (by (repeat (refine (if_neg (by decide +kernel)).trans ?_)); first | exact if_pos rfl | (show LookIs _ _ _; with_reducible assumption)) rfl rfl rfl (by decide))); (fail_if_success (any_goals (with_reducible show AtomE _ _ _ _ _ _ _))); intros; (try dsimp only))) | (k_here; (with_reducible show wpAny _ _ (call (Value.builtin "len") [Value.ref _]) _ _ _); k_dflt ((rename News _ _ _ _ => N'); refine' Mine.len_vs N' ?k2 ?k3 ?_; (case k2 => k_mem); (case k3 => (simp only [List.length_cons, List.length_nil]; omega)); intro _ _; (try dsimp only [List.length_cons, List.length_nil]))) | (k_here; (with_reducible show wpAny _ _ (eval (Expr.Name _ _) (envOfC _ _ _ _ _)) _ _ _); k_dflt ((rename Fr _ _ _ _ => F'); refine' ldL F' ?lq1 ?_ ?lq2 ?lq3 ?lq4; (case lq3 => rfl); (case lq1 => (repeat (refine (if_neg (by decide +kernel)).trans ?_)); first | exact if_pos rfl | (show LookIs _ _ _; with_reducible assumption)); (case lq2 => rfl); (case lq4 => decide); (try dsimp only))) | (k_here; (with_reducible show wpAny _ _ (loadName (envOfC _ _ _ _ _) _) _ _ _); k_dflt ((rename Fr _ _ _ _ => F'); refine' ldLn F' ?lq1 ?_ ?lq2 ?lq3; (case lq3 => rfl); (case lq1 => (repeat (refine (if_neg (by decide +kernel)).trans ?_)); first | exact if_pos rfl | (show LookIs _ _ _; with_reducible assumption)); (case lq2 => rfl); (try dsimp only))) | (k_here; (with_reducible show if (_ == _) = true then _ else _); k_dflt (first | (refine' Mine.ieq_no ?k1 ?_; (case k1 => omega)) | (refine' Mine.ieq_yes ?k1 ?_; (case k1 => omega)))) | ((with_reducible show wpC _ _ _ _ _ _); plain_pass; first | (k_here; (with_reducible show wpC _ _ (execs (_ :: _) _) _ _ _); k_dflt refine wpC_execs_cons ?_) | (k_here; (with_reducible show wpC _ _ (execs [] _) _ _ _); k_dflt refine wpC_execs_nil ?_) | (k_dflt (refine wpC_of_any ?_))) | (k_unfold; (try dsimp only)) | (k_end; wrow_close) | walk1 | dsimp only | (leave1; (try dsimp only)))
        rename Fr _ _ _ _ => F'
        rename News _ _ _ _ => N'
        refine' AtS.mk F' N' ⟨?z1c, ⟨_, LookIs.hit, ⟨_, rfl⟩⟩, sub_self⟩
        case z1c => (repeat (refine KeptBut.set ?_ (by decide +kernel))); exact KeptBut.refl
end Mine
end
-- S13
section
open PySem PySem.W PyProof.Rows PySem.Calls PySem.Spec
namespace Mine
set_option maxRecDepth 100000 in
set_option maxHeartbeats 2000000 in
theorem seg13 {w : World} {p : Program} {loose : List Str} {mean : ExcName → Option Value} {mg mb : Str → Option Value} {s₁ : Shared} {h₁ : Heap} {L fa : Addr} {cd : Value} {tk : Nat} {E : Value → Shared → Prop} {m : Str → Option Value} {news : List (Addr × Obj)} {fr mk g : Str} {tf tm tg : Tok} {dv : Value} {d : Dt}
  (K0 : Below callerA s₁.heap [] s₁.heap) (KX : (hd.heap_39 w.params).In s₁.heap) (T : Top p loose mean mg mb s₁.heap) (F' : Fr s₁.heap L h₁ m) (N' : News s₁.heap L h₁ news) (hgv : LookIs m (Str.ofString "given") (.str g tg)) (hfr : LookIs m (Str.ofString "front") (.str fr tf)) (hmk : LookIs m (Str.ofString "mark") (.str mk tm)) (hdu : LookIs m (Str.ofString "due") dv) (hdd : DtIn news dv d) (hok : DtOk d) (hsp : specTwo g fr mk = d) (hga : Ascii g) (hg6 : g.length ≤ 600) (hf6 : fr.length ≤ 600) (hm6 : mk.length ≤ 600) (hm1 : 1 ≤ mk.length) :
   wpC (model PySem.Challenge.pw_iw0004_01 w) (callerA.deeper (lawEnv L fa cd)) (execs (lawPart 13 1) (lawEnv L fa cd)) (fun f s' => f = .next ∧ AtS s₁ s₁.heap L (fun m' n' => m' = m ∧ ∀ e ∈ news, e ∈ n') s') E { s₁ with heap := h₁, toks := tk } := by
  refine wpC_absQ ?_
  intro Q0 hQ0
  refine' lit_C ?le1 ?le2 ?_
  case le1 => (dsimp only [lawPart, lawBody, PySem.Challenge.pw_iw0004_01, List.getLast?, List.getLast, List.drop, List.take] <;> exact rfl)
  case le2 => (dsimp only [lawScope, PySem.Challenge.pw_iw0004_01, List.getLast?, List.getLast] <;> exact rfl)
  repeat' (first | (with_reducible refine hQ0 _ _ ?_; (try dsimp only)) | (k_here; (with_reducible show wpAny _ _ (getMethod (Value.str _ _) _ _) _ _ _); (with_reducible refine gm_encode ?_)) | (k_here; (with_reducible show wpAny _ _ (call (Value.builtin "str.encode") [Value.str _ _, Value.str _ _]) _ _ _); k_dflt (refine' encode2 ?ea ?eb ?_; (case ea => with_reducible assumption); (case eb => omega); intro _ _; (try dsimp only))) | (k_here; (with_reducible show wpAny _ _ (compareOp CmpOp.NotEq _ _) _ _ _); k_dflt ((rename News _ _ _ _ => N'); refine' ne_dt N' ?nd1 ?nd2 ?nd3 ?nd4 ?_; (case nd1 => exact DtIn.mono (by with_reducible assumption) (fun p hp => List.mem_append_left _ hp)); (case nd2 => first | exact ⟨_, rfl⟩ | exact DtIn.mono (by with_reducible assumption) (fun p hp => List.mem_append_right _ hp)); (case nd3 => with_reducible assumption); (case nd4 => first | ktr_units | decide); (replace N' := news_right N'); (try dsimp only))) | (k_here; (with_reducible show wpAny _ _ (call (Value.ref 149) [_, Value.str _ _, Value.str _ _]) _ _ _); k_dflt (refine' two_text ?tu ?tg ?tf ?tm ?t0 ?k1 ?k2 ?k3 ?k4 ?k5 ?k6 ?k7 ?k8 ?k9 ?_; (case tu => first | exact uni_str | exact uni_bytes (by with_reducible assumption) (by omega)); (case tg => omega); (case tf => omega); (case tm => omega); (case t0 => omega); (case k1 => k_asm); (case k2 => k_asm); (case k3 => k_asm); (case k4 => k_asm); (case k5 => k_asm); (case k6 => exact rfl); (case k7 => exact rfl); (case k8 => first | ktr_room | decide); (case k9 => first | ktr_units | decide); intro v' n' h' t' F' N' r'; (rename (specTwo _ _ _ = _) => hsp'); rw [hsp'] at r'; (try k_sweep); (try dsimp only))) | (k_here; (with_reducible show wpAny _ _ (eval (Expr.Name _ _) (envOfC _ _ _ _ _)) _ _ _); k_dflt ((rename Fr _ _ _ _ => F'); refine' ldL F' ?lq1 ?_ ?lq2 ?lq3 ?lq4; (case lq3 => rfl); (case lq1 => (repeat (refine (if_neg (by decide +kernel)).trans ?_)); first | exact if_pos rfl | (show LookIs _ _ _; with_reducible assumption)); (case lq2 => rfl); (case lq4 => decide); (try dsimp only))) | (k_here; (with_reducible show wpAny _ _ (loadName (envOfC _ _ _ _ _) _) _ _ _); k_dflt ((rename Fr _ _ _ _ => F'); refine' ldLn F' ?lq1 ?_ ?lq2 ?lq3; (case lq3 => rfl); (case lq1 => (repeat (refine (if_neg (by decide +kernel)).trans ?_)); first | exact if_pos rfl | (show LookIs _ _ _; with_reducible assumption)); (case lq2 => rfl); (try dsimp only))) | (k_here; (with_reducible show if (_ == _) = true then _ else _); k_dflt (first | (refine' Mine.ieq_no ?k1 ?_; (case k1 => omega)) | (refine' Mine.ieq_yes ?k1 ?_; (case k1 => omega)))) | ((with_reducible show wpC _ _ _ _ _ _); plain_pass; first | (k_here; (with_reducible show wpC _ _ (execs (_ :: _) _) _ _ _); k_dflt refine wpC_execs_cons ?_) | (k_here; (with_reducible show wpC _ _ (execs [] _) _ _ _); k_dflt refine wpC_execs_nil ?_) | (k_dflt (refine wpC_of_any ?_))) | (k_unfold; (try dsimp only)) | (k_end; wrow_close) | walk1 | dsimp only | (leave1; (try dsimp only)))
  all_goals first
    | (rename Fr _ _ _ _ => F'; rename News _ _ _ _ => N'; exact AtS.mk F' N' ⟨rfl, sub_self⟩)
end Mine
end
-- S14
section
open PySem PySem.W PyProof.Rows PySem.Calls PySem.Spec
namespace Mine
set_option maxRecDepth 100000 in
set_option maxHeartbeats 2000000 in
theorem seg14 {w : World} {p : Program} {loose : List Str} {mean : ExcName → Option Value} {mg mb : Str → Option Value} {s₁ : Shared} {h₁ : Heap} {L fa : Addr} {cd : Value} {tk : Nat} {E : Value → Shared → Prop} {m : Str → Option Value} {q c : Addr} {x1 : Str} {t1 tb : Tok} {vs ys : List Value} {r : List Str} {n n2 b : Nat} {dv : Value} {dflt : Option Int}
  (K0 : Below callerA s₁.heap [] s₁.heap) (KX : (hd.heap_39 w.params).In s₁.heap) (T : Top p loose mean mg mb s₁.heap) (F' : Fr s₁.heap L h₁ m) (N' : News s₁.heap L h₁ [(c, listOf ys.toArray n2), (q, listOf (Value.str x1 t1 :: vs).toArray n)]) (hfd : LookIs m (Str.ofString "fields") (.ref q)) (hba : LookIs m (Str.ofString "base") (.int (b : Int) tb)) (hde : LookIs m (Str.ofString "default") dv) (hN : NumOn x1 b) (hx6 : x1.length ≤ 600) (hdv : DvIs dv dflt) :
   wpC (model PySem.Challenge.pw_iw0004_01 w) (callerA.deeper (lawEnv L fa cd)) (execs (lawPart 14 1) (lawEnv L fa cd)) (fun f s' => f = .next ∧ AtS s₁ s₁.heap L (fun m' n' => KeptBut [Str.ofString "rounds"] m m' ∧ (∃ v, LookIs m' (Str.ofString "rounds") v ∧ DtIn n' v (specRounds x1 b dflt)) ∧ ∀ e ∈ [(c, listOf ys.toArray n2), (q, listOf (Value.str x1 t1 :: vs).toArray n)], e ∈ n') s') E { s₁ with heap := h₁, toks := tk } := by
  refine wpC_absQ ?_
  intro Q0 hQ0
  refine' lit_C ?le1 ?le2 ?_
  case le1 => (dsimp only [lawPart, lawBody, PySem.Challenge.pw_iw0004_01, List.getLast?, List.getLast, List.drop, List.take] <;> exact rfl)
  case le2 => (dsimp only [lawScope, PySem.Challenge.pw_iw0004_01, List.getLast?, List.getLast] <;> exact rfl)
  repeat' (first | (with_reducible refine hQ0 _ _ ?_; (try dsimp only)) | (k_here; (with_reducible show wpAny _ _ (call (Value.ref 135) [_, _, _]) _ _ _); k_dflt (refine' rounds_text ?tu ?tg ?tv ?k1 ?k2 ?k3 ?k4 ?k5 ?k6 ?k7 ?k8 ?k9 ?_; (case tu => with_reducible assumption); (case tg => with_reducible assumption); (case tv => with_reducible assumption); (case k1 => k_asm); (case k2 => k_asm); (case k3 => k_asm); (case k4 => k_asm); (case k5 => k_asm); (case k6 => exact rfl); (case k7 => exact rfl); (case k8 => first | ktr_room | decide); (case k9 => first | ktr_units | decide); intro v' n' h' t' F' N' r'; (try k_sweep); (try dsimp only))) | (k_here; (with_reducible show wpAny _ _ (eval (Expr.Name _ _) (envOfC _ _ _ _ _)) _ _ _); k_dflt ((rename Fr _ _ _ _ => F'); refine' ldL F' ?lq1 ?_ ?lq2 ?lq3 ?lq4; (case lq3 => rfl); (case lq1 => (repeat (refine (if_neg (by decide +kernel)).trans ?_)); first | exact if_pos rfl | (show LookIs _ _ _; with_reducible assumption)); (case lq2 => rfl); (case lq4 => decide); (try dsimp only))) | (k_here; (with_reducible show wpAny _ _ (subscriptTail _ _ (Value.ref _) (Value.int 0 _)) _ _ _); k_dflt ((rename News _ _ _ _ => N'); refine' sub_first N' ?sb1 ?_; (case sb1 => k_mem); (try dsimp only))) | (k_here; (with_reducible show wpAny _ _ (loadName (envOfC _ _ _ _ _) _) _ _ _); k_dflt ((rename Fr _ _ _ _ => F'); refine' ldLn F' ?lq1 ?_ ?lq2 ?lq3; (case lq3 => rfl); (case lq1 => (repeat (refine (if_neg (by decide +kernel)).trans ?_)); first | exact if_pos rfl | (show LookIs _ _ _; with_reducible assumption)); (case lq2 => rfl); (try dsimp only))) | (k_here; (with_reducible show if (_ == _) = true then _ else _); k_dflt (first | (refine' Mine.ieq_no ?k1 ?_; (case k1 => omega)) | (refine' Mine.ieq_yes ?k1 ?_; (case k1 => omega)))) | ((with_reducible show wpC _ _ _ _ _ _); plain_pass; first | (k_here; (with_reducible show wpC _ _ (execs (_ :: _) _) _ _ _); k_dflt refine wpC_execs_cons ?_) | (k_here; (with_reducible show wpC _ _ (execs [] _) _ _ _); k_dflt refine wpC_execs_nil ?_) | (k_dflt (refine wpC_of_any ?_))) | (k_unfold; (try dsimp only)) | (k_end; wrow_close) | walk1 | dsimp only | (leave1; (try dsimp only)))
  rename Fr _ _ _ _ => F'
  rename News _ _ _ _ => N'
  rename DtIn _ _ _ => hD
  refine' AtS.mk F' N' ⟨KeptBut.set KeptBut.refl (by decide +kernel), ⟨_, LookIs.hit, DtIn.mono hD fun p hp => List.mem_append_left _ hp⟩, fun p hp => List.mem_append_right _ hp⟩
set_option maxRecDepth 100000 in
set_option maxHeartbeats 2000000 in
theorem seg18 {w : World} {p : Program} {loose : List Str} {mean : ExcName → Option Value} {mg mb : Str → Option Value} {s₁ : Shared} {h₁ : Heap} {L fa : Addr} {cd : Value} {tk : Nat} {E : Value → Shared → Prop} {m : Str → Option Value} {news : List (Addr × Obj)} {fr mk g : Str} {tf tm tg tb : Tok} {b : Nat} {dv dfv : Value} {dflt : Option Int} {d : Dt}
  (K0 : Below callerA s₁.heap [] s₁.heap) (KX : (hd.heap_39 w.params).In s₁.heap) (T : Top p loose mean mg mb s₁.heap) (F' : Fr s₁.heap L h₁ m) (N' : News s₁.heap L h₁ news) (hgv : LookIs m (Str.ofString "given") (.str g tg)) (hfr : LookIs m (Str.ofString "front") (.str fr tf)) (hmk : LookIs m (Str.ofString "mark") (.str mk tm)) (hba : LookIs m (Str.ofString "base") (.int (b : Int) tb)) (hde : LookIs m (Str.ofString "default") dfv) (hdu : LookIs m (Str.ofString "due") dv) (hdd : DtIn news dv d) (hok : DtOk d) (hsp : specThree g fr mk b dflt = d) (hga : Ascii g) (hg6 : g.length ≤ 600) (hf6 : fr.length ≤ 600) (hm6 : mk.length ≤ 600) (hm1 : 1 ≤ mk.length) (hb : b = 10 ∨ b = 16) (hdv : DvIs dfv dflt) (hop : OkParts g fr mk) :
   wpC (model PySem.Challenge.pw_iw0004_01 w) (callerA.deeper (lawEnv L fa cd)) (execs (lawPart 18 1) (lawEnv L fa cd)) (fun f s' => f = .next ∧ AtS s₁ s₁.heap L (fun m' n' => m' = m ∧ ∀ e ∈ news, e ∈ n') s') E { s₁ with heap := h₁, toks := tk } := by
  refine wpC_absQ ?_
  intro Q0 hQ0
  refine' lit_C ?le1 ?le2 ?_
  case le1 => (dsimp only [lawPart, lawBody, PySem.Challenge.pw_iw0004_01, List.getLast?, List.getLast, List.drop, List.take] <;> exact rfl)
  case le2 => (dsimp only [lawScope, PySem.Challenge.pw_iw0004_01, List.getLast?, List.getLast] <;> exact rfl)
  repeat' (first | (with_reducible refine hQ0 _ _ ?_; (try dsimp only)) | (k_here; (with_reducible show wpAny _ _ (getMethod (Value.str _ _) _ _) _ _ _); (with_reducible refine gm_encode ?_)) | (k_here; (with_reducible show wpAny _ _ (call (Value.builtin "str.encode") [Value.str _ _, Value.str _ _]) _ _ _); k_dflt (refine' encode2 ?ea ?eb ?_; (case ea => with_reducible assumption); (case eb => omega); intro _ _; (try dsimp only))) | (k_here; (with_reducible show wpAny _ _ (compareOp CmpOp.NotEq _ _) _ _ _); k_dflt ((rename News _ _ _ _ => N'); refine' ne_dt N' ?nd1 ?nd2 ?nd3 ?nd4 ?_; (case nd1 => exact DtIn.mono (by with_reducible assumption) (fun p hp => List.mem_append_left _ hp)); (case nd2 => first | exact ⟨_, rfl⟩ | exact DtIn.mono (by with_reducible assumption) (fun p hp => List.mem_append_right _ hp)); (case nd3 => with_reducible assumption); (case nd4 => first | ktr_units | decide); (replace N' := news_right N'); (try dsimp only))) | (k_here; (with_reducible show wpAny _ _ (call (Value.ref 135) [_, _, _]) _ _ _); k_dflt (refine' rounds_text ?tu ?tg ?tv ?k1 ?k2 ?k3 ?k4 ?k5 ?k6 ?k7 ?k8 ?k9 ?_; (case tu => with_reducible assumption); (case tg => with_reducible assumption); (case tv => with_reducible assumption); (case k1 => k_asm); (case k2 => k_asm); (case k3 => k_asm); (case k4 => k_asm); (case k5 => k_asm); (case k6 => exact rfl); (case k7 => exact rfl); (case k8 => first | ktr_room | decide); (case k9 => first | ktr_units | decide); intro v' n' h' t' F' N' r'; (try k_sweep); (try dsimp only))) | (k_here; (with_reducible show wpAny _ _ (eval (Expr.Name _ _) (envOfC _ _ _ _ _)) _ _ _); k_dflt ((rename Fr _ _ _ _ => F'); refine' ldL F' ?lq1 ?_ ?lq2 ?lq3 ?lq4; (case lq3 => rfl); (case lq1 => (repeat (refine (if_neg (by decide +kernel)).trans ?_)); first | exact if_pos rfl | (show LookIs _ _ _; with_reducible assumption)); (case lq2 => rfl); (case lq4 => decide); (try dsimp only))) | (k_here; (with_reducible show wpAny _ _ (subscriptTail _ _ (Value.ref _) (Value.int 0 _)) _ _ _); k_dflt ((rename News _ _ _ _ => N'); refine' sub_first N' ?sb1 ?_; (case sb1 => k_mem); (try dsimp only))) | (k_here; (with_reducible show wpAny _ _ (loadName (envOfC _ _ _ _ _) _) _ _ _); k_dflt ((rename Fr _ _ _ _ => F'); refine' ldLn F' ?lq1 ?_ ?lq2 ?lq3; (case lq3 => rfl); (case lq1 => (repeat (refine (if_neg (by decide +kernel)).trans ?_)); first | exact if_pos rfl | (show LookIs _ _ _; with_reducible assumption)); (case lq2 => rfl); (try dsimp only))) | (k_here; (with_reducible show if (_ == _) = true then _ else _); k_dflt (first | (refine' Mine.ieq_no ?k1 ?_; (case k1 => omega)) | (refine' Mine.ieq_yes ?k1 ?_; (case k1 => omega)))) | ((with_reducible show wpC _ _ _ _ _ _); plain_pass; first | (k_here; (with_reducible show wpC _ _ (execs (_ :: _) _) _ _ _); k_dflt refine wpC_execs_cons ?_) | (k_here; (with_reducible show wpC _ _ (execs [] _) _ _ _); k_dflt refine wpC_execs_nil ?_) | (k_here; (with_reducible show wpC _ _ (exec (Stmt.If _ _ _ _) _) _ _ _); k_dflt refine wpC_If ?_) | (k_here; (with_reducible show wpC _ _ (isTrue (Expr.BoolOp BoolOp.Or (_ :: _) _) _ _) _ _ _); k_dflt refine wpC_isTrue_or ?_) | (k_here; (with_reducible show wpC _ _ (isTrue (Expr.BoolOp BoolOp.Or [] _) _ _) _ _ _); k_dflt refine wpC_isTrue_or_nil ?_) | (k_here; (with_reducible show wpC _ _ (isTrue (Expr.Compare _ [_] [_] _) _ _) _ _ _); k_dflt refine wpC_isTrue_Compare1 ?_) | (k_here; (with_reducible show wpC _ _ (eval (Expr.Call (Expr.Name _ _) _ [] _) _) _ _ _); k_dflt refine wpC_Call_Name rfl ?_) | (k_here; (with_reducible show wpC _ _ (callWith _ (Value.ref _) _ _ _) _ _ _); k_dflt (refine' wpC_callWith_K (K := Mine.hd.heap_39 _) ?k1 ?_; (case k1 => k_is))) | (k_here; (with_reducible show wpC _ _ (call (Value.ref 156) [_, _, _, _, _]) _ _ _); k_dflt (refine' three_text ?tu ?tg ?tf ?tm ?t0 ?tb ?tv ?tp ?k1 ?k2 ?k3 ?k4 ?k5 ?k6 ?k7 ?k8 ?k9 ?_; (case tu => first | exact uni_str | exact uni_bytes (by with_reducible assumption) (by omega)); (case tg => omega); (case tf => omega); (case tm => omega); (case t0 => omega); (case tb => with_reducible assumption); (case tv => with_reducible assumption); (case tp => with_reducible assumption); (case k1 => k_asm); (case k2 => k_asm); (case k3 => k_asm); (case k4 => k_asm); (case k5 => k_asm); (case k6 => exact rfl); (case k7 => exact rfl); (case k8 => first | ktr_room | decide); (case k9 => first | ktr_units | decide); intro v' n' h' t' F' N' r'; (rename (specThree _ _ _ _ _ = _) => hsp'); rw [hsp'] at r'; (try k_sweep); (try dsimp only))) | (k_here; (with_reducible show wpC _ _ (call (Value.ref 163) [_, _, _]) _ _ _); k_dflt (refine' one_text ?tu ?tg ?tb ?tv ?k1 ?k2 ?k3 ?k4 ?k5 ?k6 ?k7 ?k8 ?k9 ?_; (case tu => with_reducible assumption); (case tg => omega); (case tb => with_reducible assumption); (case tv => with_reducible assumption); (case k1 => k_asm); (case k2 => k_asm); (case k3 => k_asm); (case k4 => k_asm); (case k5 => k_asm); (case k6 => exact rfl); (case k7 => exact rfl); (case k8 => first | ktr_room | decide); (case k9 => first | ktr_units | decide); intro v' n' h' t' F' N' r'; (try k_sweep); (try dsimp only))) | ((fail_if_success (with_reducible show wpC _ _ (callWith _ _ _ _ _) _ _ _)); (fail_if_success (with_reducible show wpC _ _ (call _ _) _ _ _)); k_dflt (refine wpC_of_any ?_))) | ((with_reducible show wpC _ _ _ _ _ _); plain_pass; first | (k_here; (with_reducible show wpC _ _ (execs (_ :: _) _) _ _ _); k_dflt refine wpC_execs_cons ?_) | (k_here; (with_reducible show wpC _ _ (execs [] _) _ _ _); k_dflt refine wpC_execs_nil ?_) | (k_dflt (refine wpC_of_any ?_))) | (k_unfold; (try dsimp only)) | (k_end; wrow_close) | walk1 | dsimp only | (leave1; (try dsimp only)))
  all_goals first
    | (rename Fr _ _ _ _ => F'; rename News _ _ _ _ => N'; exact AtS.mk F' N' ⟨rfl, sub_self⟩)
end Mine
end
-- S15
section
open PySem PySem.W PyProof.Rows PySem.Calls PySem.Spec
namespace Mine
/-- what is due after the second of the three statements -/
def dueA (b : Nat) (dflt : Option Int) : List Str → Dt
  | [r, a] => withRounds (specRounds r b dflt) a none
  | _ => .err sVE
theorem dueA_no {b : Nat} {dflt : Option Int} {l : List Str} (h : l.length ≠ 2) : dueA b dflt l = .err sVE := by
  unfold dueA
  split
  · exact absurd rfl h
  · rfl
theorem dueThree_no {b : Nat} {dflt : Option Int} {l : List Str} (h : l.length ≠ 3) : dueThree b dflt l = dueA b dflt l := by
  match l, h with
  | [], _ => rfl
  | [_], _ => rfl
  | [_, _], _ => rfl
  | [_, _, _], h => exact absurd rfl h
  | _ :: _ :: _ :: _ :: _, _ => rfl
theorem strs_inv {vs : List Value} {x : Str} {l : List Str} (h : StrsAre vs (x :: l)) : ∃ t vs', vs = .str x t :: vs' ∧ StrsAre vs' l := by
  cases h with
  | cons _ t r => exact ⟨t, _, rfl, r⟩
theorem strs_inv0 {vs : List Value} (h : StrsAre vs []) : vs = [] := by
  cases h
  rfl
theorem opts_inv {vs : List Value} {x : Str} {l : List Str} (h : OptsAre vs (x :: l)) : ∃ y vs', vs = y :: vs' ∧ OptIs y (optS x) ∧ OptsAre vs' l := by
  cases h with
  | cons o r => exact ⟨_, _, rfl, o, r⟩
theorem opts_inv0 {vs : List Value} (h : OptsAre vs []) : vs = [] := by
  cases h
  rfl
theorem len_two {x : Str} {l : List Str} (h : (x :: l).length = 2) : ∃ y, l = [y] := by
  match l, h with
  | [y], _ => exact ⟨y, rfl⟩
theorem len_three {x : Str} {l : List Str} (h : (x :: l).length = 3) : ∃ y z, l = [y, z] := by
  match l, h with
  | [y, z], _ => exact ⟨y, z, rfl⟩
set_option maxRecDepth 100000 in
set_option maxHeartbeats 2000000 in
theorem seg15 {w : World} {p : Program} {loose : List Str} {mean : ExcName → Option Value} {mg mb : Str → Option Value} {s₁ : Shared} {h₁ : Heap} {L fa : Addr} {cd : Value} {tk : Nat} {E : Value → Shared → Prop} {m : Str → Option Value} {q c : Addr} {ws ys : List Value} {x1 : Str} {l : List Str} {n n2 b : Nat} {dflt : Option Int} {rv : Value}
  (K0 : Below callerA s₁.heap [] s₁.heap) (KX : (hd.heap_39 w.params).In s₁.heap) (T : Top p loose mean mg mb s₁.heap) (F' : Fr s₁.heap L h₁ m) (N' : News s₁.heap L h₁ [(c, listOf ys.toArray n2), (q, listOf ws.toArray n)]) (hfd : LookIs m (Str.ofString "fields") (.ref q)) (hro : LookIs m (Str.ofString "rounds") rv) (hws : StrsAre ws (x1 :: l)) (h5 : (x1 :: l).length ≤ 5) (hrd : DtIn [] rv (specRounds x1 b dflt)) :
   wpC (model PySem.Challenge.pw_iw0004_01 w) (callerA.deeper (lawEnv L fa cd)) (execs (lawPart 15 2) (lawEnv L fa cd)) (fun f s' => f = .next ∧ AtS s₁ s₁.heap L (fun m' n' => KeptBut [Str.ofString "due"] m m' ∧ (∃ v, LookIs m' (Str.ofString "due") v ∧ DtIn n' v (dueA b dflt (x1 :: l))) ∧ ∀ e ∈ [(c, listOf ys.toArray n2), (q, listOf ws.toArray n)], e ∈ n') s') E { s₁ with heap := h₁, toks := tk } := by
  refine wpC_absQ ?_
  intro Q0 hQ0
  refine' lit_C ?le1 ?le2 ?_
  case le1 => (dsimp only [lawPart, lawBody, PySem.Challenge.pw_iw0004_01, List.getLast?, List.getLast, List.drop, List.take] <;> exact rfl)
  case le2 => (dsimp only [lawScope, PySem.Challenge.pw_iw0004_01, List.getLast?, List.getLast] <;> exact rfl)
  have hz := hws.length
  by_cases h2 : (x1 :: l).length = 2
  · obtain ⟨x2, rfl⟩ := len_two h2
    obtain ⟨t1, w1, rfl, hw1⟩ := strs_inv hws
    obtain ⟨t2, w2, rfl, hw2⟩ := strs_inv hw1
    obtain rfl := strs_inv0 hw2
    clear hws hw1 hw2
    have hd2 : dueA b dflt [x1, x2] = withRounds (specRounds x1 b dflt) x2 none := rfl
    rcases rounds_cases x1 b dflt with hrc | ⟨nr, hrc⟩
    · rw [hrc] at hrd
      obtain ⟨tr, rfl⟩ := hrd
      rw [hd2, hrc] at hQ0
      repeat' (first | (with_reducible refine hQ0 _ _ ?_; (try dsimp only)) | (k_here; (with_reducible show wpAny _ _ (call (Value.builtin "len") [Value.ref _]) _ _ _); k_dflt ((rename News _ _ _ _ => N'); refine' Mine.len_vs N' ?k2 ?k3 ?_; (case k2 => k_mem); (case k3 => ((try simp only [List.length_cons, List.length_nil]); omega)); intro _ _; (try dsimp only [List.length_cons, List.length_nil]))) | (k_here; (with_reducible show wpAny _ _ (eval (Expr.Name _ _) (envOfC _ _ _ _ _)) _ _ _); k_dflt ((rename Fr _ _ _ _ => F'); refine' ldL F' ?lq1 ?_ ?lq2 ?lq3 ?lq4; (case lq3 => rfl); (case lq1 => (repeat (refine (if_neg (by decide +kernel)).trans ?_)); first | exact if_pos rfl | (show LookIs _ _ _; with_reducible assumption)); (case lq2 => rfl); (case lq4 => decide); (try dsimp only))) | (k_here; (with_reducible show wpAny _ _ (subscriptTail _ _ (Value.ref _) (Value.int 0 _)) _ _ _); k_dflt ((rename News _ _ _ _ => N'); refine' sub_first N' ?sb1 ?_; (case sb1 => k_mem); (try dsimp only))) | (k_here; (with_reducible show wpAny _ _ (loadName (envOfC _ _ _ _ _) _) _ _ _); k_dflt ((rename Fr _ _ _ _ => F'); refine' ldLn F' ?lq1 ?_ ?lq2 ?lq3; (case lq3 => rfl); (case lq1 => (repeat (refine (if_neg (by decide +kernel)).trans ?_)); first | exact if_pos rfl | (show LookIs _ _ _; with_reducible assumption)); (case lq2 => rfl); (try dsimp only))) | (k_here; (with_reducible show if (_ == _) = true then _ else _); k_dflt (first | (refine' Mine.ieq_no ?k1 ?_; (case k1 => omega)) | (refine' Mine.ieq_yes ?k1 ?_; (case k1 => omega)))) | ((with_reducible show wpC _ _ _ _ _ _); plain_pass; first | (k_here; (with_reducible show wpC _ _ (execs (_ :: _) _) _ _ _); k_dflt refine wpC_execs_cons ?_) | (k_here; (with_reducible show wpC _ _ (execs [] _) _ _ _); k_dflt refine wpC_execs_nil ?_) | (k_dflt (refine wpC_of_any ?_))) | (k_unfold; (try dsimp only)) | (k_end; wrow_close) | walk1 | dsimp only | (leave1; (try dsimp only)))
      rename Fr _ _ _ _ => F'
      rename News _ _ _ _ => N'
      refine' AtS.mk F' N' ⟨?z2, ⟨_, LookIs.hit, ⟨_, rfl⟩⟩, sub_self⟩
      case z2 => (repeat (refine KeptBut.set ?_ (by decide +kernel))); exact KeptBut.refl
    · rw [hrc] at hrd
      obtain ⟨tr, rfl⟩ := hrd
      rw [hd2, hrc] at hQ0
      repeat' (first | (with_reducible refine hQ0 _ _ ?_; (try dsimp only)) | (k_here; (with_reducible show wpAny _ _ (call (Value.builtin "len") [Value.ref _]) _ _ _); k_dflt ((rename News _ _ _ _ => N'); refine' Mine.len_vs N' ?k2 ?k3 ?_; (case k2 => k_mem); (case k3 => ((try simp only [List.length_cons, List.length_nil]); omega)); intro _ _; (try dsimp only [List.length_cons, List.length_nil]))) | (k_here; (with_reducible show wpAny _ _ (eval (Expr.Name _ _) (envOfC _ _ _ _ _)) _ _ _); k_dflt ((rename Fr _ _ _ _ => F'); refine' ldL F' ?lq1 ?_ ?lq2 ?lq3 ?lq4; (case lq3 => rfl); (case lq1 => (repeat (refine (if_neg (by decide +kernel)).trans ?_)); first | exact if_pos rfl | (show LookIs _ _ _; with_reducible assumption)); (case lq2 => rfl); (case lq4 => decide); (try dsimp only))) | (k_here; (with_reducible show wpAny _ _ (subscriptTail _ _ (Value.ref _) (Value.int 0 _)) _ _ _); k_dflt ((rename News _ _ _ _ => N'); refine' sub_first N' ?sb1 ?_; (case sb1 => k_mem); (try dsimp only))) | (k_here; (with_reducible show wpAny _ _ (loadName (envOfC _ _ _ _ _) _) _ _ _); k_dflt ((rename Fr _ _ _ _ => F'); refine' ldLn F' ?lq1 ?_ ?lq2 ?lq3; (case lq3 => rfl); (case lq1 => (repeat (refine (if_neg (by decide +kernel)).trans ?_)); first | exact if_pos rfl | (show LookIs _ _ _; with_reducible assumption)); (case lq2 => rfl); (try dsimp only))) | (k_here; (with_reducible show if (_ == _) = true then _ else _); k_dflt (first | (refine' Mine.ieq_no ?k1 ?_; (case k1 => omega)) | (refine' Mine.ieq_yes ?k1 ?_; (case k1 => omega)))) | ((with_reducible show wpC _ _ _ _ _ _); plain_pass; first | (k_here; (with_reducible show wpC _ _ (execs (_ :: _) _) _ _ _); k_dflt refine wpC_execs_cons ?_) | (k_here; (with_reducible show wpC _ _ (execs [] _) _ _ _); k_dflt refine wpC_execs_nil ?_) | (k_dflt (refine wpC_of_any ?_))) | (k_unfold; (try dsimp only)) | (k_end; wrow_close) | walk1 | dsimp only | (leave1; (try dsimp only)))
      rename Fr _ _ _ _ => F'
      rename News _ _ _ _ => N'
      refine' AtS.mk F' N' ⟨?z5, ⟨_, LookIs.hit, ⟨_, _, _, _, rfl, .head _, rfl⟩⟩, sub_more sub_self⟩
      case z5 => (repeat (refine KeptBut.set ?_ (by decide +kernel))); exact KeptBut.refl
  · have hd2 : dueA b dflt (x1 :: l) = .err sVE := dueA_no h2
    simp only [List.length_cons] at hz h5 h2
    rw [hd2] at hQ0
    repeat' (first | (with_reducible refine hQ0 _ _ ?_; (try dsimp only)) | (k_here; (with_reducible show wpAny _ _ (call (Value.builtin "len") [Value.ref _]) _ _ _); k_dflt ((rename News _ _ _ _ => N'); refine' Mine.len_vs N' ?k2 ?k3 ?_; (case k2 => k_mem); (case k3 => ((try simp only [List.length_cons, List.length_nil]); omega)); intro _ _; (try dsimp only [List.length_cons, List.length_nil]))) | (k_here; (with_reducible show wpAny _ _ (eval (Expr.Name _ _) (envOfC _ _ _ _ _)) _ _ _); k_dflt ((rename Fr _ _ _ _ => F'); refine' ldL F' ?lq1 ?_ ?lq2 ?lq3 ?lq4; (case lq3 => rfl); (case lq1 => (repeat (refine (if_neg (by decide +kernel)).trans ?_)); first | exact if_pos rfl | (show LookIs _ _ _; with_reducible assumption)); (case lq2 => rfl); (case lq4 => decide); (try dsimp only))) | (k_here; (with_reducible show wpAny _ _ (subscriptTail _ _ (Value.ref _) (Value.int 0 _)) _ _ _); k_dflt ((rename News _ _ _ _ => N'); refine' sub_first N' ?sb1 ?_; (case sb1 => k_mem); (try dsimp only))) | (k_here; (with_reducible show wpAny _ _ (loadName (envOfC _ _ _ _ _) _) _ _ _); k_dflt ((rename Fr _ _ _ _ => F'); refine' ldLn F' ?lq1 ?_ ?lq2 ?lq3; (case lq3 => rfl); (case lq1 => (repeat (refine (if_neg (by decide +kernel)).trans ?_)); first | exact if_pos rfl | (show LookIs _ _ _; with_reducible assumption)); (case lq2 => rfl); (try dsimp only))) | (k_here; (with_reducible show if (_ == _) = true then _ else _); k_dflt (first | (refine' Mine.ieq_no ?k1 ?_; (case k1 => omega)) | (refine' Mine.ieq_yes ?k1 ?_; (case k1 => omega)))) | ((with_reducible show wpC _ _ _ _ _ _); plain_pass; first | (k_here; (with_reducible show wpC _ _ (execs (_ :: _) _) _ _ _); k_dflt refine wpC_execs_cons ?_) | (k_here; (with_reducible show wpC _ _ (execs [] _) _ _ _); k_dflt refine wpC_execs_nil ?_) | (k_dflt (refine wpC_of_any ?_))) | (k_unfold; (try dsimp only)) | (k_end; wrow_close) | walk1 | dsimp only | (leave1; (try dsimp only)))
    rename Fr _ _ _ _ => F'
    rename News _ _ _ _ => N'
    refine' AtS.mk F' N' ⟨?z4, ⟨_, LookIs.hit, ⟨_, rfl⟩⟩, sub_self⟩
    case z4 => (repeat (refine KeptBut.set ?_ (by decide +kernel))); exact KeptBut.refl
set_option maxRecDepth 100000 in
set_option maxHeartbeats 2000000 in
theorem seg17 {w : World} {p : Program} {loose : List Str} {mean : ExcName → Option Value} {mg mb : Str → Option Value} {s₁ : Shared} {h₁ : Heap} {L fa : Addr} {cd : Value} {tk : Nat} {E : Value → Shared → Prop} {m : Str → Option Value} {news : List (Addr × Obj)} {q c : Addr} {ws ys : List Value} {x1 : Str} {l : List Str} {n n2 b : Nat} {dflt : Option Int} {rv dv : Value}
  (K0 : Below callerA s₁.heap [] s₁.heap) (KX : (hd.heap_39 w.params).In s₁.heap) (T : Top p loose mean mg mb s₁.heap) (F' : Fr s₁.heap L h₁ m) (N' : News s₁.heap L h₁ ((c, listOf ys.toArray n2) :: (q, listOf ws.toArray n) :: news)) (hfd : LookIs m (Str.ofString "fields") (.ref q)) (hch : LookIs m (Str.ofString "chosen") (.ref c)) (hro : LookIs m (Str.ofString "rounds") rv) (hdu : LookIs m (Str.ofString "due") dv) (hws : StrsAre ws (x1 :: l)) (hys : OptsAre ys (x1 :: l)) (h5 : (x1 :: l).length ≤ 5) (hrd : DtIn [] rv (specRounds x1 b dflt)) (hdd : DtIn news dv (dueA b dflt (x1 :: l))) :
   wpC (model PySem.Challenge.pw_iw0004_01 w) (callerA.deeper (lawEnv L fa cd)) (execs (lawPart 17 1) (lawEnv L fa cd)) (fun f s' => f = .next ∧ AtS s₁ s₁.heap L (fun m' n' => KeptBut [Str.ofString "due"] m m' ∧ (∃ v, LookIs m' (Str.ofString "due") v ∧ DtIn n' v (dueThree b dflt (x1 :: l))) ∧ ∀ e ∈ (c, listOf ys.toArray n2) :: (q, listOf ws.toArray n) :: news, e ∈ n') s') E { s₁ with heap := h₁, toks := tk } := by
  refine wpC_absQ ?_
  intro Q0 hQ0
  refine' lit_C ?le1 ?le2 ?_
  case le1 => (dsimp only [lawPart, lawBody, PySem.Challenge.pw_iw0004_01, List.getLast?, List.getLast, List.drop, List.take] <;> exact rfl)
  case le2 => (dsimp only [lawScope, PySem.Challenge.pw_iw0004_01, List.getLast?, List.getLast] <;> exact rfl)
  have hz := hws.length
  by_cases h2 : (x1 :: l).length = 3
  · obtain ⟨x2, x3, rfl⟩ := len_three h2
    obtain ⟨t1, w1, rfl, hw1⟩ := strs_inv hws
    obtain ⟨t2, w2, rfl, hw2⟩ := strs_inv hw1
    obtain ⟨t3, w3, rfl, hw3⟩ := strs_inv hw2
    obtain rfl := strs_inv0 hw3
    obtain ⟨y1, v1, rfl, o1, hy1⟩ := opts_inv hys
    obtain ⟨y2, v2, rfl, o2, hy2⟩ := opts_inv hy1
    obtain ⟨y3, v3, rfl, o3, hy3⟩ := opts_inv hy2
    obtain rfl := opts_inv0 hy3
    clear hws hw1 hw2 hw3 hys hy1 hy2 hy3 o1 o2
    have hd2 : dueThree b dflt [x1, x2, x3] = withRounds (specRounds x1 b dflt) x2 (optS x3) := rfl
    rcases rounds_cases x1 b dflt with hrc | ⟨nr, hrc⟩
    · rw [hrc] at hrd
      obtain ⟨tr, rfl⟩ := hrd
      rw [hd2, hrc] at hQ0
      have hdv : DtIn news dv (.err sVE) := hdd
      repeat' (first | (with_reducible refine hQ0 _ _ ?_; (try dsimp only)) | (k_here; (with_reducible show wpAny _ _ (call (Value.builtin "len") [Value.ref _]) _ _ _); k_dflt ((rename News _ _ _ _ => N'); refine' Mine.len_vs N' ?k2 ?k3 ?_; (case k2 => k_mem); (case k3 => ((try simp only [List.length_cons, List.length_nil]); omega)); intro _ _; (try dsimp only [List.length_cons, List.length_nil]))) | (k_here; (with_reducible show wpAny _ _ (eval (Expr.Name _ _) (envOfC _ _ _ _ _)) _ _ _); k_dflt ((rename Fr _ _ _ _ => F'); refine' ldL F' ?lq1 ?_ ?lq2 ?lq3 ?lq4; (case lq3 => rfl); (case lq1 => (repeat (refine (if_neg (by decide +kernel)).trans ?_)); first | exact if_pos rfl | (show LookIs _ _ _; with_reducible assumption)); (case lq2 => rfl); (case lq4 => decide); (try dsimp only))) | (k_here; (with_reducible show wpAny _ _ (subscriptTail _ _ (Value.ref _) (Value.int 0 _)) _ _ _); k_dflt ((rename News _ _ _ _ => N'); refine' sub_first N' ?sb1 ?_; (case sb1 => k_mem); (try dsimp only))) | (k_here; (with_reducible show wpAny _ _ (loadName (envOfC _ _ _ _ _) _) _ _ _); k_dflt ((rename Fr _ _ _ _ => F'); refine' ldLn F' ?lq1 ?_ ?lq2 ?lq3; (case lq3 => rfl); (case lq1 => (repeat (refine (if_neg (by decide +kernel)).trans ?_)); first | exact if_pos rfl | (show LookIs _ _ _; with_reducible assumption)); (case lq2 => rfl); (try dsimp only))) | (k_here; (with_reducible show if (_ == _) = true then _ else _); k_dflt (first | (refine' Mine.ieq_no ?k1 ?_; (case k1 => omega)) | (refine' Mine.ieq_yes ?k1 ?_; (case k1 => omega)))) | ((with_reducible show wpC _ _ _ _ _ _); plain_pass; first | (k_here; (with_reducible show wpC _ _ (execs (_ :: _) _) _ _ _); k_dflt refine wpC_execs_cons ?_) | (k_here; (with_reducible show wpC _ _ (execs [] _) _ _ _); k_dflt refine wpC_execs_nil ?_) | (k_dflt (refine wpC_of_any ?_))) | (k_unfold; (try dsimp only)) | (k_end; wrow_close) | walk1 | dsimp only | (leave1; (try dsimp only)))
      rename Fr _ _ _ _ => F'
      rename News _ _ _ _ => N'
      refine' AtS.mk F' N' ⟨?z2, ⟨_, hdu, DtIn.mono hdv (sub_more (sub_more sub_self))⟩, sub_self⟩
      case z2 => (repeat (refine KeptBut.set ?_ (by decide +kernel))); exact KeptBut.refl
    · rw [hrc] at hrd
      obtain ⟨tr, rfl⟩ := hrd
      rw [hd2, hrc] at hQ0
      repeat' (first | (with_reducible refine hQ0 _ _ ?_; (try dsimp only)) | (k_here; (with_reducible show wpAny _ _ (call (Value.builtin "len") [Value.ref _]) _ _ _); k_dflt ((rename News _ _ _ _ => N'); refine' Mine.len_vs N' ?k2 ?k3 ?_; (case k2 => k_mem); (case k3 => ((try simp only [List.length_cons, List.length_nil]); omega)); intro _ _; (try dsimp only [List.length_cons, List.length_nil]))) | (k_here; (with_reducible show wpAny _ _ (eval (Expr.Name _ _) (envOfC _ _ _ _ _)) _ _ _); k_dflt ((rename Fr _ _ _ _ => F'); refine' ldL F' ?lq1 ?_ ?lq2 ?lq3 ?lq4; (case lq3 => rfl); (case lq1 => (repeat (refine (if_neg (by decide +kernel)).trans ?_)); first | exact if_pos rfl | (show LookIs _ _ _; with_reducible assumption)); (case lq2 => rfl); (case lq4 => decide); (try dsimp only))) | (k_here; (with_reducible show wpAny _ _ (subscriptTail _ _ (Value.ref _) (Value.int 0 _)) _ _ _); k_dflt ((rename News _ _ _ _ => N'); refine' sub_first N' ?sb1 ?_; (case sb1 => k_mem); (try dsimp only))) | (k_here; (with_reducible show wpAny _ _ (loadName (envOfC _ _ _ _ _) _) _ _ _); k_dflt ((rename Fr _ _ _ _ => F'); refine' ldLn F' ?lq1 ?_ ?lq2 ?lq3; (case lq3 => rfl); (case lq1 => (repeat (refine (if_neg (by decide +kernel)).trans ?_)); first | exact if_pos rfl | (show LookIs _ _ _; with_reducible assumption)); (case lq2 => rfl); (try dsimp only))) | (k_here; (with_reducible show if (_ == _) = true then _ else _); k_dflt (first | (refine' Mine.ieq_no ?k1 ?_; (case k1 => omega)) | (refine' Mine.ieq_yes ?k1 ?_; (case k1 => omega)))) | ((with_reducible show wpC _ _ _ _ _ _); plain_pass; first | (k_here; (with_reducible show wpC _ _ (execs (_ :: _) _) _ _ _); k_dflt refine wpC_execs_cons ?_) | (k_here; (with_reducible show wpC _ _ (execs [] _) _ _ _); k_dflt refine wpC_execs_nil ?_) | (k_dflt (refine wpC_of_any ?_))) | (k_unfold; (try dsimp only)) | (k_end; wrow_close) | walk1 | dsimp only | (leave1; (try dsimp only)))
      rename Fr _ _ _ _ => F'
      rename News _ _ _ _ => N'
      refine' AtS.mk F' N' ⟨?z5, ⟨_, LookIs.hit, ⟨_, _, _, _, rfl, .head _, o3⟩⟩, sub_more sub_self⟩
      case z5 => (repeat (refine KeptBut.set ?_ (by decide +kernel))); exact KeptBut.refl
  · have hd2 : dueThree b dflt (x1 :: l) = dueA b dflt (x1 :: l) := dueThree_no h2
    simp only [List.length_cons] at hz h5 h2
    rw [hd2] at hQ0
    repeat' (first | (with_reducible refine hQ0 _ _ ?_; (try dsimp only)) | (k_here; (with_reducible show wpAny _ _ (call (Value.builtin "len") [Value.ref _]) _ _ _); k_dflt ((rename News _ _ _ _ => N'); refine' Mine.len_vs N' ?k2 ?k3 ?_; (case k2 => k_mem); (case k3 => ((try simp only [List.length_cons, List.length_nil]); omega)); intro _ _; (try dsimp only [List.length_cons, List.length_nil]))) | (k_here; (with_reducible show wpAny _ _ (eval (Expr.Name _ _) (envOfC _ _ _ _ _)) _ _ _); k_dflt ((rename Fr _ _ _ _ => F'); refine' ldL F' ?lq1 ?_ ?lq2 ?lq3 ?lq4; (case lq3 => rfl); (case lq1 => (repeat (refine (if_neg (by decide +kernel)).trans ?_)); first | exact if_pos rfl | (show LookIs _ _ _; with_reducible assumption)); (case lq2 => rfl); (case lq4 => decide); (try dsimp only))) | (k_here; (with_reducible show wpAny _ _ (subscriptTail _ _ (Value.ref _) (Value.int 0 _)) _ _ _); k_dflt ((rename News _ _ _ _ => N'); refine' sub_first N' ?sb1 ?_; (case sb1 => k_mem); (try dsimp only))) | (k_here; (with_reducible show wpAny _ _ (loadName (envOfC _ _ _ _ _) _) _ _ _); k_dflt ((rename Fr _ _ _ _ => F'); refine' ldLn F' ?lq1 ?_ ?lq2 ?lq3; (case lq3 => rfl); (case lq1 => (repeat (refine (if_neg (by decide +kernel)).trans ?_)); first | exact if_pos rfl | (show LookIs _ _ _; with_reducible assumption)); (case lq2 => rfl); (try dsimp only))) | (k_here; (with_reducible show if (_ == _) = true then _ else _); k_dflt (first | (refine' Mine.ieq_no ?k1 ?_; (case k1 => omega)) | (refine' Mine.ieq_yes ?k1 ?_; (case k1 => omega)))) | ((with_reducible show wpC _ _ _ _ _ _); plain_pass; first | (k_here; (with_reducible show wpC _ _ (execs (_ :: _) _) _ _ _); k_dflt refine wpC_execs_cons ?_) | (k_here; (with_reducible show wpC _ _ (execs [] _) _ _ _); k_dflt refine wpC_execs_nil ?_) | (k_dflt (refine wpC_of_any ?_))) | (k_unfold; (try dsimp only)) | (k_end; wrow_close) | walk1 | dsimp only | (leave1; (try dsimp only)))
    rename Fr _ _ _ _ => F'
    rename News _ _ _ _ => N'
    refine' AtS.mk F' N' ⟨?z4, ⟨_, hdu, DtIn.mono hdd (sub_more (sub_more sub_self))⟩, sub_self⟩
    case z4 => (repeat (refine KeptBut.set ?_ (by decide +kernel))); exact KeptBut.refl
end Mine
end
-- Lib10
section
open PySem PySem.W PyProof.Rows PySem.Calls PySem.Spec
namespace Mine
def ListIn (s : Shared) (h₀ : Heap) (L D : Addr) (vs : List Value) (n0 : Nat) (m : Str → Option Value) (news : List (Addr × Obj)) (v : Value) (s' : Shared) : Prop :=
  ∃ h' tk, v = .ref D ∧ s' = { s with heap := h', toks := tk } ∧ Fr h₀ L h' m ∧ News h₀ L h' news ∧ (D, listOf vs.toArray n0) ∈ news
theorem kept_one {x : Str} {m m' : Str → Option Value} {v : Value} (k : KeptBut [x] m m') (h : LookIs m' x v) : m' = fun y => if y = x then some v else m y := by
  funext y
  by_cases e : y = x
  · rw [if_pos e, e]; exact h
  · rw [if_neg e]
    exact k y (by simpa using e)
section
variable {prog : Program} {w : World} {A : Around} {E : Value → Shared → Prop} {s : Shared} {env : Env}
/-- a for over a made list of known values: the frame but the loop's own name, and the ledger, stand -/
theorem wpC_For_listW {h₀ : Heap} {m : Str → Option Value} {news : List (Addr × Obj)} {x : Str} {pt : Pos} {iter : Expr} {body : List Stmt} {pos : Pos} {D : Addr} {vs : List Value} {n0 : Nat} {Q : Flow → Shared → Prop} (hh : A.handled = none)
    (hx : env.kindOf x = some .local) (hp : (env.scope.kind == .class || (env.scope.kind == .module && env.locals != env.globals)) = false)
    (hs : ∀ x, foldedSetIterable iter env x = pure x) (ht : ∀ it v, letOwnedTupleGo (.Name x pt) it v = pure ())
    (h : wpAny (model prog w) A (eval iter env) (ListIn s h₀ env.locals D vs n0 m news) E s)
    (step : ∀ v h' tk it o E', v ∈ vs → Fr h₀ env.locals h' (fun y => if y = x then some v else m y) → News h₀ env.locals h' ((it, o) :: news) →
      wpC (model prog w) A (execs body env) (fun f s₃ => f = .next ∧ AtS s h₀ env.locals (fun m' n' => KeptBut [x] m m' ∧ (∃ v', LookIs m' x v') ∧ ∀ e ∈ (it, o) :: news, e ∈ n') s₃) E' { s with heap := h', toks := tk })
    (done : ∀ h' tk m', KeptBut [x] m m' → Fr h₀ env.locals h' m' → News h₀ env.locals h' news → Q .next { s with heap := h', toks := tk }) :
    wpC (model prog w) A (exec (.For (.Name x pt) iter body [] pos) env) Q E s := by
  refine wpC_For_list (h₀ := h₀) (m := m) (news := news) (D := D) (vs := vs) (n0 := n0) hh (fun _ => True) trivial hx hp hs ht (wpAny_mono h (fun v s₁ h₁ => ?_) fun _ _ e => e) (fun i v h' tk it o E' hv _ _ F N => ?_) (fun h' tk ov _ F N => ?_)
  · obtain ⟨h', tk, rfl, rfl, F, N, hm⟩ := h₁
    exact ⟨rfl, F, N, hm, rfl, rfl, rfl⟩
  · refine wpC_mono (step v h' tk it o E' (List.mem_of_getElem? hv) F N) (fun f s₃ h₃ => ?_) fun _ _ e => e
    obtain ⟨rfl, h₄, tk₄, m₄, n₄, rfl, F₄, N₄, hk, ⟨v', hv'⟩, hsub⟩ := h₃
    refine ⟨.inl rfl, trivial, h₄, tk₄, v', rfl, ?_, fun p hp => N₄ p (hsub p hp)⟩
    rw [← kept_one hk hv']
    exact F₄
  · exact done h' tk _ (KeptBut.set KeptBut.refl (.head _)) F N
end
theorem strs_mem : ∀ {vs : List Value} {l : List Str}, StrsAre vs l → ∀ v ∈ vs, ∃ x t, v = .str x t ∧ x ∈ l
  | _, _, .nil, v, h => by cases h
  | _, _, .cons y t r, v, h => by
    rcases List.mem_cons.mp h with rfl | h
    · exact ⟨y, t, rfl, .head _⟩
    · obtain ⟨x, t, e, hx⟩ := strs_mem r v h
      exact ⟨x, t, e, .tail _ hx⟩
end Mine
end
-- S19
section
open PySem PySem.W PyProof.Rows PySem.Calls PySem.Spec
namespace Mine
set_option maxRecDepth 100000 in
set_option maxHeartbeats 2000000 in
theorem seg19 {w : World} {p : Program} {loose : List Str} {mean : ExcName → Option Value} {mg mb : Str → Option Value} {s₁ : Shared} {h₁ : Heap} {L fa : Addr} {cd : Value} {tk : Nat} {E : Value → Shared → Prop} {m : Str → Option Value} {news : List (Addr × Obj)} {q : Addr} {ws : List Value} {l : List Str} {n b : Nat} {tb : Tok} {dfv : Value} {dflt : Option Int}
  (K0 : Below callerA s₁.heap [] s₁.heap) (KX : (hd.heap_39 w.params).In s₁.heap) (T : Top p loose mean mg mb s₁.heap) (F' : Fr s₁.heap L h₁ m) (N' : News s₁.heap L h₁ news) (hfd : LookIs m (Str.ofString "fields") (.ref q)) (hba : LookIs m (Str.ofString "base") (.int (b : Int) tb)) (hde : LookIs m (Str.ofString "default") dfv) (hm : (q, listOf ws.toArray n) ∈ news) (hws : StrsAre ws l) (hfl : ∀ x ∈ l, FieldIs x) (hb : b = 10 ∨ b = 16) (hdv : DvIs dfv dflt) :
   wpC (model PySem.Challenge.pw_iw0004_01 w) (callerA.deeper (lawEnv L fa cd)) (execs (lawPart 19 1) (lawEnv L fa cd)) (fun f s' => f = .next ∧ AtS s₁ s₁.heap L (fun m' n' => KeptBut [Str.ofString "signs"] m m' ∧ ∀ e ∈ news, e ∈ n') s') E { s₁ with heap := h₁, toks := tk } := by
  refine wpC_absQ ?_
  intro Q0 hQ0
  refine' lit_C ?le1 ?le2 ?_
  case le1 => (dsimp only [lawPart, lawBody, PySem.Challenge.pw_iw0004_01, List.getLast?, List.getLast, List.drop, List.take] <;> exact rfl)
  case le2 => (dsimp only [lawScope, PySem.Challenge.pw_iw0004_01, List.getLast?, List.getLast] <;> exact rfl)
  refine wpC_execs_cons ?_
  refine' wpC_For_listW (h₀ := s₁.heap) (m := m) (news := news) (D := q) (vs := ws) (n0 := n) rfl ?rx ?rp ?rs ?rt ?rh ?rstep ?rdone
  case rx => exact rfl
  case rp => exact rfl
  case rs => intro _; exact rfl
  case rt => intro _ _; exact rfl
  case rh =>
    repeat' (first | (with_reducible refine hQ0 _ _ ?_; (try dsimp only)) | (k_here; (with_reducible show wpAny _ _ (spliced _) _ _ _); k_dflt ((rename Fr _ _ _ _ => F'); (first | refine' args3 ?_ ?_ ?_ ?_ | refine' args5 ?_ ?_ ?_ ?_ ?_ ?_ | refine' args4 ?_ ?_ ?_ ?_ ?_ | refine' args6 ?_ ?_ ?_ ?_ ?_ ?_ ?_ | refine' args2 ?_ ?_ ?_ | refine' args1 ?_ ?_); (any_goals (first | exact atom_str | exact atom_int | exact atom_none | exact atom_local F' (by (repeat (refine (if_neg (by decide +kernel)).trans ?_)); first | exact if_pos rfl | (show LookIs _ _ _; with_reducible assumption)) rfl rfl rfl (by decide))); (fail_if_success (any_goals (with_reducible show AtomE _ _ _ _ _ _ _))); intros; (try dsimp only))) | (k_here; (with_reducible show wpAny _ _ (compareOp CmpOp.NotEq _ _) _ _ _); k_dflt ((rename News _ _ _ _ => N'); refine' ne_dt N' ?nd1 ?nd2 ?nd3 ?nd4 ?_; (case nd1 => first | exact DtIn.mono (by with_reducible assumption) (fun p hp => List.mem_append_left _ hp) | exact DtIn.mono (by with_reducible assumption) (fun p hp => List.mem_append_right _ (List.mem_append_left _ hp))); (case nd2 => first | exact ⟨_, rfl⟩ | exact DtIn.mono (by with_reducible assumption) (fun p hp => List.mem_append_right _ hp) | exact DtIn.mono (by with_reducible assumption) (fun p hp => List.mem_append_left _ hp)); (case nd3 => first | (with_reducible assumption) | exact dtok_rounds | exact dtok_ve | exact dtok_te); (case nd4 => first | ktr_units | decide); (replace N' := news_right N'); (try dsimp only))) | (k_here; (with_reducible show wpAny _ _ (call (Value.ref 135) [_, _, _]) _ _ _); k_dflt (refine' rounds_text ?tu ?tg ?tv ?k1 ?k2 ?k3 ?k4 ?k5 ?k6 ?k7 ?k8 ?k9 ?_; (case tu => with_reducible assumption); (case tg => with_reducible assumption); (case tv => with_reducible assumption); (case k1 => k_asm); (case k2 => k_asm); (case k3 => k_asm); (case k4 => k_asm); (case k5 => k_asm); (case k6 => exact rfl); (case k7 => exact rfl); (case k8 => first | ktr_room | decide); (case k9 => first | ktr_units | decide); intro v' n' h' t' F' N' r'; (try k_sweep); (try dsimp only))) | (k_here; (with_reducible show wpAny _ _ (eval (Expr.Name _ _) (envOfC _ _ _ _ _)) _ _ _); k_dflt ((rename Fr _ _ _ _ => F'); refine' ldL F' ?lq1 ?_ ?lq2 ?lq3 ?lq4; (case lq3 => rfl); (case lq1 => (repeat (refine (if_neg (by decide +kernel)).trans ?_)); first | exact if_pos rfl | (show LookIs _ _ _; with_reducible assumption)); (case lq2 => rfl); (case lq4 => decide); (try dsimp only))) | (k_here; (with_reducible show wpAny _ _ (loadName (envOfC _ _ _ _ _) _) _ _ _); k_dflt ((rename Fr _ _ _ _ => F'); refine' ldLn F' ?lq1 ?_ ?lq2 ?lq3; (case lq3 => rfl); (case lq1 => (repeat (refine (if_neg (by decide +kernel)).trans ?_)); first | exact if_pos rfl | (show LookIs _ _ _; with_reducible assumption)); (case lq2 => rfl); (try dsimp only))) | (k_here; (with_reducible show if (_ == _) = true then _ else _); k_dflt (first | (refine' Mine.ieq_no ?k1 ?_; (case k1 => omega)) | (refine' Mine.ieq_yes ?k1 ?_; (case k1 => omega)))) | ((with_reducible show wpC _ _ _ _ _ _); plain_pass; first | (k_here; (with_reducible show wpC _ _ (execs (_ :: _) _) _ _ _); k_dflt refine wpC_execs_cons ?_) | (k_here; (with_reducible show wpC _ _ (execs [] _) _ _ _); k_dflt refine wpC_execs_nil ?_) | (k_here; (with_reducible show wpC _ _ (exec (Stmt.If _ _ _ _) _) _ _ _); k_dflt refine wpC_If ?_) | (k_here; (with_reducible show wpC _ _ (isTrue (Expr.BoolOp BoolOp.Or (_ :: _) _) _ _) _ _ _); k_dflt refine wpC_isTrue_or ?_) | (k_here; (with_reducible show wpC _ _ (isTrue (Expr.BoolOp BoolOp.Or [] _) _ _) _ _ _); k_dflt refine wpC_isTrue_or_nil ?_) | (k_here; (with_reducible show wpC _ _ (isTrue (Expr.Compare _ [_] [_] _) _ _) _ _ _); k_dflt refine wpC_isTrue_Compare1 ?_) | (k_here; (with_reducible show wpC _ _ (eval (Expr.Call (Expr.Name _ _) _ [] _) _) _ _ _); k_dflt refine wpC_Call_Name rfl ?_) | (k_here; (with_reducible show wpC _ _ (callWith _ (Value.ref _) _ _ _) _ _ _); k_dflt (refine' wpC_callWith_K (K := Mine.hd.heap_39 _) ?k1 ?_; (case k1 => k_is))) | (k_here; (with_reducible show wpC _ _ (call (Value.ref 135) _) _ _ _); k_dflt (refine wpC_of_any ?_)) | (k_here; (with_reducible show wpC _ _ (call (Value.ref 149) _) _ _ _); k_dflt (refine wpC_of_any ?_)) | (k_here; (with_reducible show wpC _ _ (call (Value.ref 156) [_, _, _, _, _]) _ _ _); k_dflt (refine' three_text ?tu ?tg ?tf ?tm ?t0 ?tb ?tv ?tp ?k1 ?k2 ?k3 ?k4 ?k5 ?k6 ?k7 ?k8 ?k9 ?_; (case tu => first | exact uni_str | exact uni_bytes (by with_reducible assumption) (by omega)); (case tg => omega); (case tf => omega); (case tm => omega); (case t0 => omega); (case tb => with_reducible assumption); (case tv => with_reducible assumption); (case tp => with_reducible assumption); (case k1 => k_asm); (case k2 => k_asm); (case k3 => k_asm); (case k4 => k_asm); (case k5 => k_asm); (case k6 => exact rfl); (case k7 => exact rfl); (case k8 => first | ktr_room | decide); (case k9 => first | ktr_units | decide); intro v' n' h' t' F' N' r'; (rename (specThree _ _ _ _ _ = _) => hsp'); rw [hsp'] at r'; (try k_sweep); (try dsimp only))) | (k_here; (with_reducible show wpC _ _ (call (Value.ref 163) [_, _, _]) _ _ _); k_dflt (refine' one_text ?tu ?tg ?tb ?tv ?k1 ?k2 ?k3 ?k4 ?k5 ?k6 ?k7 ?k8 ?k9 ?_; (case tu => with_reducible assumption); (case tg => omega); (case tb => with_reducible assumption); (case tv => with_reducible assumption); (case k1 => k_asm); (case k2 => k_asm); (case k3 => k_asm); (case k4 => k_asm); (case k5 => k_asm); (case k6 => exact rfl); (case k7 => exact rfl); (case k8 => first | ktr_room | decide); (case k9 => first | ktr_units | decide); intro v' n' h' t' F' N' r'; (try k_sweep); (try dsimp only))) | ((fail_if_success (with_reducible show wpC _ _ (callWith _ _ _ _ _) _ _ _)); (fail_if_success (with_reducible show wpC _ _ (call _ _) _ _ _)); k_dflt (refine wpC_of_any ?_))) | (k_unfold; (try dsimp only)) | (k_end; wrow_close) | walk1 | dsimp only | (leave1; (try dsimp only)))
    rename Fr _ _ _ _ => F'
    rename News _ _ _ _ => N'
    exact ⟨_, _, rfl, rfl, F', N', hm⟩
  case rstep =>
    clear F' N'
    intro v h' tk it o E' hv F' N'
    obtain ⟨x, t, rfl, hx⟩ := strs_mem hws v hv
    have hox := (hfl x hx).1
    have hx6 : x.length ≤ 600 := Nat.le_trans (hfl x hx).2 (by decide)
    have hN : NumOn x b := ⟨hox, hb⟩
    dsimp only
    repeat' (first | (with_reducible refine hQ0 _ _ ?_; (try dsimp only)) | (k_here; (with_reducible show wpAny _ _ (spliced _) _ _ _); k_dflt ((rename Fr _ _ _ _ => F'); (first | refine' args3 ?_ ?_ ?_ ?_ | refine' args5 ?_ ?_ ?_ ?_ ?_ ?_ | refine' args4 ?_ ?_ ?_ ?_ ?_ | refine' args6 ?_ ?_ ?_ ?_ ?_ ?_ ?_ | refine' args2 ?_ ?_ ?_ | refine' args1 ?_ ?_); (any_goals (first | exact atom_str | exact atom_int | exact atom_none | exact atom_local F' (by (repeat (refine (if_neg (by decide +kernel)).trans ?_)); first | exact if_pos rfl | (show LookIs _ _ _; with_reducible assumption)) rfl rfl rfl (by decide))); (fail_if_success (any_goals (with_reducible show AtomE _ _ _ _ _ _ _))); intros; (try dsimp only))) | (k_here; (with_reducible show wpAny _ _ (compareOp CmpOp.NotEq _ _) _ _ _); k_dflt ((rename News _ _ _ _ => N'); refine' ne_dt N' ?nd1 ?nd2 ?nd3 ?nd4 ?_; (case nd1 => first | exact DtIn.mono (by with_reducible assumption) (fun p hp => List.mem_append_left _ hp) | exact DtIn.mono (by with_reducible assumption) (fun p hp => List.mem_append_right _ (List.mem_append_left _ hp))); (case nd2 => first | exact ⟨_, rfl⟩ | exact DtIn.mono (by with_reducible assumption) (fun p hp => List.mem_append_right _ hp) | exact DtIn.mono (by with_reducible assumption) (fun p hp => List.mem_append_left _ hp)); (case nd3 => first | (with_reducible assumption) | exact dtok_rounds | exact dtok_ve | exact dtok_te); (case nd4 => first | ktr_units | decide); (replace N' := news_right N'); (try dsimp only))) | (k_here; (with_reducible show wpAny _ _ (call (Value.ref 135) [_, _, _]) _ _ _); k_dflt (refine' rounds_text ?tu ?tg ?tv ?k1 ?k2 ?k3 ?k4 ?k5 ?k6 ?k7 ?k8 ?k9 ?_; (case tu => with_reducible assumption); (case tg => with_reducible assumption); (case tv => with_reducible assumption); (case k1 => k_asm); (case k2 => k_asm); (case k3 => k_asm); (case k4 => k_asm); (case k5 => k_asm); (case k6 => exact rfl); (case k7 => exact rfl); (case k8 => first | ktr_room | decide); (case k9 => first | ktr_units | decide); intro v' n' h' t' F' N' r'; (try k_sweep); (try dsimp only))) | (k_here; (with_reducible show wpAny _ _ (eval (Expr.Name _ _) (envOfC _ _ _ _ _)) _ _ _); k_dflt ((rename Fr _ _ _ _ => F'); refine' ldL F' ?lq1 ?_ ?lq2 ?lq3 ?lq4; (case lq3 => rfl); (case lq1 => (repeat (refine (if_neg (by decide +kernel)).trans ?_)); first | exact if_pos rfl | (show LookIs _ _ _; with_reducible assumption)); (case lq2 => rfl); (case lq4 => decide); (try dsimp only))) | (k_here; (with_reducible show wpAny _ _ (loadName (envOfC _ _ _ _ _) _) _ _ _); k_dflt ((rename Fr _ _ _ _ => F'); refine' ldLn F' ?lq1 ?_ ?lq2 ?lq3; (case lq3 => rfl); (case lq1 => (repeat (refine (if_neg (by decide +kernel)).trans ?_)); first | exact if_pos rfl | (show LookIs _ _ _; with_reducible assumption)); (case lq2 => rfl); (try dsimp only))) | (k_here; (with_reducible show if (_ == _) = true then _ else _); k_dflt (first | (refine' Mine.ieq_no ?k1 ?_; (case k1 => omega)) | (refine' Mine.ieq_yes ?k1 ?_; (case k1 => omega)))) | ((with_reducible show wpC _ _ _ _ _ _); plain_pass; first | (k_here; (with_reducible show wpC _ _ (execs (_ :: _) _) _ _ _); k_dflt refine wpC_execs_cons ?_) | (k_here; (with_reducible show wpC _ _ (execs [] _) _ _ _); k_dflt refine wpC_execs_nil ?_) | (k_here; (with_reducible show wpC _ _ (exec (Stmt.If _ _ _ _) _) _ _ _); k_dflt refine wpC_If ?_) | (k_here; (with_reducible show wpC _ _ (isTrue (Expr.BoolOp BoolOp.Or (_ :: _) _) _ _) _ _ _); k_dflt refine wpC_isTrue_or ?_) | (k_here; (with_reducible show wpC _ _ (isTrue (Expr.BoolOp BoolOp.Or [] _) _ _) _ _ _); k_dflt refine wpC_isTrue_or_nil ?_) | (k_here; (with_reducible show wpC _ _ (isTrue (Expr.Compare _ [_] [_] _) _ _) _ _ _); k_dflt refine wpC_isTrue_Compare1 ?_) | (k_here; (with_reducible show wpC _ _ (eval (Expr.Call (Expr.Name _ _) _ [] _) _) _ _ _); k_dflt refine wpC_Call_Name rfl ?_) | (k_here; (with_reducible show wpC _ _ (callWith _ (Value.ref _) _ _ _) _ _ _); k_dflt (refine' wpC_callWith_K (K := Mine.hd.heap_39 _) ?k1 ?_; (case k1 => k_is))) | (k_here; (with_reducible show wpC _ _ (call (Value.ref 135) _) _ _ _); k_dflt (refine wpC_of_any ?_)) | (k_here; (with_reducible show wpC _ _ (call (Value.ref 149) _) _ _ _); k_dflt (refine wpC_of_any ?_)) | (k_here; (with_reducible show wpC _ _ (call (Value.ref 156) [_, _, _, _, _]) _ _ _); k_dflt (refine' three_text ?tu ?tg ?tf ?tm ?t0 ?tb ?tv ?tp ?k1 ?k2 ?k3 ?k4 ?k5 ?k6 ?k7 ?k8 ?k9 ?_; (case tu => first | exact uni_str | exact uni_bytes (by with_reducible assumption) (by omega)); (case tg => omega); (case tf => omega); (case tm => omega); (case t0 => omega); (case tb => with_reducible assumption); (case tv => with_reducible assumption); (case tp => with_reducible assumption); (case k1 => k_asm); (case k2 => k_asm); (case k3 => k_asm); (case k4 => k_asm); (case k5 => k_asm); (case k6 => exact rfl); (case k7 => exact rfl); (case k8 => first | ktr_room | decide); (case k9 => first | ktr_units | decide); intro v' n' h' t' F' N' r'; (rename (specThree _ _ _ _ _ = _) => hsp'); rw [hsp'] at r'; (try k_sweep); (try dsimp only))) | (k_here; (with_reducible show wpC _ _ (call (Value.ref 163) [_, _, _]) _ _ _); k_dflt (refine' one_text ?tu ?tg ?tb ?tv ?k1 ?k2 ?k3 ?k4 ?k5 ?k6 ?k7 ?k8 ?k9 ?_; (case tu => with_reducible assumption); (case tg => omega); (case tb => with_reducible assumption); (case tv => with_reducible assumption); (case k1 => k_asm); (case k2 => k_asm); (case k3 => k_asm); (case k4 => k_asm); (case k5 => k_asm); (case k6 => exact rfl); (case k7 => exact rfl); (case k8 => first | ktr_room | decide); (case k9 => first | ktr_units | decide); intro v' n' h' t' F' N' r'; (try k_sweep); (try dsimp only))) | ((fail_if_success (with_reducible show wpC _ _ (callWith _ _ _ _ _) _ _ _)); (fail_if_success (with_reducible show wpC _ _ (call _ _) _ _ _)); k_dflt (refine wpC_of_any ?_))) | (k_unfold; (try dsimp only)) | (k_end; wrow_close) | walk1 | dsimp only | (leave1; (try dsimp only)))
    rename Fr _ _ _ _ => F'
    rename News _ _ _ _ => N'
    refine' AtS.mk F' N' ⟨KeptBut.set KeptBut.refl (.head _), ⟨_, LookIs.hit⟩, fun p hp => List.mem_append_right _ hp⟩
  case rdone =>
    clear F' N'
    intro h' tk m' hk F' N'
    dsimp only
    repeat' (first | (with_reducible refine hQ0 _ _ ?_; (try dsimp only)) | (k_here; (with_reducible show wpAny _ _ (spliced _) _ _ _); k_dflt ((rename Fr _ _ _ _ => F'); (first | refine' args3 ?_ ?_ ?_ ?_ | refine' args5 ?_ ?_ ?_ ?_ ?_ ?_ | refine' args4 ?_ ?_ ?_ ?_ ?_ | refine' args6 ?_ ?_ ?_ ?_ ?_ ?_ ?_ | refine' args2 ?_ ?_ ?_ | refine' args1 ?_ ?_); (any_goals (first | exact atom_str | exact atom_int | exact atom_none | exact atom_local F' (by (repeat (refine (if_neg (by decide +kernel)).trans ?_)); first | exact if_pos rfl | (show LookIs _ _ _; with_reducible assumption)) rfl rfl rfl (by decide))); (fail_if_success (any_goals (with_reducible show AtomE _ _ _ _ _ _ _))); intros; (try dsimp only))) | (k_here; (with_reducible show wpAny _ _ (compareOp CmpOp.NotEq _ _) _ _ _); k_dflt ((rename News _ _ _ _ => N'); refine' ne_dt N' ?nd1 ?nd2 ?nd3 ?nd4 ?_; (case nd1 => first | exact DtIn.mono (by with_reducible assumption) (fun p hp => List.mem_append_left _ hp) | exact DtIn.mono (by with_reducible assumption) (fun p hp => List.mem_append_right _ (List.mem_append_left _ hp))); (case nd2 => first | exact ⟨_, rfl⟩ | exact DtIn.mono (by with_reducible assumption) (fun p hp => List.mem_append_right _ hp) | exact DtIn.mono (by with_reducible assumption) (fun p hp => List.mem_append_left _ hp)); (case nd3 => first | (with_reducible assumption) | exact dtok_rounds | exact dtok_ve | exact dtok_te); (case nd4 => first | ktr_units | decide); (replace N' := news_right N'); (try dsimp only))) | (k_here; (with_reducible show wpAny _ _ (call (Value.ref 135) [_, _, _]) _ _ _); k_dflt (refine' rounds_text ?tu ?tg ?tv ?k1 ?k2 ?k3 ?k4 ?k5 ?k6 ?k7 ?k8 ?k9 ?_; (case tu => with_reducible assumption); (case tg => with_reducible assumption); (case tv => with_reducible assumption); (case k1 => k_asm); (case k2 => k_asm); (case k3 => k_asm); (case k4 => k_asm); (case k5 => k_asm); (case k6 => exact rfl); (case k7 => exact rfl); (case k8 => first | ktr_room | decide); (case k9 => first | ktr_units | decide); intro v' n' h' t' F' N' r'; (try k_sweep); (try dsimp only))) | (k_here; (with_reducible show wpAny _ _ (eval (Expr.Name _ _) (envOfC _ _ _ _ _)) _ _ _); k_dflt ((rename Fr _ _ _ _ => F'); refine' ldL F' ?lq1 ?_ ?lq2 ?lq3 ?lq4; (case lq3 => rfl); (case lq1 => (repeat (refine (if_neg (by decide +kernel)).trans ?_)); first | exact if_pos rfl | (show LookIs _ _ _; with_reducible assumption)); (case lq2 => rfl); (case lq4 => decide); (try dsimp only))) | (k_here; (with_reducible show wpAny _ _ (loadName (envOfC _ _ _ _ _) _) _ _ _); k_dflt ((rename Fr _ _ _ _ => F'); refine' ldLn F' ?lq1 ?_ ?lq2 ?lq3; (case lq3 => rfl); (case lq1 => (repeat (refine (if_neg (by decide +kernel)).trans ?_)); first | exact if_pos rfl | (show LookIs _ _ _; with_reducible assumption)); (case lq2 => rfl); (try dsimp only))) | (k_here; (with_reducible show if (_ == _) = true then _ else _); k_dflt (first | (refine' Mine.ieq_no ?k1 ?_; (case k1 => omega)) | (refine' Mine.ieq_yes ?k1 ?_; (case k1 => omega)))) | ((with_reducible show wpC _ _ _ _ _ _); plain_pass; first | (k_here; (with_reducible show wpC _ _ (execs (_ :: _) _) _ _ _); k_dflt refine wpC_execs_cons ?_) | (k_here; (with_reducible show wpC _ _ (execs [] _) _ _ _); k_dflt refine wpC_execs_nil ?_) | (k_here; (with_reducible show wpC _ _ (exec (Stmt.If _ _ _ _) _) _ _ _); k_dflt refine wpC_If ?_) | (k_here; (with_reducible show wpC _ _ (isTrue (Expr.BoolOp BoolOp.Or (_ :: _) _) _ _) _ _ _); k_dflt refine wpC_isTrue_or ?_) | (k_here; (with_reducible show wpC _ _ (isTrue (Expr.BoolOp BoolOp.Or [] _) _ _) _ _ _); k_dflt refine wpC_isTrue_or_nil ?_) | (k_here; (with_reducible show wpC _ _ (isTrue (Expr.Compare _ [_] [_] _) _ _) _ _ _); k_dflt refine wpC_isTrue_Compare1 ?_) | (k_here; (with_reducible show wpC _ _ (eval (Expr.Call (Expr.Name _ _) _ [] _) _) _ _ _); k_dflt refine wpC_Call_Name rfl ?_) | (k_here; (with_reducible show wpC _ _ (callWith _ (Value.ref _) _ _ _) _ _ _); k_dflt (refine' wpC_callWith_K (K := Mine.hd.heap_39 _) ?k1 ?_; (case k1 => k_is))) | (k_here; (with_reducible show wpC _ _ (call (Value.ref 135) _) _ _ _); k_dflt (refine wpC_of_any ?_)) | (k_here; (with_reducible show wpC _ _ (call (Value.ref 149) _) _ _ _); k_dflt (refine wpC_of_any ?_)) | (k_here; (with_reducible show wpC _ _ (call (Value.ref 156) [_, _, _, _, _]) _ _ _); k_dflt (refine' three_text ?tu ?tg ?tf ?tm ?t0 ?tb ?tv ?tp ?k1 ?k2 ?k3 ?k4 ?k5 ?k6 ?k7 ?k8 ?k9 ?_; (case tu => first | exact uni_str | exact uni_bytes (by with_reducible assumption) (by omega)); (case tg => omega); (case tf => omega); (case tm => omega); (case t0 => omega); (case tb => with_reducible assumption); (case tv => with_reducible assumption); (case tp => with_reducible assumption); (case k1 => k_asm); (case k2 => k_asm); (case k3 => k_asm); (case k4 => k_asm); (case k5 => k_asm); (case k6 => exact rfl); (case k7 => exact rfl); (case k8 => first | ktr_room | decide); (case k9 => first | ktr_units | decide); intro v' n' h' t' F' N' r'; (rename (specThree _ _ _ _ _ = _) => hsp'); rw [hsp'] at r'; (try k_sweep); (try dsimp only))) | (k_here; (with_reducible show wpC _ _ (call (Value.ref 163) [_, _, _]) _ _ _); k_dflt (refine' one_text ?tu ?tg ?tb ?tv ?k1 ?k2 ?k3 ?k4 ?k5 ?k6 ?k7 ?k8 ?k9 ?_; (case tu => with_reducible assumption); (case tg => omega); (case tb => with_reducible assumption); (case tv => with_reducible assumption); (case k1 => k_asm); (case k2 => k_asm); (case k3 => k_asm); (case k4 => k_asm); (case k5 => k_asm); (case k6 => exact rfl); (case k7 => exact rfl); (case k8 => first | ktr_room | decide); (case k9 => first | ktr_units | decide); intro v' n' h' t' F' N' r'; (try k_sweep); (try dsimp only))) | ((fail_if_success (with_reducible show wpC _ _ (callWith _ _ _ _ _) _ _ _)); (fail_if_success (with_reducible show wpC _ _ (call _ _) _ _ _)); k_dflt (refine wpC_of_any ?_))) | (k_unfold; (try dsimp only)) | (k_end; wrow_close) | walk1 | dsimp only | (leave1; (try dsimp only)))
    rename Fr _ _ _ _ => F'
    rename News _ _ _ _ => N'
    exact AtS.mk F' N' ⟨hk, sub_self⟩
end Mine
end
-- Lib11
section
open PySem PySem.W PyProof.Rows PySem.Calls PySem.Spec
namespace Mine
/-- another name at the front: with a sign that no field holds, or of one length and not the same -/
def otherB (fr o : Str) : Bool := decide (o.length ≤ 10) && (o.cps.toList.contains 35 || (fr.length == o.length && fr.cps.toList != o.cps.toList))
theorem start_take {g o : Str} (h : Txt.startswith g o = true) : (lst g).take o.length = lst o := by
  unfold Txt.startswith at h
  rw [Bool.and_eq_true, StrLaws.subAt_eq, List.drop_zero] at h
  simpa [lst] using h.2
theorem other_no {fr z o : Str} (h : otherB fr o = true) (hf : 35 ∉ lst fr) (hz : 35 ∉ lst z) : Txt.startswith (fr ++ z) o = false := by
  cases e : Txt.startswith (fr ++ z) o with
  | false => rfl
  | true =>
    exfalso
    have ht := start_take e
    rw [lst_app] at ht
    unfold otherB at h
    rw [Bool.and_eq_true, Bool.or_eq_true] at h
    rcases h.2 with h1 | h1
    · have hm : 35 ∈ lst o := by simpa [lst] using h1
      rw [← ht] at hm
      rcases List.mem_append.mp (List.mem_of_mem_take hm) with q | q
      · exact hf q
      · exact hz q
    · rw [Bool.and_eq_true] at h1
      have hl : fr.length = o.length := by simpa using h1.1
      rw [← hl, List.take_append_of_le_length (Nat.le_of_eq (lst_length fr).symm), List.take_of_length_le (Nat.le_of_eq (lst_length fr))] at ht
      have hn : lst fr ≠ lst o := by simpa [lst] using h1.2
      exact hn ht
theorem other_len {fr o : Str} (h : otherB fr o = true) : o.length ≤ 10 := by
  unfold otherB at h
  rw [Bool.and_eq_true] at h
  simpa using h.1
theorem front_hash {fr : Str} (h : FrontIs fr) : 35 ∉ lst fr := by
  rcases h with rfl | rfl | rfl | rfl <;> decide +kernel
theorem mark_hash {mk : Str} (h : MarkIs mk) : 35 ∉ lst mk := by
  rcases h with rfl | rfl <;> decide +kernel
theorem field_hash {x : Str} (h : OkS x) : 35 ∉ lst x := fun hm => by
  have := okc_cases (h 35 hm)
  omega
theorem join_hash {mk : Str} (hm : MarkIs mk) : ∀ l : List Str, (∀ x ∈ l, FieldIs x) → 35 ∉ lst (PySem.Str.join mk l)
  | [], _ => by
    intro h
    have : lst (PySem.Str.join mk []) = [] := rfl
    rw [this] at h
    cases h
  | [x], h => field_hash (h x (.head _)).1
  | x :: y :: r, h => by
    have e : PySem.Str.join mk (x :: y :: r) = x ++ mk ++ PySem.Str.join mk (y :: r) := rfl
    rw [e, lst_app, lst_app]
    intro q
    rcases List.mem_append.mp q with q | q
    · rcases List.mem_append.mp q with q | q
      · exact field_hash (h x (.head _)).1 q
      · exact mark_hash hm q
    · exact join_hash hm (y :: r) (fun z hz => h z (.tail _ hz)) q
theorem okparts_no {g fr mk : Str} (h : Txt.startswith g fr = false) : OkParts g fr mk := fun q => by rw [h] at q; cases q
/-- a sign ahead of a name that is not empty -/
theorem hash_no {fr g : Str} (h : FrontIs fr) (hne : fr ≠ Str.ofString "") : Txt.startswith (Str.ofString "#" ++ g) fr = false := by
  cases e : Txt.startswith (Str.ofString "#" ++ g) fr with
  | false => rfl
  | true =>
    exfalso
    have ht := start_take e
    rw [lst_app, show lst (Str.ofString "#") = [35] by decide +kernel] at ht
    have hp : ∃ k, fr.length = k + 1 := by
      rcases h with rfl | rfl | rfl | rfl
      · exact ⟨2, by decide⟩
      · exact ⟨5, by decide⟩
      · exact absurd rfl hne
      · exact ⟨0, by decide⟩
    obtain ⟨k, hk⟩ := hp
    rw [hk] at ht
    have : 35 ∈ lst fr := by
      rw [← ht]
      exact .head _
    exact front_hash h this
theorem front_ascii {fr : Str} (h : FrontIs fr) : Ascii fr := by
  rcases h with rfl | rfl | rfl | rfl <;> (intro c hc; revert c; decide +kernel)
theorem mark_ascii {mk : Str} (h : MarkIs mk) : Ascii mk := by
  rcases h with rfl | rfl <;> (intro c hc; simp at hc; omega)
theorem ascii_app {x y : Str} (h1 : Ascii x) (h2 : Ascii y) : Ascii (x ++ y) := fun c hc => by
  rcases List.mem_append.mp (show c ∈ x.cps.toList ++ y.cps.toList from lst_app x y ▸ hc) with h | h
  · exact h1 c h
  · exact h2 c h
theorem field_ascii {x : Str} (h : FieldIs x) : Ascii x := fun c hc => okc_lt (h.1 c hc)
theorem join_ascii {mk : Str} (hm : MarkIs mk) : ∀ l : List Str, (∀ x ∈ l, FieldIs x) → Ascii (PySem.Str.join mk l)
  | [], _ => fun c hc => by
    have : (PySem.Str.join mk []).cps.toList = [] := rfl
    rw [this] at hc
    cases hc
  | [x], h => field_ascii (h x (.head _))
  | x :: y :: r, h => ascii_app (ascii_app (field_ascii (h x (.head _))) (mark_ascii hm)) (join_ascii hm (y :: r) fun z hz => h z (.tail _ hz))
section
variable {M : Model} {A : Around} {E : Value → Shared → Prop} {s : Shared} {env : Env}
theorem wpC_isTrue_and {x rest pos whole} {Q : Bool → Shared → Prop}
    (h : wpC M A (isTrue x env (eval x env)) (fun c s' => if c then wpC M A (isTrue (.BoolOp .And rest pos) env whole) Q E s' else Q false s') E s) : wpC M A (isTrue (.BoolOp .And (x :: rest) pos) env whole) Q E s := by
  show wpC M A (do
    match BoolOp.And, ← isTrue x env (eval x env) with
    | .And, false => pure false
    | .Or, true => pure true
    | _, _ => allTrue .And rest env) Q E s
  refine wpC_bind (wpC_mono h (fun c s' h' => ?_) fun _ _ x => x)
  cases c with
  | true => exact h'
  | false => exact wpC_pure h'
theorem wpC_isTrue_and_nil {pos whole} {Q : Bool → Shared → Prop} (h : Q true s) : wpC M A (isTrue (.BoolOp .And [] pos) env whole) Q E s := wpC_pure (a := true) h
end
theorem ne_front {prog : Program} {w : World} {A : Around} {E : Value → Shared → Prop} {s : Shared} {fr y : Str} {t u : Tok} {Q : Value → Shared → Prop} (hne : fr ≠ y) (h : Q (.bool true) s) : wpAny (model prog w) A (compareOp .NotEq (.str fr t) (.str y u)) Q E s := by
  refine PySem.P.ne_str ?_
  have : (fr.cps.toList != y.cps.toList) = true := bne_iff_ne.mpr fun e => hne (lst_inj e)
  rw [this]
  exact h
theorem ne_same {prog : Program} {w : World} {A : Around} {E : Value → Shared → Prop} {s : Shared} {fr y : Str} {t u : Tok} {Q : Value → Shared → Prop} (he : fr = y) (h : Q (.bool false) s) : wpAny (model prog w) A (compareOp .NotEq (.str fr t) (.str y u)) Q E s := by
  refine PySem.P.ne_str ?_
  have : (fr.cps.toList != y.cps.toList) = false := by rw [he]; exact bne_self_eq_false _
  rw [this]
  exact h
theorem dv_five {t : Tok} : DvIs (.int 5 t) (some 5) := ⟨t, rfl⟩
theorem hash_len : (Str.ofString "#").length = 1 := by decide
/-- a fact kept out of the walk's sight -/
structure HoldP (p : Prop) : Prop where
  get : p
theorem opts_last : ∀ {ys : List Value} {x1 : Str} {l : List Str}, OptsAre ys (x1 :: l) → ∃ y, ys[ys.length - 1]? = some y ∧ OptIs y (optS ((x1 :: l).getLastD x1)) ∧ 1 ≤ ys.length
  | _, _, [], .cons h .nil => ⟨_, rfl, h, Nat.le_refl _⟩
  | y :: ys, x1, x2 :: l, .cons h r => by
    obtain ⟨z, hz, ho, hl⟩ := opts_last r
    refine ⟨z, ?_, ?_, Nat.le_add_left _ _⟩
    · rw [List.length_cons, Nat.add_sub_cancel]
      obtain ⟨k, hk⟩ : ∃ k, ys.length = k + 1 := ⟨ys.length - 1, by omega⟩
      rw [hk] at hz ⊢
      rw [List.getElem?_cons_succ]
      exact hz
    · have e : (x1 :: x2 :: l).getLastD x1 = (x2 :: l).getLastD x2 := by simp [List.getLastD]
      rw [e]
      exact ho
theorem seq_last {n : Nat} (h : 1 ≤ n) (hn : n ≤ 1000) : seqIndex? (-1) n = some (n - 1) := by
  rcases Nat.lt_or_ge n 1001 with q | q
  · have : ∀ n, n < 1001 → 1 ≤ n → seqIndex? (-1) n = some (n - 1) := by decide +kernel
    exact this n q h
  · omega
theorem opts_len : ∀ {ys : List Value} {l : List Str}, OptsAre ys l → ys.length = l.length
  | _, _, .nil => rfl
  | _, _, .cons _ r => congrArg (· + 1) (opts_len r)
theorem strs_head {vs : List Value} {x : Str} {l : List Str} (h : StrsAre vs (x :: l)) : ∃ t vs', vs = .str x t :: vs' := by
  cases h with
  | cons _ t h => exact ⟨t, _, rfl⟩
end Mine
end
-- S20
section
open PySem PySem.W PyProof.Rows PySem.Calls PySem.Spec
namespace Mine
set_option maxRecDepth 100000 in
set_option maxHeartbeats 2000000 in
theorem seg20 {w : World} {p : Program} {loose : List Str} {mean : ExcName → Option Value} {mg mb : Str → Option Value} {s₁ : Shared} {h₁ : Heap} {L fa : Addr} {cd : Value} {tk : Nat} {E : Value → Shared → Prop} {m : Str → Option Value} {news : List (Addr × Obj)} {fr : Str} {tf : Tok}
  (K0 : Below callerA s₁.heap [] s₁.heap) (KX : (hd.heap_39 w.params).In s₁.heap) (T : Top p loose mean mg mb s₁.heap) (F' : Fr s₁.heap L h₁ m) (N' : News s₁.heap L h₁ news) (hfr : LookIs m (Str.ofString "front") (.str fr tf)) (hF : FrontIs fr) :
   wpC (model PySem.Challenge.pw_iw0004_01 w) (callerA.deeper (lawEnv L fa cd)) (execs (lawPart 20 2) (lawEnv L fa cd)) (fun f s' => f = .next ∧ AtS s₁ s₁.heap L (fun m' n' => KeptBut [Str.ofString "names"] m m' ∧ (∃ nq nws nl nn, LookIs m' (Str.ofString "names") (.ref nq) ∧ (nq, listOf nws.toArray nn) ∈ n' ∧ StrsAre nws nl ∧ ∀ o ∈ nl, otherB fr o = true) ∧ ∀ e ∈ news, e ∈ n') s') E { s₁ with heap := h₁, toks := tk } := by
  refine wpC_absQ ?_
  intro Q0 hQ0
  refine' lit_C ?le1 ?le2 ?_
  case le1 => (dsimp only [lawPart, lawBody, PySem.Challenge.pw_iw0004_01, List.getLast?, List.getLast, List.drop, List.take] <;> exact rfl)
  case le2 => (dsimp only [lawScope, PySem.Challenge.pw_iw0004_01, List.getLast?, List.getLast] <;> exact rfl)
  rcases hF with rfl | rfl | rfl | rfl
  · repeat' (first | (with_reducible refine hQ0 _ _ ?_; (try dsimp only)) | (k_here; (with_reducible show wpAny _ _ (spliced _) _ _ _); k_dflt ((rename Fr _ _ _ _ => F'); (first | refine' args3 ?_ ?_ ?_ ?_ | refine' args5 ?_ ?_ ?_ ?_ ?_ ?_ | refine' args4 ?_ ?_ ?_ ?_ ?_ | refine' args6 ?_ ?_ ?_ ?_ ?_ ?_ ?_ | refine' args2 ?_ ?_ ?_ | refine' args1 ?_ ?_); (any_goals (first | exact atom_str | exact atom_int | exact atom_none | exact atom_local F' (by (repeat (refine (if_neg (by decide +kernel)).trans ?_)); first | exact if_pos rfl | (show LookIs _ _ _; with_reducible assumption)) rfl rfl rfl (by decide))); (fail_if_success (any_goals (with_reducible show AtomE _ _ _ _ _ _ _))); intros; (try dsimp only))) | (k_here; (with_reducible show wpAny _ _ (eval (Expr.Name _ _) (envOfC _ _ _ _ _)) _ _ _); k_dflt ((rename Fr _ _ _ _ => F'); refine' ldL F' ?lq1 ?_ ?lq2 ?lq3 ?lq4; (case lq3 => rfl); (case lq1 => (repeat (refine (if_neg (by decide +kernel)).trans ?_)); first | exact if_pos rfl | (show LookIs _ _ _; with_reducible assumption)); (case lq2 => rfl); (case lq4 => decide); (try dsimp only))) | (k_here; (with_reducible show wpAny _ _ (loadName (envOfC _ _ _ _ _) _) _ _ _); k_dflt ((rename Fr _ _ _ _ => F'); refine' ldLn F' ?lq1 ?_ ?lq2 ?lq3; (case lq3 => rfl); (case lq1 => (repeat (refine (if_neg (by decide +kernel)).trans ?_)); first | exact if_pos rfl | (show LookIs _ _ _; with_reducible assumption)); (case lq2 => rfl); (try dsimp only))) | (k_here; (with_reducible show if (_ == _) = true then _ else _); k_dflt (first | (refine' Mine.ieq_no ?k1 ?_; (case k1 => omega)) | (refine' Mine.ieq_yes ?k1 ?_; (case k1 => omega)))) | ((with_reducible show wpC _ _ _ _ _ _); plain_pass; first | (k_here; (with_reducible show wpC _ _ (execs (_ :: _) _) _ _ _); k_dflt refine wpC_execs_cons ?_) | (k_here; (with_reducible show wpC _ _ (execs [] _) _ _ _); k_dflt refine wpC_execs_nil ?_) | (k_dflt (refine wpC_of_any ?_))) | (k_unfold; (try dsimp only)) | (k_end; wrow_close) | walk1 | dsimp only | (leave1; (try dsimp only)))
    rename Fr _ _ _ _ => F'
    rename News _ _ _ _ => N'
    refine' AtS.mk F' N' ⟨?za1, ⟨_, [_, _, _], [Str.ofString "$1$#", Str.ofString "$1#", Str.ofString "#$1$"], _, LookIs.hit, .head _, ?zb1, ?zc1⟩, sub_more sub_self⟩
    case za1 => (repeat (refine KeptBut.set ?_ (by decide +kernel))); exact KeptBut.refl
    case zb1 => exact (.cons _ _ (.cons _ _ (.cons _ _ .nil)))
    case zc1 => decide +kernel
  · repeat' (first | (with_reducible refine hQ0 _ _ ?_; (try dsimp only)) | (k_here; (with_reducible show wpAny _ _ (spliced _) _ _ _); k_dflt ((rename Fr _ _ _ _ => F'); (first | refine' args3 ?_ ?_ ?_ ?_ | refine' args5 ?_ ?_ ?_ ?_ ?_ ?_ | refine' args4 ?_ ?_ ?_ ?_ ?_ | refine' args6 ?_ ?_ ?_ ?_ ?_ ?_ ?_ | refine' args2 ?_ ?_ ?_ | refine' args1 ?_ ?_); (any_goals (first | exact atom_str | exact atom_int | exact atom_none | exact atom_local F' (by (repeat (refine (if_neg (by decide +kernel)).trans ?_)); first | exact if_pos rfl | (show LookIs _ _ _; with_reducible assumption)) rfl rfl rfl (by decide))); (fail_if_success (any_goals (with_reducible show AtomE _ _ _ _ _ _ _))); intros; (try dsimp only))) | (k_here; (with_reducible show wpAny _ _ (eval (Expr.Name _ _) (envOfC _ _ _ _ _)) _ _ _); k_dflt ((rename Fr _ _ _ _ => F'); refine' ldL F' ?lq1 ?_ ?lq2 ?lq3 ?lq4; (case lq3 => rfl); (case lq1 => (repeat (refine (if_neg (by decide +kernel)).trans ?_)); first | exact if_pos rfl | (show LookIs _ _ _; with_reducible assumption)); (case lq2 => rfl); (case lq4 => decide); (try dsimp only))) | (k_here; (with_reducible show wpAny _ _ (loadName (envOfC _ _ _ _ _) _) _ _ _); k_dflt ((rename Fr _ _ _ _ => F'); refine' ldLn F' ?lq1 ?_ ?lq2 ?lq3; (case lq3 => rfl); (case lq1 => (repeat (refine (if_neg (by decide +kernel)).trans ?_)); first | exact if_pos rfl | (show LookIs _ _ _; with_reducible assumption)); (case lq2 => rfl); (try dsimp only))) | (k_here; (with_reducible show if (_ == _) = true then _ else _); k_dflt (first | (refine' Mine.ieq_no ?k1 ?_; (case k1 => omega)) | (refine' Mine.ieq_yes ?k1 ?_; (case k1 => omega)))) | ((with_reducible show wpC _ _ _ _ _ _); plain_pass; first | (k_here; (with_reducible show wpC _ _ (execs (_ :: _) _) _ _ _); k_dflt refine wpC_execs_cons ?_) | (k_here; (with_reducible show wpC _ _ (execs [] _) _ _ _); k_dflt refine wpC_execs_nil ?_) | (k_dflt (refine wpC_of_any ?_))) | (k_unfold; (try dsimp only)) | (k_end; wrow_close) | walk1 | dsimp only | (leave1; (try dsimp only)))
    rename Fr _ _ _ _ => F'
    rename News _ _ _ _ => N'
    refine' AtS.mk F' N' ⟨?za2, ⟨_, [_, _, _, _], [Str.ofString "$sha1$#", Str.ofString "$sha1#", Str.ofString "#$sha1$", Str.ofString "$SHA1$"], _, LookIs.hit, .head _, ?zb2, ?zc2⟩, sub_more sub_self⟩
    case za2 => (repeat (refine KeptBut.set ?_ (by decide +kernel))); exact KeptBut.refl
    case zb2 => exact (.cons _ _ (.cons _ _ (.cons _ _ (.cons _ _ .nil))))
    case zc2 => decide +kernel
  · repeat' (first | (with_reducible refine hQ0 _ _ ?_; (try dsimp only)) | (k_here; (with_reducible show wpAny _ _ (spliced _) _ _ _); k_dflt ((rename Fr _ _ _ _ => F'); (first | refine' args3 ?_ ?_ ?_ ?_ | refine' args5 ?_ ?_ ?_ ?_ ?_ ?_ | refine' args4 ?_ ?_ ?_ ?_ ?_ | refine' args6 ?_ ?_ ?_ ?_ ?_ ?_ ?_ | refine' args2 ?_ ?_ ?_ | refine' args1 ?_ ?_); (any_goals (first | exact atom_str | exact atom_int | exact atom_none | exact atom_local F' (by (repeat (refine (if_neg (by decide +kernel)).trans ?_)); first | exact if_pos rfl | (show LookIs _ _ _; with_reducible assumption)) rfl rfl rfl (by decide))); (fail_if_success (any_goals (with_reducible show AtomE _ _ _ _ _ _ _))); intros; (try dsimp only))) | (k_here; (with_reducible show wpAny _ _ (eval (Expr.Name _ _) (envOfC _ _ _ _ _)) _ _ _); k_dflt ((rename Fr _ _ _ _ => F'); refine' ldL F' ?lq1 ?_ ?lq2 ?lq3 ?lq4; (case lq3 => rfl); (case lq1 => (repeat (refine (if_neg (by decide +kernel)).trans ?_)); first | exact if_pos rfl | (show LookIs _ _ _; with_reducible assumption)); (case lq2 => rfl); (case lq4 => decide); (try dsimp only))) | (k_here; (with_reducible show wpAny _ _ (loadName (envOfC _ _ _ _ _) _) _ _ _); k_dflt ((rename Fr _ _ _ _ => F'); refine' ldLn F' ?lq1 ?_ ?lq2 ?lq3; (case lq3 => rfl); (case lq1 => (repeat (refine (if_neg (by decide +kernel)).trans ?_)); first | exact if_pos rfl | (show LookIs _ _ _; with_reducible assumption)); (case lq2 => rfl); (try dsimp only))) | (k_here; (with_reducible show if (_ == _) = true then _ else _); k_dflt (first | (refine' Mine.ieq_no ?k1 ?_; (case k1 => omega)) | (refine' Mine.ieq_yes ?k1 ?_; (case k1 => omega)))) | ((with_reducible show wpC _ _ _ _ _ _); plain_pass; first | (k_here; (with_reducible show wpC _ _ (execs (_ :: _) _) _ _ _); k_dflt refine wpC_execs_cons ?_) | (k_here; (with_reducible show wpC _ _ (execs [] _) _ _ _); k_dflt refine wpC_execs_nil ?_) | (k_dflt (refine wpC_of_any ?_))) | (k_unfold; (try dsimp only)) | (k_end; wrow_close) | walk1 | dsimp only | (leave1; (try dsimp only)))
    rename Fr _ _ _ _ => F'
    rename News _ _ _ _ => N'
    refine' AtS.mk F' N' ⟨?za3, ⟨_, [_, _, _], [Str.ofString "#", Str.ofString "#", Str.ofString "#"], _, LookIs.hit, .head _, ?zb3, ?zc3⟩, sub_more sub_self⟩
    case za3 => (repeat (refine KeptBut.set ?_ (by decide +kernel))); exact KeptBut.refl
    case zb3 => exact (.cons _ _ (.cons _ _ (.cons _ _ .nil)))
    case zc3 => decide +kernel
  · repeat' (first | (with_reducible refine hQ0 _ _ ?_; (try dsimp only)) | (k_here; (with_reducible show wpAny _ _ (spliced _) _ _ _); k_dflt ((rename Fr _ _ _ _ => F'); (first | refine' args3 ?_ ?_ ?_ ?_ | refine' args5 ?_ ?_ ?_ ?_ ?_ ?_ | refine' args4 ?_ ?_ ?_ ?_ ?_ | refine' args6 ?_ ?_ ?_ ?_ ?_ ?_ ?_ | refine' args2 ?_ ?_ ?_ | refine' args1 ?_ ?_); (any_goals (first | exact atom_str | exact atom_int | exact atom_none | exact atom_local F' (by (repeat (refine (if_neg (by decide +kernel)).trans ?_)); first | exact if_pos rfl | (show LookIs _ _ _; with_reducible assumption)) rfl rfl rfl (by decide))); (fail_if_success (any_goals (with_reducible show AtomE _ _ _ _ _ _ _))); intros; (try dsimp only))) | (k_here; (with_reducible show wpAny _ _ (eval (Expr.Name _ _) (envOfC _ _ _ _ _)) _ _ _); k_dflt ((rename Fr _ _ _ _ => F'); refine' ldL F' ?lq1 ?_ ?lq2 ?lq3 ?lq4; (case lq3 => rfl); (case lq1 => (repeat (refine (if_neg (by decide +kernel)).trans ?_)); first | exact if_pos rfl | (show LookIs _ _ _; with_reducible assumption)); (case lq2 => rfl); (case lq4 => decide); (try dsimp only))) | (k_here; (with_reducible show wpAny _ _ (loadName (envOfC _ _ _ _ _) _) _ _ _); k_dflt ((rename Fr _ _ _ _ => F'); refine' ldLn F' ?lq1 ?_ ?lq2 ?lq3; (case lq3 => rfl); (case lq1 => (repeat (refine (if_neg (by decide +kernel)).trans ?_)); first | exact if_pos rfl | (show LookIs _ _ _; with_reducible assumption)); (case lq2 => rfl); (try dsimp only))) | (k_here; (with_reducible show if (_ == _) = true then _ else _); k_dflt (first | (refine' Mine.ieq_no ?k1 ?_; (case k1 => omega)) | (refine' Mine.ieq_yes ?k1 ?_; (case k1 => omega)))) | ((with_reducible show wpC _ _ _ _ _ _); plain_pass; first | (k_here; (with_reducible show wpC _ _ (execs (_ :: _) _) _ _ _); k_dflt refine wpC_execs_cons ?_) | (k_here; (with_reducible show wpC _ _ (execs [] _) _ _ _); k_dflt refine wpC_execs_nil ?_) | (k_dflt (refine wpC_of_any ?_))) | (k_unfold; (try dsimp only)) | (k_end; wrow_close) | walk1 | dsimp only | (leave1; (try dsimp only)))
    rename Fr _ _ _ _ => F'
    rename News _ _ _ _ => N'
    refine' AtS.mk F' N' ⟨?za4, ⟨_, [_, _, _], [Str.ofString "_#", Str.ofString "#", Str.ofString "#_"], _, LookIs.hit, .head _, ?zb4, ?zc4⟩, sub_more sub_self⟩
    case za4 => (repeat (refine KeptBut.set ?_ (by decide +kernel))); exact KeptBut.refl
    case zb4 => exact (.cons _ _ (.cons _ _ (.cons _ _ .nil)))
    case zc4 => decide +kernel
end Mine
end
-- S22
section
open PySem PySem.W PyProof.Rows PySem.Calls PySem.Spec
namespace Mine
set_option maxRecDepth 100000 in
set_option maxHeartbeats 2000000 in
theorem seg22 {w : World} {p : Program} {loose : List Str} {mean : ExcName → Option Value} {mg mb : Str → Option Value} {s₁ : Shared} {h₁ : Heap} {L fa : Addr} {cd : Value} {tk : Nat} {E : Value → Shared → Prop} {m : Str → Option Value} {news : List (Addr × Obj)} {nq : Addr} {nws : List Value} {nl : List Str} {nn b : Nat} {fr z mk : Str} {tg tm tb : Tok}
  (K0 : Below callerA s₁.heap [] s₁.heap) (KX : (hd.heap_39 w.params).In s₁.heap) (T : Top p loose mean mg mb s₁.heap) (F' : Fr s₁.heap L h₁ m) (N' : News s₁.heap L h₁ news) (hnm : LookIs m (Str.ofString "names") (.ref nq)) (hgv : LookIs m (Str.ofString "given") (.str (fr ++ z) tg)) (hmk : LookIs m (Str.ofString "mark") (.str mk tm)) (hba : LookIs m (Str.ofString "base") (.int (b : Int) tb)) (hm : (nq, listOf nws.toArray nn) ∈ news) (hws : StrsAre nws nl) (hot : ∀ o ∈ nl, otherB fr o = true) (hF : 35 ∉ lst fr) (hz : 35 ∉ lst z) (hg6 : (fr ++ z).length ≤ 600) (hm6 : mk.length ≤ 600) (hm1 : 1 ≤ mk.length) (hb : b = 10 ∨ b = 16) :
   wpC (model PySem.Challenge.pw_iw0004_01 w) (callerA.deeper (lawEnv L fa cd)) (execs (lawPart 22 1) (lawEnv L fa cd)) (fun f s' => f = .next ∧ AtS s₁ s₁.heap L (fun m' n' => KeptBut [Str.ofString "other"] m m' ∧ ∀ e ∈ news, e ∈ n') s') E { s₁ with heap := h₁, toks := tk } := by
  refine wpC_absQ ?_
  intro Q0 hQ0
  refine' lit_C ?le1 ?le2 ?_
  case le1 => (dsimp only [lawPart, lawBody, PySem.Challenge.pw_iw0004_01, List.getLast?, List.getLast, List.drop, List.take] <;> exact rfl)
  case le2 => (dsimp only [lawScope, PySem.Challenge.pw_iw0004_01, List.getLast?, List.getLast] <;> exact rfl)
  generalize hgg : fr ++ z = g at *
  refine wpC_execs_cons ?_
  refine' wpC_For_listW (h₀ := s₁.heap) (m := m) (news := news) (D := nq) (vs := nws) (n0 := nn) rfl ?rx ?rp ?rs ?rt ?rh ?rstep ?rdone
  case rx => exact rfl
  case rp => exact rfl
  case rs => intro _; exact rfl
  case rt => intro _ _; exact rfl
  case rh =>
    repeat' (first | (with_reducible refine hQ0 _ _ ?_; (try dsimp only)) | (k_here; (with_reducible show wpAny _ _ (spliced _) _ _ _); k_dflt ((rename Fr _ _ _ _ => F'); (first | refine' args3 ?_ ?_ ?_ ?_ | refine' args5 ?_ ?_ ?_ ?_ ?_ ?_ | refine' args4 ?_ ?_ ?_ ?_ ?_ | refine' args6 ?_ ?_ ?_ ?_ ?_ ?_ ?_ | refine' args2 ?_ ?_ ?_ | refine' args1 ?_ ?_); (any_goals (first | exact atom_str | exact atom_int | exact atom_none | exact atom_local F' (by (repeat (refine (if_neg (by decide +kernel)).trans ?_)); first | exact if_pos rfl | (show LookIs _ _ _; with_reducible assumption)) rfl rfl rfl (by decide))); (fail_if_success (any_goals (with_reducible show AtomE _ _ _ _ _ _ _))); intros; (try dsimp only))) | (k_here; (with_reducible show wpAny _ _ (compareOp CmpOp.NotEq _ _) _ _ _); k_dflt ((rename News _ _ _ _ => N'); refine' ne_dt N' ?nd1 ?nd2 ?nd3 ?nd4 ?_; (case nd1 => first | exact DtIn.mono (by with_reducible assumption) (fun p hp => List.mem_append_left _ hp) | exact DtIn.mono (by with_reducible assumption) (fun p hp => List.mem_append_right _ (List.mem_append_left _ hp))); (case nd2 => first | exact ⟨_, rfl⟩ | exact DtIn.mono (by with_reducible assumption) (fun p hp => List.mem_append_right _ hp) | exact DtIn.mono (by with_reducible assumption) (fun p hp => List.mem_append_left _ hp)); (case nd3 => first | (with_reducible assumption) | exact dtok_rounds | exact dtok_ve | exact dtok_te); (case nd4 => first | ktr_units | decide); (replace N' := news_right N'); (try dsimp only))) | (k_here; (with_reducible show wpAny _ _ (call (Value.ref 149) [_, Value.str _ _, Value.str _ _]) _ _ _); k_dflt (refine' two_text ?tu ?tg ?tf ?tm ?t0 ?k1 ?k2 ?k3 ?k4 ?k5 ?k6 ?k7 ?k8 ?k9 ?_; (case tu => first | exact uni_str | exact uni_bytes (by with_reducible assumption) (by omega)); (case tg => omega); (case tf => omega); (case tm => omega); (case t0 => omega); (case k1 => k_asm); (case k2 => k_asm); (case k3 => k_asm); (case k4 => k_asm); (case k5 => k_asm); (case k6 => exact rfl); (case k7 => exact rfl); (case k8 => first | ktr_room | decide); (case k9 => first | ktr_units | decide); intro v' n' h' t' F' N' r'; (rename (specTwo _ _ _ = _) => hsp'); rw [hsp'] at r'; (try k_sweep); (try dsimp only))) | (k_here; (with_reducible show wpAny _ _ (eval (Expr.Name _ _) (envOfC _ _ _ _ _)) _ _ _); k_dflt ((rename Fr _ _ _ _ => F'); refine' ldL F' ?lq1 ?_ ?lq2 ?lq3 ?lq4; (case lq3 => rfl); (case lq1 => (repeat (refine (if_neg (by decide +kernel)).trans ?_)); first | exact if_pos rfl | (show LookIs _ _ _; with_reducible assumption)); (case lq2 => rfl); (case lq4 => decide); (try dsimp only))) | (k_here; (with_reducible show wpAny _ _ (loadName (envOfC _ _ _ _ _) _) _ _ _); k_dflt ((rename Fr _ _ _ _ => F'); refine' ldLn F' ?lq1 ?_ ?lq2 ?lq3; (case lq3 => rfl); (case lq1 => (repeat (refine (if_neg (by decide +kernel)).trans ?_)); first | exact if_pos rfl | (show LookIs _ _ _; with_reducible assumption)); (case lq2 => rfl); (try dsimp only))) | (k_here; (with_reducible show if (_ == _) = true then _ else _); k_dflt (first | (refine' Mine.ieq_no ?k1 ?_; (case k1 => omega)) | (refine' Mine.ieq_yes ?k1 ?_; (case k1 => omega)))) | ((with_reducible show wpC _ _ _ _ _ _); plain_pass; first | (k_here; (with_reducible show wpC _ _ (execs (_ :: _) _) _ _ _); k_dflt refine wpC_execs_cons ?_) | (k_here; (with_reducible show wpC _ _ (execs [] _) _ _ _); k_dflt refine wpC_execs_nil ?_) | (k_here; (with_reducible show wpC _ _ (exec (Stmt.If _ _ _ _) _) _ _ _); k_dflt refine wpC_If ?_) | (k_here; (with_reducible show wpC _ _ (isTrue (Expr.BoolOp BoolOp.Or (_ :: _) _) _ _) _ _ _); k_dflt refine wpC_isTrue_or ?_) | (k_here; (with_reducible show wpC _ _ (isTrue (Expr.BoolOp BoolOp.Or [] _) _ _) _ _ _); k_dflt refine wpC_isTrue_or_nil ?_) | (k_here; (with_reducible show wpC _ _ (isTrue (Expr.BoolOp BoolOp.And (_ :: _) _) _ _) _ _ _); k_dflt refine wpC_isTrue_and ?_) | (k_here; (with_reducible show wpC _ _ (isTrue (Expr.BoolOp BoolOp.And [] _) _ _) _ _ _); k_dflt refine wpC_isTrue_and_nil ?_) | (k_here; (with_reducible show wpC _ _ (isTrue (Expr.Compare _ [_] [_] _) _ _) _ _ _); k_dflt refine wpC_isTrue_Compare1 ?_) | (k_here; (with_reducible show wpC _ _ (eval (Expr.Call (Expr.Name _ _) _ [] _) _) _ _ _); k_dflt refine wpC_Call_Name rfl ?_) | (k_here; (with_reducible show wpC _ _ (callWith _ (Value.ref _) _ _ _) _ _ _); k_dflt (refine' wpC_callWith_K (K := Mine.hd.heap_39 _) ?k1 ?_; (case k1 => k_is))) | (k_here; (with_reducible show wpC _ _ (call (Value.ref 135) _) _ _ _); k_dflt (refine wpC_of_any ?_)) | (k_here; (with_reducible show wpC _ _ (call (Value.ref 149) _) _ _ _); k_dflt (refine wpC_of_any ?_)) | (k_here; (with_reducible show wpC _ _ (call (Value.ref 156) [_, _, _, _, _]) _ _ _); k_dflt (refine' three_text ?tu ?tg ?tf ?tm ?t0 ?tb ?tv ?tp ?k1 ?k2 ?k3 ?k4 ?k5 ?k6 ?k7 ?k8 ?k9 ?_; (case tu => first | exact uni_str | exact uni_bytes (by with_reducible assumption) (by omega)); (case tg => omega); (case tf => omega); (case tm => omega); (case t0 => omega); (case tb => with_reducible assumption); (case tv => first | (with_reducible assumption) | exact dv_five); (case tp => with_reducible assumption); (case k1 => k_asm); (case k2 => k_asm); (case k3 => k_asm); (case k4 => k_asm); (case k5 => k_asm); (case k6 => exact rfl); (case k7 => exact rfl); (case k8 => first | ktr_room | decide); (case k9 => first | ktr_units | decide); intro v' n' h' t' F' N' r'; (rename (specThree _ _ _ _ _ = _) => hsp'); rw [hsp'] at r'; (try k_sweep); (try dsimp only))) | (k_here; (with_reducible show wpC _ _ (call (Value.ref 163) [_, _, _]) _ _ _); k_dflt (refine' one_text ?tu ?tg ?tb ?tv ?k1 ?k2 ?k3 ?k4 ?k5 ?k6 ?k7 ?k8 ?k9 ?_; (case tu => with_reducible assumption); (case tg => omega); (case tb => with_reducible assumption); (case tv => with_reducible assumption); (case k1 => k_asm); (case k2 => k_asm); (case k3 => k_asm); (case k4 => k_asm); (case k5 => k_asm); (case k6 => exact rfl); (case k7 => exact rfl); (case k8 => first | ktr_room | decide); (case k9 => first | ktr_units | decide); intro v' n' h' t' F' N' r'; (try k_sweep); (try dsimp only))) | ((fail_if_success (with_reducible show wpC _ _ (callWith _ _ _ _ _) _ _ _)); (fail_if_success (with_reducible show wpC _ _ (call _ _) _ _ _)); k_dflt (refine wpC_of_any ?_))) | (k_unfold; (try dsimp only)) | (k_end; wrow_close) | walk1 | dsimp only | (leave1; (try dsimp only)))
    rename Fr _ _ _ _ => F'
    rename News _ _ _ _ => N'
    exact ⟨_, _, rfl, rfl, F', N', hm⟩
  case rstep =>
    clear F' N'
    intro v h' tk it o E' hv F' N'
    obtain ⟨x, t, rfl, hx⟩ := strs_mem hws v hv
    have hs : Txt.startswith g x = false := by rw [← hgg]; exact other_no (hot x hx) hF hz
    have hsp2 : specTwo g x mk = .err sVE := specTwo_no hs
    have hsp3 : specThree g x mk b (some 5) = .err sVE := sThree_no hs
    have hop : OkParts g x mk := okparts_no hs
    have hx6 := other_len (hot x hx)
    dsimp only
    repeat' (first | (with_reducible refine hQ0 _ _ ?_; (try dsimp only)) | (k_here; (with_reducible show wpAny _ _ (spliced _) _ _ _); k_dflt ((rename Fr _ _ _ _ => F'); (first | refine' args3 ?_ ?_ ?_ ?_ | refine' args5 ?_ ?_ ?_ ?_ ?_ ?_ | refine' args4 ?_ ?_ ?_ ?_ ?_ | refine' args6 ?_ ?_ ?_ ?_ ?_ ?_ ?_ | refine' args2 ?_ ?_ ?_ | refine' args1 ?_ ?_); (any_goals (first | exact atom_str | exact atom_int | exact atom_none | exact atom_local F' (by (repeat (refine (if_neg (by decide +kernel)).trans ?_)); first | exact if_pos rfl | (show LookIs _ _ _; with_reducible assumption)) rfl rfl rfl (by decide))); (fail_if_success (any_goals (with_reducible show AtomE _ _ _ _ _ _ _))); intros; (try dsimp only))) | (k_here; (with_reducible show wpAny _ _ (compareOp CmpOp.NotEq _ _) _ _ _); k_dflt ((rename News _ _ _ _ => N'); refine' ne_dt N' ?nd1 ?nd2 ?nd3 ?nd4 ?_; (case nd1 => first | exact DtIn.mono (by with_reducible assumption) (fun p hp => List.mem_append_left _ hp) | exact DtIn.mono (by with_reducible assumption) (fun p hp => List.mem_append_right _ (List.mem_append_left _ hp))); (case nd2 => first | exact ⟨_, rfl⟩ | exact DtIn.mono (by with_reducible assumption) (fun p hp => List.mem_append_right _ hp) | exact DtIn.mono (by with_reducible assumption) (fun p hp => List.mem_append_left _ hp)); (case nd3 => first | (with_reducible assumption) | exact dtok_rounds | exact dtok_ve | exact dtok_te); (case nd4 => first | ktr_units | decide); (replace N' := news_right N'); (try dsimp only))) | (k_here; (with_reducible show wpAny _ _ (call (Value.ref 149) [_, Value.str _ _, Value.str _ _]) _ _ _); k_dflt (refine' two_text ?tu ?tg ?tf ?tm ?t0 ?k1 ?k2 ?k3 ?k4 ?k5 ?k6 ?k7 ?k8 ?k9 ?_; (case tu => first | exact uni_str | exact uni_bytes (by with_reducible assumption) (by omega)); (case tg => omega); (case tf => omega); (case tm => omega); (case t0 => omega); (case k1 => k_asm); (case k2 => k_asm); (case k3 => k_asm); (case k4 => k_asm); (case k5 => k_asm); (case k6 => exact rfl); (case k7 => exact rfl); (case k8 => first | ktr_room | decide); (case k9 => first | ktr_units | decide); intro v' n' h' t' F' N' r'; (rename (specTwo _ _ _ = _) => hsp'); rw [hsp'] at r'; (try k_sweep); (try dsimp only))) | (k_here; (with_reducible show wpAny _ _ (eval (Expr.Name _ _) (envOfC _ _ _ _ _)) _ _ _); k_dflt ((rename Fr _ _ _ _ => F'); refine' ldL F' ?lq1 ?_ ?lq2 ?lq3 ?lq4; (case lq3 => rfl); (case lq1 => (repeat (refine (if_neg (by decide +kernel)).trans ?_)); first | exact if_pos rfl | (show LookIs _ _ _; with_reducible assumption)); (case lq2 => rfl); (case lq4 => decide); (try dsimp only))) | (k_here; (with_reducible show wpAny _ _ (loadName (envOfC _ _ _ _ _) _) _ _ _); k_dflt ((rename Fr _ _ _ _ => F'); refine' ldLn F' ?lq1 ?_ ?lq2 ?lq3; (case lq3 => rfl); (case lq1 => (repeat (refine (if_neg (by decide +kernel)).trans ?_)); first | exact if_pos rfl | (show LookIs _ _ _; with_reducible assumption)); (case lq2 => rfl); (try dsimp only))) | (k_here; (with_reducible show if (_ == _) = true then _ else _); k_dflt (first | (refine' Mine.ieq_no ?k1 ?_; (case k1 => omega)) | (refine' Mine.ieq_yes ?k1 ?_; (case k1 => omega)))) | ((with_reducible show wpC _ _ _ _ _ _); plain_pass; first | (k_here; (with_reducible show wpC _ _ (execs (_ :: _) _) _ _ _); k_dflt refine wpC_execs_cons ?_) | (k_here; (with_reducible show wpC _ _ (execs [] _) _ _ _); k_dflt refine wpC_execs_nil ?_) | (k_here; (with_reducible show wpC _ _ (exec (Stmt.If _ _ _ _) _) _ _ _); k_dflt refine wpC_If ?_) | (k_here; (with_reducible show wpC _ _ (isTrue (Expr.BoolOp BoolOp.Or (_ :: _) _) _ _) _ _ _); k_dflt refine wpC_isTrue_or ?_) | (k_here; (with_reducible show wpC _ _ (isTrue (Expr.BoolOp BoolOp.Or [] _) _ _) _ _ _); k_dflt refine wpC_isTrue_or_nil ?_) | (k_here; (with_reducible show wpC _ _ (isTrue (Expr.BoolOp BoolOp.And (_ :: _) _) _ _) _ _ _); k_dflt refine wpC_isTrue_and ?_) | (k_here; (with_reducible show wpC _ _ (isTrue (Expr.BoolOp BoolOp.And [] _) _ _) _ _ _); k_dflt refine wpC_isTrue_and_nil ?_) | (k_here; (with_reducible show wpC _ _ (isTrue (Expr.Compare _ [_] [_] _) _ _) _ _ _); k_dflt refine wpC_isTrue_Compare1 ?_) | (k_here; (with_reducible show wpC _ _ (eval (Expr.Call (Expr.Name _ _) _ [] _) _) _ _ _); k_dflt refine wpC_Call_Name rfl ?_) | (k_here; (with_reducible show wpC _ _ (callWith _ (Value.ref _) _ _ _) _ _ _); k_dflt (refine' wpC_callWith_K (K := Mine.hd.heap_39 _) ?k1 ?_; (case k1 => k_is))) | (k_here; (with_reducible show wpC _ _ (call (Value.ref 135) _) _ _ _); k_dflt (refine wpC_of_any ?_)) | (k_here; (with_reducible show wpC _ _ (call (Value.ref 149) _) _ _ _); k_dflt (refine wpC_of_any ?_)) | (k_here; (with_reducible show wpC _ _ (call (Value.ref 156) [_, _, _, _, _]) _ _ _); k_dflt (refine' three_text ?tu ?tg ?tf ?tm ?t0 ?tb ?tv ?tp ?k1 ?k2 ?k3 ?k4 ?k5 ?k6 ?k7 ?k8 ?k9 ?_; (case tu => first | exact uni_str | exact uni_bytes (by with_reducible assumption) (by omega)); (case tg => omega); (case tf => omega); (case tm => omega); (case t0 => omega); (case tb => with_reducible assumption); (case tv => first | (with_reducible assumption) | exact dv_five); (case tp => with_reducible assumption); (case k1 => k_asm); (case k2 => k_asm); (case k3 => k_asm); (case k4 => k_asm); (case k5 => k_asm); (case k6 => exact rfl); (case k7 => exact rfl); (case k8 => first | ktr_room | decide); (case k9 => first | ktr_units | decide); intro v' n' h' t' F' N' r'; (rename (specThree _ _ _ _ _ = _) => hsp'); rw [hsp'] at r'; (try k_sweep); (try dsimp only))) | (k_here; (with_reducible show wpC _ _ (call (Value.ref 163) [_, _, _]) _ _ _); k_dflt (refine' one_text ?tu ?tg ?tb ?tv ?k1 ?k2 ?k3 ?k4 ?k5 ?k6 ?k7 ?k8 ?k9 ?_; (case tu => with_reducible assumption); (case tg => omega); (case tb => with_reducible assumption); (case tv => with_reducible assumption); (case k1 => k_asm); (case k2 => k_asm); (case k3 => k_asm); (case k4 => k_asm); (case k5 => k_asm); (case k6 => exact rfl); (case k7 => exact rfl); (case k8 => first | ktr_room | decide); (case k9 => first | ktr_units | decide); intro v' n' h' t' F' N' r'; (try k_sweep); (try dsimp only))) | ((fail_if_success (with_reducible show wpC _ _ (callWith _ _ _ _ _) _ _ _)); (fail_if_success (with_reducible show wpC _ _ (call _ _) _ _ _)); k_dflt (refine wpC_of_any ?_))) | (k_unfold; (try dsimp only)) | (k_end; wrow_close) | walk1 | dsimp only | (leave1; (try dsimp only)))
    all_goals first
      | (rename Fr _ _ _ _ => F'; rename News _ _ _ _ => N'; refine AtS.mk F' N' ⟨KeptBut.set KeptBut.refl (.head _), ⟨_, LookIs.hit⟩, sub_self⟩)
  case rdone =>
    clear F' N'
    intro h' tk m' hk F' N'
    dsimp only
    repeat' (first | (with_reducible refine hQ0 _ _ ?_; (try dsimp only)) | (k_here; (with_reducible show wpAny _ _ (spliced _) _ _ _); k_dflt ((rename Fr _ _ _ _ => F'); (first | refine' args3 ?_ ?_ ?_ ?_ | refine' args5 ?_ ?_ ?_ ?_ ?_ ?_ | refine' args4 ?_ ?_ ?_ ?_ ?_ | refine' args6 ?_ ?_ ?_ ?_ ?_ ?_ ?_ | refine' args2 ?_ ?_ ?_ | refine' args1 ?_ ?_); (any_goals (first | exact atom_str | exact atom_int | exact atom_none | exact atom_local F' (by (repeat (refine (if_neg (by decide +kernel)).trans ?_)); first | exact if_pos rfl | (show LookIs _ _ _; with_reducible assumption)) rfl rfl rfl (by decide))); (fail_if_success (any_goals (with_reducible show AtomE _ _ _ _ _ _ _))); intros; (try dsimp only))) | (k_here; (with_reducible show wpAny _ _ (compareOp CmpOp.NotEq _ _) _ _ _); k_dflt ((rename News _ _ _ _ => N'); refine' ne_dt N' ?nd1 ?nd2 ?nd3 ?nd4 ?_; (case nd1 => first | exact DtIn.mono (by with_reducible assumption) (fun p hp => List.mem_append_left _ hp) | exact DtIn.mono (by with_reducible assumption) (fun p hp => List.mem_append_right _ (List.mem_append_left _ hp))); (case nd2 => first | exact ⟨_, rfl⟩ | exact DtIn.mono (by with_reducible assumption) (fun p hp => List.mem_append_right _ hp) | exact DtIn.mono (by with_reducible assumption) (fun p hp => List.mem_append_left _ hp)); (case nd3 => first | (with_reducible assumption) | exact dtok_rounds | exact dtok_ve | exact dtok_te); (case nd4 => first | ktr_units | decide); (replace N' := news_right N'); (try dsimp only))) | (k_here; (with_reducible show wpAny _ _ (call (Value.ref 149) [_, Value.str _ _, Value.str _ _]) _ _ _); k_dflt (refine' two_text ?tu ?tg ?tf ?tm ?t0 ?k1 ?k2 ?k3 ?k4 ?k5 ?k6 ?k7 ?k8 ?k9 ?_; (case tu => first | exact uni_str | exact uni_bytes (by with_reducible assumption) (by omega)); (case tg => omega); (case tf => omega); (case tm => omega); (case t0 => omega); (case k1 => k_asm); (case k2 => k_asm); (case k3 => k_asm); (case k4 => k_asm); (case k5 => k_asm); (case k6 => exact rfl); (case k7 => exact rfl); (case k8 => first | ktr_room | decide); (case k9 => first | ktr_units | decide); intro v' n' h' t' F' N' r'; (rename (specTwo _ _ _ = _) => hsp'); rw [hsp'] at r'; (try k_sweep); (try dsimp only))) | (k_here; (with_reducible show wpAny _ _ (eval (Expr.Name _ _) (envOfC _ _ _ _ _)) _ _ _); k_dflt ((rename Fr _ _ _ _ => F'); refine' ldL F' ?lq1 ?_ ?lq2 ?lq3 ?lq4; (case lq3 => rfl); (case lq1 => (repeat (refine (if_neg (by decide +kernel)).trans ?_)); first | exact if_pos rfl | (show LookIs _ _ _; with_reducible assumption)); (case lq2 => rfl); (case lq4 => decide); (try dsimp only))) | (k_here; (with_reducible show wpAny _ _ (loadName (envOfC _ _ _ _ _) _) _ _ _); k_dflt ((rename Fr _ _ _ _ => F'); refine' ldLn F' ?lq1 ?_ ?lq2 ?lq3; (case lq3 => rfl); (case lq1 => (repeat (refine (if_neg (by decide +kernel)).trans ?_)); first | exact if_pos rfl | (show LookIs _ _ _; with_reducible assumption)); (case lq2 => rfl); (try dsimp only))) | (k_here; (with_reducible show if (_ == _) = true then _ else _); k_dflt (first | (refine' Mine.ieq_no ?k1 ?_; (case k1 => omega)) | (refine' Mine.ieq_yes ?k1 ?_; (case k1 => omega)))) | ((with_reducible show wpC _ _ _ _ _ _); plain_pass; first | (k_here; (with_reducible show wpC _ _ (execs (_ :: _) _) _ _ _); k_dflt refine wpC_execs_cons ?_) | (k_here; (with_reducible show wpC _ _ (execs [] _) _ _ _); k_dflt refine wpC_execs_nil ?_) | (k_here; (with_reducible show wpC _ _ (exec (Stmt.If _ _ _ _) _) _ _ _); k_dflt refine wpC_If ?_) | (k_here; (with_reducible show wpC _ _ (isTrue (Expr.BoolOp BoolOp.Or (_ :: _) _) _ _) _ _ _); k_dflt refine wpC_isTrue_or ?_) | (k_here; (with_reducible show wpC _ _ (isTrue (Expr.BoolOp BoolOp.Or [] _) _ _) _ _ _); k_dflt refine wpC_isTrue_or_nil ?_) | (k_here; (with_reducible show wpC _ _ (isTrue (Expr.BoolOp BoolOp.And (_ :: _) _) _ _) _ _ _); k_dflt refine wpC_isTrue_and ?_) | (k_here; (with_reducible show wpC _ _ (isTrue (Expr.BoolOp BoolOp.And [] _) _ _) _ _ _); k_dflt refine wpC_isTrue_and_nil ?_) | (k_here; (with_reducible show wpC _ _ (isTrue (Expr.Compare _ [_] [_] _) _ _) _ _ _); k_dflt refine wpC_isTrue_Compare1 ?_) | (k_here; (with_reducible show wpC _ _ (eval (Expr.Call (Expr.Name _ _) _ [] _) _) _ _ _); k_dflt refine wpC_Call_Name rfl ?_) | (k_here; (with_reducible show wpC _ _ (callWith _ (Value.ref _) _ _ _) _ _ _); k_dflt (refine' wpC_callWith_K (K := Mine.hd.heap_39 _) ?k1 ?_; (case k1 => k_is))) | (k_here; (with_reducible show wpC _ _ (call (Value.ref 135) _) _ _ _); k_dflt (refine wpC_of_any ?_)) | (k_here; (with_reducible show wpC _ _ (call (Value.ref 149) _) _ _ _); k_dflt (refine wpC_of_any ?_)) | (k_here; (with_reducible show wpC _ _ (call (Value.ref 156) [_, _, _, _, _]) _ _ _); k_dflt (refine' three_text ?tu ?tg ?tf ?tm ?t0 ?tb ?tv ?tp ?k1 ?k2 ?k3 ?k4 ?k5 ?k6 ?k7 ?k8 ?k9 ?_; (case tu => first | exact uni_str | exact uni_bytes (by with_reducible assumption) (by omega)); (case tg => omega); (case tf => omega); (case tm => omega); (case t0 => omega); (case tb => with_reducible assumption); (case tv => first | (with_reducible assumption) | exact dv_five); (case tp => with_reducible assumption); (case k1 => k_asm); (case k2 => k_asm); (case k3 => k_asm); (case k4 => k_asm); (case k5 => k_asm); (case k6 => exact rfl); (case k7 => exact rfl); (case k8 => first | ktr_room | decide); (case k9 => first | ktr_units | decide); intro v' n' h' t' F' N' r'; (rename (specThree _ _ _ _ _ = _) => hsp'); rw [hsp'] at r'; (try k_sweep); (try dsimp only))) | (k_here; (with_reducible show wpC _ _ (call (Value.ref 163) [_, _, _]) _ _ _); k_dflt (refine' one_text ?tu ?tg ?tb ?tv ?k1 ?k2 ?k3 ?k4 ?k5 ?k6 ?k7 ?k8 ?k9 ?_; (case tu => with_reducible assumption); (case tg => omega); (case tb => with_reducible assumption); (case tv => with_reducible assumption); (case k1 => k_asm); (case k2 => k_asm); (case k3 => k_asm); (case k4 => k_asm); (case k5 => k_asm); (case k6 => exact rfl); (case k7 => exact rfl); (case k8 => first | ktr_room | decide); (case k9 => first | ktr_units | decide); intro v' n' h' t' F' N' r'; (try k_sweep); (try dsimp only))) | ((fail_if_success (with_reducible show wpC _ _ (callWith _ _ _ _ _) _ _ _)); (fail_if_success (with_reducible show wpC _ _ (call _ _) _ _ _)); k_dflt (refine wpC_of_any ?_))) | (k_unfold; (try dsimp only)) | (k_end; wrow_close) | walk1 | dsimp only | (leave1; (try dsimp only)))
    rename Fr _ _ _ _ => F'
    rename News _ _ _ _ => N'
    exact AtS.mk F' N' ⟨hk, sub_self⟩
set_option maxRecDepth 100000 in
set_option maxHeartbeats 2000000 in
theorem seg23 {w : World} {p : Program} {loose : List Str} {mean : ExcName → Option Value} {mg mb : Str → Option Value} {s₁ : Shared} {h₁ : Heap} {L fa : Addr} {cd : Value} {tk : Nat} {E : Value → Shared → Prop} {m : Str → Option Value} {news : List (Addr × Obj)} {b : Nat} {fr g mk : Str} {tf tg tm tb : Tok}
  (K0 : Below callerA s₁.heap [] s₁.heap) (KX : (hd.heap_39 w.params).In s₁.heap) (T : Top p loose mean mg mb s₁.heap) (F' : Fr s₁.heap L h₁ m) (N' : News s₁.heap L h₁ news) (hfr : LookIs m (Str.ofString "front") (.str fr tf)) (hgv : LookIs m (Str.ofString "given") (.str g tg)) (hmk : LookIs m (Str.ofString "mark") (.str mk tm)) (hba : LookIs m (Str.ofString "base") (.int (b : Int) tb)) (hF : FrontIs fr) (hg6 : g.length ≤ 300) (hm6 : mk.length ≤ 600) (hm1 : 1 ≤ mk.length) (hf6 : fr.length ≤ 6) (hb : b = 10 ∨ b = 16) :
   wpC (model PySem.Challenge.pw_iw0004_01 w) (callerA.deeper (lawEnv L fa cd)) (execs (lawPart 23 1) (lawEnv L fa cd)) (fun f s' => f = .next ∧ AtS s₁ s₁.heap L (fun m' n' => m' = m ∧ ∀ e ∈ news, e ∈ n') s') E { s₁ with heap := h₁, toks := tk } := by
  refine wpC_absQ ?_
  intro Q0 hQ0
  refine' lit_C ?le1 ?le2 ?_
  case le1 => (dsimp only [lawPart, lawBody, PySem.Challenge.pw_iw0004_01, List.getLast?, List.getLast, List.drop, List.take] <;> exact rfl)
  case le2 => (dsimp only [lawScope, PySem.Challenge.pw_iw0004_01, List.getLast?, List.getLast] <;> exact rfl)
  have hl1 := hash_len
  have hla : (Str.ofString "#" ++ g).length = 1 + g.length := by rw [PySem.Str.length_append, hl1]
  by_cases hne : fr = Str.ofString ""
  · repeat' (first | (with_reducible refine hQ0 _ _ ?_; (try dsimp only)) | (k_here; (with_reducible show wpAny _ _ (spliced _) _ _ _); k_dflt ((rename Fr _ _ _ _ => F'); (first | refine' args3 ?_ ?_ ?_ ?_ | refine' args5 ?_ ?_ ?_ ?_ ?_ ?_ | refine' args4 ?_ ?_ ?_ ?_ ?_ | refine' args6 ?_ ?_ ?_ ?_ ?_ ?_ ?_ | refine' args2 ?_ ?_ ?_ | refine' args1 ?_ ?_); (any_goals (first | exact atom_str | exact atom_int | exact atom_none | exact atom_local F' (by (repeat (refine (if_neg (by decide +kernel)).trans ?_)); first | exact if_pos rfl | (show LookIs _ _ _; with_reducible assumption)) rfl rfl rfl (by decide))); (fail_if_success (any_goals (with_reducible show AtomE _ _ _ _ _ _ _))); intros; (try dsimp only))) | (k_here; (with_reducible show wpAny _ _ (compareOp CmpOp.NotEq (Value.str _ _) (Value.str _ _)) _ _ _); k_dflt (first | refine ne_front (by with_reducible assumption) ?_ | refine ne_same (by with_reducible assumption) ?_); (try dsimp only)) | (k_here; (with_reducible show wpAny _ _ (compareOp CmpOp.NotEq _ _) _ _ _); k_dflt ((rename News _ _ _ _ => N'); refine' ne_dt N' ?nd1 ?nd2 ?nd3 ?nd4 ?_; (case nd1 => first | exact DtIn.mono (by with_reducible assumption) (fun p hp => List.mem_append_left _ hp) | exact DtIn.mono (by with_reducible assumption) (fun p hp => List.mem_append_right _ (List.mem_append_left _ hp))); (case nd2 => first | exact ⟨_, rfl⟩ | exact DtIn.mono (by with_reducible assumption) (fun p hp => List.mem_append_right _ hp) | exact DtIn.mono (by with_reducible assumption) (fun p hp => List.mem_append_left _ hp)); (case nd3 => first | (with_reducible assumption) | exact dtok_rounds | exact dtok_ve | exact dtok_te); (case nd4 => first | ktr_units | decide); (replace N' := news_right N'); (try dsimp only))) | (k_here; (with_reducible show wpAny _ _ (call (Value.ref 149) [_, Value.str _ _, Value.str _ _]) _ _ _); k_dflt (refine' two_text ?tu ?tg ?tf ?tm ?t0 ?k1 ?k2 ?k3 ?k4 ?k5 ?k6 ?k7 ?k8 ?k9 ?_; (case tu => first | exact uni_str | exact uni_bytes (by with_reducible assumption) (by omega)); (case tg => omega); (case tf => omega); (case tm => omega); (case t0 => omega); (case k1 => k_asm); (case k2 => k_asm); (case k3 => k_asm); (case k4 => k_asm); (case k5 => k_asm); (case k6 => exact rfl); (case k7 => exact rfl); (case k8 => first | ktr_room | decide); (case k9 => first | ktr_units | decide); intro v' n' h' t' F' N' r'; (rename (specTwo _ _ _ = _) => hsp'); rw [hsp'] at r'; (try k_sweep); (try dsimp only))) | (k_here; (with_reducible show wpAny _ _ (eval (Expr.Name _ _) (envOfC _ _ _ _ _)) _ _ _); k_dflt ((rename Fr _ _ _ _ => F'); refine' ldL F' ?lq1 ?_ ?lq2 ?lq3 ?lq4; (case lq3 => rfl); (case lq1 => (repeat (refine (if_neg (by decide +kernel)).trans ?_)); first | exact if_pos rfl | (show LookIs _ _ _; with_reducible assumption)); (case lq2 => rfl); (case lq4 => decide); (try dsimp only))) | (k_here; (with_reducible show wpAny _ _ (loadName (envOfC _ _ _ _ _) _) _ _ _); k_dflt ((rename Fr _ _ _ _ => F'); refine' ldLn F' ?lq1 ?_ ?lq2 ?lq3; (case lq3 => rfl); (case lq1 => (repeat (refine (if_neg (by decide +kernel)).trans ?_)); first | exact if_pos rfl | (show LookIs _ _ _; with_reducible assumption)); (case lq2 => rfl); (try dsimp only))) | (k_here; (with_reducible show if (_ == _) = true then _ else _); k_dflt (first | (refine' Mine.ieq_no ?k1 ?_; (case k1 => omega)) | (refine' Mine.ieq_yes ?k1 ?_; (case k1 => omega)))) | ((with_reducible show wpC _ _ _ _ _ _); plain_pass; first | (k_here; (with_reducible show wpC _ _ (execs (_ :: _) _) _ _ _); k_dflt refine wpC_execs_cons ?_) | (k_here; (with_reducible show wpC _ _ (execs [] _) _ _ _); k_dflt refine wpC_execs_nil ?_) | (k_here; (with_reducible show wpC _ _ (exec (Stmt.If _ _ _ _) _) _ _ _); k_dflt refine wpC_If ?_) | (k_here; (with_reducible show wpC _ _ (isTrue (Expr.BoolOp BoolOp.Or (_ :: _) _) _ _) _ _ _); k_dflt refine wpC_isTrue_or ?_) | (k_here; (with_reducible show wpC _ _ (isTrue (Expr.BoolOp BoolOp.Or [] _) _ _) _ _ _); k_dflt refine wpC_isTrue_or_nil ?_) | (k_here; (with_reducible show wpC _ _ (isTrue (Expr.BoolOp BoolOp.And (_ :: _) _) _ _) _ _ _); k_dflt refine wpC_isTrue_and ?_) | (k_here; (with_reducible show wpC _ _ (isTrue (Expr.BoolOp BoolOp.And [] _) _ _) _ _ _); k_dflt refine wpC_isTrue_and_nil ?_) | (k_here; (with_reducible show wpC _ _ (isTrue (Expr.Compare _ [_] [_] _) _ _) _ _ _); k_dflt refine wpC_isTrue_Compare1 ?_) | (k_here; (with_reducible show wpC _ _ (eval (Expr.Call (Expr.Name _ _) _ [] _) _) _ _ _); k_dflt refine wpC_Call_Name rfl ?_) | (k_here; (with_reducible show wpC _ _ (callWith _ (Value.ref _) _ _ _) _ _ _); k_dflt (refine' wpC_callWith_K (K := Mine.hd.heap_39 _) ?k1 ?_; (case k1 => k_is))) | (k_here; (with_reducible show wpC _ _ (call (Value.ref 135) _) _ _ _); k_dflt (refine wpC_of_any ?_)) | (k_here; (with_reducible show wpC _ _ (call (Value.ref 149) _) _ _ _); k_dflt (refine wpC_of_any ?_)) | (k_here; (with_reducible show wpC _ _ (call (Value.ref 156) [_, _, _, _, _]) _ _ _); k_dflt (refine' three_text ?tu ?tg ?tf ?tm ?t0 ?tb ?tv ?tp ?k1 ?k2 ?k3 ?k4 ?k5 ?k6 ?k7 ?k8 ?k9 ?_; (case tu => first | exact uni_str | exact uni_bytes (by with_reducible assumption) (by omega)); (case tg => omega); (case tf => omega); (case tm => omega); (case t0 => omega); (case tb => with_reducible assumption); (case tv => first | (with_reducible assumption) | exact dv_five); (case tp => with_reducible assumption); (case k1 => k_asm); (case k2 => k_asm); (case k3 => k_asm); (case k4 => k_asm); (case k5 => k_asm); (case k6 => exact rfl); (case k7 => exact rfl); (case k8 => first | ktr_room | decide); (case k9 => first | ktr_units | decide); intro v' n' h' t' F' N' r'; (rename (specThree _ _ _ _ _ = _) => hsp'); rw [hsp'] at r'; (try k_sweep); (try dsimp only))) | (k_here; (with_reducible show wpC _ _ (call (Value.ref 163) [_, _, _]) _ _ _); k_dflt (refine' one_text ?tu ?tg ?tb ?tv ?k1 ?k2 ?k3 ?k4 ?k5 ?k6 ?k7 ?k8 ?k9 ?_; (case tu => with_reducible assumption); (case tg => omega); (case tb => with_reducible assumption); (case tv => with_reducible assumption); (case k1 => k_asm); (case k2 => k_asm); (case k3 => k_asm); (case k4 => k_asm); (case k5 => k_asm); (case k6 => exact rfl); (case k7 => exact rfl); (case k8 => first | ktr_room | decide); (case k9 => first | ktr_units | decide); intro v' n' h' t' F' N' r'; (try k_sweep); (try dsimp only))) | ((fail_if_success (with_reducible show wpC _ _ (callWith _ _ _ _ _) _ _ _)); (fail_if_success (with_reducible show wpC _ _ (call _ _) _ _ _)); k_dflt (refine wpC_of_any ?_))) | (k_unfold; (try dsimp only)) | (k_end; wrow_close) | walk1 | dsimp only | (leave1; (try dsimp only)))
    all_goals first
      | (rename Fr _ _ _ _ => F'; rename News _ _ _ _ => N'; exact AtS.mk F' N' ⟨rfl, sub_self⟩)
  · have hne2 : fr ≠ Str.ofString "" := hne
    have hs := hash_no (g := g) hF hne2
    have hsp2 : specTwo (Str.ofString "#" ++ g) fr mk = .err sVE := specTwo_no hs
    have hsp3 : specThree (Str.ofString "#" ++ g) fr mk b (some 5) = .err sVE := sThree_no hs
    have hop : OkParts (Str.ofString "#" ++ g) fr mk := okparts_no hs
    repeat' (first | (with_reducible refine hQ0 _ _ ?_; (try dsimp only)) | (k_here; (with_reducible show wpAny _ _ (spliced _) _ _ _); k_dflt ((rename Fr _ _ _ _ => F'); (first | refine' args3 ?_ ?_ ?_ ?_ | refine' args5 ?_ ?_ ?_ ?_ ?_ ?_ | refine' args4 ?_ ?_ ?_ ?_ ?_ | refine' args6 ?_ ?_ ?_ ?_ ?_ ?_ ?_ | refine' args2 ?_ ?_ ?_ | refine' args1 ?_ ?_); (any_goals (first | exact atom_str | exact atom_int | exact atom_none | exact atom_local F' (by (repeat (refine (if_neg (by decide +kernel)).trans ?_)); first | exact if_pos rfl | (show LookIs _ _ _; with_reducible assumption)) rfl rfl rfl (by decide))); (fail_if_success (any_goals (with_reducible show AtomE _ _ _ _ _ _ _))); intros; (try dsimp only))) | (k_here; (with_reducible show wpAny _ _ (compareOp CmpOp.NotEq (Value.str _ _) (Value.str _ _)) _ _ _); k_dflt (first | refine ne_front (by with_reducible assumption) ?_ | refine ne_same (by with_reducible assumption) ?_); (try dsimp only)) | (k_here; (with_reducible show wpAny _ _ (compareOp CmpOp.NotEq _ _) _ _ _); k_dflt ((rename News _ _ _ _ => N'); refine' ne_dt N' ?nd1 ?nd2 ?nd3 ?nd4 ?_; (case nd1 => first | exact DtIn.mono (by with_reducible assumption) (fun p hp => List.mem_append_left _ hp) | exact DtIn.mono (by with_reducible assumption) (fun p hp => List.mem_append_right _ (List.mem_append_left _ hp))); (case nd2 => first | exact ⟨_, rfl⟩ | exact DtIn.mono (by with_reducible assumption) (fun p hp => List.mem_append_right _ hp) | exact DtIn.mono (by with_reducible assumption) (fun p hp => List.mem_append_left _ hp)); (case nd3 => first | (with_reducible assumption) | exact dtok_rounds | exact dtok_ve | exact dtok_te); (case nd4 => first | ktr_units | decide); (replace N' := news_right N'); (try dsimp only))) | (k_here; (with_reducible show wpAny _ _ (call (Value.ref 149) [_, Value.str _ _, Value.str _ _]) _ _ _); k_dflt (refine' two_text ?tu ?tg ?tf ?tm ?t0 ?k1 ?k2 ?k3 ?k4 ?k5 ?k6 ?k7 ?k8 ?k9 ?_; (case tu => first | exact uni_str | exact uni_bytes (by with_reducible assumption) (by omega)); (case tg => omega); (case tf => omega); (case tm => omega); (case t0 => omega); (case k1 => k_asm); (case k2 => k_asm); (case k3 => k_asm); (case k4 => k_asm); (case k5 => k_asm); (case k6 => exact rfl); (case k7 => exact rfl); (case k8 => first | ktr_room | decide); (case k9 => first | ktr_units | decide); intro v' n' h' t' F' N' r'; (rename (specTwo _ _ _ = _) => hsp'); rw [hsp'] at r'; (try k_sweep); (try dsimp only))) | (k_here; (with_reducible show wpAny _ _ (eval (Expr.Name _ _) (envOfC _ _ _ _ _)) _ _ _); k_dflt ((rename Fr _ _ _ _ => F'); refine' ldL F' ?lq1 ?_ ?lq2 ?lq3 ?lq4; (case lq3 => rfl); (case lq1 => (repeat (refine (if_neg (by decide +kernel)).trans ?_)); first | exact if_pos rfl | (show LookIs _ _ _; with_reducible assumption)); (case lq2 => rfl); (case lq4 => decide); (try dsimp only))) | (k_here; (with_reducible show wpAny _ _ (loadName (envOfC _ _ _ _ _) _) _ _ _); k_dflt ((rename Fr _ _ _ _ => F'); refine' ldLn F' ?lq1 ?_ ?lq2 ?lq3; (case lq3 => rfl); (case lq1 => (repeat (refine (if_neg (by decide +kernel)).trans ?_)); first | exact if_pos rfl | (show LookIs _ _ _; with_reducible assumption)); (case lq2 => rfl); (try dsimp only))) | (k_here; (with_reducible show if (_ == _) = true then _ else _); k_dflt (first | (refine' Mine.ieq_no ?k1 ?_; (case k1 => omega)) | (refine' Mine.ieq_yes ?k1 ?_; (case k1 => omega)))) | ((with_reducible show wpC _ _ _ _ _ _); plain_pass; first | (k_here; (with_reducible show wpC _ _ (execs (_ :: _) _) _ _ _); k_dflt refine wpC_execs_cons ?_) | (k_here; (with_reducible show wpC _ _ (execs [] _) _ _ _); k_dflt refine wpC_execs_nil ?_) | (k_here; (with_reducible show wpC _ _ (exec (Stmt.If _ _ _ _) _) _ _ _); k_dflt refine wpC_If ?_) | (k_here; (with_reducible show wpC _ _ (isTrue (Expr.BoolOp BoolOp.Or (_ :: _) _) _ _) _ _ _); k_dflt refine wpC_isTrue_or ?_) | (k_here; (with_reducible show wpC _ _ (isTrue (Expr.BoolOp BoolOp.Or [] _) _ _) _ _ _); k_dflt refine wpC_isTrue_or_nil ?_) | (k_here; (with_reducible show wpC _ _ (isTrue (Expr.BoolOp BoolOp.And (_ :: _) _) _ _) _ _ _); k_dflt refine wpC_isTrue_and ?_) | (k_here; (with_reducible show wpC _ _ (isTrue (Expr.BoolOp BoolOp.And [] _) _ _) _ _ _); k_dflt refine wpC_isTrue_and_nil ?_) | (k_here; (with_reducible show wpC _ _ (isTrue (Expr.Compare _ [_] [_] _) _ _) _ _ _); k_dflt refine wpC_isTrue_Compare1 ?_) | (k_here; (with_reducible show wpC _ _ (eval (Expr.Call (Expr.Name _ _) _ [] _) _) _ _ _); k_dflt refine wpC_Call_Name rfl ?_) | (k_here; (with_reducible show wpC _ _ (callWith _ (Value.ref _) _ _ _) _ _ _); k_dflt (refine' wpC_callWith_K (K := Mine.hd.heap_39 _) ?k1 ?_; (case k1 => k_is))) | (k_here; (with_reducible show wpC _ _ (call (Value.ref 135) _) _ _ _); k_dflt (refine wpC_of_any ?_)) | (k_here; (with_reducible show wpC _ _ (call (Value.ref 149) _) _ _ _); k_dflt (refine wpC_of_any ?_)) | (k_here; (with_reducible show wpC _ _ (call (Value.ref 156) [_, _, _, _, _]) _ _ _); k_dflt (refine' three_text ?tu ?tg ?tf ?tm ?t0 ?tb ?tv ?tp ?k1 ?k2 ?k3 ?k4 ?k5 ?k6 ?k7 ?k8 ?k9 ?_; (case tu => first | exact uni_str | exact uni_bytes (by with_reducible assumption) (by omega)); (case tg => omega); (case tf => omega); (case tm => omega); (case t0 => omega); (case tb => with_reducible assumption); (case tv => first | (with_reducible assumption) | exact dv_five); (case tp => with_reducible assumption); (case k1 => k_asm); (case k2 => k_asm); (case k3 => k_asm); (case k4 => k_asm); (case k5 => k_asm); (case k6 => exact rfl); (case k7 => exact rfl); (case k8 => first | ktr_room | decide); (case k9 => first | ktr_units | decide); intro v' n' h' t' F' N' r'; (rename (specThree _ _ _ _ _ = _) => hsp'); rw [hsp'] at r'; (try k_sweep); (try dsimp only))) | (k_here; (with_reducible show wpC _ _ (call (Value.ref 163) [_, _, _]) _ _ _); k_dflt (refine' one_text ?tu ?tg ?tb ?tv ?k1 ?k2 ?k3 ?k4 ?k5 ?k6 ?k7 ?k8 ?k9 ?_; (case tu => with_reducible assumption); (case tg => omega); (case tb => with_reducible assumption); (case tv => with_reducible assumption); (case k1 => k_asm); (case k2 => k_asm); (case k3 => k_asm); (case k4 => k_asm); (case k5 => k_asm); (case k6 => exact rfl); (case k7 => exact rfl); (case k8 => first | ktr_room | decide); (case k9 => first | ktr_units | decide); intro v' n' h' t' F' N' r'; (try k_sweep); (try dsimp only))) | ((fail_if_success (with_reducible show wpC _ _ (callWith _ _ _ _ _) _ _ _)); (fail_if_success (with_reducible show wpC _ _ (call _ _) _ _ _)); k_dflt (refine wpC_of_any ?_))) | (k_unfold; (try dsimp only)) | (k_end; wrow_close) | walk1 | dsimp only | (leave1; (try dsimp only)))
    all_goals first
      | (rename Fr _ _ _ _ => F'; rename News _ _ _ _ => N'; exact AtS.mk F' N' ⟨rfl, sub_self⟩)
end Mine
end
-- S24
section
open PySem PySem.W PyProof.Rows PySem.Calls PySem.Spec
namespace Mine
/-- the body of the loop over what is neither text nor octets -/
def oBody : List Stmt := match lawPart 24 1 with
  | [.For _ _ b _ _] => b
  | _ => []
/-- where its turn ends -/
def AtH (s : Shared) (h₀ : Heap) (L : Addr) (m : Str → Option Value) (news : List (Addr × Obj)) (s' : Shared) : Prop := ∃ h' tk, s' = { s with heap := h', toks := tk } ∧ Fr h₀ L h' m ∧ News h₀ L h' news
section
set_option maxRecDepth 100000 in
set_option maxHeartbeats 2000000 in
theorem turn24 {w : World} {p : Program} {loose : List Str} {mean : ExcName → Option Value} {mg mb : Str → Option Value} {s₁ : Shared} {h₁ : Heap} {L fa : Addr} {cd : Value} {tk : Nat} {E : Value → Shared → Prop} {m : Str → Option Value} {news : List (Addr × Obj)} {b : Nat} {fr g mk : Str} {tf tg tm tb : Tok} {dfv : Value} {v : Value}
  (K0 : Below callerA s₁.heap [] s₁.heap) (KX : (hd.heap_39 w.params).In s₁.heap) (T : Top p loose mean mg mb s₁.heap) (F' : Fr s₁.heap L h₁ m) (N' : News s₁.heap L h₁ news) (hfr : LookIs m (Str.ofString "front") (.str fr tf)) (hgv : LookIs m (Str.ofString "given") (.str g tg)) (hmk : LookIs m (Str.ofString "mark") (.str mk tm)) (hba : LookIs m (Str.ofString "base") (.int (b : Int) tb)) (hde : LookIs m (Str.ofString "default") dfv) (hot : LookIs m (Str.ofString "other") v) (hbv : BadV w v news) :
   wpAny (model PySem.Challenge.pw_iw0004_01 w) (callerA.deeper (lawEnv L fa cd)) (execs oBody (lawEnv L fa cd)) (fun f s' => f = .next ∧ AtH s₁ s₁.heap L m news s') E { s₁ with heap := h₁, toks := tk } := by
  refine wpAny_absQ ?_
  intro Q0 hQ0
  refine' lit_A ?le1 ?le2 ?_
  case le1 => (dsimp only [oBody, lawPart, lawBody, PySem.Challenge.pw_iw0004_01, List.getLast?, List.getLast, List.drop, List.take] <;> exact rfl)
  case le2 => (dsimp only [lawScope, PySem.Challenge.pw_iw0004_01, List.getLast?, List.getLast] <;> exact rfl)
  repeat' (first | (with_reducible refine hQ0 _ _ ?_; (try dsimp only)) | (k_here; (with_reducible show wpAny _ _ (spliced _) _ _ _); k_dflt ((rename Fr _ _ _ _ => F'); (first | refine' args3 ?_ ?_ ?_ ?_ | refine' args5 ?_ ?_ ?_ ?_ ?_ ?_ | refine' args4 ?_ ?_ ?_ ?_ ?_ | refine' args6 ?_ ?_ ?_ ?_ ?_ ?_ ?_ | refine' args2 ?_ ?_ ?_ | refine' args1 ?_ ?_); (any_goals (first | exact atom_str | exact atom_int | exact atom_none | exact atom_local F' (by (repeat (refine (if_neg (by decide +kernel)).trans ?_)); first | exact if_pos rfl | (show LookIs _ _ _; with_reducible assumption)) rfl rfl rfl (by decide))); (fail_if_success (any_goals (with_reducible show AtomE _ _ _ _ _ _ _))); intros; (try dsimp only))) | (k_here; (with_reducible show wpAny _ _ (compareOp CmpOp.NotEq _ _) _ _ _); k_dflt ((rename News _ _ _ _ => N'); refine' ne_dt N' ?nd1 ?nd2 ?nd3 ?nd4 ?_; (case nd1 => first | exact DtIn.mono (by with_reducible assumption) (fun p hp => List.mem_append_left _ hp) | exact DtIn.mono (by with_reducible assumption) (fun p hp => List.mem_append_right _ (List.mem_append_left _ hp))); (case nd2 => first | exact ⟨_, rfl⟩ | exact DtIn.mono (by with_reducible assumption) (fun p hp => List.mem_append_right _ hp) | exact DtIn.mono (by with_reducible assumption) (fun p hp => List.mem_append_left _ hp)); (case nd3 => first | (with_reducible assumption) | exact dtok_rounds | exact dtok_ve | exact dtok_te); (case nd4 => first | ktr_units | decide); (replace N' := news_right N'); (try dsimp only))) | (k_here; (with_reducible show wpAny _ _ (call (Value.ref 156) [_, Value.str _ _, Value.str _ _, Value.int _ _, _]) _ _ _); k_dflt ((rename News _ _ _ _ => N'); refine' three_bad ?tb ?k1 ?k2 ?k3 ?k4 ?k5 ?k6 ?k7 ?k8 ?k9 ?_; (case k1 => k_asm); (case k2 => k_asm); (case k3 => k_asm); (case k4 => exact N'); (case k5 => k_asm); (case k6 => exact rfl); (case k7 => exact rfl); (case k8 => first | ktr_room | decide); (case k9 => first | ktr_units | decide); (case tb => with_reducible assumption); intro v' n' h' t' F' N' r'; (try k_sweep); (try dsimp only))) | (k_here; (with_reducible show wpAny _ _ (call (Value.ref 149) [_, Value.str _ _, Value.str _ _]) _ _ _); k_dflt ((rename News _ _ _ _ => N'); refine' two_bad ?tb ?k1 ?k2 ?k3 ?k4 ?k5 ?k6 ?k7 ?k8 ?k9 ?_; (case k1 => k_asm); (case k2 => k_asm); (case k3 => k_asm); (case k4 => exact N'); (case k5 => k_asm); (case k6 => exact rfl); (case k7 => exact rfl); (case k8 => first | ktr_room | decide); (case k9 => first | ktr_units | decide); (case tb => with_reducible assumption); intro v' n' h' t' F' N' r'; (try k_sweep); (try dsimp only))) | (k_here; (with_reducible show wpAny _ _ (eval (Expr.Name _ _) (envOfC _ _ _ _ _)) _ _ _); k_dflt ((rename Fr _ _ _ _ => F'); refine' ldL F' ?lq1 ?_ ?lq2 ?lq3 ?lq4; (case lq3 => rfl); (case lq1 => (repeat (refine (if_neg (by decide +kernel)).trans ?_)); first | exact if_pos rfl | (show LookIs _ _ _; with_reducible assumption)); (case lq2 => rfl); (case lq4 => decide); (try dsimp only))) | (k_here; (with_reducible show wpAny _ _ (loadName (envOfC _ _ _ _ _) _) _ _ _); k_dflt ((rename Fr _ _ _ _ => F'); refine' ldLn F' ?lq1 ?_ ?lq2 ?lq3; (case lq3 => rfl); (case lq1 => (repeat (refine (if_neg (by decide +kernel)).trans ?_)); first | exact if_pos rfl | (show LookIs _ _ _; with_reducible assumption)); (case lq2 => rfl); (try dsimp only))) | (k_here; (with_reducible show if (_ == _) = true then _ else _); k_dflt (first | (refine' Mine.ieq_no ?k1 ?_; (case k1 => omega)) | (refine' Mine.ieq_yes ?k1 ?_; (case k1 => omega)))) | (k_unfold; (try dsimp only)) | (k_end; wrow_close) | walk1 | dsimp only | (leave1; (try dsimp only)))
  rename Fr _ _ _ _ => F'
  rename News _ _ _ _ => N'
  exact ⟨_, _, rfl, F', N'⟩
theorem turn24L {w : World} {p : Program} {loose : List Str} {mean : ExcName → Option Value} {mg mb : Str → Option Value} {s₁ : Shared} {h₁ : Heap} {L fa : Addr} {cd : Value} {tk : Nat} {E : Value → Shared → Prop} {m : Str → Option Value} {news : List (Addr × Obj)} {b : Nat} {fr g mk : Str} {tf tg tm tb : Tok} {dfv : Value} {v : Value} {l : List Stmt} {sc : Scope}
  (K0 : Below callerA s₁.heap [] s₁.heap) (KX : (hd.heap_39 w.params).In s₁.heap) (T : Top p loose mean mg mb s₁.heap) (F' : Fr s₁.heap L h₁ m) (N' : News s₁.heap L h₁ news) (hfr : LookIs m (Str.ofString "front") (.str fr tf)) (hgv : LookIs m (Str.ofString "given") (.str g tg)) (hmk : LookIs m (Str.ofString "mark") (.str mk tm)) (hba : LookIs m (Str.ofString "base") (.int (b : Int) tb)) (hde : LookIs m (Str.ofString "default") dfv) (hot : LookIs m (Str.ofString "other") v) (hbv : BadV w v news) (e1 : oBody = l) (e2 : lawScope = sc) :
   wpAny (model PySem.Challenge.pw_iw0004_01 w) (callerA.deeper (envOfC (Str.ofString "law") sc L fa cd)) (execs l (envOfC (Str.ofString "law") sc L fa cd)) (fun f s' => f = .next ∧ AtH s₁ s₁.heap L m news s') E { s₁ with heap := h₁, toks := tk } := by
  subst e1 e2
  exact turn24 K0 KX T F' N' hfr hgv hmk hba hde hot hbv
end
set_option maxRecDepth 100000 in
set_option maxHeartbeats 2000000 in
theorem seg24 {w : World} {p : Program} {loose : List Str} {mean : ExcName → Option Value} {mg mb : Str → Option Value} {s₁ : Shared} {h₁ : Heap} {L fa : Addr} {cd : Value} {tk : Nat} {E : Value → Shared → Prop} {m : Str → Option Value} {news : List (Addr × Obj)} {b : Nat} {fr g mk : Str} {tf tg tm tb tbb : Tok} {bb : Int} {dfv : Value}
  (K0 : Below callerA s₁.heap [] s₁.heap) (KX : (hd.heap_39 w.params).In s₁.heap) (T : Top p loose mean mg mb s₁.heap) (F' : Fr s₁.heap L h₁ m) (N' : News s₁.heap L h₁ news) (hfr : LookIs m (Str.ofString "front") (.str fr tf)) (hgv : LookIs m (Str.ofString "given") (.str g tg)) (hmk : LookIs m (Str.ofString "mark") (.str mk tm)) (hba : LookIs m (Str.ofString "base") (.int (b : Int) tb)) (hde : LookIs m (Str.ofString "default") dfv) (hbb : LookIs m (Str.ofString "b") (.int bb tbb)) (hE : HoldP (PassesOwn (model PySem.Challenge.pw_iw0004_01 w) (callerA.deeper (lawEnv L fa cd)) (lawEnv L fa cd) E)) :
   wpC (model PySem.Challenge.pw_iw0004_01 w) (callerA.deeper (lawEnv L fa cd)) (execs (lawPart 24 1) (lawEnv L fa cd)) (fun f s' => f = .next ∧ AtS s₁ s₁.heap L (fun m' n' => KeptBut [Str.ofString "other"] m m' ∧ ∀ e ∈ news, e ∈ n') s') E { s₁ with heap := h₁, toks := tk } := by
  refine wpC_absQ ?_
  intro Q0 hQ0
  refine' lit_C ?le1 ?le2 ?_
  case le1 => (dsimp only [lawPart, lawBody, PySem.Challenge.pw_iw0004_01, List.getLast?, List.getLast, List.drop, List.take] <;> exact rfl)
  case le2 => (dsimp only [lawScope, PySem.Challenge.pw_iw0004_01, List.getLast?, List.getLast] <;> exact rfl)
  repeat' (first | (with_reducible refine hQ0 _ _ ?_; (try dsimp only)) | (k_here; (with_reducible show wpAny _ _ (spliced _) _ _ _); k_dflt ((rename Fr _ _ _ _ => F'); (first | refine' args3 ?_ ?_ ?_ ?_ | refine' args5 ?_ ?_ ?_ ?_ ?_ ?_ | refine' args4 ?_ ?_ ?_ ?_ ?_ | refine' args6 ?_ ?_ ?_ ?_ ?_ ?_ ?_ | refine' args2 ?_ ?_ ?_ | refine' args1 ?_ ?_); (any_goals (first | exact atom_str | exact atom_int | exact atom_none | exact atom_local F' (by (repeat (refine (if_neg (by decide +kernel)).trans ?_)); first | exact if_pos rfl | (show LookIs _ _ _; with_reducible assumption)) rfl rfl rfl (by decide))); (fail_if_success (any_goals (with_reducible show AtomE _ _ _ _ _ _ _))); intros; (try dsimp only))) | (k_here; (with_reducible show wpAny _ _ (eval (Expr.Name _ _) (envOfC _ _ _ _ _)) _ _ _); k_dflt ((rename Fr _ _ _ _ => F'); refine' ldL F' ?lq1 ?_ ?lq2 ?lq3 ?lq4; (case lq3 => rfl); (case lq1 => (repeat (refine (if_neg (by decide +kernel)).trans ?_)); first | exact if_pos rfl | (show LookIs _ _ _; with_reducible assumption)); (case lq2 => rfl); (case lq4 => decide); (try dsimp only))) | (k_here; (with_reducible show wpAny _ _ (execs (Stmt.If _ _ _ _ :: _) _) _ _ _); k_dflt ((rename Fr _ _ _ _ => F'); (rename News _ _ _ _ => N'); refine' wpAny_mono (turn24L (s₁ := s₁) K0 KX T F' N' ?t1 ?t2 ?t3 ?t4 ?t5 LookIs.hit ?tb ?te ?tf) ?_ (fun _ _ e => e); (case t1 => (repeat (refine (if_neg (by decide +kernel)).trans ?_)); first | exact if_pos rfl | (show LookIs _ _ _; with_reducible assumption)); (case t2 => (repeat (refine (if_neg (by decide +kernel)).trans ?_)); first | exact if_pos rfl | (show LookIs _ _ _; with_reducible assumption)); (case t3 => (repeat (refine (if_neg (by decide +kernel)).trans ?_)); first | exact if_pos rfl | (show LookIs _ _ _; with_reducible assumption)); (case t4 => (repeat (refine (if_neg (by decide +kernel)).trans ?_)); first | exact if_pos rfl | (show LookIs _ _ _; with_reducible assumption)); (case t5 => (repeat (refine (if_neg (by decide +kernel)).trans ?_)); first | exact if_pos rfl | (show LookIs _ _ _; with_reducible assumption)); (case tb => first | exact bad_none | exact bad_int | exact bad_list (by k_mem) rfl | exact bad_tuple (by k_mem) rfl); (case te => (dsimp only [oBody, lawPart, lawBody, PySem.Challenge.pw_iw0004_01, List.getLast?, List.getLast, List.drop, List.take] <;> exact rfl)); (case tf => (dsimp only [lawScope, PySem.Challenge.pw_iw0004_01, List.getLast?, List.getLast] <;> exact rfl)); intro f' s' ht'; (obtain ⟨hf', h', t', hs', F', N'⟩ := ht'); subst hf' hs'; (try dsimp only))) | (k_here; (with_reducible show wpAny _ _ (loadName (envOfC _ _ _ _ _) _) _ _ _); k_dflt ((rename Fr _ _ _ _ => F'); refine' ldLn F' ?lq1 ?_ ?lq2 ?lq3; (case lq3 => rfl); (case lq1 => (repeat (refine (if_neg (by decide +kernel)).trans ?_)); first | exact if_pos rfl | (show LookIs _ _ _; with_reducible assumption)); (case lq2 => rfl); (try dsimp only))) | (k_here; (with_reducible show if (_ == _) = true then _ else _); k_dflt (first | (refine' Mine.ieq_no ?k1 ?_; (case k1 => omega)) | (refine' Mine.ieq_yes ?k1 ?_; (case k1 => omega)))) | ((with_reducible show wpC _ _ _ _ _ _); plain_pass; first | (k_here; (with_reducible show wpC _ _ (execs (_ :: _) _) _ _ _); k_dflt refine wpC_execs_cons ?_) | (k_here; (with_reducible show wpC _ _ (execs [] _) _ _ _); k_dflt refine wpC_execs_nil ?_) | (k_dflt (refine wpC_of_any ?_))) | (k_unfold; (try dsimp only)) | (k_end; wrow_close) | walk1 | dsimp only | (leave1; (try dsimp only)))
  rotate_left
  · exact hE.get
  · rename Fr _ _ _ _ => F'
    rename News _ _ _ _ => N'
    refine' AtS.mk F' N' ⟨?za, ?zb⟩
    case za => (repeat (refine KeptBut.set ?_ (by decide +kernel))); exact KeptBut.refl
    case zb =>
      with_reducible (repeat (refine sub_more ?_))
      exact sub_self
end Mine
end
-- S25
section
open PySem PySem.W PyProof.Rows PySem.Calls PySem.Spec
namespace Mine
set_option maxRecDepth 100000 in
set_option maxHeartbeats 2000000 in
theorem seg25 {w : World} {p : Program} {loose : List Str} {mean : ExcName → Option Value} {mg mb : Str → Option Value} {s₁ : Shared} {h₁ : Heap} {L fa : Addr} {cd : Value} {tk : Nat} {E : Value → Shared → Prop} {m : Str → Option Value} {q c : Addr} {ws ys : List Value} {x1 : Str} {l : List Str} {n n2 : Nat}
  (K0 : Below callerA s₁.heap [] s₁.heap) (KX : (hd.heap_39 w.params).In s₁.heap) (T : Top p loose mean mg mb s₁.heap) (F' : Fr s₁.heap L h₁ m) (N' : News s₁.heap L h₁ [(c, listOf ys.toArray n2), (q, listOf ws.toArray n)]) (hfd : LookIs m (Str.ofString "fields") (.ref q)) (hch : LookIs m (Str.ofString "chosen") (.ref c)) (hws : StrsAre ws (x1 :: l)) (hys : OptsAre ys (x1 :: l)) (h5 : (x1 :: l).length ≤ 5) :
   wpC (model PySem.Challenge.pw_iw0004_01 w) (callerA.deeper (lawEnv L fa cd)) (execs (lawPart 25 1) (lawEnv L fa cd)) (fun f s' => f = .next ∧ AtS s₁ s₁.heap L (fun m' n' => KeptBut [Str.ofString "salt", Str.ofString "checksum"] m m' ∧ ∃ t y, LookIs m' (Str.ofString "salt") (.str x1 t) ∧ LookIs m' (Str.ofString "checksum") y ∧ OptIs y (optS ((x1 :: l).getLastD x1))) s') E { s₁ with heap := h₁, toks := tk } := by
  refine wpC_absQ ?_
  intro Q0 hQ0
  refine' lit_C ?le1 ?le2 ?_
  case le1 => (dsimp only [lawPart, lawBody, PySem.Challenge.pw_iw0004_01, List.getLast?, List.getLast, List.drop, List.take] <;> exact rfl)
  case le2 => (dsimp only [lawScope, PySem.Challenge.pw_iw0004_01, List.getLast?, List.getLast] <;> exact rfl)
  obtain ⟨y, hy, ho, hl1⟩ := opts_last hys
  have hlen := opts_len hys
  have hsq := seq_last hl1 (by omega)
  obtain ⟨t1, vs, rfl⟩ := strs_head hws
  repeat' (first | (with_reducible refine hQ0 _ _ ?_; (try dsimp only)) | (k_here; (with_reducible show wpAny _ _ (spliced _) _ _ _); k_dflt ((rename Fr _ _ _ _ => F'); (first | refine' args3 ?_ ?_ ?_ ?_ | refine' args5 ?_ ?_ ?_ ?_ ?_ ?_ | refine' args4 ?_ ?_ ?_ ?_ ?_ | refine' args6 ?_ ?_ ?_ ?_ ?_ ?_ ?_ | refine' args2 ?_ ?_ ?_ | refine' args1 ?_ ?_); (any_goals (first | exact atom_str | exact atom_int | exact atom_none | exact atom_local F' (by (repeat (refine (if_neg (by decide +kernel)).trans ?_)); first | exact if_pos rfl | (show LookIs _ _ _; with_reducible assumption)) rfl rfl rfl (by decide))); (fail_if_success (any_goals (with_reducible show AtomE _ _ _ _ _ _ _))); intros; (try dsimp only))) | (k_here; (with_reducible show wpAny _ _ (eval (Expr.Name _ _) (envOfC _ _ _ _ _)) _ _ _); k_dflt ((rename Fr _ _ _ _ => F'); refine' ldL F' ?lq1 ?_ ?lq2 ?lq3 ?lq4; (case lq3 => rfl); (case lq1 => (repeat (refine (if_neg (by decide +kernel)).trans ?_)); first | exact if_pos rfl | (show LookIs _ _ _; with_reducible assumption)); (case lq2 => rfl); (case lq4 => decide); (try dsimp only))) | (k_here; (with_reducible show wpAny _ _ (subscriptTail _ _ (Value.ref _) (Value.int (-1) _)) _ _ _); k_dflt ((rename News _ _ _ _ => N'); refine' kde_neg (N'.isList ?sb1) (by decide) (by decide) ?sb2 ?sb3 ?_; (case sb1 => k_mem); (case sb2 => with_reducible assumption); (case sb3 => with_reducible assumption); (try dsimp only))) | (k_here; (with_reducible show wpAny _ _ (subscriptTail _ _ (Value.ref _) (Value.int 0 _)) _ _ _); k_dflt ((rename News _ _ _ _ => N'); refine' sub_first N' ?sb1 ?_; (case sb1 => k_mem); (try dsimp only))) | (k_here; (with_reducible show wpAny _ _ (loadName (envOfC _ _ _ _ _) _) _ _ _); k_dflt ((rename Fr _ _ _ _ => F'); refine' ldLn F' ?lq1 ?_ ?lq2 ?lq3; (case lq3 => rfl); (case lq1 => (repeat (refine (if_neg (by decide +kernel)).trans ?_)); first | exact if_pos rfl | (show LookIs _ _ _; with_reducible assumption)); (case lq2 => rfl); (try dsimp only))) | (k_here; (with_reducible show if (_ == _) = true then _ else _); k_dflt (first | (refine' Mine.ieq_no ?k1 ?_; (case k1 => omega)) | (refine' Mine.ieq_yes ?k1 ?_; (case k1 => omega)))) | ((with_reducible show wpC _ _ _ _ _ _); plain_pass; first | (k_here; (with_reducible show wpC _ _ (execs (_ :: _) _) _ _ _); k_dflt refine wpC_execs_cons ?_) | (k_here; (with_reducible show wpC _ _ (execs [] _) _ _ _); k_dflt refine wpC_execs_nil ?_) | (k_dflt (refine wpC_of_any ?_))) | (k_unfold; (try dsimp only)) | (k_end; wrow_close) | walk1 | dsimp only | (leave1; (try dsimp only)))
  rename Fr _ _ _ _ => F'
  rename News _ _ _ _ => N'
  refine' AtS.mk F' N' ⟨?za, _, _, ?zb, ?zc, ho⟩
  case za => (repeat (refine KeptBut.set ?_ (by decide +kernel))); exact KeptBut.refl
  case zb => first | exact LookIs.hit | exact LookIs.miss LookIs.hit (by decide +kernel)
  case zc => first | exact LookIs.hit | exact LookIs.miss LookIs.hit (by decide +kernel)
end Mine
end
-- Lib12
section
open PySem PySem.W PyProof.Rows PySem.Calls PySem.Spec
namespace Mine
theorem lst_empty : lst (Str.ofString "") = [] := by decide +kernel
theorem cat_lst : ∀ l : List Str, lst (cat l) = (l.map lst).flatten := by
  intro l
  show lst (Txt.join (Str.ofString "") l) = _
  rw [join_same]
  induction l with
  | nil => rfl
  | cons x r ih =>
    cases r with
    | nil => simp [PySem.Str.join]
    | cons y r =>
      have e : PySem.Str.join (Str.ofString "") (x :: y :: r) = x ++ Str.ofString "" ++ PySem.Str.join (Str.ofString "") (y :: r) := rfl
      rw [e, lst_app, lst_app, lst_empty, List.append_nil, ih]
      simp
theorem lst_join2 (mk a c : Str) : PySem.Str.join mk [a, c] = a ++ mk ++ c := rfl
theorem lst_join3 (mk r a c : Str) : PySem.Str.join mk [r, a, c] = r ++ mk ++ (a ++ mk ++ c) := rfl
section
variable {fr sa mk c d : Str}
theorem cat_a : cat [fr, sa] = fr ++ sa ++ Str.ofString "" := lst_inj (by simp [cat_lst, lst_app, lst_empty])
theorem cat_a0 : cat [fr, sa] = fr ++ sa := lst_inj (by simp [cat_lst, lst_app])
theorem cat_a1 : cat [fr, sa] = fr ++ PySem.Str.join mk [sa] := cat_a0
theorem cat_b : cat [fr, sa, mk, c] = fr ++ sa ++ (mk ++ c) := lst_inj (by simp [cat_lst, lst_app])
theorem cat_b1 : cat [fr, sa, mk, c] = fr ++ PySem.Str.join mk [sa, c] := lst_inj (by simp [cat_lst, lst_app, lst_join2])
theorem cat_c : cat [fr, d, mk, sa] = fr ++ d ++ mk ++ sa ++ Str.ofString "" := lst_inj (by simp [cat_lst, lst_app, lst_empty])
theorem cat_c1 : cat [fr, d, mk, sa] = fr ++ PySem.Str.join mk [d, sa] := lst_inj (by simp [cat_lst, lst_app, lst_join2])
theorem cat_d : cat [fr, d, mk, sa, mk, c] = fr ++ d ++ mk ++ sa ++ (mk ++ c) := lst_inj (by simp [cat_lst, lst_app])
theorem cat_d1 : cat [fr, d, mk, sa, mk, c] = fr ++ PySem.Str.join mk [d, sa, c] := lst_inj (by simp [cat_lst, lst_app, lst_join3])
theorem cat_e : cat [fr, Str.ofString "", mk, sa] = fr ++ mk ++ sa ++ Str.ofString "" := lst_inj (by simp [cat_lst, lst_app, lst_empty])
theorem cat_e0 : cat [fr, Str.ofString "", mk, sa] = fr ++ mk ++ sa := lst_inj (by simp [cat_lst, lst_app, lst_empty])
theorem cat_f : cat [fr, Str.ofString "", mk, sa, mk, c] = fr ++ mk ++ sa ++ (mk ++ c) := lst_inj (by simp [cat_lst, lst_app, lst_empty])
end
theorem cat_len (l : List Str) : (cat l).length = (l.map (·.length)).sum := by
  rw [← lst_length, cat_lst]
  induction l with
  | nil => rfl
  | cons x r ih => simp only [List.map_cons, List.flatten_cons, List.length_append, List.sum_cons, lst_length, ih]
theorem news_right2 {h₀ h : Heap} {L : Addr} {x : Addr × Obj} {a b : List (Addr × Obj)} (N : News h₀ L h (x :: (a ++ b))) : News h₀ L h b := fun p hp => N p (.tail _ (List.mem_append_right _ hp))
theorem two_yes {c : Str} (h : 1 ≤ c.length) : optS c = some c := by
  unfold optS
  rw [if_neg (by omega)]
theorem dt_two0 {mk fr sa : Str} (hm : MarkIs mk) (h : OkS sa) : specTwo (cat [fr, sa]) fr mk = .two sa none := by
  rw [cat_a1 (mk := mk), two_app hm (by simp) (by intro p hp; rw [List.mem_singleton] at hp; subst hp; exact h)]
  rfl
theorem mem2 {P : Str → Prop} {a c : Str} (h1 : P a) (h2 : P c) : ∀ p ∈ [a, c], P p := by
  intro p hp
  rcases List.mem_cons.mp hp with rfl | hp
  · exact h1
  · rw [List.mem_singleton] at hp; subst hp; exact h2
theorem mem3 {P : Str → Prop} {a b c : Str} (h0 : P a) (h1 : P b) (h2 : P c) : ∀ p ∈ [a, b, c], P p := by
  intro p hp
  rcases List.mem_cons.mp hp with rfl | hp
  · exact h0
  · exact mem2 h1 h2 p hp
theorem dt_two1 {mk fr sa c : Str} (hm : MarkIs mk) (h : OkS sa) (hc : OkS c) (hl : 1 ≤ c.length) : specTwo (cat [fr, sa, mk, c]) fr mk = .two sa (some c) := by
  rw [cat_b1, two_app hm (by simp) (mem2 h hc)]
  show Dt.two sa (optS c) = _
  rw [two_yes hl]
section
variable {M : Model} {A : Around} {E : Value → Shared → Prop} {s : Shared} {env : Env}
theorem wpC_Compare1 {l op r pos} {Q : Value → Shared → Prop}
    (h : wpC M A (eval l env) (fun a s₁ => wpC M A (eval r env) (fun b s₂ => wpAny M A (compareOp op a b) Q E s₂) E s₁) E s)
    (hm : behindInMarks op r = false := by with_unfolding_all rfl) : wpC M A (eval (.Compare l [op] [r] pos) env) Q E s := fun Γ p hΓ hc => by
  simp only [eval_Compare1, markedBehindIn_of_false hm, Sem.wp_bind', Sem.wp_holding, Sem.wp_cmd_standAt, Sem.wp_operate]
  exact Sem.wp_mono M Γ _ (fun a p₁ s₁ h₁ => Sem.wp_mono M Γ _ (fun b _ s₂ h₂ => h₂ Γ _ hΓ) (fun _ _ _ h' => h') _ _ (h₁ Γ p₁ hΓ hc)) (fun _ _ _ h' => h') _ _ (h Γ p hΓ hc)
end
end Mine
end
-- S26
section
open PySem PySem.W PyProof.Rows PySem.Calls PySem.Spec
namespace Mine
set_option maxRecDepth 100000 in
set_option maxHeartbeats 2000000 in
theorem seg26n {w : World} {p : Program} {loose : List Str} {mean : ExcName → Option Value} {mg mb : Str → Option Value} {s₁ : Shared} {h₁ : Heap} {L fa : Addr} {cd : Value} {tk : Nat} {E : Value → Shared → Prop} {m : Str → Option Value} {news : List (Addr × Obj)} {fr mk sa : Str} {tf tm ts : Tok}
  (K0 : Below callerA s₁.heap [] s₁.heap) (KX : (hd.heap_39 w.params).In s₁.heap) (T : Top p loose mean mg mb s₁.heap) (F' : Fr s₁.heap L h₁ m) (N' : News s₁.heap L h₁ news) (hfr : LookIs m (Str.ofString "front") (.str fr tf)) (hmk : LookIs m (Str.ofString "mark") (.str mk tm)) (hsa : LookIs m (Str.ofString "salt") (.str sa ts)) (hck : LookIs m (Str.ofString "checksum") .none) (hM : MarkIs mk) (hF : FrontIs fr) (hS : FieldIs sa) :
   wpC (model PySem.Challenge.pw_iw0004_01 w) (callerA.deeper (lawEnv L fa cd)) (execs (lawPart 26 3) (lawEnv L fa cd)) (fun f s' => f = .next ∧ AtS s₁ s₁.heap L (fun m' n' => KeptBut [Str.ofString "written"] m m' ∧ ∀ e ∈ news, e ∈ n') s') E { s₁ with heap := h₁, toks := tk } := by
  refine wpC_absQ ?_
  intro Q0 hQ0
  refine' lit_C ?le1 ?le2 ?_
  case le1 => (dsimp only [lawPart, lawBody, PySem.Challenge.pw_iw0004_01, List.getLast?, List.getLast, List.drop, List.take] <;> exact rfl)
  case le2 => (dsimp only [lawScope, PySem.Challenge.pw_iw0004_01, List.getLast?, List.getLast] <;> exact rfl)
  have hf6 := front_len hF
  have hm2 := (mark_len hM).2
  have hm1 := (mark_len hM).1
  have hs6 := hS.2
  have hsp := dt_two0 (fr := fr) hM hS.1
  have hcl : (cat [fr, sa]).length = fr.length + (sa.length + 0) := cat_len _
  have hca : cat [fr, sa] = fr ++ sa ++ Str.ofString "" := cat_a
  have hok : DtOk (.two sa none) := ⟨strOk_ok hS.1, fun c e => by cases e⟩
  repeat' (first | (with_reducible refine hQ0 _ _ ?_; (try dsimp only)) | (k_here; (with_reducible show wpAny _ _ (spliced _) _ _ _); k_dflt ((rename Fr _ _ _ _ => F'); (first | refine' args3 ?_ ?_ ?_ ?_ | refine' args5 ?_ ?_ ?_ ?_ ?_ ?_ | refine' args4 ?_ ?_ ?_ ?_ ?_ | refine' args6 ?_ ?_ ?_ ?_ ?_ ?_ ?_ | refine' args2 ?_ ?_ ?_ | refine' args1 ?_ ?_); (any_goals (first | exact atom_str | exact atom_int | exact atom_none | exact atom_local F' (by (repeat (refine (if_neg (by decide +kernel)).trans ?_)); first | exact if_pos rfl | (show LookIs _ _ _; with_reducible assumption)) rfl rfl rfl (by decide))); (fail_if_success (any_goals (with_reducible show AtomE _ _ _ _ _ _ _))); intros; (try dsimp only))) | (k_here; (with_reducible show wpAny _ _ (compareOp CmpOp.NotEq (Value.str _ _) (Value.str _ _)) _ _ _); k_dflt (first | refine ne_front (by with_reducible assumption) ?_ | refine ne_same (by with_reducible assumption) ?_); (try dsimp only)) | (k_here; (with_reducible show wpAny _ _ (call (Value.ref 99) [Value.str _ _, Value.str _ _, Value.str _ _, Value.str _ _]) _ _ _); k_dflt (refine' mc2_some (t5 := 0) (t6 := 0) ?h1 ?h2 ?h3 ?h4 ?h5 ?k1 ?k2 ?k3 ?k4 ?k5 ?k6 ?k7 ?k8 ?k9 ?_; (case h1 => omega); (case h2 => omega); (case h3 => omega); (case h4 => omega); (case h5 => omega); (case k1 => k_asm); (case k2 => k_asm); (case k3 => k_asm); (case k4 => k_asm); (case k5 => k_asm); (case k6 => exact rfl); (case k7 => exact rfl); (case k8 => first | ktr_room | decide); (case k9 => first | ktr_units | decide); intro v' n' h' t' F' N' r'; obtain ⟨hn', t', hv'⟩ := r'; subst hv' hn'; (simp only [List.nil_append] at N'); (try k_sweep); (try dsimp only))) | (k_here; (with_reducible show wpAny _ _ (call (Value.ref 99) [Value.str _ _, Value.str _ _, Value.none, Value.str _ _]) _ _ _); k_dflt (refine' mc2_none (c := Str.ofString "") (t4 := 0) (t5 := 0) (t6 := 0) ?h1 ?h2 ?h3 (by decide) ?k1 ?k2 ?k3 ?k4 ?k5 ?k6 ?k7 ?k8 ?k9 ?_; (case h1 => omega); (case h2 => omega); (case h3 => omega); (case k1 => k_asm); (case k2 => k_asm); (case k3 => k_asm); (case k4 => k_asm); (case k5 => k_asm); (case k6 => exact rfl); (case k7 => exact rfl); (case k8 => first | ktr_room | decide); (case k9 => first | ktr_units | decide); intro v' n' h' t' F' N' r'; obtain ⟨hn', t', hv'⟩ := r'; subst hv' hn'; (simp only [List.nil_append] at N'); (try k_sweep); (try dsimp only))) | (k_here; (with_reducible show wpAny _ _ (compareOp CmpOp.NotEq _ (Value.ref _)) _ _ _); k_dflt ((rename News _ _ _ _ => N'); refine' ne_dt N' ?nd1 ?nd2 ?nd3 ?nd4 ?_; (case nd1 => exact DtIn.mono (by with_reducible assumption) (fun p hp => .tail _ (List.mem_append_left _ hp))); (case nd2 => first | exact ⟨_, _, _, rfl, .head _, rfl⟩ | exact ⟨_, _, _, rfl, .head _, ⟨_, rfl⟩⟩ | exact ⟨_, _, _, _, rfl, .head _, rfl⟩ | exact ⟨_, _, _, _, rfl, .head _, ⟨_, rfl⟩⟩); (case nd3 => with_reducible assumption); (case nd4 => first | ktr_units | decide); (replace N' := news_right2 N'); (try dsimp only))) | (k_here; (with_reducible show wpAny _ _ (call (Value.ref 149) [_, Value.str _ _, Value.str _ _]) _ _ _); k_dflt (refine' two_text ?tu ?tg ?tf ?tm ?t0 ?k1 ?k2 ?k3 ?k4 ?k5 ?k6 ?k7 ?k8 ?k9 ?_; (case tu => first | exact uni_str | exact uni_bytes (by with_reducible assumption) (by omega)); (case tg => omega); (case tf => omega); (case tm => omega); (case t0 => omega); (case k1 => k_asm); (case k2 => k_asm); (case k3 => k_asm); (case k4 => k_asm); (case k5 => k_asm); (case k6 => exact rfl); (case k7 => exact rfl); (case k8 => first | ktr_room | decide); (case k9 => first | ktr_units | decide); intro v' n' h' t' F' N' r'; (rename (specTwo _ _ _ = _) => hsp'); rw [hsp'] at r'; (try k_sweep); (try dsimp only))) | (k_here; (with_reducible show wpAny _ _ (eval (Expr.Name _ _) (envOfC _ _ _ _ _)) _ _ _); k_dflt ((rename Fr _ _ _ _ => F'); refine' ldL F' ?lq1 ?_ ?lq2 ?lq3 ?lq4; (case lq3 => rfl); (case lq1 => (repeat (refine (if_neg (by decide +kernel)).trans ?_)); first | exact if_pos rfl | (show LookIs _ _ _; with_reducible assumption)); (case lq2 => rfl); (case lq4 => decide); (try dsimp only))) | (k_here; (with_reducible show wpAny _ _ (loadName (envOfC _ _ _ _ _) _) _ _ _); k_dflt ((rename Fr _ _ _ _ => F'); refine' ldLn F' ?lq1 ?_ ?lq2 ?lq3; (case lq3 => rfl); (case lq1 => (repeat (refine (if_neg (by decide +kernel)).trans ?_)); first | exact if_pos rfl | (show LookIs _ _ _; with_reducible assumption)); (case lq2 => rfl); (try dsimp only))) | (k_here; (with_reducible show if (_ == _) = true then _ else _); k_dflt (first | (refine' Mine.ieq_no ?k1 ?_; (case k1 => omega)) | (refine' Mine.ieq_yes ?k1 ?_; (case k1 => omega)))) | ((with_reducible show wpC _ _ _ _ _ _); plain_pass; first | (k_here; (with_reducible show wpC _ _ (execs (_ :: _) _) _ _ _); k_dflt refine wpC_execs_cons ?_) | (k_here; (with_reducible show wpC _ _ (execs [] _) _ _ _); k_dflt refine wpC_execs_nil ?_) | (k_dflt (refine wpC_of_any ?_))) | (k_unfold; (try dsimp only)) | (k_end; wrow_close) | walk1 | dsimp only | (leave1; (try dsimp only)))
  all_goals first
    | (rename Fr _ _ _ _ => F'; rename News _ _ _ _ => N'; refine AtS.mk F' N' ⟨?_, sub_self⟩; (repeat (refine KeptBut.set ?_ (by decide +kernel))); exact KeptBut.refl)
set_option maxRecDepth 100000 in
set_option maxHeartbeats 2000000 in
theorem seg26s {w : World} {p : Program} {loose : List Str} {mean : ExcName → Option Value} {mg mb : Str → Option Value} {s₁ : Shared} {h₁ : Heap} {L fa : Addr} {cd : Value} {tk : Nat} {E : Value → Shared → Prop} {m : Str → Option Value} {news : List (Addr × Obj)} {fr mk sa c : Str} {tf tm ts tc : Tok}
  (K0 : Below callerA s₁.heap [] s₁.heap) (KX : (hd.heap_39 w.params).In s₁.heap) (T : Top p loose mean mg mb s₁.heap) (F' : Fr s₁.heap L h₁ m) (N' : News s₁.heap L h₁ news) (hfr : LookIs m (Str.ofString "front") (.str fr tf)) (hmk : LookIs m (Str.ofString "mark") (.str mk tm)) (hsa : LookIs m (Str.ofString "salt") (.str sa ts)) (hck : LookIs m (Str.ofString "checksum") (.str c tc)) (hM : MarkIs mk) (hF : FrontIs fr) (hS : FieldIs sa) (hC : FieldIs c) (hc1 : 1 ≤ c.length) :
   wpC (model PySem.Challenge.pw_iw0004_01 w) (callerA.deeper (lawEnv L fa cd)) (execs (lawPart 26 3) (lawEnv L fa cd)) (fun f s' => f = .next ∧ AtS s₁ s₁.heap L (fun m' n' => KeptBut [Str.ofString "written"] m m' ∧ ∀ e ∈ news, e ∈ n') s') E { s₁ with heap := h₁, toks := tk } := by
  refine wpC_absQ ?_
  intro Q0 hQ0
  refine' lit_C ?le1 ?le2 ?_
  case le1 => (dsimp only [lawPart, lawBody, PySem.Challenge.pw_iw0004_01, List.getLast?, List.getLast, List.drop, List.take] <;> exact rfl)
  case le2 => (dsimp only [lawScope, PySem.Challenge.pw_iw0004_01, List.getLast?, List.getLast] <;> exact rfl)
  have hf6 := front_len hF
  have hm2 := (mark_len hM).2
  have hm1 := (mark_len hM).1
  have hs6 := hS.2
  have hc6 := hC.2
  have hsp := dt_two1 (fr := fr) hM hS.1 hC.1 hc1
  have hcl : (cat [fr, sa, mk, c]).length = fr.length + (sa.length + (mk.length + (c.length + 0))) := cat_len _
  have hca : cat [fr, sa, mk, c] = fr ++ sa ++ (mk ++ c) := cat_b
  have hok : DtOk (.two sa (some c)) := ⟨strOk_ok hS.1, fun c' e => by cases e; exact strOk_ok hC.1⟩
  repeat' (first | (with_reducible refine hQ0 _ _ ?_; (try dsimp only)) | (k_here; (with_reducible show wpAny _ _ (spliced _) _ _ _); k_dflt ((rename Fr _ _ _ _ => F'); (first | refine' args3 ?_ ?_ ?_ ?_ | refine' args5 ?_ ?_ ?_ ?_ ?_ ?_ | refine' args4 ?_ ?_ ?_ ?_ ?_ | refine' args6 ?_ ?_ ?_ ?_ ?_ ?_ ?_ | refine' args2 ?_ ?_ ?_ | refine' args1 ?_ ?_); (any_goals (first | exact atom_str | exact atom_int | exact atom_none | exact atom_local F' (by (repeat (refine (if_neg (by decide +kernel)).trans ?_)); first | exact if_pos rfl | (show LookIs _ _ _; with_reducible assumption)) rfl rfl rfl (by decide))); (fail_if_success (any_goals (with_reducible show AtomE _ _ _ _ _ _ _))); intros; (try dsimp only))) | (k_here; (with_reducible show wpAny _ _ (compareOp CmpOp.NotEq (Value.str _ _) (Value.str _ _)) _ _ _); k_dflt (first | refine ne_front (by with_reducible assumption) ?_ | refine ne_same (by with_reducible assumption) ?_); (try dsimp only)) | (k_here; (with_reducible show wpAny _ _ (call (Value.ref 99) [Value.str _ _, Value.str _ _, Value.str _ _, Value.str _ _]) _ _ _); k_dflt (refine' mc2_some (t5 := 0) (t6 := 0) ?h1 ?h2 ?h3 ?h4 ?h5 ?k1 ?k2 ?k3 ?k4 ?k5 ?k6 ?k7 ?k8 ?k9 ?_; (case h1 => omega); (case h2 => omega); (case h3 => omega); (case h4 => omega); (case h5 => omega); (case k1 => k_asm); (case k2 => k_asm); (case k3 => k_asm); (case k4 => k_asm); (case k5 => k_asm); (case k6 => exact rfl); (case k7 => exact rfl); (case k8 => first | ktr_room | decide); (case k9 => first | ktr_units | decide); intro v' n' h' t' F' N' r'; obtain ⟨hn', t', hv'⟩ := r'; subst hv' hn'; (simp only [List.nil_append] at N'); (try k_sweep); (try dsimp only))) | (k_here; (with_reducible show wpAny _ _ (call (Value.ref 99) [Value.str _ _, Value.str _ _, Value.none, Value.str _ _]) _ _ _); k_dflt (refine' mc2_none (c := Str.ofString "") (t4 := 0) (t5 := 0) (t6 := 0) ?h1 ?h2 ?h3 (by decide) ?k1 ?k2 ?k3 ?k4 ?k5 ?k6 ?k7 ?k8 ?k9 ?_; (case h1 => omega); (case h2 => omega); (case h3 => omega); (case k1 => k_asm); (case k2 => k_asm); (case k3 => k_asm); (case k4 => k_asm); (case k5 => k_asm); (case k6 => exact rfl); (case k7 => exact rfl); (case k8 => first | ktr_room | decide); (case k9 => first | ktr_units | decide); intro v' n' h' t' F' N' r'; obtain ⟨hn', t', hv'⟩ := r'; subst hv' hn'; (simp only [List.nil_append] at N'); (try k_sweep); (try dsimp only))) | (k_here; (with_reducible show wpAny _ _ (compareOp CmpOp.NotEq _ (Value.ref _)) _ _ _); k_dflt ((rename News _ _ _ _ => N'); refine' ne_dt N' ?nd1 ?nd2 ?nd3 ?nd4 ?_; (case nd1 => exact DtIn.mono (by with_reducible assumption) (fun p hp => .tail _ (List.mem_append_left _ hp))); (case nd2 => first | exact ⟨_, _, _, rfl, .head _, rfl⟩ | exact ⟨_, _, _, rfl, .head _, ⟨_, rfl⟩⟩ | exact ⟨_, _, _, _, rfl, .head _, rfl⟩ | exact ⟨_, _, _, _, rfl, .head _, ⟨_, rfl⟩⟩); (case nd3 => with_reducible assumption); (case nd4 => first | ktr_units | decide); (replace N' := news_right2 N'); (try dsimp only))) | (k_here; (with_reducible show wpAny _ _ (call (Value.ref 149) [_, Value.str _ _, Value.str _ _]) _ _ _); k_dflt (refine' two_text ?tu ?tg ?tf ?tm ?t0 ?k1 ?k2 ?k3 ?k4 ?k5 ?k6 ?k7 ?k8 ?k9 ?_; (case tu => first | exact uni_str | exact uni_bytes (by with_reducible assumption) (by omega)); (case tg => omega); (case tf => omega); (case tm => omega); (case t0 => omega); (case k1 => k_asm); (case k2 => k_asm); (case k3 => k_asm); (case k4 => k_asm); (case k5 => k_asm); (case k6 => exact rfl); (case k7 => exact rfl); (case k8 => first | ktr_room | decide); (case k9 => first | ktr_units | decide); intro v' n' h' t' F' N' r'; (rename (specTwo _ _ _ = _) => hsp'); rw [hsp'] at r'; (try k_sweep); (try dsimp only))) | (k_here; (with_reducible show wpAny _ _ (eval (Expr.Name _ _) (envOfC _ _ _ _ _)) _ _ _); k_dflt ((rename Fr _ _ _ _ => F'); refine' ldL F' ?lq1 ?_ ?lq2 ?lq3 ?lq4; (case lq3 => rfl); (case lq1 => (repeat (refine (if_neg (by decide +kernel)).trans ?_)); first | exact if_pos rfl | (show LookIs _ _ _; with_reducible assumption)); (case lq2 => rfl); (case lq4 => decide); (try dsimp only))) | (k_here; (with_reducible show wpAny _ _ (loadName (envOfC _ _ _ _ _) _) _ _ _); k_dflt ((rename Fr _ _ _ _ => F'); refine' ldLn F' ?lq1 ?_ ?lq2 ?lq3; (case lq3 => rfl); (case lq1 => (repeat (refine (if_neg (by decide +kernel)).trans ?_)); first | exact if_pos rfl | (show LookIs _ _ _; with_reducible assumption)); (case lq2 => rfl); (try dsimp only))) | (k_here; (with_reducible show if (_ == _) = true then _ else _); k_dflt (first | (refine' Mine.ieq_no ?k1 ?_; (case k1 => omega)) | (refine' Mine.ieq_yes ?k1 ?_; (case k1 => omega)))) | ((with_reducible show wpC _ _ _ _ _ _); plain_pass; first | (k_here; (with_reducible show wpC _ _ (execs (_ :: _) _) _ _ _); k_dflt refine wpC_execs_cons ?_) | (k_here; (with_reducible show wpC _ _ (execs [] _) _ _ _); k_dflt refine wpC_execs_nil ?_) | (k_dflt (refine wpC_of_any ?_))) | (k_unfold; (try dsimp only)) | (k_end; wrow_close) | walk1 | dsimp only | (leave1; (try dsimp only)))
  all_goals first
    | (rename Fr _ _ _ _ => F'; rename News _ _ _ _ => N'; refine AtS.mk F' N' ⟨?_, sub_self⟩; (repeat (refine KeptBut.set ?_ (by decide +kernel))); exact KeptBut.refl)
end Mine
end
-- Lib13
section
open PySem PySem.W PyProof.Rows PySem.Calls PySem.Spec
namespace Mine
theorem count_nat (z : Int) : ∃ N : Nat, z.fmod (10 ^ Int.toNat 30) = (N : Int) ∧ N < 10 ^ 30 := by
  have e : ((10 : Int) ^ Int.toNat 30) = ((10 ^ 30 : Nat) : Int) := by decide +kernel
  rw [e]
  have hp : (0 : Int) < ((10 ^ 30 : Nat) : Int) := by decide +kernel
  have h1 := Int.fmod_nonneg_of_pos z hp
  have h2 := Int.fmod_lt_of_pos z hp
  exact ⟨(z.fmod ((10 ^ 30 : Nat) : Int)).toNat, (Int.toNat_of_nonneg h1).symm, by omega⟩
section
variable {mk fr sa c : Str} {b N : Nat} {dflt : Option Int}
theorem dt_three0 (hm : MarkIs mk) (h : OkS sa) (hb : b = 10 ∨ b = 16) : specThree (cat [fr, digS b N, mk, sa]) fr mk b dflt = .three N sa none := by
  rw [cat_c1, three_app hm (by simp) (mem2 (dig_ok hb) h)]
  show withRounds (specRounds (digS b N) b dflt) sa none = _
  rw [dig_rounds hb]
  rfl
theorem dt_three1 (hm : MarkIs mk) (h : OkS sa) (hc : OkS c) (hl : 1 ≤ c.length) (hb : b = 10 ∨ b = 16) : specThree (cat [fr, digS b N, mk, sa, mk, c]) fr mk b dflt = .three N sa (some c) := by
  rw [cat_d1, three_app hm (by simp) (mem3 (dig_ok hb) h hc)]
  show withRounds (specRounds (digS b N) b dflt) sa (optS c) = _
  rw [dig_rounds hb, two_yes hl]
  rfl
theorem op_three0 (hm : MarkIs mk) (h : OkS sa) (hb : b = 10 ∨ b = 16) : OkParts (cat [fr, digS b N, mk, sa]) fr mk := by
  rw [cat_c1]
  exact okparts_app hm (by simp) (mem2 (dig_ok hb) h)
theorem op_three1 (hm : MarkIs mk) (h : OkS sa) (hc : OkS c) (hb : b = 10 ∨ b = 16) : OkParts (cat [fr, digS b N, mk, sa, mk, c]) fr mk := by
  rw [cat_d1]
  exact okparts_app hm (by simp) (mem3 (dig_ok hb) h hc)
theorem rounds_empty {d : Int} : specRounds (Str.ofString "") b (some d) = .int d := by
  unfold specRounds
  rw [if_pos (by decide)]
theorem dt_empty0 {d : Int} (hm : MarkIs mk) (h : OkS sa) : specThree (cat [fr, Str.ofString "", mk, sa]) fr mk b (some d) = .three d sa none := by
  rw [cat_c1, three_app hm (by simp) (mem2 ok_empty h)]
  show withRounds (specRounds (Str.ofString "") b (some d)) sa none = _
  rw [rounds_empty]
  rfl
theorem dt_empty1 {d : Int} (hm : MarkIs mk) (h : OkS sa) (hc : OkS c) (hl : 1 ≤ c.length) : specThree (cat [fr, Str.ofString "", mk, sa, mk, c]) fr mk b (some d) = .three d sa (some c) := by
  rw [cat_d1, three_app hm (by simp) (mem3 ok_empty h hc)]
  show withRounds (specRounds (Str.ofString "") b (some d)) sa (optS c) = _
  rw [rounds_empty, two_yes hl]
  rfl
theorem op_empty0 (hm : MarkIs mk) (h : OkS sa) : OkParts (cat [fr, Str.ofString "", mk, sa]) fr mk := by
  rw [cat_c1]
  exact okparts_app hm (by simp) (mem2 ok_empty h)
theorem op_empty1 (hm : MarkIs mk) (h : OkS sa) (hc : OkS c) : OkParts (cat [fr, Str.ofString "", mk, sa, mk, c]) fr mk := by
  rw [cat_d1]
  exact okparts_app hm (by simp) (mem3 ok_empty h hc)
end
/-- render_mc3's answers, of both bases -/
theorem mc3_none {w : World} {fr sa mk : Str} {b N : Nat} {t1 t2 t3 t5 t6 : Tok} {news : List (Addr × Obj)} (hb : b = 10 ∨ b = 16) (hN : N < 10 ^ 30) (h1 : fr.length ≤ 600) (h2 : sa.length ≤ 600) (h3 : mk.length ≤ 600) : Asks w 107 [.str fr t1, .int (N : Int) t6, .str sa t2, .none, .str mk t3, .int (b : Int) t5] news (fun r n => n = [] ∧ ∃ t, r = .str (cat [fr, digS b N, mk, sa]) t) := by
  have hl : (digS b N).length ≤ 600 := Nat.le_trans (dig_len hb hN) (by decide)
  rcases hb with rfl | rfl
  · rw [← str_dig]
    intro p loose mean mg mb A₀ dp un gd h₀ L m s env Q E
    exact mc3d_none (w := w) (fr := fr) (sa := sa) (mk := mk) (c := Str.ofString "") (k := (N : Int)) (t1 := t1) (t2 := t2) (t3 := t3) (t4 := 0) (t5 := t5) (t6 := t6) (news := news) h1 h2 h3 (by decide) (log_small hN) (by rw [str_dig]; exact hl)
  · intro p loose mean mg mb A₀ dp un gd h₀ L m s env Q E
    exact mc3x_none (w := w) (fr := fr) (sa := sa) (mk := mk) (c := Str.ofString "") (k := (N : Int)) (t1 := t1) (t2 := t2) (t3 := t3) (t4 := 0) (t5 := t5) (t6 := t6) (news := news) h1 h2 h3 (by decide) (Int.natCast_nonneg _) (log_small hN) (by rw [hex_dig]; exact hl)
theorem mc3_some {w : World} {fr sa mk c : Str} {b N : Nat} {t1 t2 t3 t4 t5 t6 : Tok} {news : List (Addr × Obj)} (hb : b = 10 ∨ b = 16) (hN : N < 10 ^ 30) (h1 : fr.length ≤ 600) (h2 : sa.length ≤ 600) (h3 : mk.length ≤ 600) (h4 : c.length ≤ 600) (hc : 1 ≤ c.length) : Asks w 107 [.str fr t1, .int (N : Int) t6, .str sa t2, .str c t4, .str mk t3, .int (b : Int) t5] news (fun r n => n = [] ∧ ∃ t, r = .str (cat [fr, digS b N, mk, sa, mk, c]) t) := by
  have hl : (digS b N).length ≤ 600 := Nat.le_trans (dig_len hb hN) (by decide)
  rcases hb with rfl | rfl
  · rw [← str_dig]
    intro p loose mean mg mb A₀ dp un gd h₀ L m s env Q E
    exact mc3d_some (w := w) (fr := fr) (sa := sa) (mk := mk) (c := c) (k := (N : Int)) (t1 := t1) (t2 := t2) (t3 := t3) (t4 := t4) (t5 := t5) (t6 := t6) (news := news) h1 h2 h3 h4 (log_small hN) (by rw [str_dig]; exact hl) hc
  · intro p loose mean mg mb A₀ dp un gd h₀ L m s env Q E
    exact mc3x_some (w := w) (fr := fr) (sa := sa) (mk := mk) (c := c) (k := (N : Int)) (t1 := t1) (t2 := t2) (t3 := t3) (t4 := t4) (t5 := t5) (t6 := t6) (news := news) h1 h2 h3 h4 (Int.natCast_nonneg _) (log_small hN) (by rw [hex_dig]; exact hl) hc
theorem dv_thousand {t : Tok} : DvIs (.int 1000 t) (some 1000) := ⟨t, rfl⟩
end Mine
end
-- S29
section
open PySem PySem.W PyProof.Rows PySem.Calls PySem.Spec
namespace Mine
set_option maxRecDepth 100000 in
set_option maxHeartbeats 2000000 in
theorem seg29 {w : World} {p : Program} {loose : List Str} {mean : ExcName → Option Value} {mg mb : Str → Option Value} {s₁ : Shared} {h₁ : Heap} {L fa : Addr} {cd : Value} {tk : Nat} {E : Value → Shared → Prop} {m : Str → Option Value} {news : List (Addr × Obj)} {bb : Int} {tbb : Tok}
  (K0 : Below callerA s₁.heap [] s₁.heap) (KX : (hd.heap_39 w.params).In s₁.heap) (T : Top p loose mean mg mb s₁.heap) (F' : Fr s₁.heap L h₁ m) (N' : News s₁.heap L h₁ news) (hbb : LookIs m (Str.ofString "b") (.int bb tbb)) :
   wpC (model PySem.Challenge.pw_iw0004_01 w) (callerA.deeper (lawEnv L fa cd)) (execs (lawPart 29 1) (lawEnv L fa cd)) (fun f s' => f = .next ∧ AtS s₁ s₁.heap L (fun m' n' => KeptBut [Str.ofString "count"] m m' ∧ (∃ (N : Nat) (t : Tok), LookIs m' (Str.ofString "count") (.int (N : Int) t) ∧ N < 10 ^ 30) ∧ ∀ e ∈ news, e ∈ n') s') E { s₁ with heap := h₁, toks := tk } := by
  refine wpC_absQ ?_
  intro Q0 hQ0
  refine' lit_C ?le1 ?le2 ?_
  case le1 => (dsimp only [lawPart, lawBody, PySem.Challenge.pw_iw0004_01, List.getLast?, List.getLast, List.drop, List.take] <;> exact rfl)
  case le2 => (dsimp only [lawScope, PySem.Challenge.pw_iw0004_01, List.getLast?, List.getLast] <;> exact rfl)
  repeat' (first | (with_reducible refine hQ0 _ _ ?_; (try dsimp only)) | (k_here; (with_reducible show wpAny _ _ (spliced _) _ _ _); k_dflt ((rename Fr _ _ _ _ => F'); (first | refine' args3 ?_ ?_ ?_ ?_ | refine' args5 ?_ ?_ ?_ ?_ ?_ ?_ | refine' args4 ?_ ?_ ?_ ?_ ?_ | refine' args6 ?_ ?_ ?_ ?_ ?_ ?_ ?_ | refine' args2 ?_ ?_ ?_ | refine' args1 ?_ ?_); (any_goals (first | exact atom_str | exact atom_int | exact atom_none | exact atom_local F' (by (repeat (refine (if_neg (by decide +kernel)).trans ?_)); first | exact if_pos rfl | (show LookIs _ _ _; with_reducible assumption)) rfl rfl rfl (by decide))); (fail_if_success (any_goals (with_reducible show AtomE _ _ _ _ _ _ _))); intros; (try dsimp only))) | (k_here; (with_reducible show wpAny _ _ (eval (Expr.Name _ _) (envOfC _ _ _ _ _)) _ _ _); k_dflt ((rename Fr _ _ _ _ => F'); refine' ldL F' ?lq1 ?_ ?lq2 ?lq3 ?lq4; (case lq3 => rfl); (case lq1 => (repeat (refine (if_neg (by decide +kernel)).trans ?_)); first | exact if_pos rfl | (show LookIs _ _ _; with_reducible assumption)); (case lq2 => rfl); (case lq4 => decide); (try dsimp only))) | (k_here; (with_reducible show wpAny _ _ (loadName (envOfC _ _ _ _ _) _) _ _ _); k_dflt ((rename Fr _ _ _ _ => F'); refine' ldLn F' ?lq1 ?_ ?lq2 ?lq3; (case lq3 => rfl); (case lq1 => (repeat (refine (if_neg (by decide +kernel)).trans ?_)); first | exact if_pos rfl | (show LookIs _ _ _; with_reducible assumption)); (case lq2 => rfl); (try dsimp only))) | (k_here; (with_reducible show if (_ == _) = true then _ else _); k_dflt (first | (refine' Mine.ieq_no ?k1 ?_; (case k1 => omega)) | (refine' Mine.ieq_yes ?k1 ?_; (case k1 => omega)))) | ((with_reducible show wpC _ _ _ _ _ _); plain_pass; first | (k_here; (with_reducible show wpC _ _ (execs (_ :: _) _) _ _ _); k_dflt refine wpC_execs_cons ?_) | (k_here; (with_reducible show wpC _ _ (execs [] _) _ _ _); k_dflt refine wpC_execs_nil ?_) | (k_dflt (refine wpC_of_any ?_))) | (k_unfold; (try dsimp only)) | (k_end; wrow_close) | walk1 | dsimp only | (leave1; (try dsimp only)))
  obtain ⟨N, hN, hlt⟩ := count_nat (if bb < 0 then -bb else bb)
  rename Fr _ _ _ _ => F'
  rename News _ _ _ _ => N'
  rw [hN] at F'
  exact AtS.mk F' N' ⟨KeptBut.set KeptBut.refl (by decide +kernel), ⟨N, _, LookIs.hit, hlt⟩, sub_self⟩
set_option maxRecDepth 100000 in
set_option maxHeartbeats 2000000 in
theorem seg30n {w : World} {p : Program} {loose : List Str} {mean : ExcName → Option Value} {mg mb : Str → Option Value} {s₁ : Shared} {h₁ : Heap} {L fa : Addr} {cd : Value} {tk : Nat} {E : Value → Shared → Prop} {m : Str → Option Value} {news : List (Addr × Obj)} {fr mk sa : Str} {tf tm ts tb tn : Tok} {b N : Nat} {dfv : Value} {dflt : Option Int}
  (K0 : Below callerA s₁.heap [] s₁.heap) (KX : (hd.heap_39 w.params).In s₁.heap) (T : Top p loose mean mg mb s₁.heap) (F' : Fr s₁.heap L h₁ m) (N' : News s₁.heap L h₁ news) (hfr : LookIs m (Str.ofString "front") (.str fr tf)) (hmk : LookIs m (Str.ofString "mark") (.str mk tm)) (hsa : LookIs m (Str.ofString "salt") (.str sa ts)) (hck : LookIs m (Str.ofString "checksum") .none) (hba : LookIs m (Str.ofString "base") (.int (b : Int) tb)) (hde : LookIs m (Str.ofString "default") dfv) (hct : LookIs m (Str.ofString "count") (.int (N : Int) tn)) (hM : MarkIs mk) (hF : FrontIs fr) (hS : FieldIs sa) (hb : b = 10 ∨ b = 16) (hdv : DvIs dfv dflt) (hN : N < 10 ^ 30) :
   wpC (model PySem.Challenge.pw_iw0004_01 w) (callerA.deeper (lawEnv L fa cd)) (execs (lawPart 30 3) (lawEnv L fa cd)) (fun f s' => f = .next ∧ AtS s₁ s₁.heap L (fun m' n' => KeptBut [Str.ofString "written"] m m' ∧ ∀ e ∈ news, e ∈ n') s') E { s₁ with heap := h₁, toks := tk } := by
  refine wpC_absQ ?_
  intro Q0 hQ0
  refine' lit_C ?le1 ?le2 ?_
  case le1 => (dsimp only [lawPart, lawBody, PySem.Challenge.pw_iw0004_01, List.getLast?, List.getLast, List.drop, List.take] <;> exact rfl)
  case le2 => (dsimp only [lawScope, PySem.Challenge.pw_iw0004_01, List.getLast?, List.getLast] <;> exact rfl)
  have hf6 := front_len hF
  have hm2 := (mark_len hM).2
  have hm1 := (mark_len hM).1
  have hs6 := hS.2
  have hdl := dig_len hb hN
  have hDig : DigOn b N := ⟨hb, hN⟩
  have hsp := dt_three0 (fr := fr) (N := N) (dflt := dflt) hM hS.1 hb
  have hop := op_three0 (fr := fr) (N := N) hM hS.1 hb
  have hcl : (cat [fr, digS b N, mk, sa]).length = fr.length + ((digS b N).length + (mk.length + (sa.length + 0))) := cat_len _
  have hca : cat [fr, digS b N, mk, sa] = fr ++ digS b N ++ mk ++ sa ++ Str.ofString "" := cat_c
  have hok : DtOk (.three N sa none) := ⟨strOk_ok hS.1, fun c e => by cases e⟩
  repeat' (first | (with_reducible refine hQ0 _ _ ?_; (try dsimp only)) | (k_here; (with_reducible show wpAny _ _ (spliced _) _ _ _); k_dflt ((rename Fr _ _ _ _ => F'); (first | refine' args3 ?_ ?_ ?_ ?_ | refine' args5 ?_ ?_ ?_ ?_ ?_ ?_ | refine' args4 ?_ ?_ ?_ ?_ ?_ | refine' args6 ?_ ?_ ?_ ?_ ?_ ?_ ?_ | refine' args2 ?_ ?_ ?_ | refine' args1 ?_ ?_); (any_goals (first | exact atom_str | exact atom_int | exact atom_none | exact atom_local F' (by (repeat (refine (if_neg (by decide +kernel)).trans ?_)); first | exact if_pos rfl | (show LookIs _ _ _; with_reducible assumption)) rfl rfl rfl (by decide))); (fail_if_success (any_goals (with_reducible show AtomE _ _ _ _ _ _ _))); intros; (try dsimp only))) | (k_here; (with_reducible show wpAny _ _ (compareOp CmpOp.NotEq (Value.str _ _) (Value.str _ _)) _ _ _); k_dflt (first | refine ne_front (by with_reducible assumption) ?_ | refine ne_same (by with_reducible assumption) ?_); (try dsimp only)) | (k_here; (with_reducible show wpAny _ _ (call (Value.ref 142) [Value.int _ _, Value.int _ _]) _ _ _); k_dflt (refine' digits_call (by with_reducible assumption) ?k1 ?k2 ?k3 ?k4 ?k5 ?k6 ?k7 ?k8 ?k9 ?_; (case k1 => k_asm); (case k2 => k_asm); (case k3 => k_asm); (case k4 => k_asm); (case k5 => k_asm); (case k6 => exact rfl); (case k7 => exact rfl); (case k8 => first | ktr_room | decide); (case k9 => first | ktr_units | decide); intro v' n' h' t' F' N' r'; obtain ⟨hn', t', hv'⟩ := r'; subst hv' hn'; (simp only [List.nil_append] at N'); (try k_sweep); (try dsimp only))) | (k_here; (with_reducible show wpAny _ _ (call (Value.ref 107) [Value.str _ _, Value.int _ _, Value.str _ _, Value.str _ _, Value.str _ _, Value.int _ _]) _ _ _); k_dflt (refine' mc3_some (by with_reducible assumption) (by with_reducible assumption) ?h1 ?h2 ?h3 ?h4 ?h5 ?k1 ?k2 ?k3 ?k4 ?k5 ?k6 ?k7 ?k8 ?k9 ?_; (case h1 => omega); (case h2 => omega); (case h3 => omega); (case h4 => omega); (case h5 => omega); (case k1 => k_asm); (case k2 => k_asm); (case k3 => k_asm); (case k4 => k_asm); (case k5 => k_asm); (case k6 => exact rfl); (case k7 => exact rfl); (case k8 => first | ktr_room | decide); (case k9 => first | ktr_units | decide); intro v' n' h' t' F' N' r'; obtain ⟨hn', t', hv'⟩ := r'; subst hv' hn'; (simp only [List.nil_append] at N'); (try k_sweep); (try dsimp only))) | (k_here; (with_reducible show wpAny _ _ (call (Value.ref 107) [Value.str _ _, Value.int _ _, Value.str _ _, Value.none, Value.str _ _, Value.int _ _]) _ _ _); k_dflt (refine' mc3_none (by with_reducible assumption) (by with_reducible assumption) ?h1 ?h2 ?h3 ?k1 ?k2 ?k3 ?k4 ?k5 ?k6 ?k7 ?k8 ?k9 ?_; (case h1 => omega); (case h2 => omega); (case h3 => omega); (case k1 => k_asm); (case k2 => k_asm); (case k3 => k_asm); (case k4 => k_asm); (case k5 => k_asm); (case k6 => exact rfl); (case k7 => exact rfl); (case k8 => first | ktr_room | decide); (case k9 => first | ktr_units | decide); intro v' n' h' t' F' N' r'; obtain ⟨hn', t', hv'⟩ := r'; subst hv' hn'; (simp only [List.nil_append] at N'); (try k_sweep); (try dsimp only))) | (k_here; (with_reducible show wpAny _ _ (compareOp CmpOp.NotEq _ (Value.ref _)) _ _ _); k_dflt ((rename News _ _ _ _ => N'); refine' ne_dt N' ?nd1 ?nd2 ?nd3 ?nd4 ?_; (case nd1 => exact DtIn.mono (by with_reducible assumption) (fun p hp => .tail _ (List.mem_append_left _ hp))); (case nd2 => first | exact ⟨_, _, _, rfl, .head _, rfl⟩ | exact ⟨_, _, _, rfl, .head _, ⟨_, rfl⟩⟩ | exact ⟨_, _, _, _, rfl, .head _, rfl⟩ | exact ⟨_, _, _, _, rfl, .head _, ⟨_, rfl⟩⟩); (case nd3 => with_reducible assumption); (case nd4 => first | ktr_units | decide); (replace N' := news_right2 N'); (try dsimp only))) | (k_here; (with_reducible show wpAny _ _ (eval (Expr.Name _ _) (envOfC _ _ _ _ _)) _ _ _); k_dflt ((rename Fr _ _ _ _ => F'); refine' ldL F' ?lq1 ?_ ?lq2 ?lq3 ?lq4; (case lq3 => rfl); (case lq1 => (repeat (refine (if_neg (by decide +kernel)).trans ?_)); first | exact if_pos rfl | (show LookIs _ _ _; with_reducible assumption)); (case lq2 => rfl); (case lq4 => decide); (try dsimp only))) | (k_here; (with_reducible show wpAny _ _ (loadName (envOfC _ _ _ _ _) _) _ _ _); k_dflt ((rename Fr _ _ _ _ => F'); refine' ldLn F' ?lq1 ?_ ?lq2 ?lq3; (case lq3 => rfl); (case lq1 => (repeat (refine (if_neg (by decide +kernel)).trans ?_)); first | exact if_pos rfl | (show LookIs _ _ _; with_reducible assumption)); (case lq2 => rfl); (try dsimp only))) | (k_here; (with_reducible show if (_ == _) = true then _ else _); k_dflt (first | (refine' Mine.ieq_no ?k1 ?_; (case k1 => omega)) | (refine' Mine.ieq_yes ?k1 ?_; (case k1 => omega)))) | ((with_reducible show wpC _ _ _ _ _ _); plain_pass; first | (k_here; (with_reducible show wpC _ _ (execs (_ :: _) _) _ _ _); k_dflt refine wpC_execs_cons ?_) | (k_here; (with_reducible show wpC _ _ (execs [] _) _ _ _); k_dflt refine wpC_execs_nil ?_) | (k_here; (with_reducible show wpC _ _ (exec (Stmt.If _ _ _ _) _) _ _ _); k_dflt refine wpC_If ?_) | (k_here; (with_reducible show wpC _ _ (isTrue (Expr.BoolOp BoolOp.Or (_ :: _) _) _ _) _ _ _); k_dflt refine wpC_isTrue_or ?_) | (k_here; (with_reducible show wpC _ _ (isTrue (Expr.BoolOp BoolOp.Or [] _) _ _) _ _ _); k_dflt refine wpC_isTrue_or_nil ?_) | (k_here; (with_reducible show wpC _ _ (isTrue (Expr.BoolOp BoolOp.And (_ :: _) _) _ _) _ _ _); k_dflt refine wpC_isTrue_and ?_) | (k_here; (with_reducible show wpC _ _ (isTrue (Expr.BoolOp BoolOp.And [] _) _ _) _ _ _); k_dflt refine wpC_isTrue_and_nil ?_) | (k_here; (with_reducible show wpC _ _ (isTrue (Expr.Compare _ [_] [_] _) _ _) _ _ _); k_dflt refine wpC_isTrue_Compare1 ?_) | (k_here; (with_reducible show wpC _ _ (eval (Expr.Call (Expr.Name _ _) _ [] _) _) _ _ _); k_dflt refine wpC_Call_Name rfl ?_) | (k_here; (with_reducible show wpC _ _ (callWith _ (Value.ref _) _ _ _) _ _ _); k_dflt (refine' wpC_callWith_K (K := Mine.hd.heap_39 _) ?k1 ?_; (case k1 => k_is))) | (k_here; (with_reducible show wpC _ _ (call (Value.ref 135) _) _ _ _); k_dflt (refine wpC_of_any ?_)) | (k_here; (with_reducible show wpC _ _ (call (Value.ref 149) _) _ _ _); k_dflt (refine wpC_of_any ?_)) | (k_here; (with_reducible show wpC _ _ (call (Value.ref 156) [_, _, _, _, _]) _ _ _); k_dflt (refine' three_text ?tu ?tg ?tf ?tm ?t0 ?tb ?tv ?tp ?k1 ?k2 ?k3 ?k4 ?k5 ?k6 ?k7 ?k8 ?k9 ?_; (case tu => first | exact uni_str | exact uni_bytes (by with_reducible assumption) (by omega)); (case tg => omega); (case tf => omega); (case tm => omega); (case t0 => omega); (case tb => with_reducible assumption); (case tv => first | (with_reducible assumption) | exact dv_five | exact dv_thousand); (case tp => with_reducible assumption); (case k1 => k_asm); (case k2 => k_asm); (case k3 => k_asm); (case k4 => k_asm); (case k5 => k_asm); (case k6 => exact rfl); (case k7 => exact rfl); (case k8 => first | ktr_room | decide); (case k9 => first | ktr_units | decide); intro v' n' h' t' F' N' r'; (rename (specThree _ _ _ _ _ = _) => hsp'); rw [hsp'] at r'; (try k_sweep); (try dsimp only))) | (k_here; (with_reducible show wpC _ _ (call (Value.ref 163) [_, _, _]) _ _ _); k_dflt (refine' one_text ?tu ?tg ?tb ?tv ?k1 ?k2 ?k3 ?k4 ?k5 ?k6 ?k7 ?k8 ?k9 ?_; (case tu => with_reducible assumption); (case tg => omega); (case tb => with_reducible assumption); (case tv => with_reducible assumption); (case k1 => k_asm); (case k2 => k_asm); (case k3 => k_asm); (case k4 => k_asm); (case k5 => k_asm); (case k6 => exact rfl); (case k7 => exact rfl); (case k8 => first | ktr_room | decide); (case k9 => first | ktr_units | decide); intro v' n' h' t' F' N' r'; (try k_sweep); (try dsimp only))) | ((fail_if_success (with_reducible show wpC _ _ (callWith _ _ _ _ _) _ _ _)); (fail_if_success (with_reducible show wpC _ _ (call _ _) _ _ _)); k_dflt (refine wpC_of_any ?_))) | ((with_reducible show wpC _ _ _ _ _ _); plain_pass; first | (k_here; (with_reducible show wpC _ _ (execs (_ :: _) _) _ _ _); k_dflt refine wpC_execs_cons ?_) | (k_here; (with_reducible show wpC _ _ (execs [] _) _ _ _); k_dflt refine wpC_execs_nil ?_) | (k_dflt (refine wpC_of_any ?_))) | (k_unfold; (try dsimp only)) | (k_end; wrow_close) | walk1 | dsimp only | (leave1; (try dsimp only)))
  all_goals first
    | (rename Fr _ _ _ _ => F'; rename News _ _ _ _ => N'; refine AtS.mk F' N' ⟨?_, sub_self⟩; (repeat (refine KeptBut.set ?_ (by decide +kernel))); exact KeptBut.refl)
set_option maxRecDepth 100000 in
set_option maxHeartbeats 2000000 in
theorem seg30s {w : World} {p : Program} {loose : List Str} {mean : ExcName → Option Value} {mg mb : Str → Option Value} {s₁ : Shared} {h₁ : Heap} {L fa : Addr} {cd : Value} {tk : Nat} {E : Value → Shared → Prop} {m : Str → Option Value} {news : List (Addr × Obj)} {fr mk sa c : Str} {tf tm ts tb tn tc : Tok} {b N : Nat} {dfv : Value} {dflt : Option Int}
  (K0 : Below callerA s₁.heap [] s₁.heap) (KX : (hd.heap_39 w.params).In s₁.heap) (T : Top p loose mean mg mb s₁.heap) (F' : Fr s₁.heap L h₁ m) (N' : News s₁.heap L h₁ news) (hfr : LookIs m (Str.ofString "front") (.str fr tf)) (hmk : LookIs m (Str.ofString "mark") (.str mk tm)) (hsa : LookIs m (Str.ofString "salt") (.str sa ts)) (hck : LookIs m (Str.ofString "checksum") (.str c tc)) (hba : LookIs m (Str.ofString "base") (.int (b : Int) tb)) (hde : LookIs m (Str.ofString "default") dfv) (hct : LookIs m (Str.ofString "count") (.int (N : Int) tn)) (hM : MarkIs mk) (hF : FrontIs fr) (hS : FieldIs sa) (hb : b = 10 ∨ b = 16) (hdv : DvIs dfv dflt) (hN : N < 10 ^ 30) (hC : FieldIs c) (hc1 : 1 ≤ c.length) :
   wpC (model PySem.Challenge.pw_iw0004_01 w) (callerA.deeper (lawEnv L fa cd)) (execs (lawPart 30 3) (lawEnv L fa cd)) (fun f s' => f = .next ∧ AtS s₁ s₁.heap L (fun m' n' => KeptBut [Str.ofString "written"] m m' ∧ ∀ e ∈ news, e ∈ n') s') E { s₁ with heap := h₁, toks := tk } := by
  refine wpC_absQ ?_
  intro Q0 hQ0
  refine' lit_C ?le1 ?le2 ?_
  case le1 => (dsimp only [lawPart, lawBody, PySem.Challenge.pw_iw0004_01, List.getLast?, List.getLast, List.drop, List.take] <;> exact rfl)
  case le2 => (dsimp only [lawScope, PySem.Challenge.pw_iw0004_01, List.getLast?, List.getLast] <;> exact rfl)
  have hf6 := front_len hF
  have hm2 := (mark_len hM).2
  have hm1 := (mark_len hM).1
  have hs6 := hS.2
  have hdl := dig_len hb hN
  have hDig : DigOn b N := ⟨hb, hN⟩
  have hc6 := hC.2
  have hsp := dt_three1 (fr := fr) (N := N) (dflt := dflt) hM hS.1 hC.1 hc1 hb
  have hop := op_three1 (fr := fr) (N := N) hM hS.1 hC.1 hb
  have hcl : (cat [fr, digS b N, mk, sa, mk, c]).length = fr.length + ((digS b N).length + (mk.length + (sa.length + (mk.length + (c.length + 0))))) := cat_len _
  have hca : cat [fr, digS b N, mk, sa, mk, c] = fr ++ digS b N ++ mk ++ sa ++ (mk ++ c) := cat_d
  have hok : DtOk (.three N sa (some c)) := ⟨strOk_ok hS.1, fun c' e => by cases e; exact strOk_ok hC.1⟩
  repeat' (first | (with_reducible refine hQ0 _ _ ?_; (try dsimp only)) | (k_here; (with_reducible show wpAny _ _ (spliced _) _ _ _); k_dflt ((rename Fr _ _ _ _ => F'); (first | refine' args3 ?_ ?_ ?_ ?_ | refine' args5 ?_ ?_ ?_ ?_ ?_ ?_ | refine' args4 ?_ ?_ ?_ ?_ ?_ | refine' args6 ?_ ?_ ?_ ?_ ?_ ?_ ?_ | refine' args2 ?_ ?_ ?_ | refine' args1 ?_ ?_); (any_goals (first | exact atom_str | exact atom_int | exact atom_none | exact atom_local F' (by (repeat (refine (if_neg (by decide +kernel)).trans ?_)); first | exact if_pos rfl | (show LookIs _ _ _; with_reducible assumption)) rfl rfl rfl (by decide))); (fail_if_success (any_goals (with_reducible show AtomE _ _ _ _ _ _ _))); intros; (try dsimp only))) | (k_here; (with_reducible show wpAny _ _ (compareOp CmpOp.NotEq (Value.str _ _) (Value.str _ _)) _ _ _); k_dflt (first | refine ne_front (by with_reducible assumption) ?_ | refine ne_same (by with_reducible assumption) ?_); (try dsimp only)) | (k_here; (with_reducible show wpAny _ _ (call (Value.ref 142) [Value.int _ _, Value.int _ _]) _ _ _); k_dflt (refine' digits_call (by with_reducible assumption) ?k1 ?k2 ?k3 ?k4 ?k5 ?k6 ?k7 ?k8 ?k9 ?_; (case k1 => k_asm); (case k2 => k_asm); (case k3 => k_asm); (case k4 => k_asm); (case k5 => k_asm); (case k6 => exact rfl); (case k7 => exact rfl); (case k8 => first | ktr_room | decide); (case k9 => first | ktr_units | decide); intro v' n' h' t' F' N' r'; obtain ⟨hn', t', hv'⟩ := r'; subst hv' hn'; (simp only [List.nil_append] at N'); (try k_sweep); (try dsimp only))) | (k_here; (with_reducible show wpAny _ _ (call (Value.ref 107) [Value.str _ _, Value.int _ _, Value.str _ _, Value.str _ _, Value.str _ _, Value.int _ _]) _ _ _); k_dflt (refine' mc3_some (by with_reducible assumption) (by with_reducible assumption) ?h1 ?h2 ?h3 ?h4 ?h5 ?k1 ?k2 ?k3 ?k4 ?k5 ?k6 ?k7 ?k8 ?k9 ?_; (case h1 => omega); (case h2 => omega); (case h3 => omega); (case h4 => omega); (case h5 => omega); (case k1 => k_asm); (case k2 => k_asm); (case k3 => k_asm); (case k4 => k_asm); (case k5 => k_asm); (case k6 => exact rfl); (case k7 => exact rfl); (case k8 => first | ktr_room | decide); (case k9 => first | ktr_units | decide); intro v' n' h' t' F' N' r'; obtain ⟨hn', t', hv'⟩ := r'; subst hv' hn'; (simp only [List.nil_append] at N'); (try k_sweep); (try dsimp only))) | (k_here; (with_reducible show wpAny _ _ (call (Value.ref 107) [Value.str _ _, Value.int _ _, Value.str _ _, Value.none, Value.str _ _, Value.int _ _]) _ _ _); k_dflt (refine' mc3_none (by with_reducible assumption) (by with_reducible assumption) ?h1 ?h2 ?h3 ?k1 ?k2 ?k3 ?k4 ?k5 ?k6 ?k7 ?k8 ?k9 ?_; (case h1 => omega); (case h2 => omega); (case h3 => omega); (case k1 => k_asm); (case k2 => k_asm); (case k3 => k_asm); (case k4 => k_asm); (case k5 => k_asm); (case k6 => exact rfl); (case k7 => exact rfl); (case k8 => first | ktr_room | decide); (case k9 => first | ktr_units | decide); intro v' n' h' t' F' N' r'; obtain ⟨hn', t', hv'⟩ := r'; subst hv' hn'; (simp only [List.nil_append] at N'); (try k_sweep); (try dsimp only))) | (k_here; (with_reducible show wpAny _ _ (compareOp CmpOp.NotEq _ (Value.ref _)) _ _ _); k_dflt ((rename News _ _ _ _ => N'); refine' ne_dt N' ?nd1 ?nd2 ?nd3 ?nd4 ?_; (case nd1 => exact DtIn.mono (by with_reducible assumption) (fun p hp => .tail _ (List.mem_append_left _ hp))); (case nd2 => first | exact ⟨_, _, _, rfl, .head _, rfl⟩ | exact ⟨_, _, _, rfl, .head _, ⟨_, rfl⟩⟩ | exact ⟨_, _, _, _, rfl, .head _, rfl⟩ | exact ⟨_, _, _, _, rfl, .head _, ⟨_, rfl⟩⟩); (case nd3 => with_reducible assumption); (case nd4 => first | ktr_units | decide); (replace N' := news_right2 N'); (try dsimp only))) | (k_here; (with_reducible show wpAny _ _ (eval (Expr.Name _ _) (envOfC _ _ _ _ _)) _ _ _); k_dflt ((rename Fr _ _ _ _ => F'); refine' ldL F' ?lq1 ?_ ?lq2 ?lq3 ?lq4; (case lq3 => rfl); (case lq1 => (repeat (refine (if_neg (by decide +kernel)).trans ?_)); first | exact if_pos rfl | (show LookIs _ _ _; with_reducible assumption)); (case lq2 => rfl); (case lq4 => decide); (try dsimp only))) | (k_here; (with_reducible show wpAny _ _ (loadName (envOfC _ _ _ _ _) _) _ _ _); k_dflt ((rename Fr _ _ _ _ => F'); refine' ldLn F' ?lq1 ?_ ?lq2 ?lq3; (case lq3 => rfl); (case lq1 => (repeat (refine (if_neg (by decide +kernel)).trans ?_)); first | exact if_pos rfl | (show LookIs _ _ _; with_reducible assumption)); (case lq2 => rfl); (try dsimp only))) | (k_here; (with_reducible show if (_ == _) = true then _ else _); k_dflt (first | (refine' Mine.ieq_no ?k1 ?_; (case k1 => omega)) | (refine' Mine.ieq_yes ?k1 ?_; (case k1 => omega)))) | ((with_reducible show wpC _ _ _ _ _ _); plain_pass; first | (k_here; (with_reducible show wpC _ _ (execs (_ :: _) _) _ _ _); k_dflt refine wpC_execs_cons ?_) | (k_here; (with_reducible show wpC _ _ (execs [] _) _ _ _); k_dflt refine wpC_execs_nil ?_) | (k_here; (with_reducible show wpC _ _ (exec (Stmt.If _ _ _ _) _) _ _ _); k_dflt refine wpC_If ?_) | (k_here; (with_reducible show wpC _ _ (isTrue (Expr.BoolOp BoolOp.Or (_ :: _) _) _ _) _ _ _); k_dflt refine wpC_isTrue_or ?_) | (k_here; (with_reducible show wpC _ _ (isTrue (Expr.BoolOp BoolOp.Or [] _) _ _) _ _ _); k_dflt refine wpC_isTrue_or_nil ?_) | (k_here; (with_reducible show wpC _ _ (isTrue (Expr.BoolOp BoolOp.And (_ :: _) _) _ _) _ _ _); k_dflt refine wpC_isTrue_and ?_) | (k_here; (with_reducible show wpC _ _ (isTrue (Expr.BoolOp BoolOp.And [] _) _ _) _ _ _); k_dflt refine wpC_isTrue_and_nil ?_) | (k_here; (with_reducible show wpC _ _ (isTrue (Expr.Compare _ [_] [_] _) _ _) _ _ _); k_dflt refine wpC_isTrue_Compare1 ?_) | (k_here; (with_reducible show wpC _ _ (eval (Expr.Call (Expr.Name _ _) _ [] _) _) _ _ _); k_dflt refine wpC_Call_Name rfl ?_) | (k_here; (with_reducible show wpC _ _ (callWith _ (Value.ref _) _ _ _) _ _ _); k_dflt (refine' wpC_callWith_K (K := Mine.hd.heap_39 _) ?k1 ?_; (case k1 => k_is))) | (k_here; (with_reducible show wpC _ _ (call (Value.ref 135) _) _ _ _); k_dflt (refine wpC_of_any ?_)) | (k_here; (with_reducible show wpC _ _ (call (Value.ref 149) _) _ _ _); k_dflt (refine wpC_of_any ?_)) | (k_here; (with_reducible show wpC _ _ (call (Value.ref 156) [_, _, _, _, _]) _ _ _); k_dflt (refine' three_text ?tu ?tg ?tf ?tm ?t0 ?tb ?tv ?tp ?k1 ?k2 ?k3 ?k4 ?k5 ?k6 ?k7 ?k8 ?k9 ?_; (case tu => first | exact uni_str | exact uni_bytes (by with_reducible assumption) (by omega)); (case tg => omega); (case tf => omega); (case tm => omega); (case t0 => omega); (case tb => with_reducible assumption); (case tv => first | (with_reducible assumption) | exact dv_five | exact dv_thousand); (case tp => with_reducible assumption); (case k1 => k_asm); (case k2 => k_asm); (case k3 => k_asm); (case k4 => k_asm); (case k5 => k_asm); (case k6 => exact rfl); (case k7 => exact rfl); (case k8 => first | ktr_room | decide); (case k9 => first | ktr_units | decide); intro v' n' h' t' F' N' r'; (rename (specThree _ _ _ _ _ = _) => hsp'); rw [hsp'] at r'; (try k_sweep); (try dsimp only))) | (k_here; (with_reducible show wpC _ _ (call (Value.ref 163) [_, _, _]) _ _ _); k_dflt (refine' one_text ?tu ?tg ?tb ?tv ?k1 ?k2 ?k3 ?k4 ?k5 ?k6 ?k7 ?k8 ?k9 ?_; (case tu => with_reducible assumption); (case tg => omega); (case tb => with_reducible assumption); (case tv => with_reducible assumption); (case k1 => k_asm); (case k2 => k_asm); (case k3 => k_asm); (case k4 => k_asm); (case k5 => k_asm); (case k6 => exact rfl); (case k7 => exact rfl); (case k8 => first | ktr_room | decide); (case k9 => first | ktr_units | decide); intro v' n' h' t' F' N' r'; (try k_sweep); (try dsimp only))) | ((fail_if_success (with_reducible show wpC _ _ (callWith _ _ _ _ _) _ _ _)); (fail_if_success (with_reducible show wpC _ _ (call _ _) _ _ _)); k_dflt (refine wpC_of_any ?_))) | ((with_reducible show wpC _ _ _ _ _ _); plain_pass; first | (k_here; (with_reducible show wpC _ _ (execs (_ :: _) _) _ _ _); k_dflt refine wpC_execs_cons ?_) | (k_here; (with_reducible show wpC _ _ (execs [] _) _ _ _); k_dflt refine wpC_execs_nil ?_) | (k_dflt (refine wpC_of_any ?_))) | (k_unfold; (try dsimp only)) | (k_end; wrow_close) | walk1 | dsimp only | (leave1; (try dsimp only)))
  all_goals first
    | (rename Fr _ _ _ _ => F'; rename News _ _ _ _ => N'; refine AtS.mk F' N' ⟨?_, sub_self⟩; (repeat (refine KeptBut.set ?_ (by decide +kernel))); exact KeptBut.refl)
end Mine
end
-- S33
section
open PySem PySem.W PyProof.Rows PySem.Calls PySem.Spec
namespace Mine
set_option maxRecDepth 100000 in
set_option maxHeartbeats 2000000 in
theorem seg33 {w : World} {p : Program} {loose : List Str} {mean : ExcName → Option Value} {mg mb : Str → Option Value} {s₁ : Shared} {h₁ : Heap} {L fa : Addr} {cd : Value} {tk : Nat} {E : Value → Shared → Prop} {m : Str → Option Value} {news : List (Addr × Obj)} {fr mk sa : Str} {tf tm ts : Tok}
  (K0 : Below callerA s₁.heap [] s₁.heap) (KX : (hd.heap_39 w.params).In s₁.heap) (T : Top p loose mean mg mb s₁.heap) (F' : Fr s₁.heap L h₁ m) (N' : News s₁.heap L h₁ news) (hfr : LookIs m (Str.ofString "front") (.str fr tf)) (hmk : LookIs m (Str.ofString "mark") (.str mk tm)) (hsa : LookIs m (Str.ofString "salt") (.str sa ts)) (hM : MarkIs mk) (hF : FrontIs fr) (hS : FieldIs sa) :
   wpC (model PySem.Challenge.pw_iw0004_01 w) (callerA.deeper (lawEnv L fa cd)) (execs (lawPart 33 1) (lawEnv L fa cd)) (fun f s' => f = .next ∧ AtS s₁ s₁.heap L (fun m' n' => m' = m ∧ ∀ e ∈ news, e ∈ n') s') E { s₁ with heap := h₁, toks := tk } := by
  refine wpC_absQ ?_
  intro Q0 hQ0
  refine' lit_C ?le1 ?le2 ?_
  case le1 => (dsimp only [lawPart, lawBody, PySem.Challenge.pw_iw0004_01, List.getLast?, List.getLast, List.drop, List.take] <;> exact rfl)
  case le2 => (dsimp only [lawScope, PySem.Challenge.pw_iw0004_01, List.getLast?, List.getLast] <;> exact rfl)
  have hf6 := front_len hF
  have hm2 := (mark_len hM).2
  have hm1 := (mark_len hM).1
  have hs6 := hS.2
  have hca : cat [fr, sa] = fr ++ sa := cat_a0
  have hcb : cat [fr, Str.ofString "", mk, sa] = fr ++ mk ++ sa := cat_e0
  repeat' (first | (with_reducible refine hQ0 _ _ ?_; (try dsimp only)) | (k_here; (with_reducible show wpAny _ _ (spliced _) _ _ _); k_dflt ((rename Fr _ _ _ _ => F'); (first | refine' args3 ?_ ?_ ?_ ?_ | refine' args5 ?_ ?_ ?_ ?_ ?_ ?_ | refine' args4 ?_ ?_ ?_ ?_ ?_ | refine' args6 ?_ ?_ ?_ ?_ ?_ ?_ ?_ | refine' args2 ?_ ?_ ?_ | refine' args1 ?_ ?_); (any_goals (first | exact atom_str | exact atom_int | exact atom_none | exact atom_local F' (by (repeat (refine (if_neg (by decide +kernel)).trans ?_)); first | exact if_pos rfl | (show LookIs _ _ _; with_reducible assumption)) rfl rfl rfl (by decide))); (fail_if_success (any_goals (with_reducible show AtomE _ _ _ _ _ _ _))); intros; (try dsimp only))) | (k_here; (with_reducible show wpAny _ _ (compareOp CmpOp.NotEq (Value.str _ _) (Value.str _ _)) _ _ _); k_dflt (first | refine ne_front (by with_reducible assumption) ?_ | refine ne_same (by with_reducible assumption) ?_); (try dsimp only)) | (k_here; (with_reducible show wpAny _ _ (call (Value.ref 107) [Value.str _ _, Value.none, Value.str _ _, Value.str _ _, Value.str _ _, Value.int _ _]) _ _ _); k_dflt (refine' mc3n_some (t6 := 0) ?h1 ?h2 ?h3 ?h4 ?h5 ?k1 ?k2 ?k3 ?k4 ?k5 ?k6 ?k7 ?k8 ?k9 ?_; (case h1 => omega); (case h2 => omega); (case h3 => omega); (case h4 => omega); (case h5 => omega); (case k1 => k_asm); (case k2 => k_asm); (case k3 => k_asm); (case k4 => k_asm); (case k5 => k_asm); (case k6 => exact rfl); (case k7 => exact rfl); (case k8 => first | ktr_room | decide); (case k9 => first | ktr_units | decide); intro v' n' h' t' F' N' r'; obtain ⟨hn', t', hv'⟩ := r'; subst hv' hn'; (simp only [List.nil_append] at N'); (try k_sweep); (try dsimp only))) | (k_here; (with_reducible show wpAny _ _ (call (Value.ref 107) [Value.str _ _, Value.none, Value.str _ _, Value.none, Value.str _ _, Value.int _ _]) _ _ _); k_dflt (refine' mc3n_none (c := Str.ofString "") (t4 := 0) (t6 := 0) ?h1 ?h2 ?h3 (by decide) ?k1 ?k2 ?k3 ?k4 ?k5 ?k6 ?k7 ?k8 ?k9 ?_; (case h1 => omega); (case h2 => omega); (case h3 => omega); (case k1 => k_asm); (case k2 => k_asm); (case k3 => k_asm); (case k4 => k_asm); (case k5 => k_asm); (case k6 => exact rfl); (case k7 => exact rfl); (case k8 => first | ktr_room | decide); (case k9 => first | ktr_units | decide); intro v' n' h' t' F' N' r'; obtain ⟨hn', t', hv'⟩ := r'; subst hv' hn'; (simp only [List.nil_append] at N'); (try k_sweep); (try dsimp only))) | (k_here; (with_reducible show wpAny _ _ (call (Value.ref 107) [Value.str _ _, Value.none, Value.str _ _, Value.str _ _, Value.str _ _]) _ _ _); k_dflt (refine' mc3n_zero4 (b := 0) (t5 := 0) (t6 := 0) ?h1 ?h2 ?h3 (by decide) (by decide) ?k1 ?k2 ?k3 ?k4 ?k5 ?k6 ?k7 ?k8 ?k9 ?_; (case h1 => omega); (case h2 => omega); (case h3 => omega); (case k1 => k_asm); (case k2 => k_asm); (case k3 => k_asm); (case k4 => k_asm); (case k5 => k_asm); (case k6 => exact rfl); (case k7 => exact rfl); (case k8 => first | ktr_room | decide); (case k9 => first | ktr_units | decide); intro v' n' h' t' F' N' r'; obtain ⟨hn', t', hv'⟩ := r'; subst hv' hn'; (simp only [List.nil_append] at N'); (try k_sweep); (try dsimp only))) | (k_here; (with_reducible show wpAny _ _ (call (Value.ref 99) [Value.str _ _, Value.str _ _, Value.str _ _, Value.str _ _]) _ _ _); k_dflt (refine' mc2_zero (t5 := 0) (t6 := 0) ?h1 ?h2 ?h3 (by decide) (by decide) ?k1 ?k2 ?k3 ?k4 ?k5 ?k6 ?k7 ?k8 ?k9 ?_; (case h1 => omega); (case h2 => omega); (case h3 => omega); (case k1 => k_asm); (case k2 => k_asm); (case k3 => k_asm); (case k4 => k_asm); (case k5 => k_asm); (case k6 => exact rfl); (case k7 => exact rfl); (case k8 => first | ktr_room | decide); (case k9 => first | ktr_units | decide); intro v' n' h' t' F' N' r'; obtain ⟨hn', t', hv'⟩ := r'; subst hv' hn'; (simp only [List.nil_append] at N'); (try k_sweep); (try dsimp only))) | (k_here; (with_reducible show wpAny _ _ (eval (Expr.Name _ _) (envOfC _ _ _ _ _)) _ _ _); k_dflt ((rename Fr _ _ _ _ => F'); refine' ldL F' ?lq1 ?_ ?lq2 ?lq3 ?lq4; (case lq3 => rfl); (case lq1 => (repeat (refine (if_neg (by decide +kernel)).trans ?_)); first | exact if_pos rfl | (show LookIs _ _ _; with_reducible assumption)); (case lq2 => rfl); (case lq4 => decide); (try dsimp only))) | (k_here; (with_reducible show wpAny _ _ (loadName (envOfC _ _ _ _ _) _) _ _ _); k_dflt ((rename Fr _ _ _ _ => F'); refine' ldLn F' ?lq1 ?_ ?lq2 ?lq3; (case lq3 => rfl); (case lq1 => (repeat (refine (if_neg (by decide +kernel)).trans ?_)); first | exact if_pos rfl | (show LookIs _ _ _; with_reducible assumption)); (case lq2 => rfl); (try dsimp only))) | (k_here; (with_reducible show if (_ == _) = true then _ else _); k_dflt (first | (refine' Mine.ieq_no ?k1 ?_; (case k1 => omega)) | (refine' Mine.ieq_yes ?k1 ?_; (case k1 => omega)))) | ((with_reducible show wpC _ _ _ _ _ _); plain_pass; first | (k_here; (with_reducible show wpC _ _ (execs (_ :: _) _) _ _ _); k_dflt refine wpC_execs_cons ?_) | (k_here; (with_reducible show wpC _ _ (execs [] _) _ _ _); k_dflt refine wpC_execs_nil ?_) | (k_dflt (refine wpC_of_any ?_))) | (k_unfold; (try dsimp only)) | (k_end; wrow_close) | walk1 | dsimp only | (leave1; (try dsimp only)))
  all_goals first
    | (rename Fr _ _ _ _ => F'; rename News _ _ _ _ => N'; exact AtS.mk F' N' ⟨rfl, sub_self⟩)
set_option maxRecDepth 100000 in
set_option maxHeartbeats 2000000 in
theorem seg34n {w : World} {p : Program} {loose : List Str} {mean : ExcName → Option Value} {mg mb : Str → Option Value} {s₁ : Shared} {h₁ : Heap} {L fa : Addr} {cd : Value} {tk : Nat} {E : Value → Shared → Prop} {m : Str → Option Value} {news : List (Addr × Obj)} {fr mk sa : Str} {tf tm ts tb : Tok} {b : Nat}
  (K0 : Below callerA s₁.heap [] s₁.heap) (KX : (hd.heap_39 w.params).In s₁.heap) (T : Top p loose mean mg mb s₁.heap) (F' : Fr s₁.heap L h₁ m) (N' : News s₁.heap L h₁ news) (hfr : LookIs m (Str.ofString "front") (.str fr tf)) (hmk : LookIs m (Str.ofString "mark") (.str mk tm)) (hsa : LookIs m (Str.ofString "salt") (.str sa ts)) (hM : MarkIs mk) (hF : FrontIs fr) (hS : FieldIs sa) (hck : LookIs m (Str.ofString "checksum") .none) (hba : LookIs m (Str.ofString "base") (.int (b : Int) tb)) :
   wpC (model PySem.Challenge.pw_iw0004_01 w) (callerA.deeper (lawEnv L fa cd)) (execs (lawPart 34 2) (lawEnv L fa cd)) (fun f s' => f = .next ∧ AtS s₁ s₁.heap L (fun m' n' => KeptBut [Str.ofString "written"] m m' ∧ (∃ t, LookIs m' (Str.ofString "written") (.str (cat [fr, Str.ofString "", mk, sa]) t)) ∧ ∀ e ∈ news, e ∈ n') s') E { s₁ with heap := h₁, toks := tk } := by
  refine wpC_absQ ?_
  intro Q0 hQ0
  refine' lit_C ?le1 ?le2 ?_
  case le1 => (dsimp only [lawPart, lawBody, PySem.Challenge.pw_iw0004_01, List.getLast?, List.getLast, List.drop, List.take] <;> exact rfl)
  case le2 => (dsimp only [lawScope, PySem.Challenge.pw_iw0004_01, List.getLast?, List.getLast] <;> exact rfl)
  have hf6 := front_len hF
  have hm2 := (mark_len hM).2
  have hm1 := (mark_len hM).1
  have hs6 := hS.2
  have hca : cat [fr, Str.ofString "", mk, sa] = fr ++ mk ++ sa ++ Str.ofString "" := cat_e
  repeat' (first | (with_reducible refine hQ0 _ _ ?_; (try dsimp only)) | (k_here; (with_reducible show wpAny _ _ (spliced _) _ _ _); k_dflt ((rename Fr _ _ _ _ => F'); (first | refine' args3 ?_ ?_ ?_ ?_ | refine' args5 ?_ ?_ ?_ ?_ ?_ ?_ | refine' args4 ?_ ?_ ?_ ?_ ?_ | refine' args6 ?_ ?_ ?_ ?_ ?_ ?_ ?_ | refine' args2 ?_ ?_ ?_ | refine' args1 ?_ ?_); (any_goals (first | exact atom_str | exact atom_int | exact atom_none | exact atom_local F' (by (repeat (refine (if_neg (by decide +kernel)).trans ?_)); first | exact if_pos rfl | (show LookIs _ _ _; with_reducible assumption)) rfl rfl rfl (by decide))); (fail_if_success (any_goals (with_reducible show AtomE _ _ _ _ _ _ _))); intros; (try dsimp only))) | (k_here; (with_reducible show wpAny _ _ (compareOp CmpOp.NotEq (Value.str _ _) (Value.str _ _)) _ _ _); k_dflt (first | refine ne_front (by with_reducible assumption) ?_ | refine ne_same (by with_reducible assumption) ?_); (try dsimp only)) | (k_here; (with_reducible show wpAny _ _ (call (Value.ref 107) [Value.str _ _, Value.none, Value.str _ _, Value.str _ _, Value.str _ _, Value.int _ _]) _ _ _); k_dflt (refine' mc3n_some (t6 := 0) ?h1 ?h2 ?h3 ?h4 ?h5 ?k1 ?k2 ?k3 ?k4 ?k5 ?k6 ?k7 ?k8 ?k9 ?_; (case h1 => omega); (case h2 => omega); (case h3 => omega); (case h4 => omega); (case h5 => omega); (case k1 => k_asm); (case k2 => k_asm); (case k3 => k_asm); (case k4 => k_asm); (case k5 => k_asm); (case k6 => exact rfl); (case k7 => exact rfl); (case k8 => first | ktr_room | decide); (case k9 => first | ktr_units | decide); intro v' n' h' t' F' N' r'; obtain ⟨hn', t', hv'⟩ := r'; subst hv' hn'; (simp only [List.nil_append] at N'); (try k_sweep); (try dsimp only))) | (k_here; (with_reducible show wpAny _ _ (call (Value.ref 107) [Value.str _ _, Value.none, Value.str _ _, Value.none, Value.str _ _, Value.int _ _]) _ _ _); k_dflt (refine' mc3n_none (c := Str.ofString "") (t4 := 0) (t6 := 0) ?h1 ?h2 ?h3 (by decide) ?k1 ?k2 ?k3 ?k4 ?k5 ?k6 ?k7 ?k8 ?k9 ?_; (case h1 => omega); (case h2 => omega); (case h3 => omega); (case k1 => k_asm); (case k2 => k_asm); (case k3 => k_asm); (case k4 => k_asm); (case k5 => k_asm); (case k6 => exact rfl); (case k7 => exact rfl); (case k8 => first | ktr_room | decide); (case k9 => first | ktr_units | decide); intro v' n' h' t' F' N' r'; obtain ⟨hn', t', hv'⟩ := r'; subst hv' hn'; (simp only [List.nil_append] at N'); (try k_sweep); (try dsimp only))) | (k_here; (with_reducible show wpAny _ _ (call (Value.ref 107) [Value.str _ _, Value.none, Value.str _ _, Value.str _ _, Value.str _ _]) _ _ _); k_dflt (refine' mc3n_zero4 (b := 0) (t5 := 0) (t6 := 0) ?h1 ?h2 ?h3 (by decide) (by decide) ?k1 ?k2 ?k3 ?k4 ?k5 ?k6 ?k7 ?k8 ?k9 ?_; (case h1 => omega); (case h2 => omega); (case h3 => omega); (case k1 => k_asm); (case k2 => k_asm); (case k3 => k_asm); (case k4 => k_asm); (case k5 => k_asm); (case k6 => exact rfl); (case k7 => exact rfl); (case k8 => first | ktr_room | decide); (case k9 => first | ktr_units | decide); intro v' n' h' t' F' N' r'; obtain ⟨hn', t', hv'⟩ := r'; subst hv' hn'; (simp only [List.nil_append] at N'); (try k_sweep); (try dsimp only))) | (k_here; (with_reducible show wpAny _ _ (call (Value.ref 99) [Value.str _ _, Value.str _ _, Value.str _ _, Value.str _ _]) _ _ _); k_dflt (refine' mc2_zero (t5 := 0) (t6 := 0) ?h1 ?h2 ?h3 (by decide) (by decide) ?k1 ?k2 ?k3 ?k4 ?k5 ?k6 ?k7 ?k8 ?k9 ?_; (case h1 => omega); (case h2 => omega); (case h3 => omega); (case k1 => k_asm); (case k2 => k_asm); (case k3 => k_asm); (case k4 => k_asm); (case k5 => k_asm); (case k6 => exact rfl); (case k7 => exact rfl); (case k8 => first | ktr_room | decide); (case k9 => first | ktr_units | decide); intro v' n' h' t' F' N' r'; obtain ⟨hn', t', hv'⟩ := r'; subst hv' hn'; (simp only [List.nil_append] at N'); (try k_sweep); (try dsimp only))) | (k_here; (with_reducible show wpAny _ _ (eval (Expr.Name _ _) (envOfC _ _ _ _ _)) _ _ _); k_dflt ((rename Fr _ _ _ _ => F'); refine' ldL F' ?lq1 ?_ ?lq2 ?lq3 ?lq4; (case lq3 => rfl); (case lq1 => (repeat (refine (if_neg (by decide +kernel)).trans ?_)); first | exact if_pos rfl | (show LookIs _ _ _; with_reducible assumption)); (case lq2 => rfl); (case lq4 => decide); (try dsimp only))) | (k_here; (with_reducible show wpAny _ _ (loadName (envOfC _ _ _ _ _) _) _ _ _); k_dflt ((rename Fr _ _ _ _ => F'); refine' ldLn F' ?lq1 ?_ ?lq2 ?lq3; (case lq3 => rfl); (case lq1 => (repeat (refine (if_neg (by decide +kernel)).trans ?_)); first | exact if_pos rfl | (show LookIs _ _ _; with_reducible assumption)); (case lq2 => rfl); (try dsimp only))) | (k_here; (with_reducible show if (_ == _) = true then _ else _); k_dflt (first | (refine' Mine.ieq_no ?k1 ?_; (case k1 => omega)) | (refine' Mine.ieq_yes ?k1 ?_; (case k1 => omega)))) | ((with_reducible show wpC _ _ _ _ _ _); plain_pass; first | (k_here; (with_reducible show wpC _ _ (execs (_ :: _) _) _ _ _); k_dflt refine wpC_execs_cons ?_) | (k_here; (with_reducible show wpC _ _ (execs [] _) _ _ _); k_dflt refine wpC_execs_nil ?_) | (k_dflt (refine wpC_of_any ?_))) | (k_unfold; (try dsimp only)) | (k_end; wrow_close) | walk1 | dsimp only | (leave1; (try dsimp only)))
  all_goals first
    | (rename Fr _ _ _ _ => F'; rename News _ _ _ _ => N'; refine' AtS.mk F' N' ⟨?za, ⟨_, LookIs.hit⟩, sub_self⟩; (case za => (repeat (refine KeptBut.set ?_ (by decide +kernel))); exact KeptBut.refl))
set_option maxRecDepth 100000 in
set_option maxHeartbeats 2000000 in
theorem seg34s {w : World} {p : Program} {loose : List Str} {mean : ExcName → Option Value} {mg mb : Str → Option Value} {s₁ : Shared} {h₁ : Heap} {L fa : Addr} {cd : Value} {tk : Nat} {E : Value → Shared → Prop} {m : Str → Option Value} {news : List (Addr × Obj)} {fr mk sa c : Str} {tf tm ts tb tc : Tok} {b : Nat}
  (K0 : Below callerA s₁.heap [] s₁.heap) (KX : (hd.heap_39 w.params).In s₁.heap) (T : Top p loose mean mg mb s₁.heap) (F' : Fr s₁.heap L h₁ m) (N' : News s₁.heap L h₁ news) (hfr : LookIs m (Str.ofString "front") (.str fr tf)) (hmk : LookIs m (Str.ofString "mark") (.str mk tm)) (hsa : LookIs m (Str.ofString "salt") (.str sa ts)) (hM : MarkIs mk) (hF : FrontIs fr) (hS : FieldIs sa) (hck : LookIs m (Str.ofString "checksum") (.str c tc)) (hba : LookIs m (Str.ofString "base") (.int (b : Int) tb)) (hC : FieldIs c) (hc1 : 1 ≤ c.length) :
   wpC (model PySem.Challenge.pw_iw0004_01 w) (callerA.deeper (lawEnv L fa cd)) (execs (lawPart 34 2) (lawEnv L fa cd)) (fun f s' => f = .next ∧ AtS s₁ s₁.heap L (fun m' n' => KeptBut [Str.ofString "written"] m m' ∧ (∃ t, LookIs m' (Str.ofString "written") (.str (cat [fr, Str.ofString "", mk, sa, mk, c]) t)) ∧ ∀ e ∈ news, e ∈ n') s') E { s₁ with heap := h₁, toks := tk } := by
  refine wpC_absQ ?_
  intro Q0 hQ0
  refine' lit_C ?le1 ?le2 ?_
  case le1 => (dsimp only [lawPart, lawBody, PySem.Challenge.pw_iw0004_01, List.getLast?, List.getLast, List.drop, List.take] <;> exact rfl)
  case le2 => (dsimp only [lawScope, PySem.Challenge.pw_iw0004_01, List.getLast?, List.getLast] <;> exact rfl)
  have hf6 := front_len hF
  have hm2 := (mark_len hM).2
  have hm1 := (mark_len hM).1
  have hs6 := hS.2
  have hc6 := hC.2
  have hca : cat [fr, Str.ofString "", mk, sa, mk, c] = fr ++ mk ++ sa ++ (mk ++ c) := cat_f
  repeat' (first | (with_reducible refine hQ0 _ _ ?_; (try dsimp only)) | (k_here; (with_reducible show wpAny _ _ (spliced _) _ _ _); k_dflt ((rename Fr _ _ _ _ => F'); (first | refine' args3 ?_ ?_ ?_ ?_ | refine' args5 ?_ ?_ ?_ ?_ ?_ ?_ | refine' args4 ?_ ?_ ?_ ?_ ?_ | refine' args6 ?_ ?_ ?_ ?_ ?_ ?_ ?_ | refine' args2 ?_ ?_ ?_ | refine' args1 ?_ ?_); (any_goals (first | exact atom_str | exact atom_int | exact atom_none | exact atom_local F' (by (repeat (refine (if_neg (by decide +kernel)).trans ?_)); first | exact if_pos rfl | (show LookIs _ _ _; with_reducible assumption)) rfl rfl rfl (by decide))); (fail_if_success (any_goals (with_reducible show AtomE _ _ _ _ _ _ _))); intros; (try dsimp only))) | (k_here; (with_reducible show wpAny _ _ (compareOp CmpOp.NotEq (Value.str _ _) (Value.str _ _)) _ _ _); k_dflt (first | refine ne_front (by with_reducible assumption) ?_ | refine ne_same (by with_reducible assumption) ?_); (try dsimp only)) | (k_here; (with_reducible show wpAny _ _ (call (Value.ref 107) [Value.str _ _, Value.none, Value.str _ _, Value.str _ _, Value.str _ _, Value.int _ _]) _ _ _); k_dflt (refine' mc3n_some (t6 := 0) ?h1 ?h2 ?h3 ?h4 ?h5 ?k1 ?k2 ?k3 ?k4 ?k5 ?k6 ?k7 ?k8 ?k9 ?_; (case h1 => omega); (case h2 => omega); (case h3 => omega); (case h4 => omega); (case h5 => omega); (case k1 => k_asm); (case k2 => k_asm); (case k3 => k_asm); (case k4 => k_asm); (case k5 => k_asm); (case k6 => exact rfl); (case k7 => exact rfl); (case k8 => first | ktr_room | decide); (case k9 => first | ktr_units | decide); intro v' n' h' t' F' N' r'; obtain ⟨hn', t', hv'⟩ := r'; subst hv' hn'; (simp only [List.nil_append] at N'); (try k_sweep); (try dsimp only))) | (k_here; (with_reducible show wpAny _ _ (call (Value.ref 107) [Value.str _ _, Value.none, Value.str _ _, Value.none, Value.str _ _, Value.int _ _]) _ _ _); k_dflt (refine' mc3n_none (c := Str.ofString "") (t4 := 0) (t6 := 0) ?h1 ?h2 ?h3 (by decide) ?k1 ?k2 ?k3 ?k4 ?k5 ?k6 ?k7 ?k8 ?k9 ?_; (case h1 => omega); (case h2 => omega); (case h3 => omega); (case k1 => k_asm); (case k2 => k_asm); (case k3 => k_asm); (case k4 => k_asm); (case k5 => k_asm); (case k6 => exact rfl); (case k7 => exact rfl); (case k8 => first | ktr_room | decide); (case k9 => first | ktr_units | decide); intro v' n' h' t' F' N' r'; obtain ⟨hn', t', hv'⟩ := r'; subst hv' hn'; (simp only [List.nil_append] at N'); (try k_sweep); (try dsimp only))) | (k_here; (with_reducible show wpAny _ _ (call (Value.ref 107) [Value.str _ _, Value.none, Value.str _ _, Value.str _ _, Value.str _ _]) _ _ _); k_dflt (refine' mc3n_zero4 (b := 0) (t5 := 0) (t6 := 0) ?h1 ?h2 ?h3 (by decide) (by decide) ?k1 ?k2 ?k3 ?k4 ?k5 ?k6 ?k7 ?k8 ?k9 ?_; (case h1 => omega); (case h2 => omega); (case h3 => omega); (case k1 => k_asm); (case k2 => k_asm); (case k3 => k_asm); (case k4 => k_asm); (case k5 => k_asm); (case k6 => exact rfl); (case k7 => exact rfl); (case k8 => first | ktr_room | decide); (case k9 => first | ktr_units | decide); intro v' n' h' t' F' N' r'; obtain ⟨hn', t', hv'⟩ := r'; subst hv' hn'; (simp only [List.nil_append] at N'); (try k_sweep); (try dsimp only))) | (k_here; (with_reducible show wpAny _ _ (call (Value.ref 99) [Value.str _ _, Value.str _ _, Value.str _ _, Value.str _ _]) _ _ _); k_dflt (refine' mc2_zero (t5 := 0) (t6 := 0) ?h1 ?h2 ?h3 (by decide) (by decide) ?k1 ?k2 ?k3 ?k4 ?k5 ?k6 ?k7 ?k8 ?k9 ?_; (case h1 => omega); (case h2 => omega); (case h3 => omega); (case k1 => k_asm); (case k2 => k_asm); (case k3 => k_asm); (case k4 => k_asm); (case k5 => k_asm); (case k6 => exact rfl); (case k7 => exact rfl); (case k8 => first | ktr_room | decide); (case k9 => first | ktr_units | decide); intro v' n' h' t' F' N' r'; obtain ⟨hn', t', hv'⟩ := r'; subst hv' hn'; (simp only [List.nil_append] at N'); (try k_sweep); (try dsimp only))) | (k_here; (with_reducible show wpAny _ _ (eval (Expr.Name _ _) (envOfC _ _ _ _ _)) _ _ _); k_dflt ((rename Fr _ _ _ _ => F'); refine' ldL F' ?lq1 ?_ ?lq2 ?lq3 ?lq4; (case lq3 => rfl); (case lq1 => (repeat (refine (if_neg (by decide +kernel)).trans ?_)); first | exact if_pos rfl | (show LookIs _ _ _; with_reducible assumption)); (case lq2 => rfl); (case lq4 => decide); (try dsimp only))) | (k_here; (with_reducible show wpAny _ _ (loadName (envOfC _ _ _ _ _) _) _ _ _); k_dflt ((rename Fr _ _ _ _ => F'); refine' ldLn F' ?lq1 ?_ ?lq2 ?lq3; (case lq3 => rfl); (case lq1 => (repeat (refine (if_neg (by decide +kernel)).trans ?_)); first | exact if_pos rfl | (show LookIs _ _ _; with_reducible assumption)); (case lq2 => rfl); (try dsimp only))) | (k_here; (with_reducible show if (_ == _) = true then _ else _); k_dflt (first | (refine' Mine.ieq_no ?k1 ?_; (case k1 => omega)) | (refine' Mine.ieq_yes ?k1 ?_; (case k1 => omega)))) | ((with_reducible show wpC _ _ _ _ _ _); plain_pass; first | (k_here; (with_reducible show wpC _ _ (execs (_ :: _) _) _ _ _); k_dflt refine wpC_execs_cons ?_) | (k_here; (with_reducible show wpC _ _ (execs [] _) _ _ _); k_dflt refine wpC_execs_nil ?_) | (k_dflt (refine wpC_of_any ?_))) | (k_unfold; (try dsimp only)) | (k_end; wrow_close) | walk1 | dsimp only | (leave1; (try dsimp only)))
  all_goals first
    | (rename Fr _ _ _ _ => F'; rename News _ _ _ _ => N'; refine' AtS.mk F' N' ⟨?za, ⟨_, LookIs.hit⟩, sub_self⟩; (case za => (repeat (refine KeptBut.set ?_ (by decide +kernel))); exact KeptBut.refl))
set_option maxRecDepth 100000 in
set_option maxHeartbeats 2000000 in
theorem seg36n {w : World} {p : Program} {loose : List Str} {mean : ExcName → Option Value} {mg mb : Str → Option Value} {s₁ : Shared} {h₁ : Heap} {L fa : Addr} {cd : Value} {tk : Nat} {E : Value → Shared → Prop} {m : Str → Option Value} {news : List (Addr × Obj)} {fr mk sa : Str} {tf tm ts tb tw : Tok} {b : Nat}
  (K0 : Below callerA s₁.heap [] s₁.heap) (KX : (hd.heap_39 w.params).In s₁.heap) (T : Top p loose mean mg mb s₁.heap) (F' : Fr s₁.heap L h₁ m) (N' : News s₁.heap L h₁ news) (hfr : LookIs m (Str.ofString "front") (.str fr tf)) (hmk : LookIs m (Str.ofString "mark") (.str mk tm)) (hsa : LookIs m (Str.ofString "salt") (.str sa ts)) (hM : MarkIs mk) (hF : FrontIs fr) (hS : FieldIs sa) (hck : LookIs m (Str.ofString "checksum") .none) (hba : LookIs m (Str.ofString "base") (.int (b : Int) tb)) (hwr : LookIs m (Str.ofString "written") (.str (cat [fr, Str.ofString "", mk, sa]) tw)) (hb : b = 10 ∨ b = 16) :
   wpC (model PySem.Challenge.pw_iw0004_01 w) (callerA.deeper (lawEnv L fa cd)) (execs (lawPart 36 1) (lawEnv L fa cd)) (fun f s' => f = .ret (.bool true) ∧ AtS s₁ s₁.heap L (fun _ _ => True) s') E { s₁ with heap := h₁, toks := tk } := by
  refine wpC_absQ ?_
  intro Q0 hQ0
  refine' lit_C ?le1 ?le2 ?_
  case le1 => (dsimp only [lawPart, lawBody, PySem.Challenge.pw_iw0004_01, List.getLast?, List.getLast, List.drop, List.take] <;> exact rfl)
  case le2 => (dsimp only [lawScope, PySem.Challenge.pw_iw0004_01, List.getLast?, List.getLast] <;> exact rfl)
  have hf6 := front_len hF
  have hm2 := (mark_len hM).2
  have hm1 := (mark_len hM).1
  have hs6 := hS.2
  have hsp := dt_empty0 (fr := fr) (b := b) (d := 1000) hM hS.1
  have hop := op_empty0 (fr := fr) hM hS.1
  have hcl : (cat [fr, Str.ofString "", mk, sa]).length = fr.length + ((Str.ofString "").length + (mk.length + (sa.length + 0))) := cat_len _
  have he0 : (Str.ofString "").length = 0 := by decide
  have hok : DtOk (.three 1000 sa none) := ⟨strOk_ok hS.1, fun c e => by cases e⟩
  repeat' (first | (with_reducible refine hQ0 _ _ ?_; (try dsimp only)) | (k_here; (with_reducible show wpAny _ _ (spliced _) _ _ _); k_dflt ((rename Fr _ _ _ _ => F'); (first | refine' args3 ?_ ?_ ?_ ?_ | refine' args5 ?_ ?_ ?_ ?_ ?_ ?_ | refine' args4 ?_ ?_ ?_ ?_ ?_ | refine' args6 ?_ ?_ ?_ ?_ ?_ ?_ ?_ | refine' args2 ?_ ?_ ?_ | refine' args1 ?_ ?_); (any_goals (first | exact atom_str | exact atom_int | exact atom_none | exact atom_local F' (by (repeat (refine (if_neg (by decide +kernel)).trans ?_)); first | exact if_pos rfl | (show LookIs _ _ _; with_reducible assumption)) rfl rfl rfl (by decide))); (fail_if_success (any_goals (with_reducible show AtomE _ _ _ _ _ _ _))); intros; (try dsimp only))) | (k_here; (with_reducible show wpAny _ _ (compareOp CmpOp.NotEq (Value.str _ _) (Value.str _ _)) _ _ _); k_dflt (first | refine ne_front (by with_reducible assumption) ?_ | refine ne_same (by with_reducible assumption) ?_); (try dsimp only)) | (k_here; (with_reducible show wpAny _ _ (compareOp CmpOp.Eq _ (Value.ref _)) _ _ _); k_dflt ((rename News _ _ _ _ => N'); refine' eq_dt N' ?nd1 ?nd2 ?nd3 ?nd4 ?_; (case nd1 => exact DtIn.mono (by with_reducible assumption) (fun p hp => .tail _ (List.mem_append_left _ hp))); (case nd2 => first | exact ⟨_, _, _, rfl, .head _, rfl⟩ | exact ⟨_, _, _, rfl, .head _, ⟨_, rfl⟩⟩ | exact ⟨_, _, _, _, rfl, .head _, rfl⟩ | exact ⟨_, _, _, _, rfl, .head _, ⟨_, rfl⟩⟩); (case nd3 => with_reducible assumption); (case nd4 => first | ktr_units | decide); (replace N' := news_right2 N'); (try dsimp only))) | (k_here; (with_reducible show wpAny _ _ (call (Value.ref 107) [Value.str _ _, Value.none, Value.str _ _, Value.str _ _, Value.str _ _, Value.int _ _]) _ _ _); k_dflt (refine' mc3n_some (t6 := 0) ?h1 ?h2 ?h3 ?h4 ?h5 ?k1 ?k2 ?k3 ?k4 ?k5 ?k6 ?k7 ?k8 ?k9 ?_; (case h1 => omega); (case h2 => omega); (case h3 => omega); (case h4 => omega); (case h5 => omega); (case k1 => k_asm); (case k2 => k_asm); (case k3 => k_asm); (case k4 => k_asm); (case k5 => k_asm); (case k6 => exact rfl); (case k7 => exact rfl); (case k8 => first | ktr_room | decide); (case k9 => first | ktr_units | decide); intro v' n' h' t' F' N' r'; obtain ⟨hn', t', hv'⟩ := r'; subst hv' hn'; (simp only [List.nil_append] at N'); (try k_sweep); (try dsimp only))) | (k_here; (with_reducible show wpAny _ _ (call (Value.ref 107) [Value.str _ _, Value.none, Value.str _ _, Value.none, Value.str _ _, Value.int _ _]) _ _ _); k_dflt (refine' mc3n_none (c := Str.ofString "") (t4 := 0) (t6 := 0) ?h1 ?h2 ?h3 (by decide) ?k1 ?k2 ?k3 ?k4 ?k5 ?k6 ?k7 ?k8 ?k9 ?_; (case h1 => omega); (case h2 => omega); (case h3 => omega); (case k1 => k_asm); (case k2 => k_asm); (case k3 => k_asm); (case k4 => k_asm); (case k5 => k_asm); (case k6 => exact rfl); (case k7 => exact rfl); (case k8 => first | ktr_room | decide); (case k9 => first | ktr_units | decide); intro v' n' h' t' F' N' r'; obtain ⟨hn', t', hv'⟩ := r'; subst hv' hn'; (simp only [List.nil_append] at N'); (try k_sweep); (try dsimp only))) | (k_here; (with_reducible show wpAny _ _ (call (Value.ref 107) [Value.str _ _, Value.none, Value.str _ _, Value.str _ _, Value.str _ _]) _ _ _); k_dflt (refine' mc3n_zero4 (b := 0) (t5 := 0) (t6 := 0) ?h1 ?h2 ?h3 (by decide) (by decide) ?k1 ?k2 ?k3 ?k4 ?k5 ?k6 ?k7 ?k8 ?k9 ?_; (case h1 => omega); (case h2 => omega); (case h3 => omega); (case k1 => k_asm); (case k2 => k_asm); (case k3 => k_asm); (case k4 => k_asm); (case k5 => k_asm); (case k6 => exact rfl); (case k7 => exact rfl); (case k8 => first | ktr_room | decide); (case k9 => first | ktr_units | decide); intro v' n' h' t' F' N' r'; obtain ⟨hn', t', hv'⟩ := r'; subst hv' hn'; (simp only [List.nil_append] at N'); (try k_sweep); (try dsimp only))) | (k_here; (with_reducible show wpAny _ _ (call (Value.ref 99) [Value.str _ _, Value.str _ _, Value.str _ _, Value.str _ _]) _ _ _); k_dflt (refine' mc2_zero (t5 := 0) (t6 := 0) ?h1 ?h2 ?h3 (by decide) (by decide) ?k1 ?k2 ?k3 ?k4 ?k5 ?k6 ?k7 ?k8 ?k9 ?_; (case h1 => omega); (case h2 => omega); (case h3 => omega); (case k1 => k_asm); (case k2 => k_asm); (case k3 => k_asm); (case k4 => k_asm); (case k5 => k_asm); (case k6 => exact rfl); (case k7 => exact rfl); (case k8 => first | ktr_room | decide); (case k9 => first | ktr_units | decide); intro v' n' h' t' F' N' r'; obtain ⟨hn', t', hv'⟩ := r'; subst hv' hn'; (simp only [List.nil_append] at N'); (try k_sweep); (try dsimp only))) | (k_here; (with_reducible show wpAny _ _ (eval (Expr.Name _ _) (envOfC _ _ _ _ _)) _ _ _); k_dflt ((rename Fr _ _ _ _ => F'); refine' ldL F' ?lq1 ?_ ?lq2 ?lq3 ?lq4; (case lq3 => rfl); (case lq1 => (repeat (refine (if_neg (by decide +kernel)).trans ?_)); first | exact if_pos rfl | (show LookIs _ _ _; with_reducible assumption)); (case lq2 => rfl); (case lq4 => decide); (try dsimp only))) | (k_here; (with_reducible show wpAny _ _ (loadName (envOfC _ _ _ _ _) _) _ _ _); k_dflt ((rename Fr _ _ _ _ => F'); refine' ldLn F' ?lq1 ?_ ?lq2 ?lq3; (case lq3 => rfl); (case lq1 => (repeat (refine (if_neg (by decide +kernel)).trans ?_)); first | exact if_pos rfl | (show LookIs _ _ _; with_reducible assumption)); (case lq2 => rfl); (try dsimp only))) | (k_here; (with_reducible show if (_ == _) = true then _ else _); k_dflt (first | (refine' Mine.ieq_no ?k1 ?_; (case k1 => omega)) | (refine' Mine.ieq_yes ?k1 ?_; (case k1 => omega)))) | ((with_reducible show wpC _ _ _ _ _ _); plain_pass; first | (k_here; (with_reducible show wpC _ _ (execs (_ :: _) _) _ _ _); k_dflt refine wpC_execs_cons ?_) | (k_here; (with_reducible show wpC _ _ (execs [] _) _ _ _); k_dflt refine wpC_execs_nil ?_) | (k_here; (with_reducible show wpC _ _ (exec (Stmt.If _ _ _ _) _) _ _ _); k_dflt refine wpC_If ?_) | (k_here; (with_reducible show wpC _ _ (isTrue (Expr.BoolOp BoolOp.Or (_ :: _) _) _ _) _ _ _); k_dflt refine wpC_isTrue_or ?_) | (k_here; (with_reducible show wpC _ _ (isTrue (Expr.BoolOp BoolOp.Or [] _) _ _) _ _ _); k_dflt refine wpC_isTrue_or_nil ?_) | (k_here; (with_reducible show wpC _ _ (isTrue (Expr.BoolOp BoolOp.And (_ :: _) _) _ _) _ _ _); k_dflt refine wpC_isTrue_and ?_) | (k_here; (with_reducible show wpC _ _ (isTrue (Expr.BoolOp BoolOp.And [] _) _ _) _ _ _); k_dflt refine wpC_isTrue_and_nil ?_) | (k_here; (with_reducible show wpC _ _ (isTrue (Expr.Compare _ [_] [_] _) _ _) _ _ _); k_dflt refine wpC_isTrue_Compare1 ?_) | (k_here; (with_reducible show wpC _ _ (exec (Stmt.Return (some (Expr.Compare _ [_] [_] _)) _) _) _ _ _); k_dflt refine wpC_Return_some ?_) | (k_here; (with_reducible show wpC _ _ (eval (Expr.Compare _ [_] [_] _) _) _ _ _); k_dflt refine wpC_Compare1 ?_) | (k_here; (with_reducible show wpC _ _ (eval (Expr.Call (Expr.Name _ _) _ [] _) _) _ _ _); k_dflt refine wpC_Call_Name rfl ?_) | (k_here; (with_reducible show wpC _ _ (callWith _ (Value.ref _) _ _ _) _ _ _); k_dflt (refine' wpC_callWith_K (K := Mine.hd.heap_39 _) ?k1 ?_; (case k1 => k_is))) | (k_here; (with_reducible show wpC _ _ (call (Value.ref 135) _) _ _ _); k_dflt (refine wpC_of_any ?_)) | (k_here; (with_reducible show wpC _ _ (call (Value.ref 149) _) _ _ _); k_dflt (refine wpC_of_any ?_)) | (k_here; (with_reducible show wpC _ _ (call (Value.ref 156) [_, _, _, _, _]) _ _ _); k_dflt (refine' three_text ?tu ?tg ?tf ?tm ?t0 ?tb ?tv ?tp ?k1 ?k2 ?k3 ?k4 ?k5 ?k6 ?k7 ?k8 ?k9 ?_; (case tu => first | exact uni_str | exact uni_bytes (by with_reducible assumption) (by omega)); (case tg => omega); (case tf => omega); (case tm => omega); (case t0 => omega); (case tb => with_reducible assumption); (case tv => first | (with_reducible assumption) | exact dv_five | exact dv_thousand); (case tp => with_reducible assumption); (case k1 => k_asm); (case k2 => k_asm); (case k3 => k_asm); (case k4 => k_asm); (case k5 => k_asm); (case k6 => exact rfl); (case k7 => exact rfl); (case k8 => first | ktr_room | decide); (case k9 => first | ktr_units | decide); intro v' n' h' t' F' N' r'; (rename (specThree _ _ _ _ _ = _) => hsp'); rw [hsp'] at r'; (try k_sweep); (try dsimp only))) | (k_here; (with_reducible show wpC _ _ (call (Value.ref 163) [_, _, _]) _ _ _); k_dflt (refine' one_text ?tu ?tg ?tb ?tv ?k1 ?k2 ?k3 ?k4 ?k5 ?k6 ?k7 ?k8 ?k9 ?_; (case tu => with_reducible assumption); (case tg => omega); (case tb => with_reducible assumption); (case tv => with_reducible assumption); (case k1 => k_asm); (case k2 => k_asm); (case k3 => k_asm); (case k4 => k_asm); (case k5 => k_asm); (case k6 => exact rfl); (case k7 => exact rfl); (case k8 => first | ktr_room | decide); (case k9 => first | ktr_units | decide); intro v' n' h' t' F' N' r'; (try k_sweep); (try dsimp only))) | ((fail_if_success (with_reducible show wpC _ _ (callWith _ _ _ _ _) _ _ _)); (fail_if_success (with_reducible show wpC _ _ (call _ _) _ _ _)); k_dflt (refine wpC_of_any ?_))) | ((with_reducible show wpC _ _ _ _ _ _); plain_pass; first | (k_here; (with_reducible show wpC _ _ (execs (_ :: _) _) _ _ _); k_dflt refine wpC_execs_cons ?_) | (k_here; (with_reducible show wpC _ _ (execs [] _) _ _ _); k_dflt refine wpC_execs_nil ?_) | (k_dflt (refine wpC_of_any ?_))) | (k_unfold; (try dsimp only)) | (k_end; wrow_close) | walk1 | dsimp only | (leave1; (try dsimp only)))
  all_goals first
    | (rename Fr _ _ _ _ => F'; rename News _ _ _ _ => N'; exact AtS.mk F' N' trivial)
set_option maxRecDepth 100000 in
set_option maxHeartbeats 2000000 in
theorem seg36s {w : World} {p : Program} {loose : List Str} {mean : ExcName → Option Value} {mg mb : Str → Option Value} {s₁ : Shared} {h₁ : Heap} {L fa : Addr} {cd : Value} {tk : Nat} {E : Value → Shared → Prop} {m : Str → Option Value} {news : List (Addr × Obj)} {fr mk sa c : Str} {tf tm ts tb tc tw : Tok} {b : Nat}
  (K0 : Below callerA s₁.heap [] s₁.heap) (KX : (hd.heap_39 w.params).In s₁.heap) (T : Top p loose mean mg mb s₁.heap) (F' : Fr s₁.heap L h₁ m) (N' : News s₁.heap L h₁ news) (hfr : LookIs m (Str.ofString "front") (.str fr tf)) (hmk : LookIs m (Str.ofString "mark") (.str mk tm)) (hsa : LookIs m (Str.ofString "salt") (.str sa ts)) (hM : MarkIs mk) (hF : FrontIs fr) (hS : FieldIs sa) (hck : LookIs m (Str.ofString "checksum") (.str c tc)) (hba : LookIs m (Str.ofString "base") (.int (b : Int) tb)) (hwr : LookIs m (Str.ofString "written") (.str (cat [fr, Str.ofString "", mk, sa, mk, c]) tw)) (hb : b = 10 ∨ b = 16) (hC : FieldIs c) (hc1 : 1 ≤ c.length) :
   wpC (model PySem.Challenge.pw_iw0004_01 w) (callerA.deeper (lawEnv L fa cd)) (execs (lawPart 36 1) (lawEnv L fa cd)) (fun f s' => f = .ret (.bool true) ∧ AtS s₁ s₁.heap L (fun _ _ => True) s') E { s₁ with heap := h₁, toks := tk } := by
  refine wpC_absQ ?_
  intro Q0 hQ0
  refine' lit_C ?le1 ?le2 ?_
  case le1 => (dsimp only [lawPart, lawBody, PySem.Challenge.pw_iw0004_01, List.getLast?, List.getLast, List.drop, List.take] <;> exact rfl)
  case le2 => (dsimp only [lawScope, PySem.Challenge.pw_iw0004_01, List.getLast?, List.getLast] <;> exact rfl)
  have hf6 := front_len hF
  have hm2 := (mark_len hM).2
  have hm1 := (mark_len hM).1
  have hs6 := hS.2
  have hc6 := hC.2
  have hsp := dt_empty1 (fr := fr) (b := b) (d := 1000) hM hS.1 hC.1 hc1
  have hop := op_empty1 (fr := fr) hM hS.1 hC.1
  have hcl : (cat [fr, Str.ofString "", mk, sa, mk, c]).length = fr.length + ((Str.ofString "").length + (mk.length + (sa.length + (mk.length + (c.length + 0))))) := cat_len _
  have he0 : (Str.ofString "").length = 0 := by decide
  have hok : DtOk (.three 1000 sa (some c)) := ⟨strOk_ok hS.1, fun c' e => by cases e; exact strOk_ok hC.1⟩
  repeat' (first | (with_reducible refine hQ0 _ _ ?_; (try dsimp only)) | (k_here; (with_reducible show wpAny _ _ (spliced _) _ _ _); k_dflt ((rename Fr _ _ _ _ => F'); (first | refine' args3 ?_ ?_ ?_ ?_ | refine' args5 ?_ ?_ ?_ ?_ ?_ ?_ | refine' args4 ?_ ?_ ?_ ?_ ?_ | refine' args6 ?_ ?_ ?_ ?_ ?_ ?_ ?_ | refine' args2 ?_ ?_ ?_ | refine' args1 ?_ ?_); (any_goals (first | exact atom_str | exact atom_int | exact atom_none | exact atom_local F' (by (repeat (refine (if_neg (by decide +kernel)).trans ?_)); first | exact if_pos rfl | (show LookIs _ _ _; with_reducible assumption)) rfl rfl rfl (by decide))); (fail_if_success (any_goals (with_reducible show AtomE _ _ _ _ _ _ _))); intros; (try dsimp only))) | (k_here; (with_reducible show wpAny _ _ (compareOp CmpOp.NotEq (Value.str _ _) (Value.str _ _)) _ _ _); k_dflt (first | refine ne_front (by with_reducible assumption) ?_ | refine ne_same (by with_reducible assumption) ?_); (try dsimp only)) | (k_here; (with_reducible show wpAny _ _ (compareOp CmpOp.Eq _ (Value.ref _)) _ _ _); k_dflt ((rename News _ _ _ _ => N'); refine' eq_dt N' ?nd1 ?nd2 ?nd3 ?nd4 ?_; (case nd1 => exact DtIn.mono (by with_reducible assumption) (fun p hp => .tail _ (List.mem_append_left _ hp))); (case nd2 => first | exact ⟨_, _, _, rfl, .head _, rfl⟩ | exact ⟨_, _, _, rfl, .head _, ⟨_, rfl⟩⟩ | exact ⟨_, _, _, _, rfl, .head _, rfl⟩ | exact ⟨_, _, _, _, rfl, .head _, ⟨_, rfl⟩⟩); (case nd3 => with_reducible assumption); (case nd4 => first | ktr_units | decide); (replace N' := news_right2 N'); (try dsimp only))) | (k_here; (with_reducible show wpAny _ _ (call (Value.ref 107) [Value.str _ _, Value.none, Value.str _ _, Value.str _ _, Value.str _ _, Value.int _ _]) _ _ _); k_dflt (refine' mc3n_some (t6 := 0) ?h1 ?h2 ?h3 ?h4 ?h5 ?k1 ?k2 ?k3 ?k4 ?k5 ?k6 ?k7 ?k8 ?k9 ?_; (case h1 => omega); (case h2 => omega); (case h3 => omega); (case h4 => omega); (case h5 => omega); (case k1 => k_asm); (case k2 => k_asm); (case k3 => k_asm); (case k4 => k_asm); (case k5 => k_asm); (case k6 => exact rfl); (case k7 => exact rfl); (case k8 => first | ktr_room | decide); (case k9 => first | ktr_units | decide); intro v' n' h' t' F' N' r'; obtain ⟨hn', t', hv'⟩ := r'; subst hv' hn'; (simp only [List.nil_append] at N'); (try k_sweep); (try dsimp only))) | (k_here; (with_reducible show wpAny _ _ (call (Value.ref 107) [Value.str _ _, Value.none, Value.str _ _, Value.none, Value.str _ _, Value.int _ _]) _ _ _); k_dflt (refine' mc3n_none (c := Str.ofString "") (t4 := 0) (t6 := 0) ?h1 ?h2 ?h3 (by decide) ?k1 ?k2 ?k3 ?k4 ?k5 ?k6 ?k7 ?k8 ?k9 ?_; (case h1 => omega); (case h2 => omega); (case h3 => omega); (case k1 => k_asm); (case k2 => k_asm); (case k3 => k_asm); (case k4 => k_asm); (case k5 => k_asm); (case k6 => exact rfl); (case k7 => exact rfl); (case k8 => first | ktr_room | decide); (case k9 => first | ktr_units | decide); intro v' n' h' t' F' N' r'; obtain ⟨hn', t', hv'⟩ := r'; subst hv' hn'; (simp only [List.nil_append] at N'); (try k_sweep); (try dsimp only))) | (k_here; (with_reducible show wpAny _ _ (call (Value.ref 107) [Value.str _ _, Value.none, Value.str _ _, Value.str _ _, Value.str _ _]) _ _ _); k_dflt (refine' mc3n_zero4 (b := 0) (t5 := 0) (t6 := 0) ?h1 ?h2 ?h3 (by decide) (by decide) ?k1 ?k2 ?k3 ?k4 ?k5 ?k6 ?k7 ?k8 ?k9 ?_; (case h1 => omega); (case h2 => omega); (case h3 => omega); (case k1 => k_asm); (case k2 => k_asm); (case k3 => k_asm); (case k4 => k_asm); (case k5 => k_asm); (case k6 => exact rfl); (case k7 => exact rfl); (case k8 => first | ktr_room | decide); (case k9 => first | ktr_units | decide); intro v' n' h' t' F' N' r'; obtain ⟨hn', t', hv'⟩ := r'; subst hv' hn'; (simp only [List.nil_append] at N'); (try k_sweep); (try dsimp only))) | (k_here; (with_reducible show wpAny _ _ (call (Value.ref 99) [Value.str _ _, Value.str _ _, Value.str _ _, Value.str _ _]) _ _ _); k_dflt (refine' mc2_zero (t5 := 0) (t6 := 0) ?h1 ?h2 ?h3 (by decide) (by decide) ?k1 ?k2 ?k3 ?k4 ?k5 ?k6 ?k7 ?k8 ?k9 ?_; (case h1 => omega); (case h2 => omega); (case h3 => omega); (case k1 => k_asm); (case k2 => k_asm); (case k3 => k_asm); (case k4 => k_asm); (case k5 => k_asm); (case k6 => exact rfl); (case k7 => exact rfl); (case k8 => first | ktr_room | decide); (case k9 => first | ktr_units | decide); intro v' n' h' t' F' N' r'; obtain ⟨hn', t', hv'⟩ := r'; subst hv' hn'; (simp only [List.nil_append] at N'); (try k_sweep); (try dsimp only))) | (k_here; (with_reducible show wpAny _ _ (eval (Expr.Name _ _) (envOfC _ _ _ _ _)) _ _ _); k_dflt ((rename Fr _ _ _ _ => F'); refine' ldL F' ?lq1 ?_ ?lq2 ?lq3 ?lq4; (case lq3 => rfl); (case lq1 => (repeat (refine (if_neg (by decide +kernel)).trans ?_)); first | exact if_pos rfl | (show LookIs _ _ _; with_reducible assumption)); (case lq2 => rfl); (case lq4 => decide); (try dsimp only))) | (k_here; (with_reducible show wpAny _ _ (loadName (envOfC _ _ _ _ _) _) _ _ _); k_dflt ((rename Fr _ _ _ _ => F'); refine' ldLn F' ?lq1 ?_ ?lq2 ?lq3; (case lq3 => rfl); (case lq1 => (repeat (refine (if_neg (by decide +kernel)).trans ?_)); first | exact if_pos rfl | (show LookIs _ _ _; with_reducible assumption)); (case lq2 => rfl); (try dsimp only))) | (k_here; (with_reducible show if (_ == _) = true then _ else _); k_dflt (first | (refine' Mine.ieq_no ?k1 ?_; (case k1 => omega)) | (refine' Mine.ieq_yes ?k1 ?_; (case k1 => omega)))) | ((with_reducible show wpC _ _ _ _ _ _); plain_pass; first | (k_here; (with_reducible show wpC _ _ (execs (_ :: _) _) _ _ _); k_dflt refine wpC_execs_cons ?_) | (k_here; (with_reducible show wpC _ _ (execs [] _) _ _ _); k_dflt refine wpC_execs_nil ?_) | (k_here; (with_reducible show wpC _ _ (exec (Stmt.If _ _ _ _) _) _ _ _); k_dflt refine wpC_If ?_) | (k_here; (with_reducible show wpC _ _ (isTrue (Expr.BoolOp BoolOp.Or (_ :: _) _) _ _) _ _ _); k_dflt refine wpC_isTrue_or ?_) | (k_here; (with_reducible show wpC _ _ (isTrue (Expr.BoolOp BoolOp.Or [] _) _ _) _ _ _); k_dflt refine wpC_isTrue_or_nil ?_) | (k_here; (with_reducible show wpC _ _ (isTrue (Expr.BoolOp BoolOp.And (_ :: _) _) _ _) _ _ _); k_dflt refine wpC_isTrue_and ?_) | (k_here; (with_reducible show wpC _ _ (isTrue (Expr.BoolOp BoolOp.And [] _) _ _) _ _ _); k_dflt refine wpC_isTrue_and_nil ?_) | (k_here; (with_reducible show wpC _ _ (isTrue (Expr.Compare _ [_] [_] _) _ _) _ _ _); k_dflt refine wpC_isTrue_Compare1 ?_) | (k_here; (with_reducible show wpC _ _ (exec (Stmt.Return (some (Expr.Compare _ [_] [_] _)) _) _) _ _ _); k_dflt refine wpC_Return_some ?_) | (k_here; (with_reducible show wpC _ _ (eval (Expr.Compare _ [_] [_] _) _) _ _ _); k_dflt refine wpC_Compare1 ?_) | (k_here; (with_reducible show wpC _ _ (eval (Expr.Call (Expr.Name _ _) _ [] _) _) _ _ _); k_dflt refine wpC_Call_Name rfl ?_) | (k_here; (with_reducible show wpC _ _ (callWith _ (Value.ref _) _ _ _) _ _ _); k_dflt (refine' wpC_callWith_K (K := Mine.hd.heap_39 _) ?k1 ?_; (case k1 => k_is))) | (k_here; (with_reducible show wpC _ _ (call (Value.ref 135) _) _ _ _); k_dflt (refine wpC_of_any ?_)) | (k_here; (with_reducible show wpC _ _ (call (Value.ref 149) _) _ _ _); k_dflt (refine wpC_of_any ?_)) | (k_here; (with_reducible show wpC _ _ (call (Value.ref 156) [_, _, _, _, _]) _ _ _); k_dflt (refine' three_text ?tu ?tg ?tf ?tm ?t0 ?tb ?tv ?tp ?k1 ?k2 ?k3 ?k4 ?k5 ?k6 ?k7 ?k8 ?k9 ?_; (case tu => first | exact uni_str | exact uni_bytes (by with_reducible assumption) (by omega)); (case tg => omega); (case tf => omega); (case tm => omega); (case t0 => omega); (case tb => with_reducible assumption); (case tv => first | (with_reducible assumption) | exact dv_five | exact dv_thousand); (case tp => with_reducible assumption); (case k1 => k_asm); (case k2 => k_asm); (case k3 => k_asm); (case k4 => k_asm); (case k5 => k_asm); (case k6 => exact rfl); (case k7 => exact rfl); (case k8 => first | ktr_room | decide); (case k9 => first | ktr_units | decide); intro v' n' h' t' F' N' r'; (rename (specThree _ _ _ _ _ = _) => hsp'); rw [hsp'] at r'; (try k_sweep); (try dsimp only))) | (k_here; (with_reducible show wpC _ _ (call (Value.ref 163) [_, _, _]) _ _ _); k_dflt (refine' one_text ?tu ?tg ?tb ?tv ?k1 ?k2 ?k3 ?k4 ?k5 ?k6 ?k7 ?k8 ?k9 ?_; (case tu => with_reducible assumption); (case tg => omega); (case tb => with_reducible assumption); (case tv => with_reducible assumption); (case k1 => k_asm); (case k2 => k_asm); (case k3 => k_asm); (case k4 => k_asm); (case k5 => k_asm); (case k6 => exact rfl); (case k7 => exact rfl); (case k8 => first | ktr_room | decide); (case k9 => first | ktr_units | decide); intro v' n' h' t' F' N' r'; (try k_sweep); (try dsimp only))) | ((fail_if_success (with_reducible show wpC _ _ (callWith _ _ _ _ _) _ _ _)); (fail_if_success (with_reducible show wpC _ _ (call _ _) _ _ _)); k_dflt (refine wpC_of_any ?_))) | ((with_reducible show wpC _ _ _ _ _ _); plain_pass; first | (k_here; (with_reducible show wpC _ _ (execs (_ :: _) _) _ _ _); k_dflt refine wpC_execs_cons ?_) | (k_here; (with_reducible show wpC _ _ (execs [] _) _ _ _); k_dflt refine wpC_execs_nil ?_) | (k_dflt (refine wpC_of_any ?_))) | (k_unfold; (try dsimp only)) | (k_end; wrow_close) | walk1 | dsimp only | (leave1; (try dsimp only)))
  all_goals first
    | (rename Fr _ _ _ _ => F'; rename News _ _ _ _ => N'; exact AtS.mk F' N' trivial)
end Mine
end
-- Lib14
section
open PySem PySem.W PyProof.Rows PySem.Calls PySem.Spec
namespace Mine
section
variable {M : Model} {A : Around} {E : Value → Shared → Prop} {env : Env} {Q : Flow → Shared → Prop} {s s₀ : Shared} {h₀ : Heap} {L : Addr}
theorem seg_then {i n k : Nat} {P : (Str → Option Value) → List (Addr × Obj) → Prop} (hk : i + n = k) (hseg : wpC M A (execs (lawPart i n) env) (fun f s' => f = .next ∧ AtS s h₀ L P s') E s₀)
    (hnext : ∀ h' tk m news, Fr h₀ L h' m → News h₀ L h' news → P m news → wpC M A (execs (lawBody.drop k) env) Q E { s with heap := h', toks := tk }) : wpC M A (execs (lawBody.drop i) env) Q E s₀ := by
  refine wpC_cutC n (AtS s h₀ L P) hseg fun s' h => ?_
  obtain ⟨h', tk, m, news, rfl, F, N, hP⟩ := h
  rw [List.drop_drop, hk]
  exact hnext h' tk m news F N hP
theorem seg_last {P : (Str → Option Value) → List (Addr × Obj) → Prop} (hseg : wpC M A (execs (lawPart 36 1) env) (fun f s' => f = .ret (.bool true) ∧ AtS s h₀ L P s') E s₀)
    (hQ : ∀ h' tk m, Fr h₀ L h' m → Q (.ret (.bool true)) { s with heap := h', toks := tk }) : wpC M A (execs (lawBody.drop 36) env) Q E s₀ := by
  have e : lawBody.drop 36 = lawPart 36 1 := (List.take_of_length_le (by rw [List.length_drop, len_body]; decide)).symm
  rw [e]
  refine wpC_mono hseg (fun f s' h => ?_) fun _ _ e => e
  obtain ⟨rfl, h', tk, m, news, rfl, F, N, hP⟩ := h
  exact hQ h' tk m F
end
theorem news_one {h₀ h : Heap} {L : Addr} {news : List (Addr × Obj)} {x : Addr × Obj} (N : News h₀ L h news) (hm : x ∈ news) : News h₀ L h [x] := fun p hp => by
  rw [List.mem_singleton] at hp; subst hp; exact N _ hm
theorem news_two {h₀ h : Heap} {L : Addr} {news : List (Addr × Obj)} {x y : Addr × Obj} (N : News h₀ L h news) (hx : x ∈ news) (hy : y ∈ news) : News h₀ L h [x, y] := fun p hp => by
  rcases List.mem_cons.mp hp with rfl | hp
  · exact N _ hx
  · rw [List.mem_singleton] at hp; subst hp; exact N _ hy
/-- what stands of the law's names to its end -/
structure St (fr mk : Str) (b : Nat) (dflt : Option Int) (bb : Int) (m : Str → Option Value) : Prop where
  sfr : ∃ t, LookIs m (Str.ofString "front") (.str fr t)
  smk : ∃ t, LookIs m (Str.ofString "mark") (.str mk t)
  sba : ∃ t, LookIs m (Str.ofString "base") (.int (b : Int) t)
  sde : ∃ v, LookIs m (Str.ofString "default") v ∧ DvIs v dflt
  sbb : ∃ t, LookIs m (Str.ofString "b") (.int bb t)
theorem St.kept {fr mk : Str} {b : Nat} {dflt : Option Int} {bb : Int} {m m' : Str → Option Value} {xs : List Str} (h : St fr mk b dflt bb m) (k : KeptBut xs m m')
    (hx : ([Str.ofString "front", Str.ofString "mark", Str.ofString "base", Str.ofString "default", Str.ofString "b"].all fun y => !xs.contains y) = true) : St fr mk b dflt bb m' := by
  have hn : ∀ y ∈ [Str.ofString "front", Str.ofString "mark", Str.ofString "base", Str.ofString "default", Str.ofString "b"], y ∉ xs := fun y hy => by
    have := List.all_eq_true.mp hx y hy
    simpa using this
  obtain ⟨⟨t1, h1⟩, ⟨t2, h2⟩, ⟨t3, h3⟩, ⟨v, h4, hv⟩, ⟨t5, h5⟩⟩ := h
  exact ⟨⟨t1, h1.kept k (hn _ (.head _))⟩, ⟨t2, h2.kept k (hn _ (.tail _ (.head _)))⟩, ⟨t3, h3.kept k (hn _ (.tail _ (.tail _ (.head _))))⟩,
    ⟨v, h4.kept k (hn _ (.tail _ (.tail _ (.tail _ (.head _))))), hv⟩, ⟨t5, h5.kept k (hn _ (.tail _ (.tail _ (.tail _ (.tail _ (.head _))))))⟩⟩
theorem last_mem {x1 : Str} {l : List Str} (h : ∀ x ∈ x1 :: l, FieldIs x) : FieldIs ((x1 :: l).getLastD x1) := by
  have : (x1 :: l).getLastD x1 = (x1 :: l).getLast (by simp) := by simp [List.getLastD]
  rw [this]
  exact h _ (List.getLast_mem _)
theorem opt_split {y : Value} {x : Str} (h : OptIs y (optS x)) : y = .none ∨ ∃ t, y = .str x t ∧ 1 ≤ x.length := by
  unfold optS at h
  by_cases e : x.length = 0
  · rw [if_pos e] at h; exact .inl h
  · rw [if_neg e] at h
    obtain ⟨t, rfl⟩ := h
    exact .inr ⟨t, rfl, by omega⟩
theorem strsAre_cons {vs : List Value} {x : Str} {l : List Str} (h : StrsAre vs (x :: l)) : ∃ t vs', vs = .str x t :: vs' := by
  cases h with
  | cons _ t h => exact ⟨t, _, rfl⟩
theorem LookIs.keptB {xs : List Str} {m m' : Str → Option Value} {x : Str} {v : Value} (h : LookIs m x v) (k : KeptBut xs m m') (hx : xs.contains x = false) : LookIs m' x v := h.kept k (by simpa using hx)
theorem news_cons2 {h₀ h : Heap} {L : Addr} {news : List (Addr × Obj)} {x y : Addr × Obj} (N : News h₀ L h news) (hx : x ∈ news) (hy : y ∈ news) : News h₀ L h (x :: y :: news) := fun p hp => by
  rcases List.mem_cons.mp hp with rfl | hp
  · exact N _ hx
  · rcases List.mem_cons.mp hp with rfl | hp
    · exact N _ hy
    · exact N _ hp
end Mine
end
-- LawB
section
open PySem PySem.W PyProof.Rows PySem.Calls PySem.Spec
namespace Mine
section
variable {w : World} {p : Program} {loose : List Str} {mean : ExcName → Option Value} {mg mb : Str → Option Value} {s₁ : Shared} {L fa : Addr} {cd : Value} {Q : Flow → Shared → Prop} {E : Value → Shared → Prop}
abbrev lawGoal (w : World) (L fa : Addr) (cd : Value) (Q : Flow → Shared → Prop) (E : Value → Shared → Prop) (i : Nat) (s : Shared) : Prop :=
  wpC (model PySem.Challenge.pw_iw0004_01 w) (callerA.deeper (lawEnv L fa cd)) (execs (lawBody.drop i) (lawEnv L fa cd)) Q E s
/-- the last part: what is written and read back -/
theorem tail_none {h₁ : Heap} {tk : Nat} {m : Str → Option Value} {news : List (Addr × Obj)} {fr mk sa : Str} {b : Nat} {dflt : Option Int} {bb : Int}
    (K0 : Below callerA s₁.heap [] s₁.heap) (KX : (hd.heap_39 w.params).In s₁.heap) (T : Top p loose mean mg mb s₁.heap) (F : Fr s₁.heap L h₁ m) (N : News s₁.heap L h₁ news) (S : St fr mk b dflt bb m)
    (hsa : ∃ t, LookIs m (Str.ofString "salt") (.str sa t)) (hck : LookIs m (Str.ofString "checksum") .none) (hM : MarkIs mk) (hF : FrontIs fr) (hS : FieldIs sa) (hb : b = 10 ∨ b = 16)
    (hQ : ∀ h' tk' m', Fr s₁.heap L h' m' → Q (.ret (.bool true)) { s₁ with heap := h', toks := tk' }) : lawGoal w L fa cd Q E 26 { s₁ with heap := h₁, toks := tk } := by
  obtain ⟨ts, hsa⟩ := hsa
  obtain ⟨tf, hfr⟩ := S.sfr
  obtain ⟨tm, hmk⟩ := S.smk
  refine seg_then (k := 29) rfl (seg26n K0 KX T F N hfr hmk hsa hck hM hF hS) ?_
  intro h₁ tk m1 news F N hP
  obtain ⟨hk, _⟩ := hP
  have S := S.kept hk (by kernel_rfl)
  have hsa := hsa.keptB hk (by kernel_rfl)
  have hck := hck.keptB hk (by kernel_rfl)
  clear hk hfr hmk
  obtain ⟨tb, hbb⟩ := S.sbb
  refine seg_then (k := 30) rfl (seg29 K0 KX T F N hbb) ?_
  intro h₁ tk m2 news F N hP
  obtain ⟨hk, ⟨n, tn, hct, hn⟩, _⟩ := hP
  have S := S.kept hk (by kernel_rfl)
  have hsa := hsa.keptB hk (by kernel_rfl)
  have hck := hck.keptB hk (by kernel_rfl)
  clear hk hbb
  obtain ⟨tf, hfr⟩ := S.sfr
  obtain ⟨tm, hmk⟩ := S.smk
  obtain ⟨tb, hba⟩ := S.sba
  obtain ⟨dv, hde, hdv⟩ := S.sde
  refine seg_then (k := 33) rfl (seg30n K0 KX T F N hfr hmk hsa hck hba hde hct hM hF hS hb hdv hn) ?_
  intro h₁ tk m3 news F N hP
  obtain ⟨hk, _⟩ := hP
  have S := S.kept hk (by kernel_rfl)
  have hsa := hsa.keptB hk (by kernel_rfl)
  have hck := hck.keptB hk (by kernel_rfl)
  clear hk hfr hmk hba hde
  obtain ⟨tf, hfr⟩ := S.sfr
  obtain ⟨tm, hmk⟩ := S.smk
  obtain ⟨tb, hba⟩ := S.sba
  refine seg_then (k := 34) rfl (seg33 K0 KX T F N hfr hmk hsa hM hF hS) ?_
  intro h₁ tk m4 news F N hP
  obtain ⟨hm, _⟩ := hP
  rw [hm] at F
  refine seg_then (k := 36) rfl (seg34n K0 KX T F N hfr hmk hsa hM hF hS hck hba) ?_
  intro h₁ tk m5 news F N hP
  obtain ⟨hk, ⟨tw, hwr⟩, _⟩ := hP
  have S := S.kept hk (by kernel_rfl)
  have hsa := hsa.keptB hk (by kernel_rfl)
  have hck := hck.keptB hk (by kernel_rfl)
  clear hk hfr hmk hba
  obtain ⟨tf, hfr⟩ := S.sfr
  obtain ⟨tm, hmk⟩ := S.smk
  obtain ⟨tb, hba⟩ := S.sba
  exact seg_last (seg36n K0 KX T F N hfr hmk hsa hM hF hS hck hba hwr hb) hQ
theorem tail_some {h₁ : Heap} {tk : Nat} {m : Str → Option Value} {news : List (Addr × Obj)} {fr mk sa c : Str} {tc : Tok} {b : Nat} {dflt : Option Int} {bb : Int}
    (K0 : Below callerA s₁.heap [] s₁.heap) (KX : (hd.heap_39 w.params).In s₁.heap) (T : Top p loose mean mg mb s₁.heap) (F : Fr s₁.heap L h₁ m) (N : News s₁.heap L h₁ news) (S : St fr mk b dflt bb m)
    (hsa : ∃ t, LookIs m (Str.ofString "salt") (.str sa t)) (hck : LookIs m (Str.ofString "checksum") (.str c tc)) (hM : MarkIs mk) (hF : FrontIs fr) (hS : FieldIs sa) (hC : FieldIs c) (hc1 : 1 ≤ c.length) (hb : b = 10 ∨ b = 16)
    (hQ : ∀ h' tk' m', Fr s₁.heap L h' m' → Q (.ret (.bool true)) { s₁ with heap := h', toks := tk' }) : lawGoal w L fa cd Q E 26 { s₁ with heap := h₁, toks := tk } := by
  obtain ⟨ts, hsa⟩ := hsa
  obtain ⟨tf, hfr⟩ := S.sfr
  obtain ⟨tm, hmk⟩ := S.smk
  refine seg_then (k := 29) rfl (seg26s K0 KX T F N hfr hmk hsa hck hM hF hS hC hc1) ?_
  intro h₁ tk m1 news F N hP
  obtain ⟨hk, _⟩ := hP
  have S := S.kept hk (by kernel_rfl)
  have hsa := hsa.keptB hk (by kernel_rfl)
  have hck := hck.keptB hk (by kernel_rfl)
  clear hk hfr hmk
  obtain ⟨tb, hbb⟩ := S.sbb
  refine seg_then (k := 30) rfl (seg29 K0 KX T F N hbb) ?_
  intro h₁ tk m2 news F N hP
  obtain ⟨hk, ⟨n, tn, hct, hn⟩, _⟩ := hP
  have S := S.kept hk (by kernel_rfl)
  have hsa := hsa.keptB hk (by kernel_rfl)
  have hck := hck.keptB hk (by kernel_rfl)
  clear hk hbb
  obtain ⟨tf, hfr⟩ := S.sfr
  obtain ⟨tm, hmk⟩ := S.smk
  obtain ⟨tb, hba⟩ := S.sba
  obtain ⟨dv, hde, hdv⟩ := S.sde
  refine seg_then (k := 33) rfl (seg30s K0 KX T F N hfr hmk hsa hck hba hde hct hM hF hS hb hdv hn hC hc1) ?_
  intro h₁ tk m3 news F N hP
  obtain ⟨hk, _⟩ := hP
  have S := S.kept hk (by kernel_rfl)
  have hsa := hsa.keptB hk (by kernel_rfl)
  have hck := hck.keptB hk (by kernel_rfl)
  clear hk hfr hmk hba hde
  obtain ⟨tf, hfr⟩ := S.sfr
  obtain ⟨tm, hmk⟩ := S.smk
  obtain ⟨tb, hba⟩ := S.sba
  refine seg_then (k := 34) rfl (seg33 K0 KX T F N hfr hmk hsa hM hF hS) ?_
  intro h₁ tk m4 news F N hP
  obtain ⟨hm, _⟩ := hP
  rw [hm] at F
  refine seg_then (k := 36) rfl (seg34s K0 KX T F N hfr hmk hsa hM hF hS hck hba hC hc1) ?_
  intro h₁ tk m5 news F N hP
  obtain ⟨hk, ⟨tw, hwr⟩, _⟩ := hP
  have S := S.kept hk (by kernel_rfl)
  have hsa := hsa.keptB hk (by kernel_rfl)
  have hck := hck.keptB hk (by kernel_rfl)
  clear hk hfr hmk hba
  obtain ⟨tf, hfr⟩ := S.sfr
  obtain ⟨tm, hmk⟩ := S.smk
  obtain ⟨tb, hba⟩ := S.sba
  exact seg_last (seg36s K0 KX T F N hfr hmk hsa hM hF hS hck hba hwr hb hC hc1) hQ
/-- the middle part: what is given is read -/
theorem mid {h₁ : Heap} {tk : Nat} {m : Str → Option Value} {q : Addr} {ws : List Value} {x1 : Str} {l : List Str} {n : Nat} {fr mk : Str} {b : Nat} {dflt : Option Int} {bb : Int}
    (K0 : Below callerA s₁.heap [] s₁.heap) (KX : (hd.heap_39 w.params).In s₁.heap) (T : Top p loose mean mg mb s₁.heap) (F : Fr s₁.heap L h₁ m) (N : News s₁.heap L h₁ [(q, listOf ws.toArray n)]) (S : St fr mk b dflt bb m)
    (hfd : LookIs m (Str.ofString "fields") (.ref q)) (hws : StrsAre ws (x1 :: l)) (h5 : (x1 :: l).length ≤ 5) (hfl : ∀ x ∈ x1 :: l, FieldIs x) (hM : MarkIs mk) (hF : FrontIs fr) (hb : b = 10 ∨ b = 16)
    (hQ : ∀ h' tk' m', Fr s₁.heap L h' m' → Q (.ret (.bool true)) { s₁ with heap := h', toks := tk' }) : lawGoal w L fa cd Q E 8 { s₁ with heap := h₁, toks := tk } := by
  have hf6 := front_len hF
  have hm2 := (mark_len hM).2
  have hm1 := (mark_len hM).1
  have hne : x1 :: l ≠ [] := List.cons_ne_nil _ _
  have hok : ∀ x ∈ x1 :: l, OkS x := fun x hx => (hfl x hx).1
  have hjl := join_le hm2 (x1 :: l) hfl
  have hgl : (fr ++ PySem.Str.join mk (x1 :: l)).length ≤ 100 := by rw [PySem.Str.length_append]; omega
  have hga : Ascii (fr ++ PySem.Str.join mk (x1 :: l)) := ascii_app (front_ascii hF) (join_ascii hM _ hfl)
  have hz := join_hash hM (x1 :: l) hfl
  obtain ⟨tf, hfr⟩ := S.sfr
  obtain ⟨tm, hmk⟩ := S.smk
  refine seg_then (k := 9) rfl (seg8 K0 KX T F N hfd hfr hmk hws h5 hfl hf6 hm2) ?_
  intro h₁ tk m1 news F N hP
  obtain ⟨hk, ⟨tg, hgv⟩, hs⟩ := hP
  have N := news_one N (hs _ (.head _))
  have S := S.kept hk (by kernel_rfl)
  have hfd := hfd.keptB hk (by kernel_rfl)
  clear hk hs hfr hmk
  refine seg_then (k := 10) rfl (seg9 K0 KX T F N hfd hws h5 hfl) ?_
  intro h₁ tk m2 news F N hP
  obtain ⟨hk, c, ys, n2, hch, hc, hys, hq⟩ := hP
  have N := news_two N hc hq
  have S := S.kept hk (by kernel_rfl)
  have hfd := hfd.keptB hk (by kernel_rfl)
  have hgv := hgv.keptB hk (by kernel_rfl)
  clear hk hc hq
  refine seg_then (k := 13) rfl (seg10 K0 KX T F N hfd hch hws hys h5 hne) ?_
  intro h₁ tk m3 news F N hP
  obtain ⟨hk, ⟨dv, hdu, hdd⟩, hs⟩ := hP
  have S := S.kept hk (by kernel_rfl)
  have hfd := hfd.keptB hk (by kernel_rfl)
  have hgv := hgv.keptB hk (by kernel_rfl)
  have hch := hch.keptB hk (by kernel_rfl)
  clear hk
  obtain ⟨tf, hfr⟩ := S.sfr
  obtain ⟨tm, hmk⟩ := S.smk
  obtain ⟨tb, hba⟩ := S.sba
  obtain ⟨dfv, hde, hdv⟩ := S.sde
  refine seg_then (k := 14) rfl (seg13 K0 KX T F N hgv hfr hmk hdu hdd (dtok_two hfl) (two_app hM hne hok) hga (by omega) (by omega) (by omega) hm1) ?_
  intro h₁ tk m4 news F N hP
  obtain ⟨hm, hs2⟩ := hP
  rw [hm] at F
  have hc := hs2 _ (hs _ (.head _))
  have hq := hs2 _ (hs _ (.tail _ (.head _)))
  have N := news_two N hc hq
  clear hs hs2 hc hq hdd hdu
  obtain ⟨t1, vs, rfl⟩ := strsAre_cons hws
  refine seg_then (k := 15) rfl (seg14 (r := []) K0 KX T F N hfd hba hde ⟨hok _ (.head _), hb⟩ (Nat.le_trans (hfl _ (.head _)).2 (by decide)) hdv) ?_
  intro h₁ tk m5 news F N hP
  obtain ⟨hk, ⟨rv, hro, hrd⟩, hs⟩ := hP
  have N := news_two N (hs _ (.head _)) (hs _ (.tail _ (.head _)))
  have hrd0 : DtIn [] rv (specRounds x1 b dflt) := by
    rcases rounds_cases x1 b dflt with e | ⟨k, e⟩ <;> (rw [e] at hrd ⊢; exact hrd)
  have S := S.kept hk (by kernel_rfl)
  have hfd := hfd.keptB hk (by kernel_rfl)
  have hgv := hgv.keptB hk (by kernel_rfl)
  have hch := hch.keptB hk (by kernel_rfl)
  clear hk hs hfr hmk hba hde hrd
  refine seg_then (k := 17) rfl (seg15 K0 KX T F N hfd hro hws h5 hrd0) ?_
  intro h₁ tk m6 news F N hP
  obtain ⟨hk, ⟨dv, hdu, hdd⟩, hs⟩ := hP
  have N := news_cons2 N (hs _ (.head _)) (hs _ (.tail _ (.head _)))
  have S := S.kept hk (by kernel_rfl)
  have hfd := hfd.keptB hk (by kernel_rfl)
  have hgv := hgv.keptB hk (by kernel_rfl)
  have hch := hch.keptB hk (by kernel_rfl)
  have hro := hro.keptB hk (by kernel_rfl)
  clear hk hs
  refine seg_then (k := 18) rfl (seg17 K0 KX T F N hfd hch hro hdu hws hys h5 hrd0 hdd) ?_
  clear hdu hdd
  intro h₁ tk m7 news F N hP
  obtain ⟨hk, ⟨dv, hdu, hdd⟩, hs⟩ := hP
  have S := S.kept hk (by kernel_rfl)
  have hfd := hfd.keptB hk (by kernel_rfl)
  have hgv := hgv.keptB hk (by kernel_rfl)
  have hch := hch.keptB hk (by kernel_rfl)
  clear hk hro
  obtain ⟨tf, hfr⟩ := S.sfr
  obtain ⟨tm, hmk⟩ := S.smk
  obtain ⟨tb, hba⟩ := S.sba
  obtain ⟨dfv, hde, hdv⟩ := S.sde
  refine seg_then (k := 19) rfl (seg18 K0 KX T F N hgv hfr hmk hba hde hdu hdd (dtok_three hfl) (three_app hM hne hok) hga (by omega) (by omega) (by omega) hm1 hb hdv (okparts_app hM hne hok)) ?_
  intro h₁ tk m7 news F N hP
  obtain ⟨hm, hs2⟩ := hP
  rw [hm] at F
  have hc := hs2 _ (hs _ (.head _))
  have hq := hs2 _ (hs _ (.tail _ (.head _)))
  have N := news_two N hc hq
  clear hs hs2 hc hq hdd hdu
  refine seg_then (k := 20) rfl (seg19 K0 KX T F N hfd hba hde (.tail _ (.head _)) hws hfl hb hdv) ?_
  intro h₁ tk m8 news F N hP
  obtain ⟨hk, hs⟩ := hP
  have N := news_two N (hs _ (.head _)) (hs _ (.tail _ (.head _)))
  have S := S.kept hk (by kernel_rfl)
  have hfd := hfd.keptB hk (by kernel_rfl)
  have hgv := hgv.keptB hk (by kernel_rfl)
  have hch := hch.keptB hk (by kernel_rfl)
  clear hk hs hfr hmk hba hde
  obtain ⟨tf, hfr⟩ := S.sfr
  refine seg_then (k := 22) rfl (seg20 K0 KX T F N hfr hF) ?_
  intro h₁ tk m9 news F N hP
  obtain ⟨hk, ⟨nq, nws, nl, nn, hnm, hnin, hnws, hot⟩, hs⟩ := hP
  have S := S.kept hk (by kernel_rfl)
  have hfd := hfd.keptB hk (by kernel_rfl)
  have hgv := hgv.keptB hk (by kernel_rfl)
  have hch := hch.keptB hk (by kernel_rfl)
  clear hk hfr
  obtain ⟨tm, hmk⟩ := S.smk
  obtain ⟨tb, hba⟩ := S.sba
  refine seg_then (k := 23) rfl (seg22 K0 KX T F N hnm hgv hmk hba hnin hnws hot (front_hash hF) hz (by omega) (by omega) hm1 hb) ?_
  intro h₁ tk m10 news F N hP
  obtain ⟨hk, hs2⟩ := hP
  have N := news_two N (hs2 _ (hs _ (.head _))) (hs2 _ (hs _ (.tail _ (.head _))))
  have S := S.kept hk (by kernel_rfl)
  have hfd := hfd.keptB hk (by kernel_rfl)
  have hgv := hgv.keptB hk (by kernel_rfl)
  have hch := hch.keptB hk (by kernel_rfl)
  clear hk hs hs2 hmk hba
  obtain ⟨tf, hfr⟩ := S.sfr
  obtain ⟨tm, hmk⟩ := S.smk
  obtain ⟨tb, hba⟩ := S.sba
  obtain ⟨dfv, hde, hdv⟩ := S.sde
  obtain ⟨tbb, hbb⟩ := S.sbb
  refine seg_then (k := 24) rfl (seg23 K0 KX T F N hfr hgv hmk hba hF (by omega) (by omega) hm1 hf6 hb) ?_
  intro h₁ tk m11 news F N hP
  obtain ⟨hm, hs⟩ := hP
  rw [hm] at F
  have N := news_two N (hs _ (.head _)) (hs _ (.tail _ (.head _)))
  clear hs
  refine seg_then (k := 25) rfl (wpC_mono (seg24 (E := fun _ _ => False) K0 KX T F N hfr hgv hmk hba hde hbb ⟨by passes_own⟩) (fun _ _ h => h) fun _ _ h => h.elim) ?_
  intro h₁ tk m12 news F N hP
  obtain ⟨hk, hs⟩ := hP
  have N := news_two N (hs _ (.head _)) (hs _ (.tail _ (.head _)))
  have S := S.kept hk (by kernel_rfl)
  have hfd := hfd.keptB hk (by kernel_rfl)
  have hch := hch.keptB hk (by kernel_rfl)
  clear hk hs hfr hmk hba hde hbb
  refine seg_then (k := 26) rfl (seg25 K0 KX T F N hfd hch hws hys h5) ?_
  intro h₁ tk m13 news F N hP
  obtain ⟨hk, ts, y, hsa, hck, ho⟩ := hP
  have S := S.kept hk (by kernel_rfl)
  rcases opt_split ho with rfl | ⟨tc, rfl, hc1⟩
  · exact tail_none K0 KX T F N S ⟨ts, hsa⟩ hck hM hF (hfl _ (.head _)) hb hQ
  · exact tail_some K0 KX T F N S ⟨ts, hsa⟩ hck hM hF (hfl _ (.head _)) (last_mem hfl) hc1 hb hQ
/-- the law's body -/
theorem law_body {h₁ : Heap} {tk : Nat} {D : Addr} {vs : List Value} {ns : List Int} {cell : Obj}
    (K0 : Below callerA s₁.heap [] s₁.heap) (KX : (hd.heap_39 w.params).In s₁.heap) (T : Top p loose mean mg mb s₁.heap) (F : Fr s₁.heap L h₁ (fun _ => none)) (N : News s₁.heap L h₁ [(L + 1, cell)])
    (hL : s₁.heap.IsList D vs.toArray) (hI : IntsAre vs ns) (h63 : ¬ 63 < ns.length) (hcell : cell.data = .cell (some (.ref D)))
    (hQ : ∀ h' tk' m', Fr s₁.heap L h' m' → Q (.ret (.bool true)) { s₁ with heap := h', toks := tk' }) : lawGoal w L fa cd Q E 0 { s₁ with heap := h₁, toks := tk } := by
  refine seg_then (k := 1) rfl (seg0 K0 KX T F N hL hI h63 hcell) ?_
  intro h₁ tk m1 news F N hP
  obtain ⟨⟨a, ta, ha⟩, ⟨bb, tb, hb⟩, hc⟩ := hP
  have N := news_one N hc
  clear hc
  refine seg_then (k := 2) rfl (seg1 K0 KX T F N ha) ?_
  intro h₁ tk m2 news F N hP
  obtain ⟨hk, ⟨v, hv, fr, tf, e, hF⟩, hs⟩ := hP
  subst e
  have N := news_one N (hs _ (.head _))
  have ha := ha.keptB hk (by kernel_rfl)
  have hb := hb.keptB hk (by kernel_rfl)
  clear hk hs
  refine seg_then (k := 3) rfl (seg2 K0 KX T F N ha) ?_
  intro h₁ tk m3 news F N hP
  obtain ⟨hk, ⟨v2, hv2, mk, tm, e, hM⟩, hs⟩ := hP
  subst e
  have N := news_one N (hs _ (.head _))
  have ha := ha.keptB hk (by kernel_rfl)
  have hb := hb.keptB hk (by kernel_rfl)
  have hv := hv.keptB hk (by kernel_rfl)
  clear hk hs
  refine seg_then (k := 4) rfl (seg3 K0 KX T F N ha) ?_
  intro h₁ tk m4 news F N hP
  obtain ⟨hk, ⟨v3, hv3, b, tb3, e, hb3⟩, hs⟩ := hP
  subst e
  have N := news_one N (hs _ (.head _))
  have ha := ha.keptB hk (by kernel_rfl)
  have hb := hb.keptB hk (by kernel_rfl)
  have hv := hv.keptB hk (by kernel_rfl)
  have hv2 := hv2.keptB hk (by kernel_rfl)
  clear hk hs
  refine seg_then (k := 5) rfl (seg4 K0 KX T F N ha hb) ?_
  intro h₁ tk m5 news F N hP
  obtain ⟨hk, ⟨v4, hv4, dflt, hdv⟩, hs⟩ := hP
  have N := news_one N (hs _ (.head _))
  have S : St fr mk b dflt bb m5 := ⟨⟨_, hv.keptB hk (by kernel_rfl)⟩, ⟨_, hv2.keptB hk (by kernel_rfl)⟩, ⟨_, hv3.keptB hk (by kernel_rfl)⟩, ⟨_, hv4, hdv⟩, ⟨_, hb.keptB hk (by kernel_rfl)⟩⟩
  clear hk hs ha hb hv hv2 hv3 hv4
  refine seg_then (k := 7) rfl (seg5 K0 KX T F N hL hI h63 hcell) ?_
  intro h₁ tk m6 news F N hP
  obtain ⟨hk, q, ws, l, n, hfd, hq, hws, h5, hfl⟩ := hP
  have N := news_one N hq
  have S := S.kept hk (by kernel_rfl)
  clear hk hq
  refine seg_then (k := 8) rfl (seg7 K0 KX T F N hfd hws h5 hfl) ?_
  intro h₁ tk m7 news F N hP
  obtain ⟨hk, q, ws, l, n, hfd, hq, hws, h5, hl0, hfl⟩ := hP
  have N := news_one N hq
  have S := S.kept hk (by kernel_rfl)
  clear hk hq
  cases l with
  | nil => exact absurd rfl hl0
  | cons x1 l => exact mid K0 KX T F N S hfd hws h5 hfl hM hF hb3 hQ
end
end Mine
end
-- LawD
section
open PySem PySem.W PyProof.Rows PySem.Calls PySem.Spec
namespace Mine
theorem law_walk : PySem.Challenge.rw_iw0004_01.Holds := by
  rw [← rw2_eq]
  refine Mine.hd ?_
  rw [rw2_eq]
  intro w s₀ s₁ mg mb G Y fa o pm cd doc dV kV ho hd' hcd hD hmg hg args vals as hpre hlay hrd hwl hlo
  have KX := kIn_of Y
  have X := (Ground.X G).1
  have V := (Ground.X G).2
  refine Ground.open G ?_
  intro T B D TE TW
  obtain ⟨_, _, M⟩ := bmod_of_top T
  have TA := at_of_top T
  (try (obtain ⟨_, _, he, B0⟩ := based_of_top T rfl hmg ho hd'; have he' : cd = _ := he; subst he'; clear he))
  clear hmg
  wrow_args hpre hlay hrd hwl hlo
  have he := Dflts.none hD rfl
  subst he
  have he := Dflts.noKw hD
  subst he
  refine ⟨?walk, ?good⟩
  case good =>
    refine' ⟨.inl ⟨_, _, [], rfl, raisesW_false (by wrow_none_raised), ?g1, ?g2, ?g3⟩, B0.old, rfl, ?g4⟩
    case g1 => w_reads
    case g3 => first | exact unshared_nil | exact fun h => absurd h (by decide)
    case g2 => exact postW_of (by wrow_shape) (by wtm_val) (by str_meet; first | done | w_fin)
    case g4 => row_bare
  have K0 := below_caller (Top.heap T)
  refine' wpC_call (codeC_cells (T.nolimit) ho (fd_plain hd') hcd ?room ?bind ?kind ?nd ?body ?e1 ?e2 ?e3)
  case room => decide
  case e1 => exact rfl
  case e2 => exact rfl
  case e3 => exact rfl
  case bind => exact BindsTo.of_eq rfl
  case kind =>
    intro n
    refine kinds_of ?_
    kinds_ok
  case nd => decide
  intro h₁ tk cells F' N' C'
  cells_open C'
  rename IntsAre _ _ => hI
  rename Heap.IsList _ _ _ => hL
  rename Obj.data _ = Data.cell _ => hcell
  refine' law_body (L := s₁.heap.objs.size) K0 KX T F' N' hL hI ?h6 hcell ?hQ
  case h6 => omega
  case hQ =>
    intro h' tk' m' FF
    dsimp only
    refine' ⟨.inl ⟨_, _, [], rfl, raisesW_false (by wrow_none_raised), ?w1, ?w2, ?w3⟩, .of_keep FF.keep, rfl, ?w4⟩
    case w1 => w_reads
    case w3 => first | exact unshared_nil | exact fun h => absurd h (by decide)
    case w2 => exact postW_of (by wrow_shape) (by wtm_val) (by str_meet; first | done | w_fin)
    case w4 => row_bare
end Mine
end
theorem PySem.Challenge.cw_iw0004_01_holds : PySem.Challenge.rw_iw0004_01.Holds :=
  Mine.law_walk
