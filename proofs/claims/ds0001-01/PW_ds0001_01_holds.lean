import PyProof.Rows.All
import Wide.All
import OpenK.AllK
import Wide.FinOn
import PySem.Challenge.RW_ds0001_01
open PySem PySem.W PyProof.Rows PySem.Calls PySem.Spec PyProof.V
set_option Elab.async false
set_option maxRecDepth 100000

namespace Mine
open PySem.Sem (wp)

/-- the built-ins that, lying in the stack, may hold a bytearray -/
def badIds : List String := ["bytearray.__contains__", "bytearray.__mod__", "bytearray.__rmod__", "_struct.pack_into.held", "bytearray.find.held"] ++ Builtin.Bytes.decodersThatHold
def bad : Code → Bool
  | .builtin id _ => badIds.contains id
  | _ => false
def Clean (l : List (Code × Pos)) : Prop := ∀ x ∈ l, bad x.1 = false
theorem Clean.cons {c : Code} {p : Pos} {l : List (Code × Pos)} (hc : bad c = false) (h : Clean l) : Clean ((c, p) :: l) := by
  intro x hx
  rcases List.mem_cons.mp hx with rfl | hx
  · exact hc
  · exact h x hx

def wpCl {α : Type} (M : Model) (A : Around) (t : Sem α) (Q : α → Shared → Prop) (E : Value → Shared → Prop) (s : Shared) : Prop :=
  ∀ Γ p, Γ.In A → bad Γ.code = false → Clean Γ.below → wp M Γ t (fun a _ s' => Q a s') (fun e _ s' => E e s') p s
def codeCl (M : Model) (A : Around) (c : Code) (R : Result → Shared → Prop) (s : Shared) : Prop :=
  ∀ Γ p, Γ.code = c → Γ.Below A → Clean Γ.below → wpCode M Γ R p s

section
variable {α β : Type} {M : Model} {A : Around} {E : Value → Shared → Prop} {s : Shared}
theorem of_any {t : Sem α} {Q : α → Shared → Prop} (h : wpAny M A t Q E s) : wpCl M A t Q E s := fun Γ p hΓ _ _ => h Γ p hΓ
theorem code_of_any {c : Code} {R : Result → Shared → Prop} (h : codeAny M A c R s) : codeCl M A c R s := fun Γ p hc hΓ _ => h Γ p hc hΓ
theorem cl_mono {t : Sem α} {Q Q' : α → Shared → Prop} {E' : Value → Shared → Prop} (h : wpCl M A t Q E s)
    (hQ : ∀ a s, Q a s → Q' a s) (hE : ∀ e s, E e s → E' e s) : wpCl M A t Q' E' s :=
  fun Γ p hΓ hc hb => Sem.wp_mono M Γ t (fun a _ s => hQ a s) (fun e _ s => hE e s) p s (h Γ p hΓ hc hb)
theorem cl_bind {m : Sem α} {f : α → Sem β} {Q : β → Shared → Prop} (h : wpCl M A m (fun a s' => wpCl M A (f a) Q E s') E s) :
    wpCl M A (m >>= f) Q E s := fun Γ p hΓ hc hb => by
  rw [Sem.wp_bind']
  exact Sem.wp_mono M Γ m (fun a p' s' h' => h' Γ p' hΓ hc hb) (fun _ _ _ h' => h') p s (h Γ p hΓ hc hb)
/-- the first part by the library, the rest clean -/
theorem cl_then {m : Sem α} {f : α → Sem β} {Q : β → Shared → Prop} (h : wpAny M A m (fun a s' => wpCl M A (f a) Q E s') E s) :
    wpCl M A (m >>= f) Q E s := cl_bind (of_any h)
theorem cl_onRaise {m : Sem α} {k : Value → Sem Unit} {Q : α → Shared → Prop}
    (h : wpCl M A m Q (fun e s' => wpAny M A (k e) (fun _ s'' => E e s'') E s') s) : wpCl M A (m.onRaise k) Q E s := fun Γ p hΓ hc hb => by
  rw [Sem.wp_onRaise]
  exact Sem.wp_mono M Γ m (fun _ _ _ h' => h') (fun e p' s' h' => h' Γ p' hΓ) p s (h Γ p hΓ hc hb)
theorem cl_attempt {m : Sem α} {Q : Except Value α → Shared → Prop} (h : wpCl M A m (fun a => Q (.ok a)) (fun e => Q (.error e)) s) :
    wpCl M A m.attempt Q E s := fun Γ p hΓ hc hb => by rw [Sem.wp_attempt]; exact h Γ p hΓ hc hb
theorem cl_holding {vs : List Value} {m : Sem α} {Q : α → Shared → Prop} (h : wpCl M A m Q E s) : wpCl M A (holding vs m) Q E s :=
  fun Γ p hΓ hc hb => by rw [Sem.wp_holding]; exact h Γ p hΓ hc hb
theorem cl_keep {vs : List Value} {m : Sem α} {Q : α → Shared → Prop} (h : wpCl M A m Q E s) : wpCl M A (m.keep vs) Q E s :=
  fun Γ p hΓ hc hb => by rw [Sem.wp_keep]; exact h Γ p hΓ hc hb
theorem cl_runValue {c : Code} {Q : Value → Shared → Prop}
    (hc : codeCl M A c (fun r s' => match r with | .ok (.ret v) => Q v s' | .ok _ => False | .error e => E e s') s) :
    wpCl M A (runValue c) Q E s := fun Γ p hΓ hb hl => by
  rw [Sem.wp_runValue]; exact hc _ p rfl (hΓ.enter c none p (by intro x; cases x)) (Clean.cons hb hl)
theorem cl_call {f : Value} {pos : List Value} {kw : List (Str × Value)} {Q : Value → Shared → Prop}
    (hc : codeCl M A (.call f ⟨pos, kw⟩) (fun r s' => match r with | .ok (.ret v) => Q v s' | .ok _ => False | .error e => E e s') s) :
    wpCl M A (call f pos kw) Q E s := cl_runValue hc
theorem codeCl_mono {c : Code} {R R' : Result → Shared → Prop} (h : codeCl M A c R s) (hR : ∀ r s, R r s → R' r s) : codeCl M A c R' s :=
  fun Γ p hc hΓ hl => wpCode_mono hR (h Γ p hc hΓ hl)
theorem codeCl_of_tree {c : Code} {R : Result → Shared → Prop} (hb : bad c = false)
    (h : wpCl M (A.under c) (M.den c) (fun fin s' => match fin with | .done f => R (.ok f) s' | .again c' => c'.quiet = true ∧ codeCl M A c' R s')
      (fun e s' => R (.error e) s') s) : codeCl M A c R s := fun Γ p hc hΓ hl => by
  rw [wpCode_iff_wp, hc]
  refine Sem.wp_mono M Γ _ (fun fin p' s' h' => ?_) (fun _ _ _ h' => h') p s (h Γ p (hc ▸ hΓ.in) (hc ▸ hb) hl)
  cases fin with
  | done f => exact h'
  | again c' => exact ⟨h'.1, h'.2 (Γ.goto c') p' rfl (hΓ.goto c') hl⟩
end

section
variable {M : Model} {A : Around} {E : Value → Shared → Prop} {s : Shared} {env : Env}
/-- some statements by the library, the rest clean -/
theorem cl_execs_append {as bs : List Stmt} {Q : Flow → Shared → Prop}
    (h : wpAny M A (execs as env) (fun f s' => match f with | .next => wpCl M A (execs bs env) Q E s' | f => Q f s') E s) :
    wpCl M A (execs (as ++ bs) env) Q E s := by
  have key : ∀ (as : List Stmt) (s : Shared) (Γ : PySem.Ctx) (p : Pos), Γ.In A → bad Γ.code = false → Clean Γ.below →
      wp M Γ (execs as env) (fun f _ s' => match f with | .next => wpCl M A (execs bs env) Q E s' | f => Q f s') (fun e _ s' => E e s') p s →
      wp M Γ (execs (as ++ bs) env) (fun f _ s' => Q f s') (fun e _ s' => E e s') p s := by
    intro as
    induction as with
    | nil => intro s Γ p hΓ hc hb h; exact h Γ p hΓ hc hb
    | cons a as ih =>
      intro s Γ p hΓ hc hb h
      rw [List.cons_append, execs_cons, Sem.wp_bind']
      rw [execs_cons, Sem.wp_bind'] at h
      refine Sem.wp_mono M Γ _ (fun f p' s' h' => ?_) (fun _ _ _ h' => h') _ _ h
      cases f with
      | next => exact ih s' Γ p' hΓ hc hb h'
      | ret v => exact h'
      | brk => exact h'
      | cont => exact h'
  exact fun Γ p hΓ hc hb => key as s Γ p hΓ hc hb (h Γ p hΓ)
theorem cl_execs_cons {st rest} {Q : Flow → Shared → Prop}
    (h : wpCl M A (exec st env) (fun f s' => match f with | .next => wpCl M A (execs rest env) Q E s' | f => Q f s') E s) :
    wpCl M A (execs (st :: rest) env) Q E s := fun Γ p hΓ hc hb => by
  rw [execs_cons, Sem.wp_bind']
  refine Sem.wp_mono M Γ _ (fun f p' s' h' => ?_) (fun _ _ _ h' => h') _ _ (h Γ p hΓ hc hb)
  cases f <;> first | exact h' Γ p' hΓ hc hb | exact h'
theorem cl_Assign_Name {x pos' value pos} {Q : Flow → Shared → Prop}
    (h : wpCl M A (eval value env) (fun v s₁ => wpAny M A (storeName env x v) (fun _ => Q .next) E s₁) E s)
    (hs : swapsWith value (some (.Name x pos')) pos.line env = pure false := by rfl) :
    wpCl M A (exec (.Assign [.Name x pos'] value pos) env) Q E s := fun Γ p hΓ hc hb => by
  simp only [exec_Assign_Name env x pos' value pos hs, Sem.wp_bind', Sem.wp_cmd_standAt, Sem.wp_bindName, Sem.wp_pure']
  exact Sem.wp_mono M Γ _ (fun v _ s₁ h₁ => h₁ Γ _ hΓ) (fun _ _ _ h' => h') _ _ (h Γ _ hΓ hc hb)
theorem cl_If {test body orelse pos} {Q : Flow → Shared → Prop}
    (h : wpAny M A (isTrue test env (eval test env))
      (fun b s₂ => if b then wpCl M A (execs body env) Q E s₂ else wpCl M A (execs orelse env) Q E s₂) E s) :
    wpCl M A (exec (.If test body orelse pos) env) Q E s := fun Γ p hΓ hc hb => by
  simp only [exec_If, Sem.wp_bind', Sem.wp_cmd_standAt]
  refine Sem.wp_mono M Γ _ (fun b p₂ s₂ h₂ => ?_) (fun _ _ _ h' => h') _ _ (h Γ _ hΓ)
  cases b <;> exact h₂ Γ p₂ hΓ hc hb
theorem cl_Return_some {e pos} {Q : Flow → Shared → Prop} (h : wpCl M A (eval e env) (fun v => Q (.ret v)) E s) :
    wpCl M A (exec (.Return (some e) pos) env) Q E s := fun Γ p hΓ hc hb => by
  simp only [exec_Return_some, Sem.wp_bind', Sem.wp_cmd_standAt, Sem.wp_pure']; exact h Γ _ hΓ hc hb
theorem cl_Call {func : Expr} {args : List Expr} {pos : Pos} {Q : Value → Shared → Prop}
    (h : wpAny M A (eval func env) (fun f s₁ => wpCl M A (callWith pos f [] (backTo pos (starEach args env)) []) Q E s₁) E s)
    (he : eval (.Call func args [] pos) env = (do callWith pos (← eval func env) [] (backTo pos (starEach args env)) (backToKw pos (keywordEach [] env))) := by rfl) :
    wpCl M A (eval (.Call func args [] pos) env) Q E s := by
  rw [he]; exact cl_then h
/-- the arguments by the library, the call itself clean -/
theorem cl_callWith {f : Value} {pos : Pos} {e : Expr} {rest : List Expr} {P : Heap → Prop} {Q : Value → Shared → Prop}
    (hk : ∀ h, P h → ∃ k, (k = Keeper.frame ∨ k = Keeper.machine ∨ k = Keeper.boundFrame) ∧ Looks M h (keeperOf f) k)
    (h : wpAny M A (spliced (backTo pos (starEach (e :: rest) env))) (fun vs s₁ => P s₁.heap ∧ wpCl M A (call f vs) Q E s₁) E s)
    (he : starEach (e :: rest) env = (false, eval e env) :: starEach rest env := by rfl) (hplain : (backTo pos (starEach rest env)).any (·.1) = false := by rfl) :
    wpCl M A (callWith pos f [] (backTo pos (starEach (e :: rest) env)) []) Q E s := by
  rw [he] at h ⊢
  unfold callWith
  have ha : wpAny M A (evalArgs f true (backTo pos ((false, eval e env) :: starEach rest env)) []) (fun a s₁ => P s₁.heap ∧ a.kw = [] ∧ wpCl M A (call f a.pos) Q E s₁) E s :=
    evalArgs_plain (wpAny_mono h (fun vs s₁ h₁ => ⟨h₁.1, rfl, h₁.2⟩) fun _ _ x => x)
  refine cl_then (wpAny_holding (wpAny_mono ha (fun a s₁ h₁ => cl_then (wpAny_standAt ?_)) fun _ _ x => x))
  obtain ⟨h1, h2, h3⟩ := h₁
  obtain ⟨k, hk', L⟩ := hk _ h1
  have hst : ((backTo pos ((false, eval e env) :: starEach rest env)).any (·.1) || ([] : List (Option Str × Sem Value)).any (·.1.isNone)) = false := by
    show ((false || (backTo pos (starEach rest env)).any (·.1)) || false) = false
    rw [hplain]; rfl
  simp only [hst, h2, List.nil_append]
  refine cl_then (L.here ?_)
  have tail : ∀ {t : Sem Value}, wpCl M A t Q E s₁ → wpCl M A (t >>= fun r => holding [r] point >>= fun _ => pure r) Q E s₁ :=
    fun ht => cl_bind (cl_mono ht (fun r s₂ hr => of_any (wpAny_bind (wpAny_holding (wpAny_point (wpAny_pure hr))))) fun _ _ x => x)
  have marked (mk : Value) : wpCl M A (callMarked mk f a.pos []) Q E s₁ := by unfold callMarked; exact cl_keep h3
  rcases hk' with rfl | rfl | rfl <;> dsimp only <;> first | exact tail h3 | (split <;> first | exact tail h3 | exact tail (marked _))
theorem cl_tryStmt {body orelse : Sem Flow} {h₀ : ExceptHandler} {hs : List ExceptHandler} {Q : Flow → Shared → Prop}
    (h : wpCl M A body (fun f s₁ => match f with | .next => wpAny M A orelse Q E s₁ | f => Q f s₁)
      (fun e s₁ => wpAny M A (noteFrame e env) (fun _ s₂ => wpAny M A (setFlight e none) (fun _ s₃ => wpAny M A (handleBy e env (h₀ :: hs)) Q E s₃) E s₂) E s₁) s) :
    wpCl M A (tryStmt false body (h₀ :: hs) orelse [] env) Q E s := by
  unfold tryStmt
  refine cl_bind (cl_attempt (cl_mono h (fun f s₁ h₁ => ?_) fun e s₁ h₁ => ?_))
  · refine of_any ?_
    cases f with
    | next => exact h₁
    | ret v => exact wpAny_pure h₁
    | brk => exact wpAny_pure h₁
    | cont => exact wpAny_pure h₁
  · refine of_any ?_
    exact wpAny_bind (wpAny_mono h₁ (fun _ s₂ h₂ => wpAny_bind (wpAny_mono h₂ (fun _ s₃ h₃ => h₃) fun _ _ x => x)) fun _ _ x => x)
theorem cl_Try {body orelse : List Stmt} {h₀ : ExceptHandler} {hs : List ExceptHandler} {pos : Pos} {Q : Flow → Shared → Prop}
    (h : wpCl M A (execs body env) (fun f s₁ => match f with | .next => wpAny M A (execs orelse env) Q E s₁ | f => Q f s₁)
      (fun e s₁ => wpAny M A (noteFrame e env) (fun _ s₂ => wpAny M A (setFlight e none) (fun _ s₃ => wpAny M A (handleBy e env (h₀ :: hs)) Q E s₃) E s₂) E s₁) s) :
    wpCl M A (exec (.Try body (h₀ :: hs) orelse [] pos) env) Q E s := by
  rw [arm_exec_Try]
  exact cl_then (wpAny_standAt (cl_tryStmt h))
end

section
variable {prog : Program} {w : World} {A : Around} {R : Result → Shared → Prop} {s : Shared}
theorem codeCl_func {body env}
    (h : wpCl (model prog w) (A.deeper env) (execs body env) (fun f s' => R (.ok (.ret (match f with | .ret v => v | _ => .none))) s')
      (fun e s' => wpAny (model prog w) (A.deeper env) (leaving env e) (fun _ s'' => R (.error e) s'') (fun e' s'' => R (.error e') s'') s') s) :
    codeCl (model prog w) A (.func body env) R s := by
  refine codeCl_of_tree rfl ?_
  show wpCl _ (A.deeper env) (do point; match ← (execs body env).onRaise (leaving env) with | .ret v => ret v | _ => ret .none) _ _ s
  refine cl_then (wpAny_point (cl_bind (cl_onRaise (cl_mono h (fun f s' h' => ?_) fun _ _ h' => h'))))
  cases f <;> exact of_any (wpAny_pure h')
theorem codeCl_call_function {a : Addr} {args : Args} {o : Obj} {fd : FuncData} {body : List Stmt} (hroom : A.depth < recursionLimit)
    (ho : s.heap.get? a = some o)
    (hd' : o.data = .func fd) (hco : fd.scope.isCoroutine = false) (hgen : fd.scope.isGenerator = false) (hbody : fd.body = .stmts body) (hcd : s.heap.CodeRec fd.code fd.qualname)
    (h : wpAny (model prog w) A.in1 (bindArgs fd args) (fun binds s₁ =>
      wpAny (model prog w) A.in1 (newFunctionEnv fd.scope fd.globals fd.closure binds (fd.qualname ++ ".<locals>.") (some a) fd.code none fd.builtins)
        (fun env s₂ => s₂.heap.NoLimit ∧ codeCl (model prog w) A (.func body env) R s₂) (fun e s' => R (.error e) s') s₁) (fun e s' => R (.error e) s') s) :
    codeCl (model prog w) A (.call (.ref a) args) R s := by
  refine codeCl_of_tree rfl (of_any ?_)
  show wpAny _ A.in1 (callAny (.ref a) args) _ _ s
  simp only [callAny]
  refine wpAny_bind (wpAny_load ho ?_)
  obtain ⟨c, oc, vs, tq, hc, hoc, hdc, hq⟩ := hcd
  simp only [hd', callFunction, hco, hgen, hbody, hc]
  rw [hc] at h
  refine wpAny_bind (m := field (.ref c) 1) (wpAny_field hoc hdc hq (wpAny_bind (wpAny_pure ?_)))
  exact wpAny_bind (wpAny_mono h (fun binds s₁ h₁ => wpAny_bind (wpAny_mono h₁ (fun env s₂ h₂ => wpAny_bind (wpAny_enterFrame h₂.1 hroom
    (wpAny_pure (And.intro rfl h₂.2)))) fun _ _ h' => h')) fun _ _ h' => h')
theorem codeCl_call_def {a : Addr} {o : Obj} {fd : FuncData} {body : List Stmt} {args : Args} {binds : List (Str × Value)}
    (hroom : A.depth < recursionLimit) (ho : s.heap.get? a = some o) (hdata : o.data = .func fd) (hlim : s.heap.NoLimit) (hcd : s.heap.CodeRec fd.code fd.qualname)
    (hbody : fd.body = .stmts body) (hbind : BindsTo s fd args binds)
    (hcell : ∀ x ∈ fd.scope.names, x.2 ≠ .cell) (hloc : ∀ x ∈ binds, fd.scope.names.lookup x.1 = some .local)
    (h : ∀ h₀, h₀.Ns s.heap.objs.size (fun x => binds.reverse.lookup x) → (∀ b o, s.heap.get? b = some o → h₀.get? b = some o) →
      wpCl (model prog w) (A.deeper (callEnv fd s.heap.objs.size a)) (execs body (callEnv fd s.heap.objs.size a)) (fun f s' => R (.ok (.ret (match f with | .ret v => v | _ => .none))) s')
        (fun e s' => wpAny (model prog w) (A.deeper (callEnv fd s.heap.objs.size a)) (leaving (callEnv fd s.heap.objs.size a) e) (fun _ s'' => R (.error e) s'') (fun e' s'' => R (.error e') s'') s')
        { s with heap := h₀, toks := s.toks + binds.length })
    (hco : fd.scope.isCoroutine = false := by rfl) (hgen : fd.scope.isGenerator = false := by rfl) (hk : fd.scope.kind = .function := by rfl) :
    codeCl (model prog w) A (.call (.ref a) args) R s := by
  refine codeCl_call_function hroom ho hdata hco hgen hbody hcd (hbind _ _ _ _ ?_)
  refine wpAny_newFunctionEnv hcell hloc (fun h₀ hns₀ hsb₀ => ⟨hlim.fresh _ hsb₀, codeCl_func (h h₀ hns₀ fun b o e => ?_)⟩) hk
  exact hsb₀.extBut b o (Nat.ne_of_lt (Heap.lt_size e)) (Heap.get?_push_of_some _ e)
/-- the law's own frame -/
theorem cl_full {name : Str} {params : Arguments} {body : List Stmt} {scope : Scope}
    {dV kV pm cd doc : Value} {a : Addr} {o : Obj} {args : Args} {binds : List (Str × Value)}
    (hroom : A.depth < recursionLimit) (ho : s.heap.get? a = some o) (hdata : o.data = .func { docDef name params body scope pm cd doc with defaults := dV, kwdefaults := kV }) (hlim : s.heap.NoLimit) (hcd : s.heap.CodeRec cd name)
    (hbind : BindsTo s { docDef name params body scope pm cd doc with defaults := dV, kwdefaults := kV } args binds)
    (hloc : ∀ x ∈ binds, scope.names.lookup x.1 = some .local)
    (h : ∀ h₁, Fr s.heap s.heap.objs.size h₁ (fun x => binds.reverse.lookup x) →
      wpCl (model prog w) (A.deeper (envOf name scope s.heap.objs.size a cd)) (execs body (envOf name scope s.heap.objs.size a cd))
        (fun f s' => R (.ok (.ret (match f with | .ret v => v | _ => .none))) s')
        (fun e s' => wpAny (model prog w) (A.deeper (envOf name scope s.heap.objs.size a cd)) (leaving (envOf name scope s.heap.objs.size a cd) e)
          (fun _ s'' => R (.error e) s'') (fun e' s'' => R (.error e') s'') s')
        { s with heap := h₁, toks := s.toks + binds.length })
    (hco : scope.isCoroutine = false := by rfl) (hgen : scope.isGenerator = false := by rfl) (hk : scope.kind = .function := by rfl)
    (hcell : ∀ x ∈ scope.names, x.2 ≠ .cell := by decide) :
    codeCl (model prog w) A (.call (.ref a) args) R s :=
  codeCl_call_def hroom ho hdata hlim hcd rfl hbind hcell hloc (fun h₁ hns hkeep => h h₁ ⟨hns, hkeep, Nat.le_refl _⟩) hco hgen hk
end
/-- a def called from the law's frame -/
theorem cl_def {prog : Program} {w : World} {A A₀ : Around} {s : Shared} {K : Frag} {L : Addr} {h₀ base : Heap} {m mg mb : Str → Option Value} {news : List (Addr × Obj)} {p : Program} {loose : List Str} {mean : ExcName → Option Value}
    {env : Env} {outer : List Env} {R : Result → Shared → Prop} {name qual : Str} {params : Arguments} {body : List Stmt} {scope : Scope} {dV kV doc pm cdv ct oc : Value} {an od : Option Addr} {osl : Array (Option Value)} {f : Addr} {args : Args} {binds : List (Str × Value)}
    (B : Below A₀ base outer h₀) (F : Fr h₀ L s.heap m) (X₀ : K.In h₀) (N : News h₀ L s.heap news) (T : Top p loose mean mg mb h₀) (hA : A.frames = some (env :: outer)) (hf : env.frame = some L) (hke : env.scope.kind = .function)
    (ho : K.lookup f = some ⟨oc, od, .func (fnOf name qual params body scope dV kV doc pm an cdv ct), osl⟩) (hcd : codeIn K cdv qual = true) (hroom : A.depth < recursionLimit)
    (hbind : BindsTo s (fnOf name qual params body scope dV kV doc pm an cdv ct) args binds) (hloc : ∀ y ∈ binds, scope.names.lookup y.1 = some .local)
    (h : ∀ g L' h₁, Fr h₀ L g m → Fr g L' h₁ (fun y => binds.reverse.lookup y) → News g L' h₁ news → Below A base (env :: outer) g → K.In g → Top p loose mean mg mb g →
      wpCl (model prog w) (A.deeper (envOf qual scope L' f cdv)) (execs body (envOf qual scope L' f cdv))
        (fun fl s' => LeaveK h₀ L m g R (match fl with | .ret v => v | _ => .none) s')
        (fun e s' => wpAny (model prog w) (A.deeper (envOf qual scope L' f cdv)) (leaving (envOf qual scope L' f cdv) e) (fun _ s'' => R (.error e) s'') (fun e' s'' => R (.error e') s'') s')
        { s with heap := h₁, toks := s.toks + binds.length })
    (hco : scope.isCoroutine = false) (hgen : scope.isGenerator = false) (hk : scope.kind = .function)
    (hcell : ∀ x ∈ scope.names, x.2 ≠ .cell) : codeCl (model prog w) A (.call (.ref f) args) R s := by
  obtain ⟨FG, BG, st, lv⟩ := groundX (R := R) B F N hA hf hke
  refine codeCl_call_def (fd := fnOf name qual params body scope dV kV doc pm an cdv ct) (body := body) (binds := binds) hroom ((X₀.keeps F.keep) _ _ ho) rfl (T.nolimit.keeps F.keep) (codeRec_of (X₀.keeps F.keep) hcd) rfl hbind hcell hloc (fun h₁ hns hk₁ => ?_) hco hgen hk
  exact cl_mono (h _ s.heap.objs.size h₁ FG ⟨hns, fun b o e => hk₁ b o (of_hideAll _ e), Nat.le_of_eq (hideAll_size _ _)⟩
    (fun p hp => ⟨hk₁ _ _ (N p hp).1, Nat.ne_of_lt (Heap.lt_size (N p hp).1), hideAll_none _ (List.mem_map_of_mem hp)⟩) BG (X₀.keeps st) (T.keeps st)) (fun fl s' hl => lv _ _ hl) fun _ _ y => y
end Mine

namespace Mine
open PySem.Sem (wp)
namespace F
theorem ba_mro : mroOf (.type "bytearray") = pure [.type "bytearray", .type "object"] := by rw [mroOf_type]; kernel_rfl
theorem ba_lookup_new : typeLookup (.type "bytearray") "__new__" = pure (some (.builtin "bytearray.__new__")) := by rw [typeLookup_type, builtinLookup_eq_fast]; kernel_rfl
theorem ba_slot_init : Slot "bytearray" "__init__" "bytearray.__init__" :=
  .of (owner := "bytearray") (n := "__init__") (by rw [typeLookup_type, builtinLookup_eq_fast]; kernel_rfl) (by decide +kernel) (by decide +kernel) (by decide +kernel)
    (by first | exact .inl (by decide +kernel) | exact .inr (by decide +kernel)) (by rw [isSubtype_type]; kernel_rfl)
theorem ba_called : TypeCalled "bytearray" "bytearray.__new__" "bytearray.__init__" :=
  ⟨by decide +kernel, by decide +kernel, ⟨_, _, ba_mro⟩, madeBy_type ba_mro ba_lookup_new (by decide +kernel), by decide +kernel, by rw [isSubtype_type]; kernel_rfl, ba_slot_init⟩
theorem ba_typeCall (a : Value) : checkTypeCall "bytearray" ⟨[a], []⟩ = pure () := by kernel_rfl
theorem ba_newCall (a : Value) : checkBuiltinCall "bytearray.__new__" ⟨[.type "bytearray", a], []⟩ = pure () := by kernel_rfl
theorem ba_initArgs (a b : Value) : argsOk "bytearray.__init__" ⟨[a, b], []⟩ := by unfold argsOk; kernel_rfl
theorem ba_entry_new : entryFor table "bytearray.__new__" = some Builtin.«list.__new__» :=
  entryFor_alias (id' := "list.__new__") (by kernel_rfl) (by first | rfl | decide +kernel) (by decide +kernel) (by kernel_rfl)
theorem ba_entry_init : entryFor table "bytearray.__init__" = some Builtin.«bytearray.__init__» := by first | exact entryFor_of_fast (by kernel_rfl) | exact entryFor_of_tree (by kernel_rfl)
theorem ba_plain_new : plainId "bytearray.__new__" = true := by decide +kernel
theorem ba_plain_init : plainId "bytearray.__init__" = true := by decide +kernel
theorem ba_sub : isSubtype (.type "bytearray") (.type "bytearray") = pure true := by rw [isSubtype_type]; kernel_rfl
theorem ba_release : typeLookup (.type "bytearray") "__release_buffer__" = pure (some (.builtin "bytearray.__release_buffer__")) := by rw [typeLookup_type, builtinLookup_eq_fast]; kernel_rfl
theorem ba_bind (v : Value) : Builtin.Bytes.bindOptional "bytearray.__init__" "bytearray" ["source", "encoding", "errors"] [v] [] = pure [some v, none, none] := by kernel_rfl
end F
set_option maxRecDepth 1000000 in
set_option maxHeartbeats 4000000 in
theorem owner_ba_new : ("bytearray.__new__".splitOn ".__new__").headD "" = "bytearray" := by simp +decide [String.splitOn, String.splitOnAux]
theorem rel_ends : ("bytearray.__release_buffer__".endsWith ("." ++ "__release_buffer__")) = true := by decide +kernel
theorem rel_owner : ("bytearray.__release_buffer__".dropRight ("__release_buffer__".length + 1)) = "bytearray" := by decide +kernel

end Mine

namespace Mine
open PySem.Sem (wp)
abbrev baObj (b : Array UInt8) : Obj := { cls := .type "bytearray", data := .bytearray b }

theorem any_clean {f : Code × Pos → Bool} (hf : ∀ c p, bad c = false → f (c, p) = false) : ∀ {l : List (Code × Pos)}, Clean l → l.any f = false
  | [], _ => rfl
  | (c, p) :: l, h => by rw [List.any_cons, hf c p (h (c, p) (.head _)), any_clean hf fun x hx => h x (.tail _ hx)]; rfl
theorem bad_builtin (id : String) (args : Args) : bad (.builtin id args) = badIds.contains id := rfl
theorem heldNo {id : String} {args : Args} {b : Bool} (h : bad (.builtin id args) = false) (hi : badIds.contains id = true) : b = false := by
  rw [bad_builtin, hi] at h; cases h
theorem decNo {id : String} (h : badIds.contains id = false) : Builtin.Bytes.decodersThatHold.contains id = false := by
  unfold badIds at h
  rw [List.contains_eq_any_beq, List.any_append, Bool.or_eq_false_iff] at h
  rw [List.contains_eq_any_beq]
  exact h.2
section
variable {prog : Program} {w : World} {A : Around} {E : Value → Shared → Prop} {s : Shared}
theorem exported_clean {M : Model} {self : Value} {Q : Bool → Shared → Prop} (h : Q false s) : wpCl M A (Builtin.Bytes.exported self) Q E s := fun Γ p _ hc hb => by
  unfold Builtin.Bytes.exported
  rw [Sem.wp_bind']
  unfold stack
  rw [Sem.wp_stack, Sem.wp_pure, Sem.wp_pure']
  rw [any_clean (fun c p hc => ?_) (Clean.cons hc hb)]
  · exact h
  · split
    · rename_i heq; exact heldNo (id := "bytearray.__contains__") ((Prod.mk.inj heq).1 ▸ hc) (by decide +kernel)
    · rename_i heq; exact heldNo (id := "bytearray.__mod__") ((Prod.mk.inj heq).1 ▸ hc) (by decide +kernel)
    · rename_i heq; exact heldNo (id := "bytearray.__rmod__") ((Prod.mk.inj heq).1 ▸ hc) (by decide +kernel)
    · rename_i heq; exact heldNo (id := "_struct.pack_into.held") ((Prod.mk.inj heq).1 ▸ hc) (by decide +kernel)
    · rename_i heq; exact heldNo (id := "bytearray.find.held") ((Prod.mk.inj heq).1 ▸ hc) (by decide +kernel)
    · rename_i heq
      have h3 := hc
      rw [Prod.mk.inj heq |>.1, bad_builtin] at h3
      rw [decNo h3, Bool.and_false]
    · rfl
theorem code_ba_new (a : Value) {Q₁ : Value → Shared → Prop}
    (h : Q₁ (.ref s.heap.objs.size) { s with heap := s.heap.push (baObj #[]) }) :
    codeAny (model prog w) A (.call (.builtin "bytearray.__new__") ⟨[.type "bytearray", a], []⟩) (wants Q₁ E) s := by
  refine codeAny_of_tree ?_
  show wpAny _ A.in1 (do checkBuiltinCall "bytearray.__new__" ⟨[.type "bytearray", a], []⟩; again (.builtin "bytearray.__new__" ⟨[.type "bytearray", a], []⟩)) _ _ s
  refine wpAny_bind (wpAny_of_eq (F.ba_newCall a) (wpAny_pure ⟨plainId_quiet F.ba_plain_new _, codeAny_builtin_stack F.ba_entry_new rfl fun p st => ?_⟩))
  rw [Around.under_plainId F.ba_plain_new _]
  have hsub := F.ba_sub
  have hown := owner_ba_new
  obtain ⟨hp, g, d, tk, os⟩ := s
  simp only [hown]
  wp_walk
  exact h
end
end Mine

namespace Mine
open PySem.Sem (wp)
section
variable {prog : Program} {w : World} {A : Around} {E : Value → Shared → Prop} {s : Shared}
theorem ba_ownRelease {M : Model} {S : Addr} {Q : Bool → Shared → Prop} (hT : s.TypeIs (.ref S) "bytearray") (h : Q false s) :
    wpAny M A (Builtin.Bytes.ownRelease (.ref S)) Q E s := by
  unfold Builtin.Bytes.ownRelease Builtin.Bytes.slotIsOwn
  refine wpAny_bind (wpAny_bind (wpAny_specialOf hT F.ba_release ?_))
  dsimp only
  rw [rel_ends, rel_owner]
  refine bm_if_false rfl ?_
  exact wpAny_isInstance hT F.ba_sub (wpAny_pure h)
theorem ints_take {vs : List Value} {ns : List Int} (hi : IntsAre vs ns) : (∀ n ∈ ns, 0 ≤ n ∧ n < 256) → ∀ {P : Value → Bool}, (∀ i t, 0 ≤ i → i < 256 → P (.int i t) = true) →
    List.takeWhile P vs = vs := by
  induction hi with
  | nil => intro _ _ _; rfl
  | cons n t _ ih =>
    intro h P hP
    have h0 := h n (.head _)
    rw [List.takeWhile_cons, hP n t h0.1 h0.2]
    simp only [if_true]
    rw [ih (fun m hm => h m (.tail _ hm)) hP]
theorem ints_bytes {vs : List Value} {ns : List Int} (hi : IntsAre vs ns) {f : Value → Option UInt8} (hf : ∀ i t, f (.int i t) = some i.toNat.toUInt8) :
    List.filterMap f vs = ns.map fun n => n.toNat.toUInt8 := by
  induction hi with
  | nil => rfl
  | cons n t _ ih => rw [List.filterMap_cons, hf n t, List.map_cons, ih]
theorem ba_init {S l : Addr} {vs : List Value} {ns : List Int} {Q : Shared → Prop} (hS : s.heap.get? S = some (baObj #[])) (hne : l ≠ S)
    (hl : s.heap.IsList l vs.toArray) (hi : IntsAre vs ns) (hr : ∀ n ∈ ns, 0 ≤ n ∧ n < 256) (hz : ns.length ≤ sizeLine)
    (hQ : ∀ h', Heap.SameBut S s.heap h' → h'.get? S = some (baObj (byteArr ns)) → Q { s with heap := h' }) :
    wpCl (model prog w) A (Builtin.«bytearray.__init__» ⟨[.ref S, .ref l], []⟩) (fun fin s' => fin = .done (.ret .none) ∧ Q s') E s := by
  have hT : s.TypeIs (.ref l) "list" := hl.typeIs
  have hTS : s.TypeIs (.ref S) "bytearray" := ⟨_, hS, rfl⟩
  obtain ⟨ol, hol, hoc, nl, hod⟩ := id hl
  unfold Builtin.«bytearray.__init__»
  refine cl_then (ba_ownRelease hTS ?_)
  show wpCl _ _ (Builtin.Bytes.bindOptional "bytearray.__init__" "bytearray" ["source", "encoding", "errors"] [Value.ref l] [] >>= _) _ _ _
  refine cl_then (wpAny_of_eq (F.ba_bind _) ?_)
  refine cl_then (wpAny_of_eq (a := ()) rfl ?_)
  refine cl_then (wpAny_of_eq (a := ()) rfl ?_)
  refine cl_bind (Q := _) ?_
  refine cl_mono (Q := fun b s' => b = false ∧ s' = s) ?_ ?_ (fun _ _ x => x)
  · unfold orM
    refine cl_bind (exported_clean ?_)
    refine of_any ?_
    show wpAny _ _ (Builtin.Bytes.exportsOf (Value.ref S) >>= _) _ _ _
    unfold Builtin.Bytes.exportsOf
    refine wpAny_bind (wpAny_bind (wpAny_load hS ?_))
    exact wpAny_pure (wpAny_pure ⟨rfl, rfl⟩)
  rintro b s' ⟨rfl, rfl⟩
  refine of_any ?_
  refine bm_if_false rfl ?_
  refine wpAny_bind ?_
  unfold Builtin.Bytes.write
  unfold updateBytearray
  refine wpAny_bind (wpAny_load hS ?_)
  show wpAny _ _ (update S (Obj.mapBytearray (fun _ => #[])) >>= fun _ => lookBehind S) _ _ _
  refine wpAny_bind (wpAny_update hS ?_)
  have hS₂ : (s'.heap.update S (Obj.mapBytearray (fun _ => #[]))).get? S = some (baObj #[]) := Heap.get?_update_self (Obj.mapBytearray (fun _ => #[])) hS rfl
  refine wpAny_lookBehind hS₂ rfl ?_
  have hol₂ : (s'.heap.update S (Obj.mapBytearray (fun _ => #[]))).get? l = some ol := (Heap.get?_update_other _ _ (Ne.symm hne)).trans hol
  have hl₂ : (s'.heap.update S (Obj.mapBytearray (fun _ => #[]))).IsList l vs.toArray := ⟨ol, hol₂, hoc, nl, hod⟩
  have hT₂ : ({ s' with heap := s'.heap.update S (Obj.mapBytearray (fun _ => #[])) } : Shared).TypeIs (.ref l) "list" := Heap.IsList.typeIs (s := { s' with heap := s'.heap.update S (Obj.mapBytearray (fun _ => #[])) }) hl₂
  dsimp only
  refine wpAny_bind ?_
  show wpAny _ _ (load l >>= _) _ _ _
  refine wpAny_bind (wpAny_load hol₂ ?_)
  rw [hod]
  refine wpAny_pure ?_
  refine bm_if_false rfl ?_
  refine wpAny_bind (wpAny_of_eq (a := ()) rfl ?_)
  refine wpAny_bind (wpAny_specialOf hT₂ PySem.F.bm_no_index ?_)
  refine bm_if_false rfl ?_
  refine wpAny_bind ?_
  unfold Builtin.Bytes.buffer?
  refine wpAny_bind (wpAny_specialOf hT₂ PySem.F.bm_no_buffer ?_)
  refine wpAny_bind (wpAny_specialOf hT₂ PySem.F.bm_no_buffer ?_)
  refine wpAny_pure ?_
  dsimp only
  refine wpAny_bind (wpAny_typeOf hT₂ ?_)
  refine bm_if_true (by decide) ?_
  refine wpAny_bind (wpAny_seqItems hol₂ hod ?_)
  dsimp only
  rw [ints_take hi hr (fun i t h1 h2 => by simp only [h1, h2, decide_true, Bool.and_self]), ints_bytes hi (fun i t => rfl)]
  have e3 : (vs.toArray)[vs.length]? = none := by simp
  rw [e3]
  dsimp only
  refine wpAny_bind (wpAny_rule ?_)
  refine wpAny_bind ?_
  refine wpAny_bind (wpAny_load hS₂ ?_)
  show wpAny _ _ (update S (Obj.mapBytearray (fun _ => byteArr ns)) >>= fun _ => lookBehind S) _ _ _
  refine wpAny_bind (wpAny_update hS₂ ?_)
  have hS₃ : ((s'.heap.update S (Obj.mapBytearray (fun _ => #[]))).update S (Obj.mapBytearray (fun _ => byteArr ns))).get? S = some (baObj (byteArr ns)) := Heap.get?_update_self (Obj.mapBytearray (fun _ => byteArr ns)) hS₂ rfl
  refine wpAny_lookBehind hS₃ ?_ ?_
  · show (if (byteArr ns).size > sizeLine then some "bytearray:memory" else none) = none
    rw [if_neg]
    rw [byteArr_size]
    omega
  · refine wpAny_pure ⟨rfl, hQ _ ?_ hS₃⟩
    exact ⟨by simp only [Heap.size_update], fun b hb => (Heap.get?_update_other _ _ (Ne.symm hb)).trans (Heap.get?_update_other _ _ (Ne.symm hb))⟩
end
end Mine

namespace Mine
open PySem.Sem (wp)
section
variable {prog : Program} {w : World} {A : Around} {E : Value → Shared → Prop} {s : Shared}
theorem cl_if_false {α : Type} {M : Model} {c : Bool} {a b : Sem α} {Q : α → Shared → Prop} (hc : c = false) (h : wpCl M A b Q E s) : wpCl M A (if c = true then a else b) Q E s := by
  subst hc; exact h
theorem cl_if_true {α : Type} {M : Model} {c : Bool} {a b : Sem α} {Q : α → Shared → Prop} (hc : c = true) (h : wpCl M A a Q E s) : wpCl M A (if c = true then a else b) Q E s := by
  subst hc; exact h
theorem cl_special {M : Model} {self : Value} {T : String} {name : Str} {id : String} {args : List Value}
    {Q : Option Value → Shared → Prop} (hT : s.TypeIs self T) (h : Slot T name id)
    (hc : wpCl M A (call (.builtin id) (self :: args) []) (fun v => Q (some v)) E s) : wpCl M A (callSpecial? self name args []) Q E s := by
  simp only [callSpecial?]
  refine cl_then (wpAny_specialOf hT h.lookup ?_)
  simp only [h.bind]
  exact cl_holding (cl_then (wpAny_pure (cl_bind (cl_mono hc (fun v s' h' => of_any (wpAny_pure h')) fun _ _ h' => h'))))
theorem codeCl_builtinU {R : Result → Shared → Prop} {id : String} {args : Args} {b : Builtin} (hb : entryFor table id = some b) (hn : badIds.contains id = false)
    (h : wpCl (model prog w) (A.under (.builtin id args)) (b args)
      (fun fin s' => match fin with | .done f => R (.ok f) s' | .again c' => c'.quiet = true ∧ codeCl (model prog w) A c' R s') (fun e s' => R (.error e) s') s) :
    codeCl (model prog w) A (.builtin id args) R s := by
  refine codeCl_of_tree (by rw [bad_builtin]; exact hn) ?_
  show wpCl _ _ (match entryFor table id with | some b => b args | none => unsupported ((withoutEnding? id "#data").getD id)) _ _ s
  rw [hb]; exact h
theorem codeCl_builtin {R : Result → Shared → Prop} {id : String} {args : Args} {b : Builtin} (hq : plainId id = true) (hb : entryFor table id = some b) (hn : badIds.contains id = false)
    (h : wpCl (model prog w) A.in1 (b args)
      (fun fin s' => match fin with | .done f => R (.ok f) s' | .again c' => c'.quiet = true ∧ codeCl (model prog w) A c' R s') (fun e s' => R (.error e) s') s) :
    codeCl (model prog w) A (.builtin id args) R s := by
  refine codeCl_builtinU hb hn ?_
  rw [Around.under_plainId hq]
  exact h
theorem ba_code_init {S l : Addr} {vs : List Value} {ns : List Int} {Q : Shared → Prop} (hS : s.heap.get? S = some (baObj #[])) (hne : l ≠ S)
    (hl : s.heap.IsList l vs.toArray) (hi : IntsAre vs ns) (hr : ∀ n ∈ ns, 0 ≤ n ∧ n < 256) (hz : ns.length ≤ sizeLine)
    (hQ : ∀ h', Heap.SameBut S s.heap h' → h'.get? S = some (baObj (byteArr ns)) → Q { s with heap := h' }) :
    wpCl (model prog w) A (call (.builtin "bytearray.__init__") [.ref S, .ref l]) (fun r s' => r = .none ∧ Q s') E s := by
  have hTS : s.TypeIs (.ref S) "bytearray" := ⟨_, hS, rfl⟩
  refine cl_call (codeCl_of_tree rfl (of_any ?_))
  show wpAny _ A.in1 (do checkBuiltinCall "bytearray.__init__" ⟨[.ref S, .ref l], []⟩; again (.builtin "bytearray.__init__" ⟨[.ref S, .ref l], []⟩)) _ _ s
  refine wpAny_bind (F.ba_slot_init.check _ _ _ _ _ _ _ _ hTS (F.ba_initArgs _ _) (wpAny_pure ⟨plainId_quiet F.ba_plain_init _, ?_⟩))
  refine codeCl_builtin F.ba_plain_init F.ba_entry_init (by decide +kernel) (cl_mono (ba_init hS hne hl hi hr hz hQ) (fun fin s' h => ?_) fun _ _ x => x)
  obtain ⟨rfl, h⟩ := h
  exact ⟨rfl, h⟩
theorem cl_bytearray {l : Addr} {vs : List Value} {ns : List Int} {Q : Value → Shared → Prop}
    (hl : s.heap.IsList l vs.toArray) (hi : IntsAre vs ns) (hr' : ∀ n ∈ ns, 0 ≤ n ∧ n < 256) (hz : ns.length ≤ sizeLine)
    (hQ : ∀ h', (∀ b o, s.heap.get? b = some o → h'.get? b = some o) → h'.get? s.heap.objs.size = some (baObj (byteArr ns)) → Q (.ref s.heap.objs.size) { s with heap := h' }) :
    wpCl (model prog w) A (call (.type "bytearray") [.ref l]) Q E s := by
  obtain ⟨ol, hol, hoc, nl, hod⟩ := id hl
  have ft := F.ba_called
  refine cl_call (codeCl_of_tree rfl ?_)
  show wpCl _ _ (callAny (.type "bytearray") _) _ _ _
  refine of_any (wpAny_pure ⟨Code.quiet_builtin _ (by decide +kernel), ?_⟩)
  refine codeCl_builtinU PySem.F.entry_type_call (by decide +kernel) ?_
  rw [Around.under_plain (weight_type_call_type "bytearray" _ []) rfl]
  unfold Builtin.«type.__call__»
  refine cl_if_false ft.notType ?_
  refine cl_if_false ft.canCreate ?_
  refine cl_then (wpAny_of_eq (F.ba_typeCall _) ?_)
  refine cl_then (wpAny_of_eq F.ba_mro ?_)
  refine cl_if_false rfl ?_
  refine cl_then (wpAny_of_eq ft.made ?_)
  refine cl_then (wpAny_pure ?_)
  refine cl_then (wpAny_holding (wpAny_call (codeAny_mono (code_ba_new (E := E) (.ref l) (Q₁ := fun v s' => v = .ref s.heap.objs.size ∧ s' = { s with heap := s.heap.push (baObj #[]) }) ⟨rfl, rfl⟩) fun r s₁ hr => ?_)))
  cases r with
  | error e => exact hr
  | ok fl =>
    cases fl with
    | ret obj =>
      obtain ⟨rfl, rfl⟩ := hr
      have hS : (s.heap.push (baObj #[])).get? s.heap.objs.size = some (baObj #[]) := Heap.get?_push_size _ rfl
      have hTS : ({ s with heap := s.heap.push (baObj #[]) } : Shared).TypeIs (.ref s.heap.objs.size) "bytearray" := ⟨_, hS, rfl⟩
      refine cl_then (wpAny_isInstance hTS F.ba_sub ?_)
      refine cl_if_false rfl ?_
      refine cl_bind (cl_holding (cl_special hTS F.ba_slot_init (cl_mono (ba_code_init (s := { s with heap := s.heap.push (baObj #[]) }) (Q := fun s' => ∃ h', s' = { s with heap := h' } ∧ Heap.SameBut s.heap.objs.size (s.heap.push (baObj #[])) h' ∧ h'.get? s.heap.objs.size = some (baObj (byteArr ns))) hS (Nat.ne_of_lt (Heap.lt_size hol)) (hl.push _) hi hr' hz (fun h' h1 h2 => ⟨h', rfl, h1, h2⟩)) (fun v s' hv => ?_) fun _ _ x => x)))
      obtain ⟨rfl, h', rfl, h1, h2⟩ := hv
      refine of_any ?_
      refine bm_if_false rfl ?_
      exact wpAny_pure (hQ h' (fun b o e => h1.extBut b o (Nat.ne_of_lt (Heap.lt_size e)) (Heap.get?_push_of_some _ e)) h2)
    | _ => exact hr.elim
end
end Mine

namespace Mine
namespace F
theorem it_slot_next : Slot "bytearray_iterator" "__next__" "bytearray_iterator.__next__" :=
  .of (owner := "bytearray_iterator") (n := "__next__") (by rw [typeLookup_type, builtinLookup_eq_fast]; kernel_rfl) (by decide +kernel) (by decide +kernel) (by decide +kernel)
    (by first | exact .inl (by decide +kernel) | exact .inr (by decide +kernel)) (by rw [isSubtype_type]; kernel_rfl)
theorem it_slot_self : Slot "bytearray_iterator" "__iter__" "bytearray_iterator.__iter__" :=
  .of (owner := "bytearray_iterator") (n := "__iter__") (by rw [typeLookup_type, builtinLookup_eq_fast]; kernel_rfl) (by decide +kernel) (by decide +kernel) (by decide +kernel)
    (by first | exact .inl (by decide +kernel) | exact .inr (by decide +kernel)) (by rw [isSubtype_type]; kernel_rfl)
theorem it_entry_next : entryFor table "bytearray_iterator.__next__" = some Builtin.«bytearray_iterator.__next__» := entryFor_of_tree (by kernel_rfl)
theorem it_entry_self : entryFor table "bytearray_iterator.__iter__" = some Builtin.«dict_keyiterator.__iter__» := entryFor_alias (id' := "dict_keyiterator.__iter__") (by kernel_rfl) rfl (by decide +kernel) (by kernel_rfl)
theorem it_args_next (a : Value) : argsOk "bytearray_iterator.__next__" ⟨[a], []⟩ := by unfold argsOk; kernel_rfl
theorem it_args_self (a : Value) : argsOk "bytearray_iterator.__iter__" ⟨[a], []⟩ := by unfold argsOk; kernel_rfl
theorem ba_slot_iter : Slot "bytearray" "__iter__" "bytearray.__iter__" :=
  .of (owner := "bytearray") (n := "__iter__") (by rw [typeLookup_type, builtinLookup_eq_fast]; kernel_rfl) (by decide +kernel) (by decide +kernel) (by decide +kernel)
    (by first | exact .inl (by decide +kernel) | exact .inr (by decide +kernel)) (by rw [isSubtype_type]; kernel_rfl)
theorem ba_entry_iter : entryFor table "bytearray.__iter__" = some Builtin.«bytearray.__iter__» := entryFor_of_tree (by kernel_rfl)
theorem ba_args_iter (a : Value) : argsOk "bytearray.__iter__" ⟨[a], []⟩ := by unfold argsOk; kernel_rfl
theorem ba_slot_len : Slot "bytearray" "__len__" "bytearray.__len__" :=
  .of (owner := "bytearray") (n := "__len__") (by rw [typeLookup_type, builtinLookup_eq_fast]; kernel_rfl) (by decide +kernel) (by decide +kernel) (by decide +kernel)
    (by first | exact .inl (by decide +kernel) | exact .inr (by decide +kernel)) (by rw [isSubtype_type]; kernel_rfl)
theorem ba_entry_len : entryFor table "bytearray.__len__" = some Builtin.«bytearray.__len__» := entryFor_of_tree (by kernel_rfl)
theorem ba_args_len (a : Value) : argsOk "bytearray.__len__" ⟨[a], []⟩ := by unfold argsOk; kernel_rfl
theorem ba_slot_item : Slot "bytearray" "__getitem__" "bytearray.__getitem__" :=
  .of (owner := "bytearray") (n := "__getitem__") (by rw [typeLookup_type, builtinLookup_eq_fast]; kernel_rfl) (by decide +kernel) (by decide +kernel) (by decide +kernel)
    (by first | exact .inl (by decide +kernel) | exact .inr (by decide +kernel)) (by rw [isSubtype_type]; kernel_rfl)
theorem ba_entry_item : entryFor table "bytearray.__getitem__" = some Builtin.«bytearray.__getitem__» := entryFor_of_tree (by kernel_rfl)
theorem ba_args_item (a b : Value) : argsOk "bytearray.__getitem__" ⟨[a, b], []⟩ := by unfold argsOk; kernel_rfl
end F
def IsBaIter (h : Heap) (it a : Addr) (i : Nat) : Prop := ∃ o, h.get? it = some o ∧ o.cls = .type "bytearray_iterator" ∧ o.data = .fields #[.ref a, .int i 0]
theorem IsBaIter.typeIs {s : Shared} {it a : Addr} {i : Nat} (y : IsBaIter s.heap it a i) : s.TypeIs (.ref it) "bytearray_iterator" :=
  let ⟨o, ho, hc, _⟩ := y; ⟨o, ho, hc⟩
section
variable {prog : Program} {w : World} {A : Around} {E : Value → Shared → Prop} {s : Shared} {b : Array UInt8} {a : Addr}
theorem ba_pyIter {Q : Value → Shared → Prop} (ha : s.heap.get? a = some (baObj b)) (hQ : Q (.ref s.heap.objs.size) { s with heap := s.heap.push { cls := .type "bytearray_iterator", data := .fields #[.ref a, .int 0 0] } }) : wpAny (model prog w) A (pyIter (.ref a)) Q E s := by
  have hT : s.TypeIs (.ref a) "bytearray" := ⟨_, ha, rfl⟩
  refine wpAny_pyIter_slot hT F.ba_slot_iter (wpAny_call_entry F.ba_slot_iter hT F.ba_entry_iter ?_ (F.ba_args_iter _))
  show wpAny _ _ (do ret (← newFields "bytearray_iterator" [.ref a, rawInt 0])) _ _ s
  exact wpAny_bind (wpAny_newObj_type (wpAny_pure ⟨_, rfl, "bytearray_iterator", _, ⟨_, Heap.get?_push_size _ rfl, rfl⟩, F.it_slot_next.lookup, hQ⟩))
theorem ba_pyIter_self {it : Addr} {i : Nat} {Q : Value → Shared → Prop} (hit : IsBaIter s.heap it a i) (h : Q (.ref it) s) : wpAny (model prog w) A (pyIter (.ref it)) Q E s := by
  refine wpAny_pyIter_slot hit.typeIs F.it_slot_self (wpAny_call_entry F.it_slot_self hit.typeIs F.it_entry_self ?_ (F.it_args_self _))
  show wpAny _ _ (ret (.ref it)) _ _ s
  exact wpAny_pure ⟨_, rfl, "bytearray_iterator", _, hit.typeIs, F.it_slot_next.lookup, h⟩
theorem ba_next_item {it : Addr} {i : Nat} {c : UInt8} {Q : Option Value → Shared → Prop} (hit : IsBaIter s.heap it a i) (ha : s.heap.get? a = some (baObj b)) (hx : b[i]? = some c)
    (hQ : ∀ h', IsBaIter h' it a (i + 1) → Heap.SameBut it s.heap h' → Q (some (.int (c.toNat : Int) s.toks)) { s with heap := h', toks := s.toks + 1 }) : wpAny (model prog w) A (pyNext (.ref it)) Q E s := by
  obtain ⟨o, ho, hc, hd⟩ := id hit
  unfold pyNext
  refine wpAny_bind (wpAny_attempt (wpAny_callSpecial?_slot (name := PySem.Str.ofString "__next__") hit.typeIs F.it_slot_next
    (wpAny_call_entry F.it_slot_next hit.typeIs F.it_entry_next ?_ (F.it_args_next _))))
  show wpAny _ _ (field (.ref it) 0 >>= _) _ _ s
  refine wpAny_bind (wpAny_field ho hd (x := .ref a) rfl ?_)
  refine wpAny_bind (wpAny_load ha ?_)
  refine wpAny_bind (wpAny_field ho hd (x := .int i 0) rfl ?_)
  simp only [Int.toNat_natCast, hx]
  refine wpAny_bind (wpAny_setField ho hd (by simp) (wpAny_bind (wpAny_mkInt (wpAny_pure ⟨_, rfl, wpAny_pure (hQ _ ?_ (Heap.SameBut.update ..))⟩))))
  exact ⟨_, Heap.get?_update_self _ ho (Obj.isFreed_of_fields (Obj.data_mapFields hd _)), (Obj.cls_mapFields ..).trans hc, by
    rw [Obj.data_mapFields hd]; simp [rawInt]⟩
theorem ba_next_end {it : Addr} {i : Nat} {Q : Option Value → Shared → Prop} (hh : A.handled = none) (hit : IsBaIter s.heap it a i) (ha : s.heap.get? a = some (baObj b)) (hx : b[i]? = none)
    (hQ : ∀ h', Heap.ExtBut it s.heap h' → Q none { s with heap := h' }) : wpAny (model prog w) A (pyNext (.ref it)) Q E s := by
  obtain ⟨o, ho, hc, hd⟩ := id hit
  unfold pyNext
  refine wpAny_bind (wpAny_attempt (wpAny_callSpecial?_slot (name := PySem.Str.ofString "__next__") hit.typeIs F.it_slot_next
    (wpAny_call_entry F.it_slot_next hit.typeIs F.it_entry_next ?_ (F.it_args_next _))))
  show wpAny _ _ (field (.ref it) 0 >>= _) _ _ s
  refine wpAny_bind (wpAny_field ho hd (x := .ref a) rfl ?_)
  refine wpAny_bind (wpAny_load ha ?_)
  refine wpAny_bind (wpAny_field ho hd (x := .int i 0) rfl ?_)
  simp only [Int.toNat_natCast, hx]
  refine wpAny_bind (wpAny_rule (wpAny_bind (wpAny_setField ho hd (by simp) ?_)))
  refine wpAny_bind (wpAny_letGo ?_)
  show wpAny _ _ (newExc (.type "StopIteration") [] >>= _) _ _ _
  refine wpAny_bind ?_
  simp only [newExc, newTuple]
  refine wpAny_bind (wpAny_newObj_type ?_ (by size_fits))
  refine wpAny_bind (m := firstArgMember _ _) (wpAny_of_eq (a := Value.none) (by first | rfl | (simp only [firstArgMember]; rfl)) ?_)
  refine wpAny_newObj_type ?_ (by size_fits)
  simp only [raiseNew]
  refine wpAny_bind (wpAny_handled ?_)
  rw [show A.in1.handled = none from hh]
  refine wpAny_bind (wpAny_pure (wpAny_throw ?_))
  refine wpAny_bind (wpAny_isInstance (T := "StopIteration") (b := true) ⟨_, Heap.get?_push_size _ rfl, rfl⟩ isSubtype_stop ?_)
  exact wpAny_pure (hQ _ (((Heap.SameBut.update ..).extBut.push _).push _))
end
theorem ba_walks {prog : Program} {w : World} {A : Around} (hh : A.handled = none) (I a : Addr) (hne : a ≠ I) (b : Array UInt8) :
    Walks prog w A I [I, a] [I] b.size (fun i v => ∃ c u, b[i]? = some c ∧ v = .int (c.toNat : Int) u) (fun i h => IsBaIter h I a i ∧ h.get? a = some (baObj b)) where
  sub := fun x hb => by simp at hb; simp [hb]
  frame := fun _ _ _ st hk => ⟨let ⟨o, ho, r⟩ := st.1; ⟨o, hk I (by simp) o ho, r⟩, hk a (by simp) _ st.2⟩
  item := fun i s Q E hi st hQ => by
    refine ba_next_item st.1 st.2 (c := b[i]) (by simp [hi]) fun h' hit' hs' => ?_
    exact hQ _ h' (s.toks + 1) ⟨_, _, by simp [hi], rfl⟩ ⟨hit', hs'.extBut a _ hne st.2⟩ fun b o hb e => hs'.extBut b o (fun h => hb (by simp [h])) e
  done := fun s Q E st hQ => ba_next_end hh st.1 st.2 (by simp) fun h' he' => hQ h' s.toks fun b o hb e => he' b o (fun h => hb (by simp [h])) e
  self := fun _ _ _ _ st hQ => ba_pyIter_self st.1 hQ
section
variable {prog : Program} {w : World} {A : Around} {E : Value → Shared → Prop} {s : Shared} {b : Array UInt8} {a : Addr}
theorem ba_hint {Q : Bool → Shared → Prop} (hT : s.TypeIs (.ref a) "bytearray") (h : Q false s) : wpAny (model prog w) A (Builtin.List.listLengthHint (.ref a)) Q E s := by
  unfold Builtin.List.listLengthHint
  refine wpAny_bind (wpAny_specialOf hT F.ba_slot_len.lookup ?_)
  generalize hid : ("bytearray.__len__" : String) = id0
  wp_delta
  rw [show splitId id0 = some ("bytearray", "__len__") from by subst hid; decide +kernel]
  subst hid
  refine wpAny_bind (wpAny_isInstance (T := "bytearray") (b := true) hT F.ba_sub ?_)
  refine wpAny_ite_split (fun hab => absurd hab (by decide)) (fun _ => ?_)
  refine wpAny_ite_split (fun _ => ?_) (fun hab => absurd (by decide +kernel) hab)
  refine wpAny_bind (wpAny_typeOf hT ?_)
  exact wpAny_pure h
end
theorem ba_src {prog : Program} {w : World} {a : Addr} {b : Array UInt8} : KdlSrc prog w "bytearray" a a b.size (fun i v => ∃ c u, b[i]? = some c ∧ v = .int (c.toNat : Int) u) (fun h => h.get? a = some (baObj b)) where
  type := fun _ hm => ⟨_, hm, rfl⟩
  there := fun _ hm => ⟨Heap.lt_size hm, Heap.lt_size hm⟩
  keep := fun _ _ hm hk => hk a (.inl rfl) _ hm
  notList := by decide
  notTuple := by decide
  hint := fun _ _ _ _ hm hq => ba_hint ⟨_, hm, rfl⟩ hq
  iter := fun _ s hh hm => ⟨_, _, (fun _ _ hq => ba_pyIter hm hq), ba_walks hh _ a (Nat.ne_of_lt (Heap.lt_size hm)) b, ⟨⟨_, Heap.get?_push_size _ rfl, rfl, rfl⟩, Heap.get?_push_of_some _ hm⟩⟩
section
variable {prog : Program} {w : World} {A : Around} {E : Value → Shared → Prop} {s : Shared} {b : Array UInt8} {a : Addr}
theorem ba_len {Q : Value → Shared → Prop} (ha : s.heap.get? a = some (baObj b)) (hfit : (b.size : Int) < 2 ^ 63)
    (h : Q (.int b.size (s.toks + 1)) { s with toks := s.toks + 1 + 1 }) : wpAny (model prog w) A (call (.builtin "len") [.ref a]) Q E s := by
  have hT : s.TypeIs (.ref a) "bytearray" := ⟨_, ha, rfl⟩
  refine call_function_entry kind_len plain_len entry_len (args_len1 _) ?_
  unfold Builtin.«len»
  refine wpAny_bind (m := oneArg "len" _) (wpAny_pure ?_)
  refine wpAny_bind (m := callSpecial? (.ref a) (Str.ofString "__len__")) (wpAny_callSpecial?_slot (name := Str.ofString "__len__") hT F.ba_slot_len
    (wpAny_call_entry F.ba_slot_len hT F.ba_entry_len ?_ (F.ba_args_len _)))
  · show wpAny _ _ (do retInt (← Builtin.Bytes.payload (.ref a)).size) _ _ s
    unfold Builtin.Bytes.payload Builtin.Bytes.payload?
    refine wpAny_bind (wpAny_bind (wpAny_bind (wpAny_load ha ?_)))
    refine wpAny_pure (wpAny_pure (wpAny_bind (wpAny_mkInt (wpAny_pure ⟨_, rfl, ?_⟩))))
    refine wpAny_bind (wpAny_holding (wpAny_pure ?_))
    refine wpAny_bind (wpAny_letGo ?_)
    show wpAny _ _ (if ((b.size : Nat) : Int) < 0 then _ else _) _ _ _
    rw [if_neg (by omega)]
    show wpAny _ _ (if ((b.size : Nat) : Int) ≥ 2 ^ 63 then _ else _) _ _ _
    rw [if_neg (by omega)]
    exact wpAny_bind (wpAny_mkInt (wpAny_pure ⟨_, rfl, h⟩))
end
end Mine

namespace Mine
theorem byte_int {n : Int} (h0 : 0 ≤ n) (h1 : n < 256) : ((n.toNat.toUInt8).toNat : Int) = n := by
  have : n.toNat < 256 := by omega
  have h2 : n.toNat.toUInt8.toNat = n.toNat := by
    rw [show n.toNat.toUInt8 = UInt8.ofNat n.toNat from rfl, UInt8.toNat_ofNat']
    exact Nat.mod_eq_of_lt this
  rw [h2]; omega
theorem byteArr_get {ns : List Int} {j : Nat} {n : Int} (h : ns[j]? = some n) : (byteArr ns)[j]? = some n.toNat.toUInt8 := by
  unfold byteArr; simp [h]
section
variable {prog : Program} {w : World} {A : Around} {E : Value → Shared → Prop} {s : Shared} {b : Array UInt8} {a : Addr}
theorem ba_item {k : Int} {t : Tok} {c : UInt8} {Q : Value → Shared → Prop} (ha : s.heap.get? a = some (baObj b))
    (h0 : 0 ≤ k) (hfit : k < 2 ^ 63) (hx : b[k.toNat]? = some c) (h : Q (.int c.toNat s.toks) { s with toks := s.toks + 1 }) : wpAny (model prog w) A (getItem (.ref a) (.int k t)) Q E s := by
  have hT : s.TypeIs (.ref a) "bytearray" := ⟨_, ha, rfl⟩
  unfold getItem
  refine wpAny_holding ?_
  refine wpAny_bind (wpAny_sequenceKey hT (by decide) ?_)
  refine wpAny_bind (wpAny_callSpecial?_slot (name := Str.ofString "__getitem__") hT F.ba_slot_item
    (wpAny_call_entry F.ba_slot_item hT F.ba_entry_item ?_ (F.ba_args_item _ _)))
  show wpAny _ _ (Builtin.Bytes.subscript? (.int k t) >>= _) _ _ s
  refine wpAny_bind ?_
  unfold Builtin.Bytes.subscript?
  refine wpAny_bind (wpAny_specialOf (T := "int") (typeIs_int s k t) int_index ?_)
  show wpAny _ _ (asIndex (.int k t) >>= _) _ _ s
  refine wpAny_bind (wpAny_of_eq (a := k) rfl ?_)
  show wpAny _ _ (if (!Builtin.Bytes.fitsIndex k) = true then _ else _) _ _ s
  have hf : Builtin.Bytes.fitsIndex k = true := by
    unfold Builtin.Bytes.fitsIndex
    simp only [Bool.and_eq_true, decide_eq_true_eq]
    omega
  rw [if_neg (by rw [hf]; decide)]
  refine wpAny_pure ?_
  dsimp only
  refine wpAny_bind ?_
  unfold Builtin.Bytes.payload Builtin.Bytes.payload?
  refine wpAny_bind (wpAny_bind (wpAny_load ha ?_))
  refine wpAny_pure (wpAny_pure ?_)
  have hlt : k < b.size := by
    have := (Array.getElem?_eq_some_iff.mp hx).1
    omega
  rw [seqIndex_of h0 hlt]
  show wpAny _ _ (match b[k.toNat]? with | some x => _ | none => _) _ _ _
  rw [hx]
  exact wpAny_bind (wpAny_mkInt (wpAny_pure ⟨_, rfl, wpAny_pure h⟩))
end
section
variable {prog : Program} {w : World} {A : Around} {E : Value → Shared → Prop} {s : Shared} {h₀ : Heap} {L a : Addr} {m : Str → Option Value} {news : List (Addr × Obj)} {ns : List Int} {Q : Value → Shared → Prop}
theorem ba_lenK (N : News h₀ L s.heap news) (hm : (a, baObj (byteArr ns)) ∈ news) (hz : ns.length < 2 ^ 62)
    (h : Q (.int (ns.length : Nat) (s.toks + 1)) { s with toks := s.toks + 1 + 1 }) : wpAny (model prog w) A (call (.builtin "len") [.ref a]) Q E s := by
  refine ba_len (N.get hm) (by rw [byteArr_size]; omega) ?_
  rw [byteArr_size]; exact h
theorem ba_itemK {value slice : Expr} {k : Int} {u : Tok} (N : News h₀ L s.heap news) (hm : (a, baObj (byteArr ns)) ∈ news) (hr : ∀ n ∈ ns, 0 ≤ n ∧ n < 256)
    (h0 : 0 ≤ k) (h1 : k < ns.length) (hfit : k < 2 ^ 63) (h : Q (.int (ns.getD k.toNat 0) s.toks) { s with toks := s.toks + 1 })
    (hs : subscripted slice false (.ref a) (.int k u) = operate [.ref a, .int k u] (getItem (.ref a) (.int k u)) := by with_unfolding_all rfl) :
    wpAny (model prog w) A (subscriptTail value slice (.ref a) (.int k u)) Q E s := by
  have hx : ns[k.toNat]? = some (ns.getD k.toNat 0) := by
    rw [List.getD_eq_getElem?_getD]
    have : k.toNat < ns.length := by omega
    simp [this]
  have hr' := hr _ (List.mem_of_getElem? hx)
  refine tail_any (T := "bytearray") ⟨_, N.get hm, rfl⟩ F.ba_slot_item.lookup (ba_item (N.get hm) h0 hfit (byteArr_get hx) ?_) hs
  rw [byte_int hr'.1 hr'.2]; exact h
theorem ba_listK (hh : A.handled = none) (F : Fr h₀ L s.heap m) (N : News h₀ L s.heap news) (hm : (a, baObj (byteArr ns)) ∈ news) (hr : ∀ n ∈ ns, 0 ≤ n ∧ n < 256) (hz : ns.length ≤ sizeLine)
    (h : ∀ (D : Addr) c h' tk (vs : List Value), Fr h₀ L h' m → News h₀ L h' ((D, listOf vs.toArray c) :: news) → (∀ q ∈ news, q.1 < D) → IntsAre vs ns → Q (.ref D) { s with heap := h', toks := tk }) :
    wpAny (model prog w) A (call (.type "list") [.ref a]) Q E s := by
  refine kdl_N (ba_src (b := byteArr ns)) hh F N (N.get hm) (by rw [byteArr_size]; exact hz) fun D c h' tk vs F' N' hlt hlen hP => h D c h' tk vs F' N' hlt ?_
  rw [byteArr_size] at hlen
  have key : ∀ (ns : List Int) (vs : List Value), (∀ n ∈ ns, 0 ≤ n ∧ n < 256) → vs.length = ns.length → (∀ (j : Nat) v, vs[j]? = some v → ∃ c u, (byteArr ns)[j]? = some c ∧ v = .int (c.toNat : Int) u) → IntsAre vs ns := by
    intro ns
    induction ns with
    | nil => intro vs _ hl _; rw [List.length_eq_zero_iff.mp hl]; exact .nil
    | cons n r ih =>
      intro vs hr hl hP
      cases vs with
      | nil => simp at hl
      | cons v vs =>
        obtain ⟨c, u, h1, rfl⟩ := hP 0 v rfl
        have hn := hr n (.head _)
        have h2 : (byteArr (n :: r))[0]? = some n.toNat.toUInt8 := byteArr_get rfl
        rw [h2] at h1
        cases h1
        rw [byte_int hn.1 hn.2]
        refine .cons _ _ (ih vs (fun m hm => hr m (.tail _ hm)) (by simpa using hl) fun j v hv => ?_)
        obtain ⟨c, u, h3, h4⟩ := hP (j + 1) v (by simpa using hv)
        refine ⟨c, u, ?_, h4⟩
        unfold byteArr at h3 ⊢
        simpa using h3
  exact key ns vs hr hlen hP
theorem cl_bytearrayK {l : Addr} {vs : List Value} (F : Fr h₀ L s.heap m) (N : News h₀ L s.heap news)
    (hl : s.heap.IsList l vs.toArray) (hi : IntsAre vs ns) (hr : ∀ n ∈ ns, 0 ≤ n ∧ n < 256) (hz : ns.length ≤ sizeLine)
    (h : ∀ D h', Fr h₀ L h' m → News h₀ L h' ((D, baObj (byteArr ns)) :: news) → (∀ q ∈ news, q.1 < D) → Q (.ref D) { s with heap := h' }) :
    wpCl (model prog w) A (call (.type "bytearray") [.ref l]) Q E s :=
  cl_bytearray hl hi hr hz fun h' hk hD => h _ h' (F.keeps hk) (news_pushed F N hk hD rfl) fun q hq => Heap.lt_size (N q hq).1
end
end Mine

namespace Mine
theorem ends_cl {prog : Program} {w : World} {t : Sem PySem.Fin} {s : Shared} {R : Result → Shared → Prop} (hreg : s.asleep)
    (h : wpCl (model prog w) callerA t (fun fin s' => ∃ f, fin = .done f ∧ (R (.ok f) s' ∧ leftWithCleanup s'.gens = false)) (fun e s' => R (.error e) s' ∧ leftWithCleanup s'.gens = false) s) :
    ∃ n r s' s'', runN (denote table) prog w n s ⟨t, .builtin "claim.caller" {}, default, []⟩ = .halted (outcomeOf r) s' ∧
      schedN (denote table) prog w n (.single s ⟨t, .builtin "claim.caller" {}, default, []⟩) = .halted (outcomeOf r) s' ∧ s'.forget = s''.forget ∧ R r s'' := by
  obtain ⟨n, r, s₁, s₂, hs, hn, hfo, hR⟩ := wp_halts_full (M := model prog w) (R := R) hreg (by
    refine Sem.wp_mono (model prog w) _ t (fun fin p' s' h' => ?_) (fun _ _ _ h' => h') default s (h ⟨.builtin "claim.caller" {}, none, none, [], none⟩ default caller_in (by rw [bad_builtin]; decide +kernel) (fun _ hx => nomatch hx))
    obtain ⟨f, rfl, hf⟩ := h'
    exact hf)
  exact ⟨n, r, s₂, s₁, hn, hs, hfo, hR⟩

theorem callFrom_cl {c : ClaimW} {tree : List Value → Sem PySem.Fin} {w : World} {s : Shared} {free : Addr → Prop} {gens : Prop} {kept : Heap → Prop} (hz : s.asleep) (hgens : s.gens = #[])
    (hspec : ∀ args, c.pre args = true → WData.layableAll args = true →
      ∀ ord : List DictEntry → List DictEntry, (∀ l, (ord l).Perm l) →
      ∃ vs s₁, layAllW c.records (classAt s.heap) w.params ord args s = some (vs, s₁) ∧
        wpCl (model c.prog w) callerA (tree vs) (fun fin s' => ∃ f, fin = .done f ∧ (c.Ends s args vs s₁ (.ok f) s' ∧ s'.os = s.os ∧ AllBare s'.gens ∧ kept s'.heap))
          (fun e s' => c.Ends s args vs s₁ (.error e) s' ∧ s'.os = s.os ∧ AllBare s'.gens ∧ kept s'.heap) s₁) :
    c.CallFrom (fun vs => ⟨tree vs, .builtin "claim.caller" {}, default, []⟩) w free gens kept s := by
  intro args hpre hlay ord hord
  obtain ⟨vs, s₁, hlaid, hcode⟩ := hspec args hpre hlay ord hord
  have hal := layAllW_rest _ _ _ hlaid
  obtain ⟨k, r, s', s'', hrun, hsched, hfo, hcase, hos, hkp⟩ := ends_cl (prog := c.prog) (w := w) (t := tree vs) (s := s₁)
    (R := fun r s' => c.Ends s args vs s₁ r s' ∧ s'.os = s.os ∧ kept s'.heap)
    (Shared.asleep_of_life hal.2.2.2 hz)
    (cl_mono hcode (fun _ _ ⟨f, e, h1, h2, h3, h4⟩ => ⟨f, e, ⟨h1, h2, h4⟩, leftWithCleanup_false_of_bare h3⟩) (fun _ _ ⟨h1, h2, h3, h4⟩ => ⟨⟨h1, h2, h4⟩, leftWithCleanup_false_of_bare h3⟩))
  obtain ⟨eh, _, _, eo, _⟩ := Shared.forget_eq hfo
  have hcase := hcase.congr eh
  rw [← eh] at hkp
  rw [← eo] at hos
  have hlife : s'.heap.life = s.heap.life := (runN_life _ _ _ hrun).trans hal.2.2.2
  refine ⟨vs, s₁, hlaid, k, _, s', hsched, ?_, (fun _ i x hx => by rw [hgens] at hx; simp at hx), hkp, by rw [hlife], Shared.rest_eq hos⟩
  rcases hcase with ⟨v, rfl, d1, d2, d3, d4, d5⟩ | ⟨e, ob, cls, rfl, d1, d2, d3, d4, d5⟩
  · exact .inl ⟨v, rfl, d1, d2, d3, fun b o y _ => d4 b o y, d5⟩
  · exact .inr ⟨e, ob, cls, rfl, d1, d2, d3, d4, fun b o y _ => d5 b o y⟩

abbrev WalkCl (q : Program) (loose : List Str) (XP : (Str → Option Value) → Heap → Prop) (YP : World → Heap → Prop) (r : RowW) (d : DefRec) (kwd : List (Str × Expr)) : Prop :=
  ∀ (w : World) (s₀ s₁ : Shared) (mg mb : Str → Option Value), Ground q loose r.records XP w s₀ mg mb s₁.heap → YP w s₁.heap → ∀ (a : Addr) (o : Obj) (pm cd doc dV kV : Value), s₁.heap.get? a = some o →
    o.data = .func { docDef d.name d.params d.body d.scope pm cd doc with defaults := dV, kwdefaults := kV } → s₁.heap.CodeRec cd d.name → Dflts mg s₁.heap d.params kwd dV kV → mg d.name = some (.ref a) → s₁.gens = #[] →
    ∀ (args : List WData) (vals : List Value) (as : List Addr), r.claim.pre args = true → WData.layableAll args = true → ReadsAllW r.records (classAt s₀.heap) s₁.heap vals args as → WellAll w.params s₁.heap vals args → (∀ a ∈ as, (a == sysModules) = false) →
      wpCl (model r.prog w) callerA (PySem.call (.ref a) vals) (fun v s' => GoodWG r.claim (classAt s₀.heap) (ExcName.means s₀.heap) args s₁ (.ok (.ret v)) s')
        (fun e s' => GoodWG r.claim (classAt s₀.heap) (ExcName.means s₀.heap) args s₁ (.error e) s') s₁

/-- the head, for clean stacks. It bears this name so that the library's k_head, run inside the namespace Mine, takes it. -/
theorem PySem.W.holds_open {r : OpenRow} {q : Program} {loose : List Str} {Xt : Shared → Bool} {XP : (Str → Option Value) → Heap → Prop} {α : Type} {Yf : Shared → α} {Ya : World → α} {YP : World → Heap → Prop} {d : DefRec} {kwd : List (Str × Expr)} {N : Nat}
    (left : LeftO r.prog q loose Xt Yf Ya N) (hY : ∀ w s, Yf s = Ya w → YP w s.heap) (hYk : ∀ w h h', YP w h → (∀ b o, h.get? b = some o → h'.get? b = some o) → YP w h')
    (hX : ∀ s, Xt s = true → XP (s.heap.nsMap mainGlobals) s.heap) (hXk : ∀ mg h h', XP mg h → (∀ b o, h.get? b = some o → h'.get? b = some o) → XP mg h')
    (hdef : defOf q r.name = some (d, kwd)) (hp : r.prog.theDef r.name = some (d.params, d.body, d.scope)) (hk : kwWritten? d.params.kwonlyargs d.params.kw_defaults = some kwd) (hRf : ∀ s, Xt s = true → RecFacts r.records s.heap) (hwr : (!r.writes || r.records.isEmpty) = true)
    (k1 : r.wellSaid = true) (ok : (chainsOk q && opensWell r.prog && (frees r.toRowW && r.within.isEmpty)) = true) (hb : r.prog.bare) (hw : r.toRowW.promised)
    (call : WalkCl q loose XP YP r.toRowW d kwd) : r.Holds := by
  obtain ⟨ok, k5⟩ := Bool.and_eq_true_iff.mp ok
  obtain ⟨hch, o1⟩ := Bool.and_eq_true_iff.mp ok
  obtain ⟨k5, k6⟩ := Bool.and_eq_true_iff.mp k5
  obtain ⟨hsame, hu, ha, hap, hm⟩ := frees_parts k5
  refine ⟨k1, hw, ⟨hb, o1, by show r.makers.map _ = []; rw [hm]; rfl⟩, hw.witness, fun w => ⟨(left.behind hX hch w).1, fun s' hs' => ?_⟩⟩
  obtain ⟨s₀, hf, hg0, s, hT, hz, hgens, hg, G00, y⟩ := (left.behind (XP := fun mg h => XP mg h ∧ RecFacts r.records h) (fun s hs => ⟨hX s hs, hRf s hs⟩) hch w).2 s' hs'
  have G0 : Ground q loose [] XP w s (s.heap.nsMap mainGlobals) (s.heap.nsMap builtinsNs) s.heap := ⟨G00.T, G00.B, G00.D, G00.TE, G00.TD, G00.W, G00.X.1, G00.cls, G00.has, G00.apart, G00.once, G00.K⟩
  have RF := G00.X.2
  have hT' := hT
  refine ⟨s₀, hf, hg0, s, hT, (fun n hn => ?_), RF.1, RF.2.1, ?_⟩
  · obtain rfl : n = r.name := by split at hn <;> simp_all
    exact pinned_of_view hg G0 hdef hp hk
  have hgens : s.gens = #[] := Array.eq_empty_of_size_eq_zero (beq_iff_eq.mp hgens)
  have G : Ground q loose r.records XP w s _ _ s.heap := RF.ground G0
  refine callFrom_cl (c := r.claim) hz hgens fun args hpre hlay ord hord => ?_
  obtain ⟨⟨vs, s₁⟩, hlaid⟩ := Option.isSome_iff_exists.mp (layAllW_isSome (P := w.params) (ord := ord) G.has args r.args s (pre_splitW hpre).1)
  have keeps := layAllW_keeps _ _ _ hlaid
  have hal := layAllW_rest _ _ _ hlaid
  obtain ⟨as, hrd, hin, hold⟩ := reads_layAllW hord _ _ _ hlaid hlay s₁.heap (fun _ _ e => e)
  have L : Laid r.records w s s₁ args vs as := ⟨⟨ord, hord, hlaid⟩, hrd, hin, hold, keeps, hal.1.trans hgens, hal.2.2.1⟩
  have G₁ := G.keeps hXk keeps
  obtain ⟨a, o, pm, cd, doc, dV, kV, h1, h2, h3, h4, h5⟩ := G₁.fn hdef
  have h := call w s s₁ _ _ G₁ (hYk _ _ _ (hY w s y) keeps) a o pm cd doc dV kV h2 h3 h4 h5 (defOf_name hdef ▸ h1) L.gens args vs as hpre hlay L.reads L.well (L.low G.low)
  have hi := ident_freeW hu ha hap
  have hwi : r.claim.within = [] := List.isEmpty_iff.mp k6
  refine ⟨vs, s₁, hlaid, cl_then (wpAny_nsGet G₁.T.g ?_)⟩
  rw [h1]
  refine cl_bind (cl_mono h (fun v s' g => of_any (wpAny_pure ⟨_, rfl, ?_⟩)) fun e s' g => ?_)
  · have z := g.laid (c := r.claim) hsame hwi hi L
    exact ⟨z.1, z.2.1, z.2.2, fun q => ⟨namesKept_of hT' hg _ keeps g.2.1.old, noTable hwr q⟩⟩
  · have z := g.laid (c := r.claim) hsame hwi hi L
    exact ⟨z.1, z.2.1, z.2.2, fun q => ⟨namesKept_of hT' hg _ keeps g.2.1.old, noTable hwr q⟩⟩
end Mine

namespace Mine
/-- the sevens of bits of a number, the lowest first, the high bit on each but the last -/
def enc (n : Int) : List Int := if 128 ≤ n then (n % 128 + 128) :: enc (n / 128) else [n]
termination_by n.toNat
decreasing_by omega
theorem enc_big {n : Int} (h : 128 ≤ n) : enc n = (n % 128 + 128) :: enc (n / 128) := by rw [enc, if_pos h]
theorem enc_small {n : Int} (h : ¬ 128 ≤ n) : enc n = [n] := by rw [enc, if_neg h]
theorem enc_ind {P : Int → Prop} (small : ∀ n, 0 ≤ n → ¬ 128 ≤ n → P n) (big : ∀ n, 128 ≤ n → P (n / 128) → P n) : ∀ n : Int, 0 ≤ n → P n := by
  have key : ∀ (k : Nat) (n : Int), n.toNat = k → 0 ≤ n → P n := by
    intro k
    induction k using Nat.strongRecOn with
    | ind k ih =>
      intro n hk h0
      by_cases h : 128 ≤ n
      · exact big n h (ih (n / 128).toNat (by omega) (n / 128) rfl (by omega))
      · exact small n h0 h
  exact fun n h => key n.toNat n rfl h
theorem enc_pos (n : Int) : 1 ≤ (enc n).length := by
  by_cases h : 128 ≤ n
  · rw [enc_big h, List.length_cons]; omega
  · rw [enc_small h]; exact Nat.le_refl _
theorem enc_len : ∀ (k : Nat) (n : Int), n < 128 ^ (k + 1) → (enc n).length ≤ k + 1 := by
  intro k
  induction k with
  | zero =>
    intro n h
    have : ¬ 128 ≤ n := by simp at h; omega
    rw [enc_small this]; simp
  | succ k ih =>
    intro n h
    by_cases h' : 128 ≤ n
    · rw [enc_big h', List.length_cons]
      have := ih (n / 128) (by
        rw [Int.pow_succ] at h
        exact Int.ediv_lt_of_lt_mul (by decide) h)
      omega
    · rw [enc_small h']; simp
theorem enc_len200 {n : Int} (h : n < 1606938044258990275541962092341162602522202993782792835301376) : (enc n).length ≤ 29 :=
  enc_len 28 n (Int.lt_trans h (by decide +kernel))
theorem enc_rng : ∀ n : Int, 0 ≤ n → ∀ d ∈ enc n, 0 ≤ d ∧ d < 256 := by
  refine enc_ind (fun n h0 h d hd => ?_) fun n h ih d hd => ?_
  · rw [enc_small h, List.mem_singleton] at hd
    subst hd; omega
  · rw [enc_big h] at hd
    rcases List.mem_cons.mp hd with rfl | hd
    · omega
    · exact ih d hd
theorem enc_high : ∀ n : Int, 0 ≤ n → ∀ i, i < (enc n).length → (128 ≤ (enc n).getD i 0 ↔ i + 1 < (enc n).length) := by
  refine enc_ind (fun n h0 h i hi => ?_) fun n h ih i hi => ?_
  · rw [enc_small h] at hi ⊢
    have : i = 0 := by simpa using hi
    subst this
    simp only [List.getD_cons_zero, List.length_singleton]
    omega
  · rw [enc_big h] at hi ⊢
    have hp := enc_pos (n / 128)
    cases i with
    | zero => simp only [List.getD_cons_zero, List.length_cons]; omega
    | succ i =>
      simp only [List.getD_cons_succ, List.length_cons] at hi ⊢
      have := ih i (by omega)
      omega
theorem enc_last : ∀ n : Int, 0 ≤ n → (0 < n → 1 ≤ (enc n).getD ((enc n).length - 1) 0) := by
  refine enc_ind (fun n h0 h hn => ?_) fun n h ih hn => ?_
  · rw [enc_small h]; simp only [List.length_singleton, Nat.sub_self, List.getD_cons_zero]; omega
  · have hp := enc_pos (n / 128)
    rw [enc_big h]
    have e : ((n % 128 + 128) :: enc (n / 128)).length - 1 = ((enc (n / 128)).length - 1) + 1 := by rw [List.length_cons]; omega
    rw [e, List.getD_cons_succ]
    exact ih (by omega)
theorem enc_long {n : Int} (h : 1 < (enc n).length) : 0 < n := by
  by_cases h' : 128 ≤ n
  · omega
  · rw [enc_small h'] at h; simp at h
def val : List Int → Int
  | [] => 0
  | d :: ds => d % 128 + 128 * val ds
theorem enc_val : ∀ n : Int, 0 ≤ n → val (enc n) = n := by
  refine enc_ind (fun n h0 h => ?_) fun n h ih => ?_
  · rw [enc_small h]; show n % 128 + 128 * 0 = n; omega
  · rw [enc_big h]; show (n % 128 + 128) % 128 + 128 * val (enc (n / 128)) = n; rw [ih]; omega
theorem val_take : ∀ (l : List Int) (k : Nat), k < l.length → val (l.take (k + 1)) = val (l.take k) + l.getD k 0 % 128 * 128 ^ k := by
  intro l
  induction l with
  | nil => intro k h; simp at h
  | cons d ds ih =>
    intro k h
    cases k with
    | zero => simp [val]
    | succ k =>
      rw [List.take_succ_cons, List.take_succ_cons, List.getD_cons_succ]
      show d % 128 + 128 * val (ds.take (k + 1)) = d % 128 + 128 * val (ds.take k) + ds.getD k 0 % 128 * 128 ^ (k + 1)
      rw [ih k (by simpa using h), Int.pow_succ, Int.mul_add, ← Int.mul_assoc, Int.mul_comm 128 (ds.getD k 0 % 128), Int.mul_assoc, Int.mul_comm 128 (128 ^ k)]
      omega
/-- between the turns of the while -/
def Inv (n0 m i : Int) (es : List Int) : Prop := es ++ enc i = m :: enc n0 ∧ 0 ≤ i ∧ es.length + (enc i).length ≤ 30
theorem inv_start {n0 : Int} (m : Int) (h0 : 0 ≤ n0) (h : n0 < 1606938044258990275541962092341162602522202993782792835301376) : Inv n0 m n0 [m] :=
  ⟨rfl, h0, by have := enc_len200 h; simp only [List.length_singleton]; omega⟩
theorem fdiv_128 {i : Int} (_h : 0 ≤ i) : i.fdiv (2 ^ Int.toNat 7) = i / 128 := by
  rw [show (2 : Int) ^ Int.toNat 7 = 128 from by decide, Int.fdiv_eq_ediv_of_nonneg _ (by decide)]
theorem inv_turn {n0 m i : Int} {es : List Int} (h : Inv n0 m i es) (hi : 128 ≤ i) : Inv n0 m (i.fdiv (2 ^ Int.toNat 7)) (es ++ [Builtin.bitAnd i 127 + 128]) := by
  obtain ⟨h1, h2, h3⟩ := h
  rw [fdiv_128 h2, bitAnd_m7]
  rw [enc_big hi] at h1 h3
  refine ⟨?_, by omega, ?_⟩
  · rw [List.append_assoc]; exact h1
  · rw [List.length_append, List.length_singleton]; rw [List.length_cons] at h3; omega
theorem inv_less {i : Int} (h0 : 0 ≤ i) (hi : 128 ≤ i) : (i.fdiv (2 ^ Int.toNat 7)).toNat < i.toNat := by rw [fdiv_128 h0]; omega
theorem inv_end {n0 m i : Int} {es : List Int} (h : Inv n0 m i es) (hi : ¬ 128 ≤ i) : es ++ [i] = m :: enc n0 := by
  have := h.1
  rw [enc_small hi] at this
  exact this
theorem inv_len {n0 m i : Int} {es : List Int} (h : Inv n0 m i es) : es.length ≤ 29 := by
  have := h.2.2; have := enc_pos i; omega
end Mine

namespace Mine
theorem cl_callWithK {M : Model} {A : Around} {E : Value → Shared → Prop} {s : Shared} {K : Frag} {env : Env} {pos : Pos} {f : Value} {Q : Value → Shared → Prop} {h₀ : Heap} {e : Expr} {rest : List Expr} (_X : K.In h₀) (hk : keepIn K f = true)
    (h : wpAny M A (spliced (backTo pos (starEach (e :: rest) env))) (fun vs s₁ => K.In s₁.heap ∧ wpCl M A (call f vs) Q E s₁) E s)
    (he : starEach (e :: rest) env = (false, eval e env) :: starEach rest env := by rfl) (hplain : (backTo pos (starEach rest env)).any (·.1) = false := by rfl) :
    wpCl M A (callWith pos f [] (backTo pos (starEach (e :: rest) env)) []) Q E s :=
  cl_callWith (P := fun h => K.In h) (keeps_K hk) h he hplain
theorem cl_callWithT {M : Model} {A : Around} {E : Value → Shared → Prop} {s : Shared} {env : Env} {pos : Pos} {T : String} {Q : Value → Shared → Prop} {e : Expr} {rest : List Expr}
    (h : wpAny M A (spliced (backTo pos (starEach (e :: rest) env))) (fun vs s₁ => wpCl M A (call (.type T) vs) Q E s₁) E s)
    (he : starEach (e :: rest) env = (false, eval e env) :: starEach rest env := by rfl) (hplain : (backTo pos (starEach rest env)).any (·.1) = false := by rfl) :
    wpCl M A (callWith pos (.type T) [] (backTo pos (starEach (e :: rest) env)) []) Q E s :=
  cl_callWith (P := fun _ => True) (fun _ _ => ⟨.machine, .inr (.inl rfl), Looks.of_pure rfl⟩) (wpAny_mono h (fun _ _ x => ⟨trivial, x⟩) fun _ _ x => x) he hplain
theorem fmod_bounds (a : Int) {n : Int} (h : 0 < n) : 0 ≤ Int.fmod a n ∧ Int.fmod a n < n := ⟨fmod_lo a h, fmod_hi a h⟩
theorem cl_enter {M : Model} {A : Around} {s : Shared} {f : Value} {pos : List Value} {kw : List (Str × Value)} {c : ClaimW} {cl : Str → Option Addr} {mean : ExcName → Option Value} {args : List WData} {s₁ : Shared}
    (h : codeCl M A (.call f ⟨pos, kw⟩) (GoodWG c cl mean args s₁) s) : wpCl M A (PySem.call f pos kw) (fun v s' => GoodWG c cl mean args s₁ (.ok (.ret v)) s') (fun e s' => GoodWG c cl mean args s₁ (.error e) s') s :=
  cl_call (codeCl_mono h fun res s' g => by rcases g.1 with ⟨v, _, _, rfl, _⟩ | ⟨e, _, _, rfl, _⟩ <;> exact g)
theorem cl_execs_nil {M : Model} {A : Around} {E : Value → Shared → Prop} {s : Shared} {env : Env} {Q : Flow → Shared → Prop} (h : Q .next s) : wpCl M A (execs [] env) Q E s := of_any (wpAny_execs_nil h)
theorem any_execs_append {M : Model} {A : Around} {E : Value → Shared → Prop} {s : Shared} {env : Env} {as bs : List Stmt} {Q : Flow → Shared → Prop}
    (h : wpAny M A (execs as env) (fun f s' => match f with | .next => wpAny M A (execs bs env) Q E s' | f => Q f s') E s) : wpAny M A (execs (as ++ bs) env) Q E s := by
  have key : ∀ (as : List Stmt) (s : Shared) (Γ : PySem.Ctx) (p : Pos), Γ.In A →
      Sem.wp M Γ (execs as env) (fun f _ s' => match f with | .next => wpAny M A (execs bs env) Q E s' | f => Q f s') (fun e _ s' => E e s') p s →
      Sem.wp M Γ (execs (as ++ bs) env) (fun f _ s' => Q f s') (fun e _ s' => E e s') p s := by
    intro as
    induction as with
    | nil => intro s Γ p hΓ h; exact h Γ p hΓ
    | cons a as ih =>
      intro s Γ p hΓ h
      rw [List.cons_append, execs_cons, Sem.wp_bind']
      rw [execs_cons, Sem.wp_bind'] at h
      refine Sem.wp_mono M Γ _ (fun f p' s' h' => ?_) (fun _ _ _ h' => h') _ _ h
      cases f with
      | next => exact ih s' Γ p' hΓ h'
      | ret v => exact h'
      | brk => exact h'
      | cont => exact h'
  exact fun Γ p hΓ => key as s Γ p hΓ (h Γ p hΓ)
/-- the table of the greatest numbers -/
theorem tab_vals {k : Int} (h0 : 1 ≤ k) (h1 : k ≤ 8) : ([0, 1, 3, 7, 15, 31, 63, 127, 255] : List Int).getD k.toNat 0 = 2 ^ k.toNat - 1 ∧ (1 : Int) ≤ 2 ^ k.toNat - 1 ∧ (2 : Int) ^ k.toNat - 1 ≤ 255 := by
  obtain ⟨j, rfl⟩ := Int.eq_ofNat_of_zero_le (show 0 ≤ k by omega)
  have : j = 1 ∨ j = 2 ∨ j = 3 ∨ j = 4 ∨ j = 5 ∨ j = 6 ∨ j = 7 ∨ j = 8 := by omega
  rcases this with rfl | rfl | rfl | rfl | rfl | rfl | rfl | rfl <;> decide
section
variable {prog : Program} {w : World} {A : Around} {E : Value → Shared → Prop} {s : Shared} {h₀ : Heap} {L a : Addr} {m : Str → Option Value} {news : List (Addr × Obj)} {Q : Value → Shared → Prop}
theorem tab_item {K : Frag} {value slice : Expr} {l : List Value} {dd : Option Addr} {sl : Array (Option Value)} {n : Nat} {k : Int} {u : Tok} (F : Fr h₀ L s.heap m) (X₀ : K.In h₀) (hl : K.lookup a = some ⟨.type "list", dd, .seq l.toArray n, sl⟩)
    (hi : IntsAre l [0, 1, 3, 7, 15, 31, 63, 127, 255]) (h0 : 1 ≤ k) (h1 : k ≤ 8) (h : ∀ (v : Int) (t : Tok), v = 2 ^ k.toNat - 1 → 1 ≤ v → v ≤ 255 → Q (.int v t) s)
    (hs : subscripted slice false (.ref a) (.int k u) = operate [.ref a, .int k u] (getItem (.ref a) (.int k u)) := by with_unfolding_all rfl) :
    wpAny (model prog w) A (subscriptTail value slice (.ref a) (.int k u)) Q E s := by
  obtain ⟨e, e1, e2⟩ := tab_vals h0 h1
  obtain ⟨t, hx⟩ := hi.get k.toNat _ (ints_getD (by omega) (show k < (9 : Nat) by omega))
  rw [e] at hx
  exact topList_K F X₀ hl (by omega) (by omega) hx (h _ t rfl e1 e2) hs
/-- the octets behind the first -/
structure IsEnc (ds : List Int) (n0 : Int) : Prop where
  eq : ds = enc n0
  pos : 0 ≤ n0
theorem told_rng {ds : List Int} {n0 v : Int} (he : IsEnc ds n0) (hv : 1 ≤ v) (hv2 : v ≤ 255) : ∀ n ∈ v :: ds, 0 ≤ n ∧ n < 256 := by
  intro n hn
  rcases List.mem_cons.mp hn with rfl | hn
  · omega
  · exact enc_rng n0 he.pos n (he.eq ▸ hn)
theorem told_len {ds : List Int} {v : Int} (N : News h₀ L s.heap news) (hm : (a, baObj (byteArr (v :: ds))) ∈ news) (hz : ds.length ≤ 29)
    (h : Q (.int ((ds.length : Int) + 1) (s.toks + 1)) { s with toks := s.toks + 1 + 1 }) : wpAny (model prog w) A (call (.builtin "len") [.ref a]) Q E s := by
  refine ba_lenK N hm (by rw [List.length_cons]; omega) ?_
  rw [List.length_cons, Int.natCast_add]; exact h
theorem told_first {value slice : Expr} {ds : List Int} {n0 v : Int} {u : Tok} (N : News h₀ L s.heap news) (hm : (a, baObj (byteArr (v :: ds))) ∈ news) (he : IsEnc ds n0) (hv : 1 ≤ v) (hv2 : v ≤ 255)
    (h : Q (.int v s.toks) { s with toks := s.toks + 1 })
    (hs : subscripted slice false (.ref a) (.int 0 u) = operate [.ref a, .int 0 u] (getItem (.ref a) (.int 0 u)) := by with_unfolding_all rfl) :
    wpAny (model prog w) A (subscriptTail value slice (.ref a) (.int 0 u)) Q E s :=
  ba_itemK N hm (told_rng he hv hv2) (by omega) (by rw [List.length_cons]; omega) (by omega) h hs
structure IsOctet (ds : List Int) (k d : Int) : Prop where
  eq : d = ds.getD (k - 1).toNat 0
theorem told_item {value slice : Expr} {ds : List Int} {n0 v k : Int} {u : Tok} (N : News h₀ L s.heap news) (hm : (a, baObj (byteArr (v :: ds))) ∈ news) (he : IsEnc ds n0) (hv : 1 ≤ v) (hv2 : v ≤ 255)
    (hz : ds.length ≤ 29) (h1 : 1 ≤ k) (h2 : k ≤ (ds.length : Int))
    (h : ∀ d : Int, IsOctet ds k d → 0 ≤ d → d < 256 → (k < (ds.length : Int) ∧ 128 ≤ d ∨ k = (ds.length : Int) ∧ d < 128) → (1 ≤ d ∨ k < (ds.length : Int) ∨ (ds.length : Int) ≤ 1) → Q (.int d s.toks) { s with toks := s.toks + 1 })
    (hs : subscripted slice false (.ref a) (.int k u) = operate [.ref a, .int k u] (getItem (.ref a) (.int k u)) := by with_unfolding_all rfl) :
    wpAny (model prog w) A (subscriptTail value slice (.ref a) (.int k u)) Q E s := by
  refine ba_itemK N hm (told_rng he hv hv2) (by omega) (by rw [List.length_cons]; omega) (by omega) ?_ hs
  have e : (v :: ds).getD k.toNat 0 = ds.getD (k - 1).toNat 0 := by
    rw [show k.toNat = (k - 1).toNat + 1 by omega, List.getD_cons_succ]
  rw [e]
  have hlt : (k - 1).toNat < ds.length := by omega
  have hmem : ds.getD (k - 1).toNat 0 ∈ v :: ds := by
    rw [List.getD_eq_getElem?_getD, List.getElem?_eq_getElem hlt]; exact .tail _ (List.getElem_mem hlt)
  have hr := told_rng he hv hv2 _ hmem
  have hh : 128 ≤ ds.getD (k - 1).toNat 0 ↔ (k - 1).toNat + 1 < ds.length := by
    rw [he.eq] at hlt ⊢
    exact enc_high n0 he.pos _ hlt
  refine h _ ⟨rfl⟩ hr.1 hr.2 ?_ ?_
  · by_cases hk : k < (ds.length : Int)
    · exact .inl ⟨hk, hh.mpr (by omega)⟩
    · refine .inr ⟨by omega, ?_⟩
      have : ¬ 128 ≤ ds.getD (k - 1).toNat 0 := fun x => by have := hh.mp x; omega
      omega
  · by_cases hk : k < (ds.length : Int)
    · exact .inr (.inl hk)
    · by_cases h3 : (ds.length : Int) ≤ 1
      · exact .inr (.inr h3)
      · have hl : 1 ≤ ds.getD (ds.length - 1) 0 := by
          have h4 : 1 < ds.length := by omega
          rw [he.eq] at h4 ⊢
          exact enc_last n0 he.pos (enc_long h4)
        rw [show ds.length - 1 = (k - 1).toNat by omega] at hl
        exact .inl hl
end
theorem word_start {n0 : Int} (m : Int) (h0 : 0 ≤ n0) (h : n0 < 1606938044258990275541962092341162602522202993782792835301376) : Inv n0 m n0 [m] ∧ 0 ≤ n0 ∧ ([m] : List Int).length ≤ 29 :=
  ⟨inv_start m h0 h, h0, by simp⟩
theorem word_turn {n0 m i : Int} {es : List Int} (h : Inv n0 m i es) (hi : 128 ≤ i) :
    Inv n0 m (i.fdiv (2 ^ Int.toNat 7)) (es ++ [Builtin.bitAnd i 127 + 128]) ∧ 0 ≤ i.fdiv (2 ^ Int.toNat 7) ∧ (es ++ [Builtin.bitAnd i 127 + 128]).length ≤ 29 := by
  have := inv_turn h hi
  exact ⟨this, this.2.1, inv_len this⟩
/-- between the turns of the law's own loop -/
structure SumTo (n0 rest : Int) (k : Nat) : Prop where
  eq : rest = val ((enc n0).take k)
theorem st_start (n0 : Int) : SumTo n0 0 ([] : List Int).length := ⟨by simp [val]⟩
theorem st_turn {ds : List Int} {n0 n1 rest d k : Int} {pre : List Int} (hr : SumTo n0 rest pre.length) (he : IsEnc ds n1) (hd : IsOctet ds k d) (hn : n1 = n0) (hk : k = 1 + (pre.length : Int)) (hj : (pre.length : Int) < (ds.length : Int)) :
    SumTo n0 (rest + d.fmod 128 * 128 ^ (k - 1).toNat) (pre ++ [k]).length := by
  subst hn
  refine ⟨?_⟩
  have h1 := hd.eq
  rw [he.eq] at hj h1
  have hkj : (k - 1).toNat = pre.length := by omega
  rw [List.length_append, List.length_singleton, val_take _ _ (by omega), ← hr.eq, Int.fmod_eq_emod_of_nonneg _ (by decide), h1, hkj]
theorem st_end {ds : List Int} {n0 n1 rest : Int} {k : Nat} (hr : SumTo n0 rest k) (he : IsEnc ds n1) (hn : n1 = n0) (hk : ds.length ≤ k) : rest = n0 := by
  subst hn
  rw [hr.eq, List.take_of_length_le (by rw [← he.eq]; exact hk), enc_val _ he.pos]
theorem st_true {ds : List Int} {n0 n1 rest : Int} {k : Nat} (hr : SumTo n0 rest (rangeKs 1 k).length) (he : IsEnc ds n1) (hn : n1 = n0) (hk : ds.length ≤ k) : (rest == n0) = true := by
  rw [rangeKs_length] at hr
  rw [st_end hr he hn hk]
  exact beq_self_eq_true _
theorem cl_bytearrayE {prog : Program} {w : World} {A : Around} {E : Value → Shared → Prop} {s : Shared} {h₀ : Heap} {L l : Addr} {m : Str → Option Value} {news : List (Addr × Obj)} {Q : Value → Shared → Prop} {vs : List Value} {es : List Int} {i v n0 : Int}
    (hI : Inv n0 v i es) (hs : ¬ 128 ≤ i) (F : Fr h₀ L s.heap m) (N : News h₀ L s.heap news)
    (hl : s.heap.IsList l vs.toArray) (hi : IntsAre vs (es ++ [i])) (h0 : 0 ≤ n0) (hb : n0 < 1606938044258990275541962092341162602522202993782792835301376) (h1 : 1 ≤ v) (h2 : v ≤ 255)
    (h : ∀ D h' ds, IsEnc ds n0 → ds.length ≤ 29 → 1 ≤ ds.length → Fr h₀ L h' m → News h₀ L h' ((D, baObj (byteArr (v :: ds))) :: news) → (∀ q ∈ news, q.1 < D) → Q (.ref D) { s with heap := h' }) :
    wpCl (model prog w) A (call (.type "bytearray") [.ref l]) Q E s := by
  rw [inv_end hI hs] at hi
  have hz := enc_len200 hb
  exact cl_bytearrayK F N hl hi (told_rng ⟨rfl, h0⟩ h1 h2) (by rw [List.length_cons, sizeLine_eq]; omega) fun D h' => h D h' (enc n0) ⟨rfl, h0⟩ hz (enc_pos n0)
end Mine

namespace Mine
local macro_rules | `(tactic| walk_at "subscriptTail Name Name ref int") => `(tactic| (k_here; (with_reducible show wpAny _ _ (subscriptTail _ _ (Value.ref _) (Value.int _ _)) _ _ _); (with_unfolding_all refine' tab_item ?kF ?kX ?kl ?ki ?ka ?kb ?_; (case kF => k_asm); (case kX => k_asm); (case kl => k_is); (case ki => l_ints); (case ka => omega); (case kb => omega)); intro v' t' hv0' hv1' hv2'))
local macro_rules | `(tactic| walk_at "call builtin:len") => `(tactic| (k_here; (with_reducible show wpAny _ _ (call (Value.builtin _) [Value.ref _]) _ _ _); (with_reducible refine' ba_lenK ?k1 ?k2 ?k3 ?_; (case k1 => k_asm); (case k2 => k_dflt (k_mem)); (case k3 => (simp only [List.length_cons, List.length_nil]; omega))); (try simp only [List.length_cons, List.length_nil, Nat.zero_add])))
local macro_rules | `(tactic| walk_at "call builtin:len") => `(tactic| (k_here; (with_reducible show wpAny _ _ (call (Value.builtin _) [Value.ref _]) _ _ _); (with_reducible refine' told_len ?k1 ?k2 ?k3 ?_; (case k1 => k_asm); (case k2 => k_dflt (k_mem)); (case k3 => assumption))))
local macro_rules | `(tactic| walk_at "call type:list") => `(tactic| (k_here; (with_reducible show wpAny _ _ (call (Value.type _) [Value.ref _]) _ _ _); (k_dflt (refine' ba_listK ?k1 ?k2 ?k3 ?k4 ?k5 ?k6 ?_; (case k1 => rfl); (case k2 => k_asm); (case k3 => k_asm); (case k4 => k_mem); (case k5 => (intro x hx; (simp only [List.mem_cons, List.not_mem_nil, or_false] at hx); subst hx; omega)); (case k6 => size_fits))); intro D' c' h' tk' vs' F' N' l1 hI'; (try k_lt l1); (try k_sweep)))
local macro_rules | `(tactic| walk_at "subscriptTail Name Name ref int") => `(tactic| (k_here; (with_reducible show wpAny _ _ (subscriptTail _ _ (Value.ref _) (Value.int _ _)) _ _ _); (with_reducible refine' told_item ?k1 ?k2 ?k3 ?k4 ?k5 ?k6 ?k7 ?k8 ?_; (case k1 => k_asm); (case k2 => k_dflt (k_mem)); (case k3 => assumption); (case k4 => omega); (case k5 => omega); (case k6 => assumption); (case k7 => omega); (case k8 => omega)); intro d' hd0' hd1' hd2' hd3' hd4'))
local macro_rules | `(tactic| walk_at "subscriptTail Name BinOp ref int") => `(tactic| (k_here; (with_reducible show wpAny _ _ (subscriptTail _ _ (Value.ref _) (Value.int _ _)) _ _ _); (with_reducible refine' told_item ?k1 ?k2 ?k3 ?k4 ?k5 ?k6 ?k7 ?k8 ?_; (case k1 => k_asm); (case k2 => k_dflt (k_mem)); (case k3 => assumption); (case k4 => omega); (case k5 => omega); (case k6 => assumption); (case k7 => omega); (case k8 => omega)); intro d' hd0' hd1' hd2' hd3' hd4'))
local macro_rules | `(tactic| walk_at "subscriptTail Name Constant ref int") => `(tactic| (k_here; (with_reducible show wpAny _ _ (subscriptTail _ _ (Value.ref _) (Value.int _ _)) _ _ _); (with_reducible refine' told_first ?k1 ?k2 ?k3 ?k4 ?k5 ?_; (case k1 => k_asm); (case k2 => k_dflt (k_mem)); (case k3 => assumption); (case k4 => omega); (case k5 => omega))))
local macro_rules | `(tactic| walk_at "call builtin:list.append nil") => `(tactic| (k_here; (show wpAny _ _ (call (Value.builtin "list.append") [Value.ref _, _]) _ _ _); k_dflt (refine' append_K ?k1 ?k2 ?k3 ?_ ?z; (case k1 => k_asm); (case k2 => k_asm); (case k3 => k_upd); (case z => size_fits); k_whole); intro h' F' N'; (try k_sweep)))
set_option maxHeartbeats 40000000 in
theorem main : PySem.Challenge.rw_ds0001_01.Holds := by
  w_on
  o_law
  k_head
  (case hw => w_witness2)
  k_fill
  intro w s₀ s₁ mg mb G Y fa o pm cd doc dV kV ho hd hcd hD hmg hg args vals as hpre hlay hrd hwl hlo
  have KX := kIn_of Y
  have X := (Ground.X G).1
  have V := (Ground.X G).2
  try w_nolog (first | (have GL := glob_more (Ground.glob G (by first | k_qdec | decide +kernel) (by first | k_qdec | decide +kernel)) V) | (have GL := glob_more (Ground.glob G (by decide +kernel)) V))
  refine Ground.open G ?_
  intro T B D TE TW
  try (refine guard_noD D (by decide +kernel) ?_; clear D)
  obtain ⟨_, _, M⟩ := bmod_of_top T
  have TA := at_of_top T
  try (obtain ⟨_, _, he, B0⟩ := based_of_top T rfl hmg ho hd; have he' : cd = _ := he; subst he'; clear he)
  clear hmg
  wrow_args hpre hlay hrd hwl hlo
  refine cl_enter ?_
  w_top on
  refine codeCl_mono ?_ (fun _ _ g => GoodW.toG g)
  have K0 := below_caller (Top.heap T)
  have he := Dflts.none hD rfl; subst he
  refine cl_full (by decide) ho hd (Top.nolimit T) hcd (BindsTo.of_eq rfl) (locs rfl) fun h₁ F => ?_
  w_binds F
  have N0 := (News.nil : News _ _ _ []).at F
  clear hd TA
  k_drop
  refine cl_execs_append (as := [_, _, _, _]) ?_
  k_fold
  k_steps
  all_goals (
    try dsimp only at *
    clear qk ek
    rename List Int => sc
    have hbb := fmod_bounds ((sc ++ List.drop ((sc.length : Int)).toNat [6, 1337]).getD (Int.toNat 0) 0) (n := 12) (by decide)
    have hnn := fmod_bounds ((sc ++ List.drop ((sc.length : Int)).toNat [6, 1337]).getD (Int.toNat 1) 0) (n := 2 ^ Int.toNat 200) (by decide)
    rw [show (2 : Int) ^ Int.toNat 200 = 1606938044258990275541962092341162602522202993782792835301376 from by decide +kernel] at *
    generalize ((sc ++ List.drop ((sc.length : Int)).toNat [6, 1337]).getD (Int.toNat 0) 0).fmod 12 = b at *
    generalize ((sc ++ List.drop ((sc.length : Int)).toNat [6, 1337]).getD (Int.toNat 1) 0).fmod 1606938044258990275541962092341162602522202993782792835301376 = n at *)
  rotate_left
  · refine of_any ?_
    k_fold
    k_steps
  · refine of_any ?_
    k_fold
    k_steps
  refine cl_execs_cons (cl_Try ?_)
  refine cl_execs_cons (cl_Assign_Name (cl_Call ?_))
  k_steps
  refine' cl_callWithK ?k1 ?k2 ?_; (case k1 => k_asm); (case k2 => k_is)
  k_steps
  refine cl_call ?_
  refine' cl_def ?k1 ?k2 ?k3 ?k4 ?k5 ?kA ?kF ?kK ?k6 ?k7 ?k8 ?k9 ?kB ?_ ?c2 ?c3 ?c4 ?c5; (case kA => exact rfl); (case kF => exact rfl); (case kK => exact rfl); (case k1 => k_asm); (case k2 => k_asm); (case k3 => k_asm); (case k4 => k_asm); (case k5 => k_asm); (case k6 => k_is); (case k7 => k_is); (case k8 => k_room); (case k9 => first | exact BindsTo.of_eq rfl | exact binds_K (by k_in) rfl (by k_is) rfl rfl rfl); (case c5 => decide); (case kB => exact locs rfl); (case c2 => exact rfl); (case c3 => exact rfl); (case c4 => exact rfl)
  intro g' L' h' FG' F' N' B' X' T'
  try dsimp only
  k_lift B'
  w_binds F'
  refine cl_execs_append (as := [_, _, _]) ?_
  k_fold
  k_steps
  try dsimp only at *
  clear qk ek
  rename_i v t hv0 hv1 hv2 hx
  refine cl_execs_cons (cl_If ?_)
  k_steps
  all_goals (try dsimp only at *)
  · refine cl_execs_cons (cl_Return_some (cl_Call ?_))
    k_steps
    refine cl_callWithT ?_
    k_steps
    refine' cl_bytearrayK ?kF ?kN ?kl ?ki ?kr ?kz ?_; (case kF => k_asm); (case kN => k_asm); (case kl => is_list); (case ki => l_ints); (case kr => (intro x hx; (simp only [List.mem_cons, List.not_mem_nil, or_false] at hx); subst hx; omega)); (case kz => size_fits)
    intro D' h' F' N' l1
    (try k_lt l1); (try k_sweep)
    try dsimp only
    k_steps
    try dsimp only
    refine of_any ?_
    k_steps
    try dsimp only
    refine of_any ?_
    k_fold
    k_steps
  · refine cl_execs_nil ?_
    try dsimp only
    refine cl_execs_append (as := [_, _, _, _]) ?_
    k_fold
    k_with "exec While Compare cons nil" => k_while_given ["integer!", "max_number"] (fun n0 m script i es => Inv n0 m i es ∧ 0 ≤ i ∧ es.length ≤ 29) (fun n0 m script i es => i.toNat) "integer" "elements"
    k_with "state" => first | exact word_start _ (by omega) (by omega) | exact word_turn (by assumption) (by first | assumption | omega)
    k_with "measure" => exact inv_less (by omega) (by omega)
    k_steps
    try dsimp only at *
    clear qk ek
    refine cl_execs_cons (cl_Return_some (cl_Call ?_))
    k_steps
    refine cl_callWithT ?_
    k_steps
    (rename News _ _ _ _ => nE'); (try simp only [List.push_toArray] at nE')
    refine' cl_bytearrayE (by assumption) (by assumption) ?kF nE' ?kl ?ki ?k0 ?kb ?k1 ?k2 ?_; (case kF => k_asm); (case kl => is_list); (case ki => l_ints); (case k0 => omega); (case kb => omega); (case k1 => omega); (case k2 => omega)
    intro D' h' ds' he9 hz9 hp9 F' N' l1
    (try k_lt l1); (try k_sweep)
    try dsimp only
    k_steps
    try dsimp only
    refine of_any ?_
    k_steps
    try dsimp only
    refine of_any ?_
    k_fold
    k_with "pyIter ref" => k_state_given ["greatest", "number"] (fun g n pre rest => SumTo (n - g) rest pre.length) "rest"
    k_with "state" => first | exact st_start _ | exact st_turn (by assumption) (by assumption) (by assumption) (by omega) (by omega) (by omega)
    k_steps
    all_goals (rw [st_true (by assumption) (by assumption) (by omega) (by omega)]; k_steps)
end Mine

theorem PySem.Challenge.cw_ds0001_01_holds : PySem.Challenge.rw_ds0001_01.Holds :=
  Mine.main
