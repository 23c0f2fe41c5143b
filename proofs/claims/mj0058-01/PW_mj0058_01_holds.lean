import PyProof.Rows.All
import Wide.All
import OpenK.AllK
import Wide.FinOn
import PyProof.StrLawsRepr
import ObjForm.LawKit
import Lean
import PySem.Challenge.RW_mj0058_01
set_option Elab.async false

/- part C1 -/
section
set_option maxRecDepth 100000
namespace Mine
open PySem PySem.W PyProof.Rows
open PySem.Sem (wp)

/-- the claim's caller stands on the stack -/
def SeesB (Γ : Ctx) : Prop := ∃ c ∈ Γ.below, c.1.isCaller = true
def Sees (Γ : Ctx) : Prop := Γ.code.isCaller = true ∨ SeesB Γ
theorem SeesB.sees {Γ : Ctx} (h : SeesB Γ) : Sees Γ := .inr h
theorem Sees.enter {Γ : Ctx} (h : Sees Γ) (c : Code) (hd : Option Value) (p : Pos) : SeesB (Γ.enter c hd p) := by
  rcases h with h | ⟨x, hx, hc⟩
  · exact ⟨(Γ.code, p), List.mem_cons_self, h⟩
  · exact ⟨x, List.mem_cons_of_mem _ hx, hc⟩

def wpC {α : Type} (M : Model) (A : Around) (t : Sem α) (Q : α → Shared → Prop) (E : Value → Shared → Prop) (s : Shared) : Prop :=
  ∀ Γ p, Γ.In A → Sees Γ → wp M Γ t (fun a _ s' => Q a s') (fun e _ s' => E e s') p s
def codeC (M : Model) (A : Around) (c : Code) (R : Result → Shared → Prop) (s : Shared) : Prop :=
  ∀ Γ p, Γ.code = c → Γ.Below A → SeesB Γ → wpCode M Γ R p s
/-- no exception comes out -/
abbrev NoE : Value → Shared → Prop := fun _ _ => False

section
variable {α β : Type} {M : Model} {A : Around} {E : Value → Shared → Prop} {s : Shared} {env : Env}

theorem wpC_of {t : Sem α} {Q : α → Shared → Prop} (h : wpAny M A t Q E s) : wpC M A t Q E s := fun Γ p hΓ _ => h Γ p hΓ
theorem codeC_of {c : Code} {R : Result → Shared → Prop} (h : codeAny M A c R s) : codeC M A c R s := fun Γ p hc hΓ _ => h Γ p hc hΓ
theorem wpC_mono {t : Sem α} {Q Q' : α → Shared → Prop} {E' : Value → Shared → Prop} (h : wpC M A t Q E s) (hQ : ∀ a s, Q a s → Q' a s) (hE : ∀ e s, E e s → E' e s) : wpC M A t Q' E' s :=
  fun Γ p hΓ hS => Sem.wp_mono M Γ t (fun a _ s => hQ a s) (fun e _ s => hE e s) p s (h Γ p hΓ hS)
theorem wpC_quiet {t : Sem α} {Q : α → Shared → Prop} (h : wpC M A t Q NoE s) : wpC M A t Q E s := wpC_mono h (fun _ _ q => q) fun _ _ x => x.elim
theorem wpC_pure {a : α} {Q : α → Shared → Prop} (h : Q a s) : wpC M A (pure a) Q E s := wpC_of (wpAny_pure h)
theorem wpC_bind {m : Sem α} {f : α → Sem β} {Q : β → Shared → Prop} (h : wpC M A m (fun a s' => wpC M A (f a) Q E s') E s) : wpC M A (m >>= f) Q E s := fun Γ p hΓ hS => by
  rw [Sem.wp_bind']
  exact Sem.wp_mono M Γ m (fun a p' s' h' => h' Γ p' hΓ hS) (fun _ _ _ h' => h') p s (h Γ p hΓ hS)
/-- a plain step, then the rest -/
theorem wpC_step {m : Sem α} {f : α → Sem β} {Q : β → Shared → Prop} (h : wpAny M A m (fun a s' => wpC M A (f a) Q E s') E s) : wpC M A (m >>= f) Q E s := wpC_bind (wpC_of h)
theorem wpC_onRaise {m : Sem α} {k : Value → Sem Unit} {Q : α → Shared → Prop} (h : wpC M A m Q NoE s) : wpC M A (m.onRaise k) Q E s := fun Γ p hΓ hS => by
  rw [Sem.wp_onRaise]
  exact Sem.wp_mono M Γ m (fun _ _ _ h' => h') (fun e p' s' h' => h'.elim) p s (h Γ p hΓ hS)
theorem wpC_attempt {m : Sem α} {Q : Except Value α → Shared → Prop} (h : wpC M A m (fun a => Q (.ok a)) (fun e => Q (.error e)) s) : wpC M A m.attempt Q E s := fun Γ p hΓ hS => by
  rw [Sem.wp_attempt]; exact h Γ p hΓ hS
theorem wpC_holding {vs : List Value} {m : Sem α} {Q : α → Shared → Prop} (h : wpC M A m Q E s) : wpC M A (holding vs m) Q E s := fun Γ p hΓ hS => by
  rw [Sem.wp_holding]; exact h Γ p hΓ hS
theorem wpC_stand {pos : Pos} {f : Unit → Sem β} {Q : β → Shared → Prop} (h : wpC M A (f ()) Q E s) : wpC M A (standAt pos >>= f) Q E s := wpC_step (wpAny_standAt h)
theorem wpC_run {c : Code} {h : Option Value} {Q : Flow → Shared → Prop} (hc : codeC M (A.mark h) c (fun r s' => match r with | .ok f => Q f s' | .error e => E e s') s) (hnb : h ≠ some byPass := by intro x; cases x) : wpC M A (run c h) Q E s :=
  fun Γ p hΓ hS => by rw [Sem.wp_run]; exact hc _ p rfl (hΓ.enter c h p hnb) (hS.enter c h p)
theorem wpC_runValue {c : Code} {Q : Value → Shared → Prop} (hc : codeC M A c (fun r s' => match r with | .ok (.ret v) => Q v s' | .ok _ => False | .error e => E e s') s) : wpC M A (runValue c) Q E s :=
  fun Γ p hΓ hS => by rw [Sem.wp_runValue]; exact hc _ p rfl (hΓ.enter c none p (by intro x; cases x)) (hS.enter c none p)
theorem wpC_call {f : Value} {pos : List Value} {kw : List (Str × Value)} {Q : Value → Shared → Prop} (hc : codeC M A (.call f ⟨pos, kw⟩) (fun r s' => match r with | .ok (.ret v) => Q v s' | .ok _ => False | .error e => E e s') s) :
    wpC M A (call f pos kw) Q E s := wpC_runValue hc
theorem codeC_mono {c : Code} {R R' : Result → Shared → Prop} (h : codeC M A c R s) (hR : ∀ r s, R r s → R' r s) : codeC M A c R' s := fun Γ p hc hΓ hB => wpCode_mono hR (h Γ p hc hΓ hB)
theorem codeC_tree {c : Code} {R : Result → Shared → Prop}
    (h : wpC M (A.under c) (M.den c) (fun fin s' => match fin with | .done f => R (.ok f) s' | .again c' => c'.quiet = true ∧ codeC M A c' R s') (fun e s' => R (.error e) s') s) : codeC M A c R s := fun Γ p hc hΓ hB => by
  rw [wpCode_iff_wp, hc]
  refine Sem.wp_mono M Γ _ (fun fin p' s' h' => ?_) (fun _ _ _ h' => h') p s (h Γ p (hc ▸ hΓ.in) hB.sees)
  cases fin with
  | done f => exact h'
  | again c' => exact ⟨h'.1, h'.2 (Γ.goto c') p' rfl (hΓ.goto c') hB⟩
theorem codeC_loop {c : Code} {R : Result → Shared → Prop} (hq : c.quiet = true) (I : Nat → Shared → Prop)
    (turn : ∀ n s, I n s → wpC M (A.under c) (M.den c) (fun fin s' => match fin with
        | .done f => R (.ok f) s'
        | .again c' => (c' = c ∧ ∃ m, m < n ∧ I m s') ∨ (c'.quiet = true ∧ codeC M A c' R s')) (fun e s' => R (.error e) s') s)
    (n : Nat) (h : I n s) : codeC M A c R s := by
  induction n using Nat.strongRecOn generalizing s with
  | ind n ih =>
    refine codeC_tree (wpC_mono (turn n s h) (fun fin s' hf => ?_) fun _ _ h' => h')
    cases fin with
    | done f => exact hf
    | again c' =>
      rcases hf with ⟨rfl, m, hm, hI⟩ | hf
      · exact ⟨hq, ih m hm hI⟩
      · exact hf

theorem execsC_cons {st rest} {Q : Flow → Shared → Prop} (h : wpC M A (exec st env) (fun f s' => match f with | .next => wpC M A (execs rest env) Q E s' | f => Q f s') E s) : wpC M A (execs (st :: rest) env) Q E s := fun Γ p hΓ hS => by
  rw [execs_cons, Sem.wp_bind']
  refine Sem.wp_mono M Γ _ (fun f p' s' h' => ?_) (fun _ _ _ h' => h') _ _ (h Γ p hΓ hS)
  cases f <;> first | exact h' Γ p' hΓ hS | exact h'
theorem AssignC {x pos' value pos} {Q : Flow → Shared → Prop} (h : wpC M A (eval value env) (fun v s₁ => wpAny M A (storeName env x v) (fun _ => Q .next) E s₁) E s)
    (hs : swapsWith value (some (.Name x pos')) pos.line env = pure false := by rfl) : wpC M A (exec (.Assign [.Name x pos'] value pos) env) Q E s := fun Γ p hΓ hS => by
  simp only [exec_Assign_Name env x pos' value pos hs, Sem.wp_bind', Sem.wp_cmd_standAt, Sem.wp_bindName, Sem.wp_pure']
  exact Sem.wp_mono M Γ _ (fun v _ s₁ h₁ => h₁ Γ _ hΓ) (fun _ _ _ h' => h') _ _ (h Γ _ hΓ hS)
theorem IfC {test body orelse pos} {Q : Flow → Shared → Prop} (h : wpAny M A (isTrue test env (eval test env)) (fun b s₂ => if b then wpC M A (execs body env) Q E s₂ else wpC M A (execs orelse env) Q E s₂) E s) :
    wpC M A (exec (.If test body orelse pos) env) Q E s := fun Γ p hΓ hS => by
  simp only [exec_If, Sem.wp_bind', Sem.wp_cmd_standAt]
  refine Sem.wp_mono M Γ _ (fun b p₂ s₂ h₂ => ?_) (fun _ _ _ h' => h') _ _ (h Γ _ hΓ)
  cases b <;> exact h₂ Γ p₂ hΓ hS
theorem runOwnC {c : Code} {h : Option Value} {Q : Flow → Shared → Prop} (hc : codeC M (A.mark h) c (fun r s' => match r with | .ok f => Q f s' | .error _ => False) s) (hnb : h ≠ some byPass := by intro x; cases x) : wpC M A (runOwn c env h) Q E s := by
  unfold runOwn
  exact wpC_onRaise (wpC_run (codeC_mono hc fun r s' hr => by cases r <;> exact hr) hnb)
theorem CallC {x : Str} {p pos : Pos} {args : List PySem.Expr} {Q : Value → Shared → Prop} (h : wpAny M A (eval (.Name x p) env) (fun f s₁ => wpC M A (callWith pos f [] (backTo pos (starEach args env)) []) Q E s₁) E s) :
    wpC M A (eval (.Call (.Name x p) args [] pos) env) Q E s := wpC_step h
theorem callWithC_type {pos : Pos} {T : String} {args : List (Bool × Sem Value)} {Q : Value → Shared → Prop} (hplain : args.any (·.1) = false)
    (h : wpAny M A (evalArgs (.type T) true args []) (fun a s₁ => wpC M A (call (.type T) a.pos a.kw) Q E s₁) E s) : wpC M A (callWith pos (.type T) [] args []) Q E s := by
  unfold callWith
  refine wpC_step (wpAny_holding (wpAny_mono h (fun a s₁ h₁ => wpC_stand ?_) fun _ _ x => x))
  simp only [hplain, List.any_nil, Bool.or_false]
  refine wpC_step (wpAny_pure ?_)
  exact wpC_bind (wpC_mono h₁ (fun r s₂ hr => wpC_of (wpAny_bind (wpAny_holding (wpAny_point (wpAny_pure hr))))) fun _ _ x => x)
theorem callWithC_def {pos : Pos} {a : Addr} {o : Obj} {fd : FuncData} {args : List (Bool × Sem Value)} {Q : Value → Shared → Prop} (hplain : args.any (·.1) = false) (hfew : ¬ args.length + 2 * ([] : List (Option Str × Sem Value)).length > 30)
    (h : wpAny M A (evalArgs (.ref a) true args []) (fun x s₁ => (s₁.heap.get? a = some o ∧ o.data = .func fd) ∧ wpC M A (call (.ref a) x.pos x.kw) Q E s₁) E s) : wpC M A (callWith pos (.ref a) [] args []) Q E s := by
  unfold callWith
  refine wpC_step (wpAny_holding (wpAny_mono h (fun x s₁ h₁ => wpC_stand ?_) fun _ _ x => x))
  simp only [hplain, List.any_nil, Bool.or_false]
  refine wpC_step ?_
  unfold keeperOf
  refine wpAny_bind (wpAny_load h₁.1.1 ?_)
  rw [h₁.1.2]
  refine wpAny_pure ?_
  show wpC M A (if args.length + 2 * ([] : List (Option Str × Sem Value)).length > 30 then (call (.ref a) x.pos x.kw >>= fun r => holding [r] point >>= fun _ => pure r) else (callMarked plainCall (.ref a) x.pos x.kw >>= fun r => holding [r] point >>= fun _ => pure r)) Q E s₁
  rw [if_neg hfew]
  unfold callMarked
  have tail : ∀ r s₂, Q r s₂ → wpC M A (holding [r] point >>= fun _ => pure r) Q E s₂ := fun r s₂ hr => wpC_of (wpAny_bind (wpAny_holding (wpAny_point (wpAny_pure hr))))
  refine wpC_bind (fun Γ p hΓ hS => ?_)
  rw [Sem.wp_keep]
  exact wpC_mono h₁.2 tail (fun _ _ x => x) Γ p hΓ hS

theorem TryC {body orelse : List Stmt} {h₀ : ExceptHandler} {hs : List ExceptHandler} {pos : Pos} {Q : Flow → Shared → Prop}
    (h : wpC M A (execs body env) (fun f s₁ => match f with | .next => wpC M A (execs orelse env) Q E s₁ | f => Q f s₁)
      (fun e s₁ => wpAny M A (noteFrame e env) (fun _ s₂ => wpAny M A (setFlight e none) (fun _ s₃ => wpAny M A (handleBy e env (h₀ :: hs)) Q E s₃) E s₂) E s₁) s) :
    wpC M A (exec (.Try body (h₀ :: hs) orelse [] pos) env) Q E s := by
  rw [arm_exec_Try]
  refine wpC_stand ?_
  unfold tryStmt
  simp only [List.isEmpty_nil, if_true, List.isEmpty_cons, Bool.false_and, Bool.false_eq_true, if_false]
  refine wpC_bind (wpC_attempt (wpC_mono h (fun f s₁ h₁ => ?_) fun e s₁ h₁ => ?_))
  · cases f <;> first | exact h₁ | exact wpC_pure h₁
  · exact wpC_of (wpAny_bind (wpAny_mono h₁ (fun _ _ h₂ => wpAny_bind h₂) fun _ _ x => x))

theorem ForC {target iter body orelse pos} {Q : Flow → Shared → Prop}
    (h : wpAny M A (eval iter env) (fun x s₁ => wpAny M A (pyIter x) (fun it s₂ => codeC M A (.forLoop target it body orelse env) (fun r s' => match r with | .ok f => Q f s' | .error _ => False) s₂) E s₁) E s)
    (hs : ∀ x, foldedSetIterable iter env x = pure x := by intro _; rfl) : wpC M A (exec (.For target iter body orelse pos) env) Q E s := by
  rw [exec_For]
  exact wpC_stand (wpC_step (wpAny_mono h (fun x s₁ h₁ => wpC_step (wpAny_of_eq (hs x) (wpC_stand (wpC_step (wpAny_holding (wpAny_mono h₁ (fun it s₂ h₂ => runOwnC h₂) fun _ _ h' => h')))))) fun _ _ h' => h'))

theorem TupleC {elts : List PySem.Expr} {k : Nat} {pos : Pos} {Q : Value → Shared → Prop} (h : wpC M A (spliced (backTo pos (starEach elts env))) (fun vs s₁ => wpAny M A (newTuple vs) Q E s₁) E s) : wpC M A (eval (.Tuple elts k pos) env) Q E s := by
  show wpC M A (do standAt pos; newTuple (← spliced (backTo pos (starEach elts env)))) Q E s
  exact wpC_stand (wpC_bind (wpC_mono h (fun vs s₁ h₁ => wpC_of h₁) fun _ _ x => x))
end

section
variable {prog : Program} {w : World} {A : Around} {E : Value → Shared → Prop} {s : Shared} {env : Env} {R : Result → Shared → Prop}

theorem funcC {body : List Stmt} (h : wpC (model prog w) (A.deeper env) (execs body env) (fun f s' => R (.ok (.ret (match f with | .ret v => v | _ => .none))) s') NoE s) : codeC (model prog w) A (.func body env) R s := by
  refine codeC_tree ?_
  show wpC _ (A.deeper env) (do point; match ← (execs body env).onRaise (leaving env) with | .ret v => ret v | _ => ret .none) _ _ s
  refine wpC_step (wpAny_point (wpC_bind (wpC_onRaise (wpC_mono h (fun f s' h' => ?_) fun _ _ h' => h'))))
  cases f <;> exact wpC_pure h'

theorem call_functionC {a : Addr} {args : Args} {o : Obj} {fd : FuncData} {body : List Stmt} (hroom : A.depth < recursionLimit) (ho : s.heap.get? a = some o)
    (hd' : o.data = .func fd) (hco : fd.scope.isCoroutine = false) (hgen : fd.scope.isGenerator = false) (hbody : fd.body = .stmts body) (hcd : s.heap.CodeRec fd.code fd.qualname)
    (h : wpAny (model prog w) A.in1 (bindArgs fd args) (fun binds s₁ =>
      wpAny (model prog w) A.in1 (newFunctionEnv fd.scope fd.globals fd.closure binds (fd.qualname ++ ".<locals>.") (some a) fd.code none fd.builtins)
        (fun env s₂ => s₂.heap.NoLimit ∧ codeC (model prog w) A (.func body env) R s₂) (fun e s' => R (.error e) s') s₁) (fun e s' => R (.error e) s') s) :
    codeC (model prog w) A (.call (.ref a) args) R s := by
  refine codeC_tree ?_
  show wpC _ A.in1 (callAny (.ref a) args) _ _ s
  simp only [callAny]
  refine wpC_step (wpAny_load ho ?_)
  obtain ⟨c, oc, vs, tq, hc, hoc, hdc, hq⟩ := hcd
  simp only [hd', callFunction, hco, hgen, hbody, hc]
  rw [hc] at h
  refine wpC_step (m := field (.ref c) 1) (wpAny_field hoc hdc hq (wpC_step (wpAny_pure ?_)))
  exact wpC_step (wpAny_mono h (fun binds s₁ h₁ => wpC_step (wpAny_mono h₁ (fun env s₂ h₂ => wpC_step (wpAny_enterFrame h₂.1 hroom (wpC_pure (And.intro rfl h₂.2)))) fun _ _ h' => h')) fun _ _ h' => h')

theorem call_defC {a : Addr} {o : Obj} {fd : FuncData} {body : List Stmt} {args : Args} {binds : List (Str × Value)}
    (hroom : A.depth < recursionLimit) (ho : s.heap.get? a = some o) (hdata : o.data = .func fd) (hlim : s.heap.NoLimit) (hcd : s.heap.CodeRec fd.code fd.qualname)
    (hbody : fd.body = .stmts body) (hbind : BindsTo s fd args binds)
    (hcell : ∀ x ∈ fd.scope.names, x.2 ≠ .cell) (hloc : ∀ x ∈ binds, fd.scope.names.lookup x.1 = some .local)
    (h : ∀ h₀, h₀.Ns s.heap.objs.size (fun x => binds.reverse.lookup x) → (∀ b o, s.heap.get? b = some o → h₀.get? b = some o) →
      wpC (model prog w) (A.deeper (callEnv fd s.heap.objs.size a)) (execs body (callEnv fd s.heap.objs.size a)) (fun f s' => R (.ok (.ret (match f with | .ret v => v | _ => .none))) s') NoE
        { s with heap := h₀, toks := s.toks + binds.length })
    (hco : fd.scope.isCoroutine = false := by rfl) (hgen : fd.scope.isGenerator = false := by rfl) (hk : fd.scope.kind = .function := by rfl) :
    codeC (model prog w) A (.call (.ref a) args) R s := by
  refine call_functionC hroom ho hdata hco hgen hbody hcd (hbind _ _ _ _ ?_)
  refine wpAny_newFunctionEnv hcell hloc (fun h₀ hns₀ hsb₀ => ⟨hlim.fresh _ hsb₀, funcC (h h₀ hns₀ fun b o e => ?_)⟩) hk
  exact hsb₀.extBut b o (Nat.ne_of_lt (Heap.lt_size e)) (Heap.get?_push_of_some _ e)

theorem forLoopC {x : Str} {px : Pos} {it : Value} {body : List Stmt} (I : Nat → Shared → Prop)
    (turn : ∀ n s, I n s → wpAny (model prog w) A (pyNext it) (fun r s₁ => match r with
      | none => R (.ok .next) s₁
      | some v => wpAny (model prog w) A (assign (.Name x px) env v) (fun _ s₂ => wpC (model prog w) A (execs body env) (fun f s₃ => match f with
          | .next | .cont => ∃ m, m < n ∧ I m s₃
          | .brk => R (.ok .next) s₃
          | .ret v => R (.ok (.ret v)) s₃) NoE s₂) NoE s₁) NoE s)
    (n : Nat) (h : I n s) : codeC (model prog w) A (.forLoop (.Name x px) it body [] env) R s := by
  refine codeC_loop rfl I (fun n s hI => ?_) n h
  show wpC _ _ ((forTurn (.Name x px) it body [] env).onRaise (fun x => do noteFrame x env; theTreesLotGoes x)) _ _ s
  refine wpC_onRaise ?_
  simp only [forTurn]
  refine wpC_stand (wpC_bind (wpC_onRaise (wpC_of (wpAny_mono (turn n s hI) (fun r s₁ h₁ => ?_) fun _ _ h' => h'))))
  cases r with
  | none =>
    refine wpC_pure (.inr ⟨rfl, codeC_tree ?_⟩)
    show wpC _ _ (do return Fin.done (← (execs [] env).onRaise (fun x => do noteFrame x env; theTreesLotGoes x))) _ _ s₁
    exact wpC_bind (wpC_onRaise (wpC_of (wpAny_execs_nil (wpC_pure h₁))))
  | some v =>
    refine wpC_step (wpAny_of_eq (show letOwnedTupleGo (.Name x px) it v = pure () from rfl) ?_)
    refine wpC_step (wpAny_mono h₁ (fun _ s₂ h₂ => wpC_bind (wpC_mono h₂ (fun f s₃ h₃ => ?_) fun _ _ h' => h')) fun _ _ h' => h')
    cases f with
    | next => exact wpC_pure (.inl ⟨rfl, h₃⟩)
    | cont => exact wpC_pure (.inl ⟨rfl, h₃⟩)
    | brk => exact wpC_pure h₃
    | ret v => exact wpC_pure h₃

theorem compLoopC {elt iter : PySem.Expr} {x : Str} {px : Pos} {scope : Scope} {pos : Pos} {it acc : Value} (I : Nat → Shared → Prop)
    (turn : ∀ n s, I n s → wpAny (model prog w) A (pyNext it) (fun r s₁ => match r with
      | none => R (.ok .next) s₁
      | some v => wpAny (model prog w) A (assign (.Name x px) env v) (fun _ s₂ => wpC (model prog w) A (eval elt env) (fun y s₃ =>
          wpAny (model prog w) A (call (.builtin "list.append") [acc, y]) (fun _ s₄ => ∃ m, m < n ∧ I m s₄) NoE s₃) NoE s₂) NoE s₁) NoE s)
    (n : Nat) (h : I n s) :
    codeC (model prog w) A (.compLoop (.ListComp elt [⟨.Name x px, iter, [], 0⟩] scope pos) 0 it acc env) R s := by
  refine codeC_loop rfl I (fun n s hI => ?_) n h
  show wpC _ _ ((compTurn (.ListComp elt [⟨.Name x px, iter, [], 0⟩] scope pos) 0 it acc env).onRaise (fun x => do noteFrame x env; theTreesLotGoes x)) _ _ s
  refine wpC_onRaise ?_
  rw [compTurn_list1]
  refine wpC_stand (wpC_step (wpAny_mono (turn n s hI) (fun r s₁ h₁ => ?_) fun _ _ h' => h'))
  cases r with
  | none => exact wpC_pure h₁
  | some v =>
    refine wpC_step (wpAny_of_eq (show letOwnedTupleGo (.Name x px) it v = pure () from rfl) ?_)
    exact wpC_step (wpAny_mono h₁ (fun _ s₂ h₂ => wpC_bind (wpC_bind (wpC_mono h₂ (fun y s₃ h₃ => wpC_step (wpAny_mono h₃
      (fun _ s₄ h₄ => wpC_pure (wpC_pure (.inl ⟨rfl, h₄⟩))) fun _ _ h' => h')) fun _ _ h' => h'))) fun _ _ h' => h')

theorem compStartC {elt iter : PySem.Expr} {x : Str} {px : Pos} {scope : Scope} {pos : Pos} {it acc : Value}
    (h0 : codeC (model prog w) A (.compLoop (.ListComp elt [⟨.Name x px, iter, [], 0⟩] scope pos) 0 it acc env) R s)
    (h : wpAny (model prog w) A (pyIter it) (fun it' s' => codeC (model prog w) A (.compLoop (.ListComp elt [⟨.Name x px, iter, [], 0⟩] scope pos) 0 it' acc env) R s') NoE s) :
    codeC (model prog w) A (.compStart (.ListComp elt [⟨.Name x px, iter, [], 0⟩] scope pos) 0 it acc env) R s := by
  refine codeC_tree ?_
  show wpC _ _ ((compStart (.ListComp elt [⟨.Name x px, iter, [], 0⟩] scope pos) 0 it acc env).onRaise (fun x => do noteFrame x env; standAt theWindowsPlace)) _ _ s
  refine wpC_onRaise ?_
  unfold compStart
  show wpC _ _ (ask >>= _) _ _ s
  refine wpC_step (wpAny_askSetting ?_)
  split
  · first
      | exact wpC_step (wpAny_pure (wpC_pure (And.intro rfl h0)))
      | exact wpC_pure (And.intro rfl h0)
  · refine wpC_step (wpAny_rule ?_)
    exact wpC_stand (wpC_step (wpAny_mono h (fun it' s' h' => wpC_pure (And.intro rfl h')) fun _ _ x => x))

theorem ListCompC {elt iter : PySem.Expr} {x : Str} {px : Pos} {scope : Scope} {pos : Pos} {Q : Value → Shared → Prop}
    (hfree : ∀ x ∈ scope.names, x.2 ≠ .free) (hkind : scope.kind = .function) (hnames : ∀ x ∈ scope.names, x.2 = .local → scope.names.lookup x.1 = some .local)
    (h : wpAny (model prog w) A (eval iter env) (fun x' s₁ => wpAny (model prog w) A (pyIter x') (fun it s₂ => wpAny (model prog w) A (newList []) (fun acc s₃ =>
      wpAny (model prog w) A (newFunctionEnv scope env.globals [] [] env.qual none .none (some env)) (fun cenv s₄ =>
        codeC (model prog w) A (.compStart (.ListComp elt [⟨.Name x px, iter, [], 0⟩] scope pos) 0 it acc { cenv with scope := scope })
          (fun r s' => ∃ m, s'.heap.Ns cenv.locals m ∧ match r with | .ok _ => ∀ h', Heap.SameBut cenv.locals s'.heap h' → Q acc { s' with heap := h' } | .error _ => False) s₄) E s₃) E s₂) E s₁) E s)
    (hs : ∀ x, foldedSetIterable iter env x = pure x := by intro _; rfl) :
    wpC (model prog w) A (eval (.ListComp elt [⟨.Name x px, iter, [], 0⟩] scope pos) env) Q E s := by
  rw [eval_ListComp]
  show wpC _ _ (comprehension _ scope env _ (newList []) false (eval iter env)) _ _ _
  unfold comprehension
  rw [closureFor_none hfree]
  show wpC _ _ (eval iter env >>= _) _ _ _
  refine wpC_step (wpAny_mono h (fun x s₁ h₁ => wpC_stand (wpC_step (wpAny_of_eq (hs x) (wpC_step (wpAny_holding (wpAny_mono h₁ (fun it s₂ h₂ => ?_) fun _ _ h' => h')))))) fun _ _ h' => h')
  refine wpC_step (wpAny_mono h₂ (fun acc s₃ h₃ => wpC_step (wpAny_pure (wpC_step (wpAny_mono h₃ (fun cenv s₄ h₄ => ?_) fun _ _ h' => h')))) fun _ _ h' => h')
  dsimp only
  rw [map_eq_self (l := scope.names) (fun x hx => by
    obtain ⟨n, k⟩ := x
    have : (k == NameKind.free) = false := by simpa using hfree _ hx
    simp [this])]
  have hv : ∀ x ∈ (scope.names.filter fun x => (x.2 == .local || x.2 == .cell) && x.1 != (".0" : Str)).reverse, x.2 = .local →
      Env.kindOf { cenv with scope := scope } x.1 = some .local := fun x hx hl => hnames x (List.mem_filter.mp (List.mem_reverse.mp hx)).1 hl
  refine wpC_holding (wpC_bind (wpC_attempt (wpC_holding (wpC_run (codeC_mono h₄ fun r s' hr => ?_)))))
  obtain ⟨m, hn, hr⟩ := hr
  cases r with
  | ok f => exact wpC_of (wpAny_bind (wpAny_holding (wpAny_comp_letGo (cenv := { cenv with scope := scope }) hkind _ s' m hv hn fun h' m' _ hs' => wpAny_pure (hr h' hs'))))
  | error x => exact hr.elim
end
end Mine

end

/- part C2 -/
section
set_option maxRecDepth 100000
namespace Mine
open PySem PySem.W PySem.Calls PyProof.Rows
open PySem.Sem (wp)

theorem thread_endsC {prog : Program} {w : World} {t : Sem Fin} {s : Shared} {R : Result → Shared → Prop} (hreg : s.asleep)
    (h : wpC (model prog w) callerA t (fun fin s' => ∃ f, fin = .done f ∧ (R (.ok f) s' ∧ leftWithCleanup s'.gens = false)) NoE s) :
    ∃ n r s' s'', runN (denote table) prog w n s ⟨t, .builtin "claim.caller" {}, default, []⟩ = .halted (outcomeOf r) s' ∧
      schedN (denote table) prog w n (.single s ⟨t, .builtin "claim.caller" {}, default, []⟩) = .halted (outcomeOf r) s' ∧ s'.forget = s''.forget ∧ R r s'' := by
  have h0 : wp (model prog w) ⟨.builtin "claim.caller" {}, none, none, [], none⟩ t (Sem.finPost (model prog w) ⟨.builtin "claim.caller" {}, none, none, [], none⟩ fun r s' => R r s' ∧ leftWithCleanup s'.gens = false)
      (fun e _ s' => R (.error e) s' ∧ leftWithCleanup s'.gens = false) default s := by
    refine Sem.wp_mono _ _ _ (fun fin p' s' h' => ?_) (fun _ _ _ h' => h'.elim) _ _ (h ⟨.builtin "claim.caller" {}, none, none, [], none⟩ default caller_in (.inl rfl))
    obtain ⟨f, rfl, hf⟩ := h'
    exact hf
  obtain ⟨n, r, s₁, s₂, hs, hn, hfo, hR⟩ := wp_halts_full (M := model prog w) (R := R) hreg h0
  exact ⟨n, r, s₂, s₁, hn, hs, hfo, hR⟩

theorem callFromC {c : ClaimW} {tree : List Value → Sem Fin} {w : World} {s : Shared} {free : Addr → Prop} {gens : Prop} {kept : Heap → Prop} (hz : s.asleep) (hgens : s.gens = #[])
    (hspec : ∀ args, c.pre args = true → WData.layableAll args = true →
      ∀ ord : List DictEntry → List DictEntry, (∀ l, (ord l).Perm l) →
      ∃ vs s₁, layAllW c.records (classAt s.heap) w.params ord args s = some (vs, s₁) ∧
        wpC (model c.prog w) callerA (tree vs) (fun fin s' => ∃ f, fin = .done f ∧ (c.Ends s args vs s₁ (.ok f) s' ∧ s'.os = s.os ∧ AllBare s'.gens ∧ kept s'.heap)) NoE s₁) :
    c.CallFrom (fun vs => ⟨tree vs, .builtin "claim.caller" {}, default, []⟩) w free gens kept s := by
  intro args hpre hlay ord hord
  obtain ⟨vs, s₁, hlaid, hcode⟩ := hspec args hpre hlay ord hord
  have hal := layAllW_rest _ _ _ hlaid
  obtain ⟨k, r, s', s'', hrun, hsched, hfo, hcase, hos, hkp⟩ := thread_endsC (prog := c.prog) (w := w) (t := tree vs) (s := s₁)
    (R := fun r s' => c.Ends s args vs s₁ r s' ∧ s'.os = s.os ∧ kept s'.heap)
    (Shared.asleep_of_life hal.2.2.2 hz)
    (wpC_mono hcode (by
      rintro fin s' ⟨f, e, h1, h2, h3, h4⟩
      exact ⟨f, e, ⟨h1, h2, h4⟩, leftWithCleanup_false_of_bare h3⟩) fun _ _ x => x)
  obtain ⟨eh, _, _, eo, _⟩ := Shared.forget_eq hfo
  have hcase := hcase.congr eh
  have hkp : kept s'.heap := by first | exact eh ▸ hkp | (rw [eh] at hkp; exact hkp) | (rw [← eh] at hkp; exact hkp)
  rw [← eo] at hos
  have hlife : s'.heap.life = s.heap.life := (runN_life _ _ _ hrun).trans hal.2.2.2
  refine ⟨vs, s₁, hlaid, k, _, s', hsched, ?_, (fun _ i x hx => by rw [hgens] at hx; simp at hx), hkp, by rw [hlife], Shared.rest_eq hos⟩
  rcases hcase with ⟨v, rfl, d1, d2, d3, d4, d5⟩ | ⟨e, ob, cls, rfl, d1, d2, d3, d4, d5⟩
  · exact .inl ⟨v, rfl, d1, d2, d3, fun b o y _ => d4 b o y, d5⟩
  · exact .inr ⟨e, ob, cls, rfl, d1, d2, d3, d4, fun b o y _ => d5 b o y⟩

abbrev WalkC (q : Program) (loose : List Str) (XP : (Str → Option Value) → Heap → Prop) (YP : World → Heap → Prop) (r : RowW) (d : DefRec) (kwd : List (Str × PySem.Expr)) : Prop :=
  ∀ (w : World) (s₀ s₁ : Shared) (mg mb : Str → Option Value), Ground q loose r.records XP w s₀ mg mb s₁.heap → YP w s₁.heap → ∀ (a : Addr) (o : Obj) (pm cd doc dV kV : Value), s₁.heap.get? a = some o →
    o.data = .func { docDef d.name d.params d.body d.scope pm cd doc with defaults := dV, kwdefaults := kV } → s₁.heap.CodeRec cd d.name → Dflts mg s₁.heap d.params kwd dV kV → mg d.name = some (.ref a) → s₁.gens = #[] →
    ∀ (args : List WData) (vals : List Value) (as : List Addr), r.claim.pre args = true → WData.layableAll args = true → ReadsAllW r.records (classAt s₀.heap) s₁.heap vals args as → WellAll w.params s₁.heap vals args → (∀ a ∈ as, (a == sysModules) = false) →
      wpC (model r.prog w) callerA (call (.ref a) vals) (fun v s' => GoodWG r.claim (classAt s₀.heap) (ExcName.means s₀.heap) args s₁ (.ok (.ret v)) s') NoE s₁

end Mine
namespace MTop
open PySem PySem.W PySem.Calls PyProof.Rows Mine
theorem PySem.W.holds_open {r : OpenRow} {q : Program} {loose : List Str} {Xt : Shared → Bool} {XP : (Str → Option Value) → Heap → Prop} {α : Type} {Yf : Shared → α} {Ya : World → α} {YP : World → Heap → Prop} {d : DefRec} {kwd : List (Str × PySem.Expr)} {N : Nat}
    (left : LeftO r.prog q loose Xt Yf Ya N) (hY : ∀ w s, Yf s = Ya w → YP w s.heap) (hYk : ∀ w h h', YP w h → (∀ b o, h.get? b = some o → h'.get? b = some o) → YP w h')
    (hX : ∀ s, Xt s = true → XP (s.heap.nsMap mainGlobals) s.heap) (hXk : ∀ mg h h', XP mg h → (∀ b o, h.get? b = some o → h'.get? b = some o) → XP mg h')
    (hdef : defOf q r.name = some (d, kwd)) (hp : r.prog.theDef r.name = some (d.params, d.body, d.scope)) (hk : kwWritten? d.params.kwonlyargs d.params.kw_defaults = some kwd) (hRf : ∀ s, Xt s = true → RecFacts r.records s.heap) (hwr : (!r.writes || r.records.isEmpty) = true)
    (k1 : r.wellSaid = true) (ok : (chainsOk q && opensWell r.prog && (frees r.toRowW && r.within.isEmpty)) = true) (hb : r.prog.bare) (hw : r.toRowW.promised)
    (walk : WalkC q loose XP YP r.toRowW d kwd) : r.Holds := by
  refine ⟨k1, hw, ?_⟩
  show r.toRowW.claim.HoldsOpenBy (fun vs => ⟨(do match ← nsGet mainNs r.name with
      | some f => do ret (← call f vs)
      | none => unsupported "claim.caller:no-such-global"), .builtin "claim.caller" {}, default, []⟩) _ _ _
  obtain ⟨ok, k5⟩ := Bool.and_eq_true_iff.mp ok
  obtain ⟨hch, o1⟩ := Bool.and_eq_true_iff.mp ok
  obtain ⟨k5, k6⟩ := Bool.and_eq_true_iff.mp k5
  obtain ⟨hsame, hu, ha, hap, hm⟩ := frees_parts k5
  refine ⟨⟨hb, o1, by show r.makers.map _ = []; rw [hm]; rfl⟩, hw.witness, fun w => ⟨(left.behind hX hch w).1, fun s' hs' => ?_⟩⟩
  obtain ⟨s₀, hf, hg0, s, hT, hz, hgens, hg, G00, y⟩ := (left.behind (XP := fun mg h => XP mg h ∧ RecFacts r.records h) (fun s hs => ⟨hX s hs, hRf s hs⟩) hch w).2 s' hs'
  have G0 : Ground q loose [] XP w s (s.heap.nsMap mainGlobals) (s.heap.nsMap builtinsNs) s.heap := ⟨G00.T, G00.B, G00.D, G00.TE, G00.TD, G00.W, G00.X.1, G00.cls, G00.has, G00.apart, G00.once, G00.K⟩
  have RF := G00.X.2
  have hT' := hT
  refine ⟨s₀, hf, hg0, s, hT, (fun n hn => ?_), RF.1, RF.2.1, ?_⟩
  · obtain rfl : n = r.name := by split at hn <;> simp_all
    exact pinned_of_view hg G0 hdef hp hk
  have hgens : s.gens = #[] := Array.eq_empty_of_size_eq_zero (beq_iff_eq.mp hgens)
  have G : Ground q loose r.records XP w s _ _ s.heap := RF.ground G0
  refine callFromC (c := r.toRowW.claim) hz hgens fun args hpre hlay ord hord => ?_
  obtain ⟨⟨vs, s₁⟩, hlaid⟩ := Option.isSome_iff_exists.mp (layAllW_isSome (P := w.params) (ord := ord) G.has args r.args s (pre_splitW hpre).1)
  have keeps := layAllW_keeps _ _ _ hlaid
  have hal := layAllW_rest _ _ _ hlaid
  obtain ⟨as, hrd, hin, hold⟩ := reads_layAllW hord _ _ _ hlaid hlay s₁.heap (fun _ _ e => e)
  have L : Laid r.records w s s₁ args vs as := ⟨⟨ord, hord, hlaid⟩, hrd, hin, hold, keeps, hal.1.trans hgens, hal.2.2.1⟩
  have G₁ := G.keeps hXk keeps
  obtain ⟨a, o, pm, cd, doc, dV, kV, h1, h2, h3, h4, h5⟩ := G₁.fn hdef
  have h := walk w s s₁ _ _ G₁ (hYk _ _ _ (hY w s y) keeps) a o pm cd doc dV kV h2 h3 h4 h5 (defOf_name hdef ▸ h1) L.gens args vs as hpre hlay L.reads L.well (L.low G.low)
  have hi := ident_freeW hu ha hap
  have hwi : r.toRowW.claim.within = [] := List.isEmpty_iff.mp k6
  refine ⟨vs, s₁, hlaid, wpC_step (wpAny_nsGet G₁.T.g ?_)⟩
  rw [h1]
  exact wpC_bind (wpC_mono h (fun v s' g => wpC_pure ⟨_, rfl, have z := g.laid (c := r.toRowW.claim) hsame hwi hi L; ⟨z.1, z.2.1, z.2.2, fun q => ⟨namesKept_of hT' hg _ keeps g.2.1.old, noTable hwr q⟩⟩⟩) fun _ _ x => x)
end MTop

end

/- part TopC -/
section
open PySem PySem.W PyProof.Rows
set_option Elab.async false
set_option maxRecDepth 100000
set_option maxHeartbeats 8000000
namespace MTop
open_top hd for PySem.Challenge.rw_mj0058_01
end MTop

end

/- part V0 -/
section
open PySem PySem.W PyProof.Rows
set_option Elab.async false
set_option maxRecDepth 100000
namespace Mine

theorem enter {w : World} {A : Around} {E : Value → Shared → Prop} {s : Shared} {f : Addr} {name qual : Str} {params : Arguments} {body : List Stmt} {scope : Scope} {dV kV doc pm cdv ct oc : Value} {an od : Option Addr} {osl : Array (Option Value)}
    {pos : List Value} {binds : List (Str × Value)} {Q : Value → Shared → Prop}
    (X : (MTop.hd.heap_39 w.params).In s.heap) (hlim : s.heap.NoLimit) (hroom : A.depth < recursionLimit)
    (ho : (MTop.hd.heap_39 w.params).lookup f = some ⟨oc, od, .func (fnOf name qual params body scope dV kV doc pm an cdv ct), osl⟩) (hcd : codeIn (MTop.hd.heap_39 w.params) cdv qual = true)
    (hbind : BindsTo s (fnOf name qual params body scope dV kV doc pm an cdv ct) ⟨pos, []⟩ binds) (hloc : ∀ y ∈ binds, scope.names.lookup y.1 = some .local)
    (h : ∀ h₁, Fr s.heap s.heap.objs.size h₁ (fun y => binds.reverse.lookup y) → News s.heap s.heap.objs.size h₁ [] →
      wpAny (model PySem.Challenge.rw_mj0058_01.prog w) (A.deeper (envOf qual scope s.heap.objs.size f cdv)) (execs body (envOf qual scope s.heap.objs.size f cdv))
        (fun fl s' => Q (match fl with | .ret v => v | _ => .none) s') (fun _ _ => False) { s with heap := h₁, toks := s.toks + binds.length })
    (hcell : ∀ x ∈ scope.names, x.2 ≠ .cell) (hco : scope.isCoroutine = false) (hgen : scope.isGenerator = false) (hk : scope.kind = .function) :
    wpAny (model PySem.Challenge.rw_mj0058_01.prog w) A (call (.ref f) pos []) Q E s := by
  refine wpAny_call (codeAny_call_def (fd := fnOf name qual params body scope dV kV doc pm an cdv ct) (body := body) (binds := binds) hroom (X _ _ ho) rfl hlim (codeRec_of X hcd) rfl hbind hcell hloc (fun h₁ hns hk₁ => ?_) hco hgen hk)
  exact wpAny_mono (h h₁ ⟨hns, hk₁, Nat.le_refl _⟩ News.nil) (fun _ _ x => x) fun _ _ x => x.elim
end Mine

end

/- part V1 -/
section
open PySem PySem.W PyProof.Rows
set_option Elab.async false
set_option maxRecDepth 100000
namespace Mine

def TurnEnd (h₀ : Heap) (L : Addr) (s : Shared) (I : Addr) (o : Obj) (J : (Str → Option Value) → List (Addr × Obj) → Prop) (Q : Flow → Shared → Prop) (f : Flow) (s₂ : Shared) : Prop :=
  match f with
  | .ret v => Q (.ret v) s₂
  | .brk => Q .next s₂
  | _ => ∃ h' tk' m₂ news₂, s₂ = { s with heap := h', toks := tk' } ∧ Fr h₀ L h' m₂ ∧ News h₀ L h' ((I, o) :: news₂) ∧ (∀ p ∈ news₂, p.1 ≠ I) ∧ J m₂ news₂

section
variable {prog : Program} {w : World} {A : Around} {E : Value → Shared → Prop} {s : Shared} {env : Env} {h₀ : Heap} {x : Str} {body : List Stmt} {Q : Flow → Shared → Prop}

theorem loop_at {I : Addr} {fp : List Addr} {n : Nat} {P : Nat → Value → Prop} {St : Nat → Heap → Prop} {m₀ : Str → Option Value} {news : List (Addr × Obj)} (J : Nat → (Str → Option Value) → List (Addr × Obj) → Prop)
    (fixed : List (Addr × Obj)) (W : Walks prog w A I fp [I] n P St) (hL : env.locals ∉ fp) (hI : h₀.get? I = none) (hn : ∀ p ∈ news, p.1 ≠ I) (hst : St 0 s.heap)
    (hIs : ∀ i h, St i h → ∃ o, h.get? I = some o)
    (hfp : ∀ b ∈ fp, b = I ∨ (h₀.get? b).isSome = true ∨ ∃ p ∈ fixed, p.1 = b)
    (hJf : ∀ i m news, J i m news → ∀ p ∈ fixed, p ∈ news)
    (F : Fr h₀ env.locals s.heap m₀) (N : News h₀ env.locals s.heap news) (hj : J 0 m₀ news)
    (turn : ∀ i v m₁ news₁ h tk o, i < n → P i v → J i m₁ news₁ → (∀ p ∈ news₁, p.1 ≠ I) → Fr h₀ env.locals h (fun y => if y = x then some v else m₁ y) → News h₀ env.locals h ((I, o) :: news₁) →
      wpAny (model prog w) A (execs body env) (TurnEnd h₀ env.locals s I o (J (i + 1)) Q) E { s with heap := h, toks := tk })
    (done : ∀ m₁ news₁ h tk, J n m₁ news₁ → Fr h₀ env.locals h m₁ → News h₀ env.locals h news₁ → Q .next { s with heap := h, toks := tk }) :
    LoopAtV prog w A h₀ env x body Q E (.ref I) s := by
  have hIfp : I ∈ fp := W.sub I (List.mem_singleton.mpr rfl)
  refine ⟨I, fp, [I], n, P, St, m₀, news, J, rfl, W, hL, ?_, ?_, hst, F, N, hj, ?_, ?_⟩
  · intro b hb; rw [List.mem_singleton.mp hb]; exact hI
  · intro p hp hm; exact hn p hp (List.mem_singleton.mp hm)
  · rintro i v m₁ news₁ s₁ own ⟨h, tk, rfl⟩ hi hP hJ hnw hof hog hmem hst₁ F₁ N₁
    obtain ⟨o, ho⟩ := hIs _ _ hst₁
    have hown : (I, o) ∈ own := hmem I hIfp hI o ho
    have N' : News h₀ env.locals h ((I, o) :: news₁) := fun p hp => by
      rcases List.mem_cons.mp hp with rfl | hp
      · exact N₁ _ (List.mem_append_left _ hown)
      · exact N₁ _ (List.mem_append_right _ hp)
    have back : ∀ h' news₂, News h₀ env.locals h' ((I, o) :: news₂) → (∀ p ∈ fixed, p ∈ news₂) → News h₀ env.locals h' (own ++ news₂) := fun h' news₂ N₂ hf p hp => by
      rcases List.mem_append.mp hp with hp | hp
      · rcases hfp p.1 (hof p hp) with e | e | ⟨q, hq, e⟩
        · have : p = (I, o) := by
            have h1 := hog p hp
            rw [e, ho] at h1
            obtain ⟨p1, p2⟩ := p
            cases e; cases h1; rfl
          rw [this]; exact N₂ _ (.head _)
        · have := (N₁ p (List.mem_append_left _ hp)).2.2
          rw [this] at e; cases e
        · have h1 := hog p hp
          have h2 := (N' q (List.mem_cons_of_mem _ (hJf _ _ _ hJ q hq))).1
          rw [e] at h2
          rw [h1] at h2
          have : p = q := by obtain ⟨p1, p2⟩ := p; obtain ⟨q1, q2⟩ := q; cases e; cases h2; rfl
          rw [this]; exact N₂ _ (List.mem_cons_of_mem _ (hf q hq))
      · exact N₂ p (List.mem_cons_of_mem _ hp)
    refine wpAny_mono (turn i v m₁ news₁ h tk o hi hP hJ (fun p hp q => hnw p hp (q ▸ List.mem_singleton.mpr rfl)) F₁ N') (fun f s₂ hf => ?_) fun _ _ e => e
    have fin : (∃ h' tk' m₂ news₂, s₂ = { s with heap := h', toks := tk' } ∧ Fr h₀ env.locals h' m₂ ∧ News h₀ env.locals h' ((I, o) :: news₂) ∧ (∀ p ∈ news₂, p.1 ≠ I) ∧ J (i + 1) m₂ news₂) →
        LoopStepU h₀ env.locals [I] own (J (i + 1)) { s with heap := h, toks := tk } .next s₂ := by
      rintro ⟨h', tk', m₂, news₂, rfl, F₂, N₂, hn₂, hJ₂⟩
      exact ⟨rfl, h', tk', m₂, news₂, rfl, F₂, back _ _ N₂ (hJf _ _ _ hJ₂), fun p hp hm => hn₂ p hp (List.mem_singleton.mp hm), hJ₂⟩
    cases f with
    | ret v => exact .ret hf
    | brk => exact .brk hf
    | next => exact .next (fin hf)
    | cont => exact .cont (fin hf)
  · intro h' tk m' news' F' N' _ hJ
    exact done m' news' h' tk hJ F' N'

/-- a for over a list that the call has made and does not change in the loop -/
theorem iter_listN {l : Addr} {ol : Obj} {items : Array Value} {m₀ : Str → Option Value} {news : List (Addr × Obj)} {ne : Nat} (J : Nat → (Str → Option Value) → List (Addr × Obj) → Prop)
    (hh : A.handled = none) (hlm : (l, ol) ∈ news) (hc : ol.cls = .type "list") (hd : ol.data = .seq items ne)
    (hJf : ∀ i m news, J i m news → (l, ol) ∈ news)
    (F : Fr h₀ env.locals s.heap m₀) (N : News h₀ env.locals s.heap news) (hj : J 0 m₀ news)
    (turn : ∀ I i v m₁ news₁ h tk o, (∀ p ∈ news, p.1 < I) → env.locals < I → items[i]? = some v → J i m₁ news₁ → (∀ p ∈ news₁, p.1 ≠ I) → Fr h₀ env.locals h (fun y => if y = x then some v else m₁ y) → News h₀ env.locals h ((I, o) :: news₁) →
      wpAny (model prog w) A (execs body env) (TurnEnd h₀ env.locals s I o (J (i + 1)) Q) E { s with heap := h, toks := tk })
    (done : ∀ m₁ news₁ h tk, J items.size m₁ news₁ → Fr h₀ env.locals h m₁ → News h₀ env.locals h news₁ → Q .next { s with heap := h, toks := tk }) :
    wpAny (model prog w) A (pyIter (.ref l)) (fun it s₂ => LoopAtV prog w A h₀ env x body Q E it s₂) E s := by
  have hl : s.heap.IsList l items := ⟨ol, (N _ hlm).1, hc, ne, hd⟩
  have hlt : l < s.heap.objs.size := Heap.lt_size (N _ hlm).1
  refine wpAny_pyIter_list hl ?_
  refine loop_at (s := { s with heap := _ }) J [(l, ol)] (Walks.list hh s.heap.objs.size l (Nat.ne_of_lt hlt) items) ?_ (next_is_new F) ?_ ?_ (fun i h st => let ⟨o, ho, _⟩ := st.1; ⟨o, ho⟩) ?_ (fun i m news hJ p hp => by rw [List.mem_singleton.mp hp]; exact hJf i m news hJ) (F.push _) (fun p hp => ⟨Heap.get?_push_of_some _ (N p hp).1, (N p hp).2⟩) hj ?_ done
  · intro hm
    rcases List.mem_cons.mp hm with e | hm
    · exact absurd F.ns.lt (e ▸ Nat.lt_irrefl _)
    · exact (N _ hlm).2.1 (List.mem_singleton.mp hm).symm
  · intro p hp q
    exact absurd (Heap.lt_size (N p hp).1) (q ▸ Nat.lt_irrefl _)
  · exact ⟨⟨_, Heap.get?_push_size _ rfl, rfl, rfl⟩, hl.push _⟩
  · intro b hb
    rcases List.mem_cons.mp hb with e | hb
    · exact .inl e
    · exact .inr (.inr ⟨_, List.mem_singleton.mpr rfl, (List.mem_singleton.mp hb).symm⟩)
  · intro i v m₁ news₁ h tk o hi hP hJ hn F₁ N₁
    exact turn s.heap.objs.size i v m₁ news₁ h tk o (fun p hp => Heap.lt_size (N p hp).1) F.ns.lt hP hJ hn F₁ N₁

theorem fr_known {h : Heap} {L : Addr} {m : Str → Option Value} {y : Str} {v : Value} (F : Fr h₀ L h m) (e : m y = some v) : Fr h₀ L h (fun z => if z = y then some v else m z) := by
  have : (fun z => if z = y then some v else m z) = m := by
    funext z
    by_cases q : z = y
    · rw [if_pos q, q, e]
    · rw [if_neg q]
  rw [this]; exact F
end
end Mine

end

/- part V2 -/
section
open PySem PySem.W PyProof.Rows
set_option Elab.async false
set_option maxRecDepth 100000
namespace Mine
section
variable {prog : Program} {w : World} {A : Around} {E : Value → Shared → Prop} {s : Shared} {h₀ : Heap} {L D : Addr} {m : Str → Option Value} {news news' : List (Addr × Obj)} {n : Nat} {pre : List Value} {v v' : Value} {u : Tok}

theorem item_last {value slice : PySem.Expr} {Q : Value → Shared → Prop} (N : News h₀ L s.heap news) (hm : (D, listOf (pre ++ [v]).toArray n) ∈ news) (h : Q v s)
    (hs : subscripted slice false (.ref D) (.int (-1) u) = operate [.ref D, .int (-1) u] (getItem (.ref D) (.int (-1) u)) := by with_unfolding_all rfl) :
    wpAny (model prog w) A (subscriptTail value slice (.ref D) (.int (-1) u)) Q E s := by
  have hl : s.heap.IsList D (pre ++ [v]).toArray := PySem.IsL.isList (n := n) (N _ hm).1
  have hz : (pre ++ [v]).toArray.size = pre.length + 1 := by simp
  refine tail_any hl.typeIs slot_list_getitem.lookup (wpAny_getItem_list_neg hl (by decide) (by rw [hz]; omega) (by decide) ?_ h) hs
  rw [hz]
  have : (-1 + ((pre.length + 1 : Nat) : Int)).toNat = pre.length := by omega
  rw [this]
  simp

theorem set_last {Q : Unit → Shared → Prop} (F : Fr h₀ L s.heap m) (N : News h₀ L s.heap news) (U : Upd D (listOf (pre ++ [v]).toArray n) (listOf (pre ++ [v']).toArray n) news news')
    (h : ∀ h', Fr h₀ L h' m → News h₀ L h' news' → Q () { s with heap := h' }) : wpAny (model prog w) A (setItem (.ref D) (.int (-1) u) v') Q E s := by
  obtain ⟨pr, post, rfl, rfl, a, b⟩ := U.split
  have z := N (D, listOf (pre ++ [v]).toArray n) (List.mem_append.mpr (.inr (.head _)))
  have hz : (pre ++ [v]).toArray.size = pre.length + 1 := by simp
  have hk : (-1 + ((pre ++ [v]).toArray.size : Int)).toNat = pre.length := by rw [hz]; omega
  refine ki_setBack z.1 (by decide) (by rw [hz]; omega) (by decide) (h _ (F.change (Heap.SameBut.update ..) z.2.1 z.2.2) (ki_turn _ N a b ?_ ?_))
  · rw [hk]; apply Array.toList_inj.mp; simp
  · simp
end
end Mine

end

/- part V3 -/
section
open PySem PySem.W PyProof.Rows
set_option Elab.async false
set_option maxRecDepth 100000
namespace Mine
def okc (c : Nat) : Bool := decide (32 ≤ c) && decide (c < 127)
def OkText (b : Nat) (x : Str) : Prop := x.cps.size ≤ b ∧ x.cps.all okc = true
def okB (b : Nat) (x : Str) : Bool := decide (x.cps.size ≤ b) && x.cps.all okc
theorem okB_ok {b : Nat} {x : Str} (h : okB b x = true) : OkText b x := by
  unfold okB at h
  rw [Bool.and_eq_true, decide_eq_true_eq] at h
  exact h

theorem ok_mono {a b : Nat} {x : Str} (h : OkText a x) (hab : a ≤ b) : OkText b x := ⟨Nat.le_trans h.1 hab, h.2⟩
theorem ok_add {a b : Nat} {x y : Str} (h : OkText a x) (k : OkText b y) : OkText (a + b) (x ++ y) := by
  have e : (x ++ y).cps = x.cps ++ y.cps := rfl
  refine ⟨?_, ?_⟩
  · rw [e, Array.size_append]; have := h.1; have := k.1; omega
  · rw [e, Array.all_append, h.2, k.2]; rfl

theorem num_ok : ∀ j : Fin 12, okB 5 (Str.ofString (toString ((j.val : Nat) : Int))) = true := by decide +kernel
theorem ok_num {k : Int} : OkText 5 (Str.ofString (toString (k.fmod 12))) := by
  have h0 := Int.fmod_nonneg_of_pos k (show (0 : Int) < 12 by decide)
  have h1 := Int.fmod_lt_of_pos k (show (0 : Int) < 12 by decide)
  obtain ⟨j, hj⟩ := Int.eq_ofNat_of_zero_le h0
  rw [hj]
  exact okB_ok <| num_ok ⟨j, by omega⟩
theorem sep_ok : ∀ j : Fin 4, okB 5 (Txt.item (Str.ofString "._+-") ((j.val : Nat) : Int)) = true := by decide +kernel
theorem ok_sep {k : Int} : OkText 5 (Txt.item (Str.ofString "._+-") (k.fmod 4)) := by
  have h0 := Int.fmod_nonneg_of_pos k (show (0 : Int) < 4 by decide)
  have h1 := Int.fmod_lt_of_pos k (show (0 : Int) < 4 by decide)
  obtain ⟨j, hj⟩ := Int.eq_ofNat_of_zero_le h0
  rw [hj]
  exact okB_ok <| sep_ok ⟨j, by omega⟩
theorem stage_ok : ∀ j : Fin 12, okB 5 ([Str.ofString "dev", Str.ofString "alpha", Str.ofString "a", Str.ofString "beta", Str.ofString "b",
              Str.ofString "c", Str.ofString "rc", Str.ofString "RC", Str.ofString "p", Str.ofString "pl",
              Str.ofString "x", Str.ofString "P"].getD j.val Str.empty) = true := by decide +kernel
theorem ok_stage {k : Int} : OkText 5 ([Str.ofString "dev", Str.ofString "alpha", Str.ofString "a", Str.ofString "beta", Str.ofString "b",
              Str.ofString "c", Str.ofString "rc", Str.ofString "RC", Str.ofString "p", Str.ofString "pl",
              Str.ofString "x", Str.ofString "P"].getD (k.fmod 12).toNat Str.empty) := by
  have h0 := Int.fmod_nonneg_of_pos k (show (0 : Int) < 12 by decide)
  have h1 := Int.fmod_lt_of_pos k (show (0 : Int) < 12 by decide)
  exact okB_ok <| stage_ok ⟨(k.fmod 12).toNat, by omega⟩
theorem ok_chr {k : Int} : OkText 5 ⟨#[(32 + k.fmod 95).toNat]⟩ := by
  have h0 := Int.fmod_nonneg_of_pos k (show (0 : Int) < 95 by decide)
  have h1 := Int.fmod_lt_of_pos k (show (0 : Int) < 95 by decide)
  refine ⟨by simp, ?_⟩
  simp only [okc, Array.all_eq_true]
  intro i hi
  simp at hi
  subst hi
  simp
  omega

section
variable {prog : Program} {w : World} {A : Around} {E : Value → Shared → Prop} {s : Shared} {h₀ : Heap} {L : Addr} {h : Heap}
theorem add_ok {b : Nat} {y z : Str} {t u : Tok} {Q : Value → Shared → Prop} (hy : OkText b y) (hz : OkText 5 z) (hb : b ≤ 1000) (h : ∀ t' tk, OkText (b + 5) (y ++ z) → Q (.str (y ++ z) t') { s with toks := tk }) :
    wpAny (model prog w) A (binaryOp .Add (.str y t) (.str z u)) Q E s := by
  have := ok_add hy hz
  exact add_str (fun t' tk => h t' tk this) (by have h1 := hy.1; have h2 := hz.1; show y.cps.size + z.cps.size ≤ 2 ^ 24; omega)

theorem pick3 {news : List (Addr × Obj)} {a b c : Addr × Obj} (N : News h₀ L h news) (ha : a ∈ news) (hb : b ∈ news) (hc : c ∈ news) : News h₀ L h [a, b, c] := fun p hp => by
  rcases List.mem_cons.mp hp with rfl | hp
  · exact N _ ha
  · rcases List.mem_cons.mp hp with rfl | hp
    · exact N _ hb
    · rw [List.mem_singleton.mp hp]; exact N _ hc
end
end Mine

end

/- part F1 -/
section
open PySem PySem.W PyProof.Rows
set_option Elab.async false
set_option maxRecDepth 100000
set_option maxHeartbeats 8000000
namespace Mine
local macro_rules | `(tactic| walk_at "m_enter") => `(tactic| ((case k1 => k_asm); (case k2 => exact TopRead.nolimit (by k_asm)); (case k6 => k_is); (case k7 => k_is); (case k9 => exact BindsTo.of_eq rfl); (case kB => exact locs rfl); (case c5 => decide); (case c2 => exact rfl); (case c3 => exact rfl); (case c4 => exact rfl); (case k3 => omega); k_whole))
local macro_rules | `(tactic| walk_at "m_go") => `(tactic| repeat' (
  (fail_if_success (with_reducible show wpAny _ _ (exec (Stmt.For _ _ _ _ _) _) _ _ _));
  (fail_if_success (with_reducible show wpAny _ _ (pyIter _) _ _ _));
  (fail_if_success (with_reducible show TurnEnd _ _ _ _ _ _ _ _ _));
  first | walk1 | (k_unfold; (try dsimp only)) | (dsimp only; walk1)))
local macro_rules | `(tactic| walk_at "subscriptTail") => `(tactic| (k_here; (with_reducible show wpAny _ _ (subscriptTail _ _ (Value.ref _) (Value.int (-1) _)) _ _ _); k_dflt (refine' item_last ?k1 ?k2 ?_ ?k3; (case k1 => k_asm); (case k2 => k_mem); (case k3 => with_unfolding_all rfl); k_whole)))
local macro_rules | `(tactic| walk_at "setItem ref int") => `(tactic| (k_here; (with_reducible show wpAny _ _ (setItem (Value.ref _) (Value.int (-1) _) _) _ _ _); k_dflt (refine' set_last ?k1 ?k2 ?k3 ?_; (case k1 => k_asm); (case k2 => k_asm); (case k3 => k_upd); k_whole); intro h' F' N'; (try k_sweep)))
local macro_rules | `(tactic| walk_at "call builtin:list.append") => `(tactic| (k_here; (with_reducible show wpAny _ _ (call (Value.builtin _) [Value.ref _, _]) _ _ _); k_dflt (refine' append_K ?k1 ?k2 ?k3 ?_ ?z; (case k1 => k_asm); (case k2 => k_asm); (case k3 => k_upd); (case z => assumption); k_whole); intro h' F' N'; (try k_sweep)))
local macro_rules | `(tactic| walk_at "binaryOp Add str str") => `(tactic| (k_here; k_dflt (refine' add_ok ?k1 ?k2 ?k3 ?_; (case k1 => assumption); (case k2 => first | exact ok_num | exact ok_sep | exact ok_stage | exact ok_chr); (case k3 => omega); k_whole); intro t' tk' hk'))

def VJ (D l : Addr) (ws : List Value) (i : Nat) (m : Str → Option Value) (news : List (Addr × Obj)) : Prop :=
  ∃ pre ys y t n, news = [(D, W.listOf ws.toArray 0), (l, W.listOf (pre ++ [Value.str y t]).toArray n)] ∧ m (Str.ofString "versions") = some (.ref l) ∧ StrsAre pre ys ∧ ys.length ≤ 1 + i ∧ (∀ x ∈ ys, OkText (6 + 5 * i) x) ∧ OkText (6 + 5 * i) y

theorem VJ_set {D l : Addr} {ws : List Value} {i n : Nat} {m : Str → Option Value} {pre : List Value} {ys : List Str} {y z : Str} {t : Tok} (hm : m (Str.ofString "versions") = some (.ref l))
    (hp : StrsAre pre ys) (hl : ys.length ≤ 1 + i) (ho : ∀ x ∈ ys, OkText (6 + 5 * i) x) (hy : OkText (6 + 5 * i + 5) (y ++ z)) :
    VJ D l ws (i + 1) m [(D, W.listOf ws.toArray 0), (l, W.listOf (pre ++ [Value.str (y ++ z) t]).toArray n)] :=
  ⟨pre, ys, y ++ z, t, n, rfl, hm, hp, by omega, fun x hx => ok_mono (ho x hx) (by omega), ok_mono hy (by omega)⟩
theorem VJ_app {D l : Addr} {ws : List Value} {i n : Nat} {m : Str → Option Value} {pre : List Value} {ys : List Str} {y z : Str} {t u : Tok} (hm : m (Str.ofString "versions") = some (.ref l))
    (hp : StrsAre pre ys) (hl : ys.length ≤ 1 + i) (ho : ∀ x ∈ ys, OkText (6 + 5 * i) x) (hy : OkText (6 + 5 * i) y) (hz : OkText (6 + 5 * i) z) :
    VJ D l ws (i + 1) m [(D, W.listOf ws.toArray 0), (l, W.listOf ((pre ++ [Value.str y t]).toArray.push (.str z u)) n)] := by
  refine ⟨pre ++ [.str y t], ys ++ [y], z, u, n, by simp, hm, StrsAre.append' hp (.cons _ _ .nil), by simp; omega, fun x hx => ?_, ok_mono hz (by omega)⟩
  rcases List.mem_append.mp hx with hx | hx
  · exact ok_mono (ho x hx) (by omega)
  · rw [List.mem_singleton.mp hx]; exact ok_mono hy (by omega)

theorem turn_go {h₀ : Heap} {L : Addr} {s : Shared} {I : Addr} {o : Obj} {J : (Str → Option Value) → List (Addr × Obj) → Prop} {Q : Flow → Shared → Prop} {h' : Heap} {tk' : Nat} {m₂ : Str → Option Value} {news₂ : List (Addr × Obj)}
    (F : Fr h₀ L h' m₂) (hJ : J m₂ news₂) (N : News h₀ L h' ((I, o) :: news₂)) (hn : ∀ p ∈ news₂, p.1 ≠ I) : TurnEnd h₀ L s I o J Q .next { s with heap := h', toks := tk' } := ⟨_, _, _, _, rfl, F, N, hn, hJ⟩
theorem get?_two {h : Heap} {a b : Obj} (hb : b.isFreed = false) : ((h.push a).push b).get? (h.objs.size + 1) = some b := by
  have := Heap.get?_push_size (h.push a) hb
  rw [Heap.size_push] at this
  exact this
theorem slice_m5 (items : Array Value) : slicePick items (some (-5)) none none = (items.toList.drop (items.size - 5)).toArray := by
  rw [← slicePick_from items (items.size - 5) (by omega)]
  have e : sliceBounds (some (-5)) none none items.size = sliceBounds (some ((items.size - 5 : Nat) : Int)) none none items.size := by
    simp only [sliceBounds, Option.getD_none]
    congr 1
    simp
    omega
  unfold slicePick
  rw [e]

set_option maxHeartbeats 40000000 in
theorem versions_ok : ∀ (w : World) (mg mb : Str → Option Value) (p : Program) (loose : List Str) (s : Shared) (A : Around) (l : Addr) (vs : List Value) (ns : List Int) (Q : Value → Shared → Prop) (E : Value → Shared → Prop),
   (MTop.hd.heap_39 w.params).In s.heap → TopRead p loose mg mb s.heap → A.handled = none → A.depth + 10 < recursionLimit → s.heap.IsList l vs.toArray → IntsAre vs ns → ns.length ≤ 63 →
   (∀ h' tk l' vals ys, (∀ b o, s.heap.get? b = some o → h'.get? b = some o) → h'.get? l' = some (W.listOf vals.toArray 0) → s.heap.get? l' = none → StrsAre vals ys → ys.length ≤ 5 → (∀ x ∈ ys, OkText 66 x) → Q (.ref l') { s with heap := h', toks := tk }) →
   wpAny (model PySem.Challenge.rw_mj0058_01.prog w) A (call (.ref 79) [.ref l] []) Q E s := by
  k_fill
  intro w mg mb p loose s A l vs ns Q E KX T hh hd hL hI hlen hQ
  refine' enter (binds := [(Str.ofString "script", .ref l)]) ?k1 ?k2 ?k3 ?k6 ?k7 ?k9 ?kB ?_ ?c5 ?c2 ?c3 ?c4
  walk_at "m_enter"
  intro h₁ F N
  walk_at "m_go"
  refine For_invV s.heap rfl rfl ?_
  walk_at "m_go"
  rename_i l' _ _ _ D ws h₂ F₂ N₂ hI₂ hC₂ hL₂ l1
  refine iter_listN (VJ D l' ws) hh (List.Mem.head _) rfl rfl ?_ F₂ N₂ ?_ ?_ ?_
  · rintro i m news ⟨pre, ys, y, t, n, rfl, _⟩
    exact List.Mem.head _
  · exact ⟨[.str (Str.ofString "1.0rc1") _], [Str.ofString "1.0rc1"], Str.ofString "1.0", _, 0, rfl, rfl, .cons _ _ .nil, by simp, fun x hx => by rw [List.mem_singleton.mp hx]; exact okB_ok (by decide +kernel), okB_ok (by decide +kernel)⟩
  · rintro I i v m₁ news₁ h tk o hlt hLI hv ⟨pre, ys, y, t, n, rfl, hm, hp, hlen', hok, hoky⟩ hne F₃ N₃
    have hlt1 : @LT.lt Nat _ D I := hlt _ (List.Mem.head _)
    have hlt2 : @LT.lt Nat _ l' I := hlt _ (List.Mem.tail _ (List.Mem.head _))
    have hi : i < 12 := by
      have h1 : i < ws.toArray.size := (Array.getElem?_eq_some_iff.mp hv).1
      have h2 := hI₂.length
      simp at h1
      omega
    obtain ⟨tv, hx⟩ : ∃ (n : Int) (t : Tok), v = .int n t := by
      have h1 : ws[i]? = some v := by simpa using hv
      have h2 : i < (List.take 12 ns).length := by rw [← hI₂.length]; exact (List.getElem?_eq_some_iff.mp h1).1
      obtain ⟨t, ht⟩ := hI₂.get i _ (List.getElem?_eq_getElem h2)
      rw [h1] at ht
      exact ⟨_, t, Option.some.inj ht⟩
    obtain ⟨tt, rfl⟩ := hx
    have hpl : pre.length = ys.length := StrsAre.length hp
    have hlen2 : (pre ++ [Value.str y t]).toArray.size ≤ sizeLine := by
      show _ ≤ 2 ^ 24
      simp; omega
    have hem : OkText (6 + 5 * i) (Str.ofString "") := ok_mono (a := 0) (okB_ok (by decide +kernel)) (Nat.zero_le _)
    have F₄ : Fr s.heap s.heap.objs.size h (fun y => if y = Str.ofString "x" then some (.int tv tt) else if y = Str.ofString "versions" then some (.ref l') else m₁ y) := by
      have e : (fun y => if y = Str.ofString "x" then some (Value.int tv tt) else if y = Str.ofString "versions" then some (.ref l') else m₁ y) = fun y => if y = Str.ofString "x" then some (.int tv tt) else m₁ y := by
        funext z
        by_cases q : z = Str.ofString "x"
        · rw [if_pos q, if_pos q]
        · rw [if_neg q, if_neg q]
          by_cases q' : z = Str.ofString "versions"
          · rw [if_pos q', q', hm]
          · rw [if_neg q']
      rw [e]; exact F₃
    replace N₃ : News s.heap s.heap.objs.size h [(I, o), (D, W.listOf ws.toArray 0), (l', W.listOf (pre ++ [Value.str y t]).toArray n)] := N₃
    clear F₃ hlt hne hLI
    walk_at "m_go"
    all_goals (with_reducible rename Fr _ _ _ _ => FF)
    all_goals (with_reducible rename News _ _ _ _ => NN)
    all_goals first
      | exact turn_go FF (VJ_set rfl hp hlen' hok (by assumption)) (pick3 NN (by k_mem) (by k_mem) (by k_mem)) (List.forall_mem_cons.mpr ⟨by k_ne, List.forall_mem_cons.mpr ⟨by k_ne, List.forall_mem_nil _⟩⟩)
      | exact turn_go FF (VJ_app rfl hp hlen' hok hoky hoky) (pick3 NN (by k_mem) (by k_mem) (by k_mem)) (List.forall_mem_cons.mpr ⟨by k_ne, List.forall_mem_cons.mpr ⟨by k_ne, List.forall_mem_nil _⟩⟩)
      | exact turn_go FF (VJ_app rfl hp hlen' hok hoky hem) (pick3 NN (by k_mem) (by k_mem) (by k_mem)) (List.forall_mem_cons.mpr ⟨by k_ne, List.forall_mem_cons.mpr ⟨by k_ne, List.forall_mem_nil _⟩⟩)
  · rintro m₁ news₁ h tk ⟨pre, ys, y, t, n, rfl, hm, hp, hlen', hok, hoky⟩ F₃ N₃
    have F₄ : Fr s.heap s.heap.objs.size h (fun y => if y = Str.ofString "versions" then some (.ref l') else m₁ y) := fr_known F₃ hm
    replace N₃ : News s.heap s.heap.objs.size h [(D, W.listOf ws.toArray 0), (l', W.listOf (pre ++ [Value.str y t]).toArray n)] := N₃
    clear F₃
    walk_at "m_go"
    have hpl : pre.length = ys.length := StrsAre.length hp
    have hi12 : ws.length ≤ 12 := by
      have h2 := hI₂.length
      omega
    have hsz : (pre ++ [Value.str y t]).toArray.size ≤ sizeLine := by
      show _ ≤ 2 ^ 24
      simp at hlen' ⊢; omega
    have hL' : h.IsList l' (pre ++ [Value.str y t]).toArray := PySem.IsL.isList (n := n) (N₃ _ (.tail _ (.head _))).1
    change wpAny _ _ (subscriptTail _ _ (.ref l') (.ref h.objs.size)) _ _ { s with heap := h.push { cls := .type "slice", data := .fields #[.int (-5) _, .none, .none] }, toks := tk + 1 + 1 }
    refine slice_listK (s := { s with heap := h, toks := tk + 1 + 1 }) (vl := .int (-5) _) (vu := .none) (lo := some (-5)) (hi := none) hL' (.int _ _) .none ?_ (by with_unfolding_all rfl) (by intro _; with_unfolding_all rfl) hsz
    rw [slice_m5]
    have hall : ∀ x ∈ (ys ++ [y]).drop ((pre ++ [Value.str y t]).toArray.size - 5), OkText 66 x := by
      intro x hx
      rcases List.mem_append.mp (List.mem_of_mem_drop hx) with hx | hx
      · exact ok_mono (hok x hx) (by simp; omega)
      · rw [List.mem_singleton.mp hx]; exact ok_mono hoky (by simp; omega)
    exact hQ _ _ (h.objs.size + 1) _ _ (fun b o e => Heap.get?_push_of_some _ (Heap.get?_push_of_some _ (F₄.keep b o e))) (by simpa using get?_two (h := h) rfl) (F₄.noneBack (Heap.get?_none_of_le (Nat.le_succ _)))
      (StrsAre.drop' (StrsAre.append' hp (.cons y t .nil)) _) (by simp; omega) hall
end Mine

end

/- part R1 -/
section
set_option maxRecDepth 100000
namespace Mine.Re
open PySem PySem.Sre

def code : Array Nat := #[14, 4, 0, 1, 4294967295, 17, 0, 7, 14, 24, 10, 1, 4294967295, 13, 5, 22, 48, 57, 0, 1, 15, 17, 15, 13, 11, 9, 0, 26624, 2147483648, 0, 0, 0, 0, 0, 0, 15, 2, 0, 17, 1, 1]

def isFig (c : Nat) : Bool := decide (48 ≤ c) && decide (c ≤ 57)
def isCut (c : Nat) : Bool := c == 46 || c == 95 || c == 43 || c == 45

theorem acc13 (c : Nat) (sn : Seen) : ∃ sn', accepts code 13 c sn = .ok (isFig c, sn') := by
  by_cases h : isFig c = true
  · refine ⟨sn.add 22, ?_⟩
    rw [h]
    show (if (decide (48 ≤ c) && decide (c ≤ 57)) = true then Except.ok (true, sn.add 22) else _) = _
    exact if_pos h
  · refine ⟨(sn.add 22).add 0, ?_⟩
    rw [Bool.not_eq_true] at h
    rw [h]
    show (if (decide (48 ≤ c) && decide (c ≤ 57)) = true then Except.ok (true, sn.add 22) else _) = _
    rw [if_neg (by show ¬ isFig c = true; rw [h]; decide)]
    rfl

theorem cutBits : ∀ c : Nat, c < 256 → (code.getD (25 + (1 + c / 32)) 0).testBit (c % 32) = isCut c := by decide +kernel

theorem cut_iff (c : Nat) : (decide (c < 256) && (code.getD (25 + (1 + c / 32)) 0).testBit (c % 32)) = isCut c := by
  by_cases h : c < 256
  · rw [decide_eq_true h, Bool.true_and]; exact cutBits c h
  · rw [decide_eq_false h, Bool.false_and]
    unfold isCut
    have h1 : c ≠ 46 := by omega
    have h2 : c ≠ 95 := by omega
    have h3 : c ≠ 43 := by omega
    have h4 : c ≠ 45 := by omega
    simp [h1, h2, h3, h4]

theorem acc23 (c : Nat) (sn : Seen) : ∃ sn', accepts code 23 c sn = .ok (isCut c, sn') := by
  by_cases h : isCut c = true
  · refine ⟨sn.add 9, ?_⟩
    rw [h]
    show (if (decide (c < 256) && (code.getD (25 + (1 + c / 32)) 0).testBit (c % 32)) = true then Except.ok (true, sn.add 9) else _) = _
    rw [if_pos (by rw [cut_iff]; exact h)]
  · refine ⟨(sn.add 9).add 0, ?_⟩
    rw [Bool.not_eq_true] at h
    rw [h]
    show (if (decide (c < 256) && (code.getD (25 + (1 + c / 32)) 0).testBit (c % 32)) = true then Except.ok (true, sn.add 9) else _) = _
    rw [if_neg (by rw [cut_iff, h]; decide)]
    rfl

/-- how many figures stand from p on, at most n -/
def figs (text : Array Nat) : (n p : Nat) → Nat
  | 0, _ => 0
  | n + 1, p => if isFig (text.getD p 0) then figs text n (p + 1) + 1 else 0

theorem run13 (text : Array Nat) : ∀ (n p found : Nat) (sn : Seen), ∃ sn', Sre.run code text 13 n p found sn = .ok (found + figs text n p, sn')
  | 0, _, found, sn => ⟨sn, rfl⟩
  | n + 1, p, found, sn => by
    obtain ⟨s1, h1⟩ := acc13 (text.getD p 0) sn
    unfold Sre.run figs
    rw [h1]
    cases hf : isFig (text.getD p 0) with
    | true =>
      obtain ⟨s2, h2⟩ := run13 text n (p + 1) (found + 1) s1
      refine ⟨s2, ?_⟩
      show Sre.run code text 13 n (p + 1) (found + 1) s1 = _
      rw [h2]
      simp only [if_true]
      congr 2; omega
    | false => exact ⟨s1, rfl⟩

def fr0 (s : Nat) (first : Bool) : Sre.Frame := { wait := .nextStart, pc := 5, pos := s, outermost := first }
def S0 (text : Array Nat) (s : Nat) (first : Bool) (a b : Option Nat) (sn : Seen) : M :=
  { code := code, text := text, lim := text.size, start := s, lastStart := text.size, pc := 5, pos := s, handed := s, outermost := first, marks := #[a, b], frames := [fr0 s first], weight := 1, seen := sn }

def kp : Sre.Kept := { lastmark := 0, lastindex := -1 }
def fr1 (s : Nat) (first : Bool) (pc : Nat) : Sre.Frame := { wait := .nextBranch, pc := pc, pos := s, outermost := first, kept := kp }
def S2 (text : Array Nat) (s : Nat) (first : Bool) (b : Option Nat) (sn : Seen) : M :=
  { code := code, text := text, lim := text.size, start := s, lastStart := text.size, pc := 9, pos := s, handed := s, outermost := first, marks := #[some s, b], lastmark := 0, frames := [fr1 s first 8, fr0 s first], weight := 2, seen := sn }
theorem to_S2 (text : Array Nat) (s : Nat) (first : Bool) (a b : Option Nat) (sn : Seen) : ∃ sn', (S0 text s first a b sn).step.step = S2 text s first b sn' := ⟨_, rfl⟩

end Mine.Re

end

/- part R2 -/
section
set_option maxRecDepth 100000
namespace Mine.Re
open PySem PySem.Sre

theorem figs_pos {text : Array Nat} {n p : Nat} (hn : 0 < n) (h : isFig (text.getD p 0) = true) : 0 < figs text n p := by
  cases n with
  | zero => omega
  | succ n => unfold figs; rw [if_pos h]; omega
theorem figs_zero {text : Array Nat} {n p : Nat} (h : isFig (text.getD p 0) = false) : figs text n p = 0 := by
  cases n with
  | zero => rfl
  | succ n => unfold figs; rw [if_neg (by rw [h]; decide)]
theorem figs_le (text : Array Nat) : ∀ n p, figs text n p ≤ n
  | 0, _ => Nat.le_refl _
  | n + 1, p => by
    unfold figs
    split
    · have := figs_le text n (p + 1); omega
    · omega

def fr2 (s n : Nat) (first : Bool) : Sre.Frame := { wait := .giveBack, pc := 9, pos := s + n, outermost := first, count := n, kept := kp }
def S3 (text : Array Nat) (s n : Nat) (first : Bool) (b : Option Nat) (sn : Seen) : M :=
  { code := code, text := text, lim := text.size, start := s, lastStart := text.size, pc := 20, pos := s + n, handed := s + n, outermost := first, marks := #[some s, b], lastmark := 0, frames := [fr2 s n first, fr1 s first 8, fr0 s first], weight := 3, seen := sn }
def SF (text : Array Nat) (s : Nat) (first : Bool) (b : Option Nat) (sn : Seen) : M :=
  { code := code, text := text, lim := text.size, start := s, lastStart := text.size, pc := 9, pos := s, handed := s, outermost := first, marks := #[some s, b], lastmark := 0, frames := [fr1 s first 8, fr0 s first], weight := 2, seen := sn, answer := some false }

theorem rep_fig {text : Array Nat} {s : Nat} {first : Bool} {b : Option Nat} {sn : Seen} (hs : s < text.size) (hb : text.size ≤ 4294967295) (hf : isFig (text.getD s 0) = true) :
    ∃ sn', (S2 text s first b sn).step = S3 text s (figs text (text.size - s) s) first b sn' := by
  have h1 : ¬ ((1 : Nat) : Int) > (text.size : Int) - (s : Int) := by omega
  obtain ⟨s1, hr⟩ := run13 text (text.size - s) s 0 ((sn.add 24).add 13)
  rw [Nat.zero_add] at hr
  have hm : min 4294967295 ((text.size : Int) - (s : Int)).toNat = text.size - s := by omega
  refine ⟨s1, ?_⟩
  show (if ((1 : Nat) : Int) > (text.size : Int) - (s : Int) then _ else _) = _
  rw [if_neg h1]
  show (match Sre.run code text 13 (min 4294967295 ((text.size : Int) - (s : Int)).toNat) s 0 ((sn.add 24).add 13) with | .error why => _ | .ok (n, seen) => _) = _
  rw [hm, hr]
  show (if figs text (text.size - s) s < 1 then _ else _) = _
  rw [if_neg (by have := figs_pos (n := text.size - s) (by omega) hf; omega)]
  rfl

theorem rep_no {text : Array Nat} {s : Nat} {first : Bool} {b : Option Nat} {sn : Seen} (hf : s < text.size → isFig (text.getD s 0) = false) :
    ∃ sn', (S2 text s first b sn).step = SF text s first b sn' := by
  by_cases h1 : ((1 : Nat) : Int) > (text.size : Int) - (s : Int)
  · refine ⟨sn.add 24, ?_⟩
    show (if ((1 : Nat) : Int) > (text.size : Int) - (s : Int) then _ else _) = _
    rw [if_pos h1]
    rfl
  · have hf := hf (by omega)
    obtain ⟨s1, hr⟩ := run13 text (min 4294967295 ((text.size : Int) - (s : Int)).toNat) s 0 ((sn.add 24).add 13)
    rw [Nat.zero_add] at hr
    refine ⟨s1, ?_⟩
    show (if ((1 : Nat) : Int) > (text.size : Int) - (s : Int) then _ else _) = _
    rw [if_neg h1]
    show (match Sre.run code text 13 (min 4294967295 ((text.size : Int) - (s : Int)).toNat) s 0 ((sn.add 24).add 13) with | .error why => _ | .ok (n, seen) => _) = _
    rw [hr, figs_zero hf]
    rfl

/-- the end of a search that has found s to e -/
def SM (text : Array Nat) (s e : Nat) (m : M) : Prop := m.outcome = some .matched ∧ m.start = s ∧ m.handed = e ∧ m.lastmark = 1 ∧ m.marks = #[some s, some e] ∧ m.text = text

/-- found, on the way back -/
def SY (text : Array Nat) (s e : Nat) (first : Bool) (frames : List Sre.Frame) (weight pc pos : Nat) (sn : Seen) (li : Int) : M :=
  { code := code, text := text, lim := text.size, start := s, lastStart := text.size, pc := pc, pos := pos, handed := e, outermost := first, marks := #[some s, some e], lastmark := 1, lastindex := li, frames := frames, weight := weight, seen := sn, answer := some true }
def SK (text : Array Nat) (s e : Nat) (first : Bool) (frames : List Sre.Frame) (weight hd : Nat) (sn : Seen) (li : Int) : M :=
  { code := code, text := text, lim := text.size, start := s, lastStart := text.size, pc := 40, pos := e, handed := hd, outermost := first, marks := #[some s, some e], lastmark := 1, lastindex := li, frames := frames, weight := weight, seen := sn }
def SJ (text : Array Nat) (s e : Nat) (first : Bool) (b : Option Nat) (frames : List Sre.Frame) (weight hd : Nat) (sn : Seen) : M :=
  { code := code, text := text, lim := text.size, start := s, lastStart := text.size, pc := 38, pos := e, handed := hd, outermost := first, marks := #[some s, b], lastmark := 0, frames := frames, weight := weight, seen := sn }
theorem SJ_step (text : Array Nat) (s e : Nat) (first : Bool) (b : Option Nat) (frames : List Sre.Frame) (weight hd : Nat) (sn : Seen) : ∃ li, (SJ text s e first b frames weight hd sn).step = SK text s e first frames weight hd (sn.add 17) li := ⟨_, rfl⟩
theorem SK_step (text : Array Nat) (s e : Nat) (first : Bool) (frames : List Sre.Frame) (weight hd : Nat) (sn : Seen) (li : Int) : (SK text s e first frames weight hd sn li).step = SY text s e first frames weight 40 e (sn.add 1) li := by
  cases first <;> rfl
theorem SY_2 (text : Array Nat) (s n : Nat) (first f2 : Bool) (frames : List Sre.Frame) (w pc pos : Nat) (sn : Seen) (li : Int) : (SY text s (s + n) first (fr2 s n f2 :: frames) (w + 1) pc pos sn li).step = SY text s (s + n) f2 frames w 9 (s + n) sn li := rfl
theorem SY_1 (text : Array Nat) (s e : Nat) (first f2 : Bool) (frames : List Sre.Frame) (k w pc pos : Nat) (sn : Seen) (li : Int) : (SY text s e first (fr1 s f2 k :: frames) (w + 1) pc pos sn li).step = SY text s e f2 frames w k s sn li := rfl
theorem SY_0 (text : Array Nat) (s e : Nat) (first f2 : Bool) (frames : List Sre.Frame) (w pc pos : Nat) (sn : Seen) (li : Int) : (SY text s e first (fr0 s f2 :: frames) (w + 1) pc pos sn li).step = SY text s e f2 frames w 5 s sn li := rfl
theorem SY_e (text : Array Nat) (s e : Nat) (first : Bool) (w pc pos : Nat) (sn : Seen) (li : Int) : SM text s e (SY text s e first [] w pc pos sn li).step := ⟨rfl, rfl, rfl, rfl, rfl, rfl⟩
theorem runFor_succ {m : M} {n : Nat} (h : m.outcome = none) : m.runFor (n + 1) = m.step.runFor n := by
  show (if m.outcome.isSome then m else m.step.runFor n) = _
  rw [h]; rfl
theorem fig_rest (text : Array Nat) (s n : Nat) (first : Bool) (b : Option Nat) (sn : Seen) : SM text s (s + n) ((S3 text s n first b sn).runFor 7) := by
  rw [runFor_succ rfl, show (S3 text s n first b sn).step = SJ text s (s + n) first b [fr2 s n first, fr1 s first 8, fr0 s first] 3 (s + n) (sn.add 15) from rfl]
  obtain ⟨li, hj⟩ := SJ_step text s (s + n) first b [fr2 s n first, fr1 s first 8, fr0 s first] 3 (s + n) (sn.add 15)
  rw [runFor_succ rfl, hj, runFor_succ rfl, SK_step, runFor_succ rfl, SY_2, runFor_succ rfl, SY_1, runFor_succ rfl, SY_0, runFor_succ rfl]
  exact SY_e ..

/-- the second branch -/
def S4 (text : Array Nat) (s : Nat) (first : Bool) (b : Option Nat) (sn : Seen) : M :=
  { code := code, text := text, lim := text.size, start := s, lastStart := text.size, pc := 23, pos := s, handed := s, outermost := first, marks := #[some s, b], lastmark := 0, frames := [fr1 s first 22, fr0 s first], weight := 2, seen := sn }
theorem to_S4 (text : Array Nat) (s : Nat) (first : Bool) (b : Option Nat) (sn : Seen) : ∃ sn', (SF text s first b sn).step = S4 text s first b sn' := ⟨sn, rfl⟩
def S5 (text : Array Nat) (s : Nat) (first : Bool) (b : Option Nat) (sn : Seen) : M :=
  { code := code, text := text, lim := text.size, start := s, lastStart := text.size, pc := 35, pos := s + 1, handed := s, outermost := first, marks := #[some s, b], lastmark := 0, frames := [fr1 s first 22, fr0 s first], weight := 2, seen := sn }
def SG (text : Array Nat) (s : Nat) (first : Bool) (b : Option Nat) (sn : Seen) : M :=
  { code := code, text := text, lim := text.size, start := s, lastStart := text.size, pc := 23, pos := s, handed := s, outermost := first, marks := #[some s, b], lastmark := 0, frames := [fr1 s first 22, fr0 s first], weight := 2, seen := sn, answer := some false }
theorem in_cut {text : Array Nat} {s : Nat} {first : Bool} {b : Option Nat} {sn : Seen} (hs : s < text.size) (hf : isCut (text.getD s 0) = true) :
    ∃ sn', (S4 text s first b sn).step = S5 text s first b sn' := by
  obtain ⟨s1, hr⟩ := acc23 (text.getD s 0) (sn.add 13)
  refine ⟨s1, ?_⟩
  show (if s ≥ text.size then _ else _) = _
  rw [if_neg (by omega)]
  show (match accepts code 23 (text.getD s 0) (sn.add 13) with | .error why => _ | .ok (false, seen) => _ | .ok (true, seen) => _) = _
  rw [hr, hf]
  rfl
theorem in_no {text : Array Nat} {s : Nat} {first : Bool} {b : Option Nat} {sn : Seen} (hf : s < text.size → isCut (text.getD s 0) = false) :
    ∃ sn', (S4 text s first b sn).step = SG text s first b sn' := by
  by_cases h1 : s ≥ text.size
  · refine ⟨sn.add 13, ?_⟩
    show (if s ≥ text.size then _ else _) = _
    rw [if_pos h1]
    rfl
  · obtain ⟨s1, hr⟩ := acc23 (text.getD s 0) (sn.add 13)
    refine ⟨s1, ?_⟩
    show (if s ≥ text.size then _ else _) = _
    rw [if_neg h1]
    show (match accepts code 23 (text.getD s 0) (sn.add 13) with | .error why => _ | .ok (false, seen) => _ | .ok (true, seen) => _) = _
    rw [hr, hf (by omega)]
    rfl
theorem cut_rest (text : Array Nat) (s : Nat) (first : Bool) (b : Option Nat) (sn : Seen) : SM text s (s + 1) ((S5 text s first b sn).runFor 6) := by
  rw [runFor_succ rfl, show (S5 text s first b sn).step = SJ text s (s + 1) first b [fr1 s first 22, fr0 s first] 2 s (sn.add 15) from rfl]
  obtain ⟨li, hj⟩ := SJ_step text s (s + 1) first b [fr1 s first 22, fr0 s first] 2 s (sn.add 15)
  rw [runFor_succ rfl, hj, runFor_succ rfl, SK_step, runFor_succ rfl, SY_1, runFor_succ rfl, SY_0, runFor_succ rfl]
  exact SY_e ..
theorem no_rest {text : Array Nat} {s : Nat} {first : Bool} {b : Option Nat} {sn : Seen} (hs : s < text.size) : ∃ sn', (SG text s first b sn).step.step = S0 text (s + 1) false (some s) b sn' := by
  refine ⟨sn, ?_⟩
  show (if s < text.size then _ else _) = _
  rw [if_pos hs]
  rfl
theorem no_end {text : Array Nat} {s : Nat} {first : Bool} {b : Option Nat} {sn : Seen} (hs : text.size ≤ s) : ((SG text s first b sn).runFor 3).outcome = some .failed := by
  show ((M.runFor 1 (if s < text.size then _ else _)).outcome) = _
  rw [if_neg (by omega)]
  rfl
end Mine.Re

end

/- part R3 -/
section
set_option maxRecDepth 100000
namespace Mine.Re
open PySem PySem.Sre PySem.Builtin PySem.Builtin.Re

theorem runFor_some {m : M} (h : m.outcome.isSome = true) : ∀ n, m.runFor n = m
  | 0 => rfl
  | n + 1 => by
    show (if m.outcome.isSome then m else m.step.runFor n) = m
    rw [if_pos h]
theorem runFor_add (m : M) : ∀ (a b : Nat), m.runFor (a + b) = (m.runFor a).runFor b := by
  intro a
  induction a generalizing m with
  | zero => intro b; rw [Nat.zero_add]; rfl
  | succ a ih =>
    intro b
    cases h : m.outcome with
    | some o =>
      have h' : m.outcome.isSome = true := by rw [h]; rfl
      rw [runFor_some h', runFor_some h', runFor_some h']
    | none =>
      rw [Nat.add_right_comm, runFor_succ h, runFor_succ h, ih]

/-- the first separator from s on: where it begins and ends -/
def find (text : Array Nat) : (fuel s : Nat) → Option (Nat × Nat)
  | 0, _ => none
  | k + 1, s => if isFig (text.getD s 0) then some (s, s + figs text (text.size - s) s) else if isCut (text.getD s 0) then some (s, s + 1) else find text k (s + 1)

def Ends (text : Array Nat) (r : Option (Nat × Nat)) (m : M) : Prop := match r with
  | some (p, e) => SM text p e m
  | none => m.outcome = some .failed

theorem search {text : Array Nat} (hb : text.size ≤ 4294967295) : ∀ (k s : Nat) (first : Bool) (a b : Option Nat) (sn : Seen), s + k = text.size →
    ∃ n, n ≤ 20 * (k + 1) ∧ Ends text (find text k s) ((S0 text s first a b sn).runFor n) := by
  intro k
  induction k with
  | zero =>
    intro s first a b sn hs
    obtain ⟨s1, h1⟩ := to_S2 text s first a b sn
    obtain ⟨s2, h2⟩ := rep_no (text := text) (s := s) (first := first) (b := b) (sn := s1) (fun h => by omega)
    obtain ⟨s3, h3⟩ := to_S4 text s first b s2
    obtain ⟨s4, h4⟩ := in_no (text := text) (s := s) (first := first) (b := b) (sn := s3) (fun h => by omega)
    refine ⟨8, by omega, ?_⟩
    show ((S0 text s first a b sn).runFor 8).outcome = _
    rw [runFor_succ rfl, runFor_succ rfl, h1, runFor_succ rfl, h2, runFor_succ rfl, h3, runFor_succ rfl, h4]
    exact no_end (by omega)
  | succ k ih =>
    intro s first a b sn hs
    obtain ⟨s1, h1⟩ := to_S2 text s first a b sn
    by_cases hf : isFig (text.getD s 0) = true
    · obtain ⟨s2, h2⟩ := rep_fig (text := text) (s := s) (first := first) (b := b) (sn := s1) (by omega) hb hf
      refine ⟨10, by omega, ?_⟩
      unfold find
      rw [if_pos hf, runFor_succ rfl, runFor_succ rfl, h1, runFor_succ rfl, h2]
      exact fig_rest ..
    · have hf' : isFig (text.getD s 0) = false := by simpa using hf
      obtain ⟨s2, h2⟩ := rep_no (text := text) (s := s) (first := first) (b := b) (sn := s1) (fun _ => hf')
      obtain ⟨s3, h3⟩ := to_S4 text s first b s2
      by_cases hc : isCut (text.getD s 0) = true
      · obtain ⟨s4, h4⟩ := in_cut (text := text) (s := s) (first := first) (b := b) (sn := s3) (by omega) hc
        refine ⟨11, by omega, ?_⟩
        unfold find
        rw [if_neg hf, if_pos hc, runFor_succ rfl, runFor_succ rfl, h1, runFor_succ rfl, h2, runFor_succ rfl, h3, runFor_succ rfl, h4]
        exact cut_rest ..
      · have hc' : isCut (text.getD s 0) = false := by simpa using hc
        obtain ⟨s4, h4⟩ := in_no (text := text) (s := s) (first := first) (b := b) (sn := s3) (fun _ => hc')
        obtain ⟨s5, h5⟩ := no_rest (text := text) (s := s) (first := first) (b := b) (sn := s4) (by omega)
        obtain ⟨n, hn, he⟩ := ih (s + 1) false (some s) b s5 (by omega)
        refine ⟨7 + n, by omega, ?_⟩
        unfold find
        rw [if_neg hf, if_neg hc, runFor_add, runFor_succ rfl, runFor_succ rfl, h1, runFor_succ rfl, h2, runFor_succ rfl, h3, runFor_succ rfl, h4, runFor_succ rfl, runFor_succ rfl, h5]
        exact he

theorem find_le {text : Array Nat} : ∀ (k s : Nat) {p e : Nat}, s + k = text.size → find text k s = some (p, e) → s ≤ p ∧ p < e ∧ e ≤ text.size := by
  intro k
  induction k with
  | zero => intro s p e _ h; cases h
  | succ k ih =>
    intro s p e hs h
    unfold find at h
    split at h
    · rename_i hf
      cases h
      have h1 := figs_pos (n := text.size - s) (by omega) hf
      have h2 := figs_le text (text.size - s) s
      omega
    · split at h
      · cases h; omega
      · have := ih (s + 1) (by omega) h; omega

section
variable {M₀ : Model} {A : Around} {E : Value → Shared → Prop} {s : Shared}

theorem wp_drive {Q : M → Shared → Prop} : ∀ (turns n : Nat) (m : M), (m.runFor n).outcome.isSome = true → n ≤ 4 * turns → 0 < turns → Q (m.runFor n) s → wpAny M₀ A (reDrive turns m) Q E s := by
  intro turns
  induction turns with
  | zero => intro n m _ _ h; omega
  | succ t ih =>
    intro n m ho hn _ hq
    show wpAny M₀ A (if (m.runFor 4).outcome.isSome = true then pure (m.runFor 4) else do rule "sre.turn"; reDrive t (m.runFor 4)) Q E s
    by_cases h4 : (m.runFor 4).outcome.isSome = true
    · rw [if_pos h4]
      refine wpAny_pure ?_
      have e : m.runFor 4 = m.runFor n := by
        by_cases hle : n ≤ 4
        · have : m.runFor 4 = (m.runFor n).runFor (4 - n) := by rw [← runFor_add]; congr 1; omega
          rw [this, runFor_some ho]
        · have : m.runFor n = (m.runFor 4).runFor (n - 4) := by rw [← runFor_add]; congr 1; omega
          rw [this, runFor_some h4]
      rw [e]; exact hq
    · rw [if_neg h4]
      have hgt : 4 < n := by
        refine Nat.lt_of_not_le fun hle => h4 ?_
        have : m.runFor 4 = (m.runFor n).runFor (4 - n) := by rw [← runFor_add]; congr 1; omega
        rw [this, runFor_some ho]; exact ho
      have e : m.runFor n = (m.runFor 4).runFor (n - 4) := by rw [← runFor_add]; congr 1; omega
      refine wpAny_bind (wpAny_rule (ih (n - 4) (m.runFor 4) (by rw [← e]; exact ho) (by omega) (by omega) (by rw [← e]; exact hq)))

theorem wp_rules {β : Type} {l : List β} {c : β → Bool} {f : β → String} {Q : PUnit → Shared → Prop} (h : Q PUnit.unit s) :
    wpAny M₀ A (forIn l PUnit.unit fun i __s => if c i = true then do rule (f i); pure (ForInStep.yield PUnit.unit) else pure (ForInStep.yield PUnit.unit)) Q E s := by
  induction l with
  | nil => exact wpAny_pure h
  | cons x l ih =>
    rw [List.forIn_cons]
    refine wpAny_bind ?_
    cases hc : c x with
    | true =>
      rw [if_pos rfl]
      exact wpAny_bind (wpAny_rule (wpAny_pure ih))
    | false =>
      rw [if_neg (by decide)]
      exact wpAny_pure ih

theorem wp_next {text : Array Nat} {t : ReTarget} {start : Nat} {Q : Option M → Shared → Prop} (hc : t.code = code) (ht : t.text = text) (hg : t.groups = 1) (hl : t.lim = text.size)
    (hb : text.size ≤ 16777216) (hs : start ≤ text.size)
    (h0 : find text (text.size - start) start = none → Q none s)
    (h1 : ∀ p e m, find text (text.size - start) start = some (p, e) → SM text p e m → Q (some m) s) :
    wpAny M₀ A (reNextFound t start false) Q E s := by
  unfold reNextFound reRunToEnd
  rw [hc, ht, hg, hl]
  have key : ∃ n, n ≤ 20 * (16777216 + 1) ∧ 0 ≤ n ∧ Ends text (find text (text.size - start) start) ((forSearch code text 1 start text.size false).runFor n) := by
    by_cases hlt : start < text.size
    · obtain ⟨n, hn, he⟩ := search (text := text) (by omega) (text.size - start) start true none none (({} : Seen).add 14) (by omega)
      refine ⟨n, by omega, by omega, ?_⟩
      have e : forSearch code text 1 start text.size false = S0 text start true none none (({} : Seen).add 14) := by
        unfold forSearch
        show (if (decide (start > text.size) || decide (text.size - start < 1)) = true then _ else _) = _
        rw [if_neg (by simp; omega)]
        rfl
      rw [e]; exact he
    · have hz : text.size - start = 0 := by omega
      rw [hz]
      refine ⟨1, by omega, by omega, ?_⟩
      show ((forSearch code text 1 start text.size false).runFor 1).outcome = some .failed
      have e : ∃ m, forSearch code text 1 start text.size false = M.say m false ∧ m.frames = [] ∧ m.outcome = none := by
        unfold forSearch
        refine ⟨_, (if_pos (show (decide (start > text.size) || decide (text.size - start < 1)) = true from by simp; omega)), rfl, rfl⟩
      obtain ⟨m, e, e1, e2⟩ := e
      rw [e, runFor_succ (show (M.say m false).outcome = none from e2)]
      show ((if (M.say m false).outcome.isSome then M.say m false else match (M.say m false).answer, (M.say m false).frames with
        | some yes, [] => { (M.say m false) with outcome := some (if yes then .matched else .failed) } | some yes, f :: rest => _ | none, _ => _) : M).outcome = _
      rw [show (M.say m false).outcome = none from e2, show (M.say m false).frames = [] from e1]
      rfl
  obtain ⟨n, hn, _, he⟩ := key
  generalize hm : (forSearch code text 1 start text.size false).runFor n = m at he
  have ho : m.outcome = some .matched ∨ m.outcome = some .failed := by
    unfold Ends at he
    split at he
    · exact .inl he.1
    · exact .inr he
  refine wpAny_bind (wp_drive (2 ^ 64) n _ (by rw [hm]; rcases ho with h | h <;> rw [h] <;> rfl) (by omega) (by omega) ?_)
  rw [hm]
  refine wpAny_bind (wp_rules ?_)
  unfold Ends at he
  cases hf : find text (text.size - start) start with
  | none =>
    rw [hf] at he
    dsimp only at he
    rw [he]
    exact wpAny_pure (h0 hf)
  | some pe =>
    obtain ⟨p, e⟩ := pe
    rw [hf] at he
    dsimp only at he
    rw [he.1]
    exact wpAny_pure (h1 p e m hf he)
end
end Mine.Re

end

/- part R4 -/
section
set_option maxRecDepth 100000
namespace Mine.Re
open PySem PySem.Builtin PySem.Builtin.Re
open PyProof.Rows (StrsAre)

def piece (text : Array Nat) (b e : Nat) : Str := ⟨text.extract b e⟩
/-- the pieces ahead of the last one, and where the last one begins -/
def cuts (text : Array Nat) : (fuel s : Nat) → List Str × Nat
  | 0, s => ([], s)
  | k + 1, s => match find text (text.size - s) s with
    | none => ([], s)
    | some (p, e) => (piece text s p :: piece text p e :: (cuts text k e).1, (cuts text k e).2)

abbrev St := Array Value × Nat × Nat × Bool × Int × Bool
def body (t : ReTarget) (most : Int) (_x : Nat) (st : St) : Sem (ForInStep St) :=
  if (!st.2.2.2.2.2) = true then do
    let r ← (if (most != 0 && decide (st.2.2.2.2.1 ≥ most)) = true then pure none else reNextFound t st.2.1 st.2.2.2.1)
    match r with
    | none => pure (ForInStep.yield (st.1, st.2.1, st.2.2.1, st.2.2.2.1, st.2.2.2.2.1, true))
    | some m => do
      let a ← reSlice t.text t.kind st.2.2.1 m.start
      let o ← forIn (List.range t.groups) (st.1.push a) fun g o => do
        let b ← reMachineGroup t m (g + 1) (pure Value.none)
        pure (ForInStep.yield (o.push b))
      pure (ForInStep.yield (o, m.handed, m.handed, m.handed == m.start, st.2.2.2.2.1 + 1, st.2.2.2.2.2))
  else pure (ForInStep.yield (st.1, st.2.1, st.2.2.1, st.2.2.2.1, st.2.2.2.2.1, st.2.2.2.2.2))

section
variable {M₀ : Model} {A : Around} {E : Value → Shared → Prop} {s : Shared}

theorem loop_over {t : ReTarget} {l : List Nat} {out : Array Value} {a b : Nat} {c : Bool} {n : Int} {Q : St → Shared → Prop} (h : Q (out, a, b, c, n, true) s) :
    wpAny M₀ A (forIn l ((out, a, b, c, n, true) : St) (body t 0)) Q E s := by
  induction l with
  | nil => exact wpAny_pure h
  | cons x l ih =>
    rw [List.forIn_cons]
    exact wpAny_bind (wpAny_pure ih)

theorem piece_len (text : Array Nat) (b e : Nat) : (piece text b e).length ≤ text.size := by
  show (text.extract b e).size ≤ text.size
  rw [Array.size_extract]; omega

theorem loop_wp {text : Array Nat} {t : ReTarget} (hc : t.code = code) (ht : t.text = text) (hg : t.groups = 1) (hl : t.lim = text.size) (hk : t.kind = 0) (hb : text.size ≤ 16777216) :
    ∀ (l : List Nat) (s : Shared) (start : Nat) (out : Array Value) (n : Int) (Q : St → Shared → Prop), text.size - start < l.length → start ≤ text.size →
    (∀ vals tk n', StrsAre vals (cuts text l.length start).1 → (cuts text l.length start).2 ≤ text.size → Q (out ++ vals.toArray, (cuts text l.length start).2, (cuts text l.length start).2, false, n', true) { s with toks := tk }) →
    wpAny M₀ A (forIn l ((out, start, start, false, n, false) : St) (body t 0)) Q E s := by
  intro l
  induction l with
  | nil => intro s start out n Q h; simp at h
  | cons x l ih =>
    intro s start out n Q hlen hs hQ
    rw [List.forIn_cons]
    refine wpAny_bind ?_
    show wpAny M₀ A (do
      let r ← reNextFound t start false
      match r with
      | none => pure (ForInStep.yield ((out, start, start, false, n, true) : St))
      | some m => do
        let a ← reSlice t.text t.kind start m.start
        let o ← forIn (List.range t.groups) (out.push a) fun g o => do
          let b ← reMachineGroup t m (g + 1) (pure Value.none)
          pure (ForInStep.yield (o.push b))
        pure (ForInStep.yield ((o, m.handed, m.handed, m.handed == m.start, n + 1, false) : St))) _ E s
    refine wpAny_bind (wp_next hc ht hg hl hb hs (fun h0 => ?_) fun p e m hf hm => ?_)
    · refine wpAny_pure ?_
      have e1 : cuts text (l.length + 1) start = ([], start) := by unfold cuts; rw [h0]
      rw [List.length_cons, e1] at hQ
      have := hQ [] s.toks n .nil hs
      rw [show out ++ ([] : List Value).toArray = out by simp] at this
      exact loop_over this
    · obtain ⟨_, hst, hhd, hlm, hmk, _⟩ := hm
      have hle := find_le (text.size - start) start (by omega) hf
      have e1 : cuts text (l.length + 1) start = (piece text start p :: piece text p e :: (cuts text l.length e).1, (cuts text l.length e).2) := by
        rw [cuts, hf]
      rw [List.length_cons] at hQ hlen
      rw [e1] at hQ
      dsimp only
      rw [hg, hk, ht, hst, hhd]
      refine wpAny_bind ?_
      show wpAny M₀ A (mkStr (piece text start p)) _ E s
      refine wpAny_mkStr ?_ (Nat.le_trans (piece_len ..) (by show text.size ≤ 2 ^ 24; omega))
      show wpAny M₀ A (do
        let o ← forIn [0] (out.push (Value.str (piece text start p) s.toks)) fun g o => do
          let b ← reMachineGroup t m (g + 1) (pure Value.none)
          pure (ForInStep.yield (o.push b))
        pure (ForInStep.yield ((o, e, e, e == p, n + 1, false) : St))) _ E _
      rw [List.forIn_cons]
      refine wpAny_bind (wpAny_bind (wpAny_bind ?_))
      unfold reMachineGroup
      rw [if_neg (by rw [hlm]; decide), hmk]
      show wpAny M₀ A (if e < p then reWrongSpan else reSlice t.text t.kind p e) _ E _
      rw [if_neg (by omega), hk, ht]
      show wpAny M₀ A (mkStr (piece text p e)) _ E _
      refine wpAny_mkStr ?_ (Nat.le_trans (piece_len ..) (by show text.size ≤ 2 ^ 24; omega))
      refine wpAny_pure (wpAny_pure (wpAny_pure ?_))
      have hne : (e == p) = false := by rw [beq_eq_false_iff_ne]; omega
      dsimp only
      rw [hne]
      refine ih _ e _ (n + 1) Q (by omega) (by omega) fun vals tk n' hv hz => ?_
      have := hQ (.str (piece text start p) s.toks :: .str (piece text p e) (s.toks + 1) :: vals) tk n' (.cons _ _ (.cons _ _ hv)) hz
      rw [show out ++ (Value.str (piece text start p) s.toks :: Value.str (piece text p e) (s.toks + 1) :: vals).toArray = ((out.push (Value.str (piece text start p) s.toks)).push (Value.str (piece text p e) (s.toks + 1))) ++ vals.toArray by simp] at this
      exact this
end

/-- all the pieces -/
def pieces (text : Array Nat) : List Str := (cuts text (2 * text.size + 3) 0).1 ++ [piece text (cuts text (2 * text.size + 3) 0).2 text.size]

def patObj (c : Addr) (x : Str) (t u : Tok) : Obj := { cls := .type "re.Pattern", data := .fields #[.str x t, .int 32 u, .int 1 0, .none, .none, .ref c, .int 0 0] }
def codeVals : Array Value := #[.int 14 0, .int 4 0, .int 0 0, .int 1 0, .int 4294967295 0, .int 17 0, .int 0 0, .int 7 0, .int 14 0, .int 24 0, .int 10 0, .int 1 0, .int 4294967295 0, .int 13 0, .int 5 0, .int 22 0, .int 48 0, .int 57 0, .int 0 0, .int 1 0, .int 15 0, .int 17 0, .int 15 0, .int 13 0, .int 11 0, .int 9 0, .int 0 0, .int 26624 0, .int 2147483648 0, .int 0 0, .int 0 0, .int 0 0, .int 0 0, .int 0 0, .int 0 0, .int 15 0, .int 2 0, .int 0 0, .int 17 0, .int 1 0, .int 1 0]
theorem codeVals_code : (codeVals.map reRawOf).map (fun x => x.toNat) = code := by decide +kernel

theorem cuts_len (text : Array Nat) : ∀ k s, s ≤ text.size → (cuts text k s).1.length ≤ 2 * (text.size - s) := by
  intro k
  induction k with
  | zero => intro s _; exact Nat.zero_le _
  | succ k ih =>
    intro s hs
    unfold cuts
    split
    · exact Nat.zero_le _
    · rename_i p e hf
      have := find_le (text.size - s) s (by omega) hf
      have := ih e (by omega)
      simp only [List.length_cons]
      omega
def codeObj : Obj := { cls := .type "tuple", data := .seq codeVals }

theorem split_wp {M₀ : Model} {A : Around} {E : Value → Shared → Prop} {s : Shared} {p c : Addr} {x : Str} {t u tk : Tok} {v : Str} {Q : PySem.Fin → Shared → Prop}
    (hp : s.heap.get? p = some (patObj c x t u)) (hc : s.heap.get? c = some codeObj) (hb : v.cps.size ≤ 100000)
    (h : ∀ vals tk', StrsAre vals (pieces v.cps) → Q (.done (.ret (.ref s.heap.objs.size))) { s with heap := s.heap.push { cls := .type "list", data := .seq vals.toArray }, toks := tk' }) :
    wpAny M₀ A (PySem.Builtin.«re.Pattern.split» ⟨[.ref p, .str v tk], []⟩) Q E s := by
  show wpAny M₀ A (do
    let t ← reWholeTarget (.ref p) (.str v tk)
    let st ← forIn (List.range (reMostMatches t)) ((#[], 0, 0, false, 0, false) : St) (body t 0)
    if (!st.2.2.2.2.2) = true then do
      let _ ← (unsupported "internal:re:more-matches-than-can-be" : Sem Unit)
      let b ← reSlice t.text t.kind st.2.2.1 t.lim
      let l ← newList (st.1.push b).toList
      ret l
    else do
      let b ← reSlice t.text t.kind st.2.2.1 t.lim
      let l ← newList (st.1.push b).toList
      ret l) Q E s
  have hw : ∀ Q' : ReTarget → Shared → Prop, Q' { pattern := .ref p, string := .str v tk, code := code, text := v.cps, kind := 0, groups := 1, pos := 0, lim := v.cps.size } s → wpAny M₀ A (reWholeTarget (.ref p) (.str v tk)) Q' E s := by
    intro Q' hq
    unfold reWholeTarget
    refine wpAny_bind (wpAny_fieldsOf hp rfl ?_)
    refine wpAny_bind (wpAny_bind (wpAny_pure (wpAny_pure ?_)))
    refine wpAny_bind (wpAny_pure ?_)
    refine wpAny_bind ?_
    unfold reRawItems
    refine wpAny_bind (wpAny_seqItems hc rfl (wpAny_pure (wpAny_pure ?_)))
    show Q' { pattern := .ref p, string := .str v tk, code := (codeVals.map reRawOf).map (fun x => x.toNat), text := v.cps, kind := 0, groups := 1, pos := 0, lim := v.cps.size } s
    rw [codeVals_code]
    exact hq
  refine wpAny_bind (hw _ ?_)
  refine wpAny_bind (loop_wp (text := v.cps) rfl rfl rfl rfl rfl (by omega) _ s 0 #[] 0 _ ?_ (by omega) fun vals tk' n' hv hz => ?_)
  · rw [List.length_range]; show v.cps.size - 0 < 2 * v.cps.size + 3; omega
  · rw [List.length_range] at hv hz ⊢
    change StrsAre vals (cuts v.cps (2 * v.cps.size + 3) 0).1 at hv
    dsimp only
    refine wpAny_bind ?_
    show wpAny M₀ A (mkStr (piece v.cps (cuts v.cps (2 * v.cps.size + 3) 0).2 v.cps.size)) _ E _
    refine wpAny_mkStr ?_ (Nat.le_trans (piece_len ..) (by show v.cps.size ≤ 2 ^ 24; omega))
    have hv' := PyProof.Rows.StrsAre.append' hv (StrsAre.cons (piece v.cps (cuts v.cps (2 * v.cps.size + 3) 0).2 v.cps.size) tk' .nil)
    have := h _ (tk' + 1) hv'
    refine wpAny_bind (wpAny_newList ?_ ?_)
    · refine wpAny_pure ?_
      simpa using this
    · have h1 := PyProof.Rows.StrsAre.length hv
      have h2 := cuts_len v.cps (2 * v.cps.size + 3) 0 (by omega)
      simp only [List.push_toArray, Array.toList_append, Array.toList_empty, List.nil_append, Array.empty_append, List.length_append, List.length_cons, List.length_nil]
      show _ ≤ 2 ^ 24
      simp
      omega
end Mine.Re

end

/- part I1 -/
section
set_option maxRecDepth 100000
namespace Mine
open PySem PySem.W PySem.Calls PySem.NumText PyProof.Rows
open PySem.Sem (wp)
open PySem.Builtin

theorem markC {M : Model} {A : Around} {E : Value → Shared → Prop} {s : Shared} {own : List String} {e : Value} {Q : Unit → Shared → Prop} (h : Q () s) : wpC M A (markTheRefusal own e) Q E s := fun Γ p hΓ hS => by
  have e1 : pythonCodeMadeTheCall own (((Γ.code, p) :: Γ.below).map (·.1)) = false := by
    have : ((((Γ.code, p) :: Γ.below).map (·.1)).any Code.isCaller) = true := by
      rw [List.any_eq_true]
      rcases hS with hc | ⟨c, hm, hc⟩
      · exact ⟨Γ.code, List.mem_map_of_mem (f := (·.1)) (List.mem_cons_self (a := (Γ.code, p))), hc⟩
      · exact ⟨c.1, List.mem_map_of_mem (f := (·.1)) (List.mem_cons_of_mem _ hm), hc⟩
    show ((!(List.any (((Γ.code, p) :: Γ.below).map (·.1)) Code.isCaller) && _) && _) = false
    rw [this]; rfl
  show wp M Γ (if pythonCodeMadeTheCall own (((Γ.code, p) :: Γ.below).map (·.1)) = true then _ else _) _ _ p s
  rw [e1]
  exact h

theorem fromTextC {prog : Program} {w : World} {A : Around} {E : Value → Shared → Prop} {s : Shared} {Q : Value → Shared → Prop} {x : Str} {t : Tok} {text : List Nat} (hh : A.handled = none) (hx : x.length ≤ 600) (hc : ∀ c ∈ x.cps.toList, c < 16 ^ 8)
    (hs : (text.takeWhile (· != 0)).length ≤ 640) (hr : (int_private% "readNumeral") 0 10 (text.takeWhile (· != 0)) = int_private% "Numeral.invalid")
    (h : ∀ h' tk e, Heap.NewExc s.heap h' e "ValueError" → E (.ref e) { s with heap := h', toks := tk }) :
    wpC (model prog w) A ((int_private% "intFromText") (.str x t) text 10) Q E s := by
  show wpC (model prog w) A (if (text.takeWhile (· != 0)).length ≤ 640 then _ else _) Q E s
  rw [if_pos hs]
  refine wpC_step (wpAny_pure ?_)
  dsimp only
  rw [hr]
  dsimp only
  have hb : (int_private% "bytesOf?") (.str x t) = pure none := by rfl
  rw [hb]
  refine wpC_step (wpAny_pure ?_)
  refine wpC_step (wpAny_rule ?_)
  refine wpC_step (wpAny_pure ?_)
  dsimp only
  have hlen : (reprText x).length ≤ sizeLine := by
    have := PySem.StrLaws.reprText_len x hc
    show _ ≤ 2 ^ 24
    omega
  refine wpC_step (wpAny_pyRepr_str ?_ hlen)
  refine wpC_step (wpAny_mkStr ?_ ?_)
  · refine wpC_step (wpAny_newExc_plain plainExc_ValueError fun h' e hx' => ?_)
    refine wpC_bind (markC ?_)
    exact wpC_of (wpAny_raiseNew_none hh (h _ _ _ hx'.newExc))
  · have e : ∀ a b : Str, (a ++ b).length = a.cps.size + b.cps.size := fun a b => Array.size_append
    rw [e]
    have h1 : (Str.ofString (toString "invalid literal for int() with base " ++ toString 10 ++ toString ": ")).cps.size ≤ 100 := by decide +kernel
    have h2 : ((reprText x).cps.extract 0 200).size ≤ 200 := by rw [Array.size_extract]; omega
    show _ ≤ 2 ^ 24
    dsimp only
    omega

theorem builtinC {prog : Program} {w : World} {A : Around} {s : Shared} {R : Result → Shared → Prop} {id : String} {args : Args} {b : Builtin} (hb : entryFor table id = some b)
    (h : wpC (model prog w) (A.under (.builtin id args)) (b args) (fun fin s' => match fin with | .done f => R (.ok f) s' | .again c' => c'.quiet = true ∧ codeC (model prog w) A c' R s') (fun e s' => R (.error e) s') s) : codeC (model prog w) A (.builtin id args) R s := by
  refine codeC_tree ?_
  show wpC _ _ (match entryFor table id with | some b => b args | none => unsupported ((withoutEnding? id "#data").getD id)) _ _ s
  rw [hb]; exact h

theorem typeCall_int_2 (a b : Value) : checkTypeCall "int" ⟨[a, b], []⟩ = pure () := by kernel_rfl
theorem newCall_int_2 (a b : Value) : checkBuiltinCall "int.__new__" ⟨[.type "int", a, b], []⟩ = pure () := by kernel_rfl
theorem typeCall_eq (a b : Value) : ∃ K : Value → Sem Fin, Builtin.«type.__call__» ⟨[.type "int", a, b], []⟩ = (holding [.builtin "int.__new__"] (call (.builtin "int.__new__") [.type "int", a, b]) >>= K) := by
  obtain ⟨c, tl, hmro⟩ := F.called_int.mro
  refine ⟨?K, ?_⟩
  rotate_left
  unfold Builtin.«type.__call__»
  dsimp only
  rw [if_neg (by rw [F.called_int.notType]; decide)]
  rw [if_neg (by rw [show _ = false from F.called_int.canCreate]; decide)]
  simp only [typeCall_int_2, hmro, F.called_int.made, pure_bind, List.isEmpty_cons, Bool.false_eq_true, if_false]
  rfl
theorem isType_int : isType (.type "int") = pure true := rfl
theorem idx10 (u : Tok) : Int.intIndex "int.__new__" (.int 10 u) = pure 10 := by rfl
theorem numText_eq (x : Str) (t : Tok) : (int_private% "numeralText?") (.str x t) = pure (some (numTextOf x)) := by rfl
theorem newInt_eq (x : Str) (t u : Tok) : Builtin.«int.__new__» ⟨[.type "int", .str x t, .int 10 u], []⟩ = ((int_private% "intFromText") (.str x t) (numTextOf x) 10 >>= fun v => ret v) := by
  unfold Builtin.«int.__new__»
  dsimp only
  simp only [F.conv_sub_int, F.madeHere_int, isType_int, pure_bind, Bool.not_true, Bool.false_eq_true, if_false]
  rfl

section
variable {prog : Program} {w : World} {A : Around} {E : Value → Shared → Prop} {s : Shared} {Q : Value → Shared → Prop} {x : Str} {t u : Tok}

theorem int_ref (hh : A.handled = none) (hx : x.length ≤ 600) (hc : ∀ c ∈ x.cps.toList, c < 16 ^ 8) (hr : (int_private% "readNumeral") 0 10 (numSeenOf x) = int_private% "Numeral.invalid")
    (h : ∀ h' tk e, Heap.NewExc s.heap h' e "ValueError" → E (.ref e) { s with heap := h', toks := tk }) :
    wpC (model prog w) A (call (.type "int") [.str x t, .int 10 u]) Q E s := by
  have hs : (numSeenOf x).length ≤ 640 := Nat.le_trans (seen_length x) (by omega)
  refine wpC_call (codeC_tree ?_)
  show wpC _ _ (callAny (.type "int") _) _ _ _
  refine wpC_pure ⟨Code.quiet_builtin _ (by decide +kernel), builtinC F.entry_type_call ?_⟩
  rw [Around.under_plain (weight_type_call_type "int" [.str x t, .int 10 u] []) (units_type_call_type "int" [.str x t, .int 10 u] [])]
  obtain ⟨K, hK⟩ := typeCall_eq (.str x t) (.int 10 u)
  rw [hK]
  refine wpC_bind (wpC_holding (wpC_call (codeC_tree ?_)))
  show wpC _ _ (do checkBuiltinCall "int.__new__" ⟨[.type "int", .str x t, .int 10 u], []⟩; again (.builtin "int.__new__" ⟨[.type "int", .str x t, .int 10 u], []⟩)) _ _ _
  refine wpC_step (wpAny_of_eq (newCall_int_2 _ _) (wpC_pure ⟨Code.quiet_builtin _ (by decide +kernel), builtinC F.entry_int_new ?_⟩))
  rw [newInt_eq]
  exact wpC_bind (fromTextC hh hx hc hs hr h)

theorem args_object_init_3 (a b c : Value) : argsOk "object.__init__" ⟨[a, b, c], []⟩ := by
  unfold argsOk; rw [signature?_of (id := "object.__init__") (n := ['_', '_', 't', 'i', 'n', 'i', '_', '_']) (o := ['t', 'c', 'e', 'j', 'b', 'o']) (by kernel_rfl) F.owner_object]; kernel_rfl

theorem gives_text2 {n : Int} (hl : x.length ≤ 640) (hn : PySem.intText? x = some n) : Gives (Builtin.«int.__new__» ⟨[.type "int", .str x t, .int 10 u], []⟩) (.int n) :=
  .of_wp fun M A E s Q h => by
    have hs : (numSeenOf x).length ≤ 640 := Nat.le_trans (seen_length x) hl
    have hr : (int_private% "readNumeral") 0 10 (numSeenOf x) = (int_private% "Numeral.value") n ∧ ((numSeenOf x).length == (numTextOf x).length) = true := by
      rcases read0 x hs with ⟨m, h1, h2, h3⟩ | ⟨h1, _⟩
      · rw [hn] at h1
        injection h1 with h1
        subst h1
        exact ⟨h3, h2⟩
      · rw [hn] at h1
        cases h1
    rw [newInt_eq]
    exact wpAny_bind (KIN.wp_text hs hr.1 hr.2 (wpAny_pure ⟨_, rfl, h⟩))

theorem int_val {n : Int} (hn : PySem.intText? x = some n) (hl : x.length ≤ 640) (h : Q (.int n s.toks) { s with toks := s.toks + 1 }) : wpAny (model prog w) A (call (.type "int") [.str x t, .int 10 u]) Q E s :=
  callType_new F.called_int F.newNe_int (typeCall_int_2 _ _) (newCall_int_2 _ _) (fun obj => args_object_init_3 obj _ _) F.entry_int_new (gives_text2 hl hn).meets (show (Made.int n).post _ s from ⟨rfl, h⟩)
end
end Mine

end

/- part I2 -/
section
set_option maxRecDepth 100000
namespace Mine
open PySem PySem.W PySem.Calls PySem.NumText PyProof.Rows
open Mine.Re (isFig isCut)

/-- a printable sign that is neither a figure nor a cut -/
def isSgn (c : Nat) : Bool := decide (32 ≤ c) && decide (c < 127) && !isFig c && !isCut c

theorem isSgn_digit : ∀ c : Nat, c < 127 → isSgn c = true → step 10 (#[], false) c = none := by decide +kernel
theorem digits_sgn {cs : List Nat} (h : ∀ c ∈ cs, isSgn c = true) : digits? 10 cs = none := by
  cases cs with
  | nil => rfl
  | cons c cs =>
    have hc := h c (.head _)
    have hl : c < 127 := by
      unfold isSgn at hc
      simp only [Bool.and_eq_true, decide_eq_true_eq] at hc
      omega
    unfold digits?
    rw [List.foldlM_cons, isSgn_digit c hl hc]
    rfl
theorem sign_mem {t : List Nat} {c : Nat} (h : c ∈ (sign t).2) : c ∈ t := by
  unfold sign at h
  split at h
  · exact List.mem_cons_of_mem _ h
  · exact List.mem_cons_of_mem _ h
  · exact h
theorem core_mem {t : List Nat} {c : Nat} (h : c ∈ core t) : c ∈ t := by
  unfold core at h
  have h1 := List.mem_reverse.mp ((List.dropWhile_sublist _).subset (List.mem_reverse.mp h))
  exact (List.dropWhile_sublist _).subset (sign_mem h1)
theorem ascii_text {x : Str} (h : ∀ c ∈ x.cps.toList, c < 127) : numTextOf x = x.cps.toList := by
  refine if_pos ?_
  rw [← Array.all_toList, List.all_eq_true]
  intro c hc
  exact decide_eq_true (by have := h c hc; omega)
theorem sgn_lt {c : Nat} (h : isSgn c = true) : c < 127 := by
  unfold isSgn at h
  simp only [Bool.and_eq_true, decide_eq_true_eq] at h
  omega
theorem sgn_invalid {x : Str} (h : ∀ c ∈ x.cps.toList, isSgn c = true) : (int_private% "readNumeral") 0 10 (numSeenOf x) = int_private% "Numeral.invalid" := by
  rw [readNumeral_ten, digits_sgn fun c hc => h c ?_]
  · rfl
  · have h1 := core_mem hc
    have h2 : c ∈ numTextOf x := (List.takeWhile_sublist _).subset h1
    rw [ascii_text fun c hc => sgn_lt (h c hc)] at h2
    exact h2
theorem fig_val {x : Str} (h : ∀ c ∈ x.cps.toList, isFig c = true) (hne : x.cps.toList ≠ []) (hl : x.length ≤ 600) : PySem.intText? x = some ((digitsVal x.cps.toList : Nat) : Int) :=
  intText_digits (fun c hc => by have := h c hc; unfold isFig at this; simp only [Bool.and_eq_true, decide_eq_true_eq] at this; exact this) hne (by omega)
end Mine

end

/- part RS -/
section
set_option maxRecDepth 100000
namespace Mine
open PySem PySem.W PySem.Calls PyProof.Rows
namespace Re
theorem plain_pat : PlainAttrs "re.Pattern" :=
  ⟨⟨"object.__getattribute__", by rw [typeLookup_type, builtinLookup_eq_fast]; kernel_rfl, by decide +kernel⟩, by rw [typeLookup_type, builtinLookup_eq_fast]; kernel_rfl⟩
theorem slot_split : Slot "re.Pattern" "split" "re.Pattern.split" :=
  .of (owner := "re.Pattern") (n := "split") (by rw [typeLookup_type, builtinLookup_eq_fast]; kernel_rfl) (by decide +kernel) (by decide +kernel) (by decide +kernel)
    (by first | exact .inl (by decide +kernel) | exact .inr (by decide +kernel)) (by rw [isSubtype_type]; kernel_rfl)
theorem type_split : typeOf (.builtin "re.Pattern.split") = pure (.type "method_descriptor") := by show builtinType _ = _; rw [builtinType_eq_fast]; kernel_rfl
theorem entry_split : entryFor table "re.Pattern.split" = some PySem.Builtin.«re.Pattern.split» := entryFor_of_tree (by kernel_rfl)
theorem args_split (a b : Value) : argsOk "re.Pattern.split" ⟨[a, b], []⟩ := by unfold argsOk; kernel_rfl
end Re
section
variable {prog : Program} {w : World} {A : Around} {E : Value → Shared → Prop} {s : Shared}
theorem split_method {p : Addr} {o : Obj} {pl : Sem Bool} {Q : Value × List Value → Shared → Prop} (ho : s.heap.get? p = some o) (hc : o.cls = .type "re.Pattern") (hd : o.dict = none) (h : Q (.builtin "re.Pattern.split", [.ref p]) s) :
    wpAny (model prog w) A (getMethod (.ref p) (Str.ofString "split") pl) Q E s :=
  getMethod_builtin (T := "re.Pattern") (name := Str.ofString "split") ⟨o, ho, hc⟩ Re.plain_pat Re.slot_split Re.type_split (fun a e => by cases e; exact ⟨o, ho, hd⟩) h
theorem split_call {p c : Addr} {x : Str} {t u tk : Tok} {v : Str} {Q : Value → Shared → Prop} (hp : s.heap.get? p = some (Re.patObj c x t u)) (hc : s.heap.get? c = some Re.codeObj) (hb : v.cps.size ≤ 100000)
    (h : ∀ vals tk', StrsAre vals (Re.pieces v.cps) → Q (.ref s.heap.objs.size) { s with heap := s.heap.push { cls := .type "list", data := .seq vals.toArray }, toks := tk' }) :
    wpAny (model prog w) A (call (.builtin "re.Pattern.split") [.ref p, .str v tk]) Q E s :=
  wpAny_call_entry Re.slot_split ⟨_, hp, rfl⟩ Re.entry_split (Re.split_wp hp hc hb fun vals tk' hv => ⟨_, rfl, h vals tk' hv⟩) (Re.args_split _ _)
end
end Mine

end

/- part L1 -/
section
open PySem PySem.W PyProof.Rows
set_option Elab.async false
set_option maxRecDepth 100000
namespace Mine
section
variable {prog : Program} {w : World} {A : Around} {E : Value → Shared → Prop} {s : Shared} {env : Env} {h₀ : Heap} {x : Str} {px : Pos} {body : List Stmt} {Q : Flow → Shared → Prop}

theorem ext_fr {h h' : Heap} {L I : Addr} {m : Str → Option Value} (F : Fr h₀ L h m) (hI : h₀.get? I = none) (hIL : I ≠ L) (hs : Heap.ExtBut I h h') : Fr h₀ L h' m :=
  ⟨F.ns.at' fun o e => hs _ o (Ne.symm hIL) e, fun b o e => hs b o (fun q => by rw [q, hI] at e; cases e) (F.keep b o e), F.above⟩
theorem ext_news {h h' : Heap} {L I : Addr} {news : List (Addr × Obj)} (N : News h₀ L h news) (hn : ∀ p ∈ news, p.1 ≠ I) (hs : Heap.ExtBut I h h') : News h₀ L h' news :=
  fun p hp => ⟨hs _ _ (hn p hp) (N p hp).1, (N p hp).2⟩

/-- a for over a list of the frame's, in the caller's logic -/
theorem loopC_list {l I : Addr} {ol : Obj} {items : Array Value} {m₀ : Str → Option Value} {news : List (Addr × Obj)} {ne : Nat} (J : Nat → (Str → Option Value) → List (Addr × Obj) → Prop)
    (hx : env.kindOf x = some .local) (hp : (env.scope.kind == .class || (env.scope.kind == .module && env.locals != env.globals)) = false)
    (hh : A.handled = none) (hc : ol.cls = .type "list") (hd : ol.data = .seq items ne) (hI : h₀.get? I = none) (hIL : I ≠ env.locals) (hit : s.heap.IsListIter I l 0) (hn : ∀ p ∈ news, p.1 ≠ I)
    (hJf : ∀ i m news, J i m news → (l, ol) ∈ news)
    (F : Fr h₀ env.locals s.heap m₀) (N : News h₀ env.locals s.heap news) (hj : J 0 m₀ news)
    (turn : ∀ i v m₁ news₁ h tk o, items[i]? = some v → J i m₁ news₁ → (∀ p ∈ news₁, p.1 ≠ I) → Fr h₀ env.locals h (fun y => if y = x then some v else m₁ y) → News h₀ env.locals h ((I, o) :: news₁) →
      wpC (model prog w) A (execs body env) (TurnEnd h₀ env.locals s I o (J (i + 1)) Q) NoE { s with heap := h, toks := tk })
    (done : ∀ m₁ news₁ h tk, J items.size m₁ news₁ → Fr h₀ env.locals h m₁ → News h₀ env.locals h news₁ → Q .next { s with heap := h, toks := tk }) :
    codeC (model prog w) A (.forLoop (.Name x px) (.ref I) body [] env) (fun r s' => match r with | .ok f => Q f s' | .error _ => False) s := by
  refine forLoopC (fun n s' => ∃ h tk m news i, s' = { s with heap := h, toks := tk } ∧ h.IsListIter I l i ∧ Fr h₀ env.locals h m ∧ News h₀ env.locals h news ∧ (∀ p ∈ news, p.1 ≠ I) ∧ J i m news ∧ i ≤ items.size ∧ n = items.size - i) ?_ (items.size)
    ⟨s.heap, s.toks, m₀, news, 0, rfl, hit, F, N, hn, hj, Nat.zero_le _, rfl⟩
  rintro n s' ⟨h, tk, m, nws, i, rfl, hit', F', N', hn', hJ, hi, rfl⟩
  have hl : h.IsList l items := ⟨ol, (N' _ (hJf _ _ _ hJ)).1, hc, ne, hd⟩
  by_cases hlt : i < items.size
  · refine wpAny_pyNext_list_item hit' hl (x := items[i]) (by simp [hlt]) fun h₁ hit₁ hs₁ => ?_
    have F₁ : Fr h₀ env.locals h₁ m := F'.change hs₁ hIL hI
    refine wpAny_assign_Name (wpAny_storeName_local hx F₁.ns (fun h₂ hn₂ hs₂ => ?_) hp)
    obtain ⟨o, ho, hoc, hod⟩ := hit₁
    have ho₂ : h₂.get? I = some o := (hs₂.2 I hIL).trans ho
    have N₂ : News h₀ env.locals h₂ ((I, o) :: nws) := fun p hp => by
      rcases List.mem_cons.mp hp with rfl | hp
      · exact ⟨ho₂, hIL, hI⟩
      · exact ⟨(hs₂.2 p.1 (N' p hp).2.1).trans ((hs₁.2 p.1 (hn' p hp)).trans (N' p hp).1), (N' p hp).2⟩
    refine wpC_mono (turn i items[i] m nws h₂ _ o (by simp [hlt]) hJ hn' (F₁.set hn₂ hs₂) N₂) (fun f s₃ hf => ?_) fun _ _ x => x
    have fin : (∃ h' tk' m₂ news₂, s₃ = { s with heap := h', toks := tk' } ∧ Fr h₀ env.locals h' m₂ ∧ News h₀ env.locals h' ((I, o) :: news₂) ∧ (∀ p ∈ news₂, p.1 ≠ I) ∧ J (i + 1) m₂ news₂) →
        ∃ k, k < items.size - i ∧ ∃ h tk m news i, s₃ = { s with heap := h, toks := tk } ∧ h.IsListIter I l i ∧ Fr h₀ env.locals h m ∧ News h₀ env.locals h news ∧ (∀ p ∈ news, p.1 ≠ I) ∧ J i m news ∧ i ≤ items.size ∧ k = items.size - i := by
      rintro ⟨h', tk', m₂, news₂, rfl, F₂, N₃, hn₃, hJ₂⟩
      exact ⟨items.size - (i + 1), by omega, h', tk', m₂, news₂, i + 1, rfl, ⟨o, (N₃ _ (.head _)).1, hoc, hod⟩, F₂, fun p hp => N₃ p (List.mem_cons_of_mem _ hp), hn₃, hJ₂, hlt, rfl⟩
    cases f with
    | ret v => exact hf
    | brk => exact hf
    | next => exact fin hf
    | cont => exact fin hf
  · have hin : i = items.size := by omega
    subst hin
    refine wpAny_pyNext_list_end hh hit' hl (by simp) fun h₁ hs₁ => ?_
    exact done m nws h₁ tk hJ (ext_fr F' hI hIL hs₁) (ext_news N' hn' hs₁)

/-- a comprehension over a list, in the caller's logic -/
theorem compC_list {elt iter : PySem.Expr} {scope : Scope} {pos : Pos} {R : Result → Shared → Prop} {l I D : Addr} {items : Array Value} {m₀ : Str → Option Value} {news : List (Addr × Obj)} (J : Nat → List Value → List (Addr × Obj) → Prop)
    (hx : env.kindOf x = some .local) (hp : (env.scope.kind == .class || (env.scope.kind == .module && env.locals != env.globals)) = false)
    (hh : A.handled = none) (hl : h₀.IsList l items) (hI : h₀.get? I = none) (hIL : I ≠ env.locals) (hID : I ≠ D) (hsz : items.size ≤ 1000) (hit : s.heap.IsListIter I l 0) (hn : ∀ p ∈ news, p.1 ≠ I ∧ p.1 ≠ D)
    (F : Fr h₀ env.locals s.heap m₀) (N : News h₀ env.locals s.heap ((D, W.listOf #[] 0) :: news)) (hj : J 0 [] news)
    (turn : ∀ i v (m₁ : Str → Option Value) ws n news₁ h tk o, items[i]? = some v → J i ws news₁ → Fr h₀ env.locals h (fun y => if y = x then some v else m₁ y) → News h₀ env.locals h ((I, o) :: (D, W.listOf ws.toArray n) :: news₁) → I < h.objs.size → D < h.objs.size →
      wpC (model prog w) A (eval elt env) (fun y s' => ∃ h' tk' m' news', s' = { s with heap := h', toks := tk' } ∧ Fr h₀ env.locals h' m' ∧ News h₀ env.locals h' ((I, o) :: (D, W.listOf ws.toArray n) :: news') ∧ (∀ p ∈ news', p.1 ≠ I ∧ p.1 ≠ D) ∧ J (i + 1) (ws ++ [y]) news') NoE { s with heap := h, toks := tk })
    (done : ∀ m₁ ws n news₁ h tk, ws.length = items.size → J items.size ws news₁ → Fr h₀ env.locals h m₁ → News h₀ env.locals h ((D, W.listOf ws.toArray n) :: news₁) → R (.ok .next) { s with heap := h, toks := tk }) :
    codeC (model prog w) A (.compLoop (.ListComp elt [⟨.Name x px, iter, [], 0⟩] scope pos) 0 (.ref I) (.ref D) env) R s := by
  refine compLoopC (fun k s' => ∃ h tk m ws n news i, s' = { s with heap := h, toks := tk } ∧ h.IsListIter I l i ∧ Fr h₀ env.locals h m ∧ News h₀ env.locals h ((D, W.listOf ws.toArray n) :: news) ∧ (∀ p ∈ news, p.1 ≠ I ∧ p.1 ≠ D) ∧ J i ws news ∧ ws.length = i ∧ i ≤ items.size ∧ k = items.size - i) ?_ (items.size)
    ⟨s.heap, s.toks, m₀, [], 0, news, 0, rfl, hit, F, N, hn, hj, rfl, Nat.zero_le _, rfl⟩
  rintro k s' ⟨h, tk, m, ws, n, nws, i, rfl, hit', F', N', hn', hJ, hw, hi, rfl⟩
  have hl' : h.IsList l items := F'.lst hl
  have hD : (D, W.listOf ws.toArray n) ∈ (D, W.listOf ws.toArray n) :: nws := .head _
  by_cases hlt : i < items.size
  · refine wpAny_pyNext_list_item hit' hl' (x := items[i]) (by simp [hlt]) fun h₁ hit₁ hs₁ => ?_
    have F₁ : Fr h₀ env.locals h₁ m := F'.change hs₁ hIL hI
    refine wpAny_assign_Name (wpAny_storeName_local hx F₁.ns (fun h₂ hn₂ hs₂ => ?_) hp)
    obtain ⟨o, ho, hoc, hod⟩ := hit₁
    have ho₂ : h₂.get? I = some o := (hs₂.2 I hIL).trans ho
    have N₂ : News h₀ env.locals h₂ ((I, o) :: (D, W.listOf ws.toArray n) :: nws) := fun p hp => by
      rcases List.mem_cons.mp hp with rfl | hp
      · exact ⟨ho₂, hIL, hI⟩
      · have hpI : p.1 ≠ I := by
          rcases List.mem_cons.mp hp with rfl | hp
          · exact Ne.symm hID
          · exact (hn' p hp).1
        exact ⟨(hs₂.2 p.1 (N' p hp).2.1).trans ((hs₁.2 p.1 hpI).trans (N' p hp).1), (N' p hp).2⟩
    refine wpC_mono (turn i items[i] m ws n nws h₂ _ o (by simp [hlt]) hJ (F₁.set hn₂ hs₂) N₂ (Heap.lt_size (N₂ _ (.head _)).1) (Heap.lt_size (N₂ _ (.tail _ (.head _))).1)) (fun y s₃ hf => ?_) fun _ _ x => x
    obtain ⟨h', tk', m', news', rfl, F₃, N₃, hn₃, hJ₃⟩ := hf
    have z := N₃ _ (.tail _ (.head _))
    refine append_at z.1 (fun h₄ hs₄ ho₄ => ?_) (by show ws.toArray.size ≤ 2 ^ 24; simp; omega)
    refine ⟨items.size - (i + 1), by omega, h₄, tk', m', ws ++ [y], n + 1, news', i + 1, rfl, ⟨o, (hs₄.2 I hID).trans (N₃ _ (.head _)).1, hoc, hod⟩, F₃.change hs₄ z.2.1 z.2.2, fun p hp => ?_, hn₃, hJ₃, by simp [hw], hlt, rfl⟩
    rcases List.mem_cons.mp hp with rfl | hp
    · exact ⟨by simpa using ho₄, z.2⟩
    · have q := N₃ p (.tail _ (.tail _ hp))
      exact ⟨(hs₄.2 p.1 (hn₃ p hp).2).trans q.1, q.2⟩
  · have hin : i = items.size := by omega
    subst hin
    refine wpAny_pyNext_list_end hh hit' hl' (by simp) fun h₁ hs₁ => ?_
    refine done m ws n nws h₁ tk hw hJ (ext_fr F' hI hIL hs₁) (ext_news N' (fun p hp => ?_) hs₁)
    rcases List.mem_cons.mp hp with rfl | hp
    · exact Ne.symm hID
    · exact (hn' p hp).1
end
end Mine

end

/- part V4 -/
section
open PySem PySem.W PyProof.Rows
set_option Elab.async false
set_option maxRecDepth 100000
namespace Mine
theorem enterC {w : World} {A : Around} {E : Value → Shared → Prop} {s : Shared} {f : Addr} {name qual : Str} {params : Arguments} {body : List Stmt} {scope : Scope} {dV kV doc pm cdv ct oc : Value} {an od : Option Addr} {osl : Array (Option Value)}
    {pos : List Value} {binds : List (Str × Value)} {Q : Value → Shared → Prop}
    (X : (MTop.hd.heap_39 w.params).In s.heap) (hlim : s.heap.NoLimit) (hroom : A.depth < recursionLimit)
    (ho : (MTop.hd.heap_39 w.params).lookup f = some ⟨oc, od, .func (fnOf name qual params body scope dV kV doc pm an cdv ct), osl⟩) (hcd : codeIn (MTop.hd.heap_39 w.params) cdv qual = true)
    (hbind : BindsTo s (fnOf name qual params body scope dV kV doc pm an cdv ct) ⟨pos, []⟩ binds) (hloc : ∀ y ∈ binds, scope.names.lookup y.1 = some .local)
    (h : ∀ h₁, Fr s.heap s.heap.objs.size h₁ (fun y => binds.reverse.lookup y) → News s.heap s.heap.objs.size h₁ [] →
      wpC (model PySem.Challenge.rw_mj0058_01.prog w) (A.deeper (envOf qual scope s.heap.objs.size f cdv)) (execs body (envOf qual scope s.heap.objs.size f cdv))
        (fun fl s' => Q (match fl with | .ret v => v | _ => .none) s') NoE { s with heap := h₁, toks := s.toks + binds.length })
    (hcell : ∀ x ∈ scope.names, x.2 ≠ .cell) (hco : scope.isCoroutine = false) (hgen : scope.isGenerator = false) (hk : scope.kind = .function) :
    wpC (model PySem.Challenge.rw_mj0058_01.prog w) A (call (.ref f) pos []) Q E s := by
  refine wpC_call (call_defC (fd := fnOf name qual params body scope dV kV doc pm an cdv ct) (body := body) (binds := binds) hroom (X _ _ ho) rfl hlim (codeRec_of X hcd) rfl hbind hcell hloc (fun h₁ hns hk₁ => ?_) hco hgen hk)
  exact h h₁ ⟨hns, hk₁, Nat.le_refl _⟩ News.nil
end Mine

end

/- part K0 -/
section
set_option maxRecDepth 100000
namespace Mine
open PySem PySem.W PySem.Calls PySem.NumText PyProof.Rows
open Mine.Re (isFig isCut)
/-- what one piece of a version gives: a number, or a text of signs -/
inductive It where
  | num (n : Nat)
  | sgn (x : Str)
  deriving DecidableEq
def stage (x : Str) : Int :=
  if x = Str.ofString "dev" then 10 else if x = Str.ofString "alpha" then 20 else if x = Str.ofString "a" then 20 else if x = Str.ofString "beta" then 30 else if x = Str.ofString "b" then 30
  else if x = Str.ofString "c" then 40 else if x = Str.ofString "RC" then 50 else if x = Str.ofString "rc" then 50 else if x = Str.ofString "pl" then 200 else if x = Str.ofString "p" then 200 else 0
def It.t : It → Int
  | .num _ => 100
  | .sgn x => stage x
inductive ItIs : Value → It → Prop
  | num (n : Nat) (t : Tok) : ItIs (.int (n : Int) t) (.num n)
  | sgn (x : Str) (t : Tok) : ItIs (.str x t) (.sgn x)
inductive ItsAre : List Value → List It → Prop
  | nil : ItsAre [] []
  | cons {v : Value} {i : It} {vs : List Value} {is : List It} (t : Tok) : ItIs v i → ItsAre vs is → ItsAre (.int i.t t :: v :: vs) (i :: is)
theorem ItsAre.append {vs ws : List Value} {is js : List It} (h : ItsAre vs is) (k : ItsAre ws js) : ItsAre (vs ++ ws) (is ++ js) := by
  induction h with
  | nil => exact k
  | cons t hv _ ih => exact .cons t hv ih
theorem ItsAre.length {vs : List Value} {is : List It} (h : ItsAre vs is) : vs.length = 2 * is.length := by
  induction h with
  | nil => rfl
  | cons t hv _ ih => simp only [List.length_cons, ih]; omega
def cmpIt (v : Str) : Option It := if Txt.contains (Str.ofString "._+-") v = true then none else if v.cps.toList.all isFig = true then some (.num (digitsVal v.cps.toList)) else some (.sgn v)
def Cls (v : Str) : Prop := v.cps.toList = [] ∨ (∃ c, isCut c = true ∧ v.cps.toList = [c]) ∨ (v.cps.toList ≠ [] ∧ ∀ c ∈ v.cps.toList, isFig c = true) ∨ (v.cps.toList ≠ [] ∧ ∀ c ∈ v.cps.toList, isSgn c = true)

section
variable {M : Model} {A : Around} {E : Value → Shared → Prop} {s : Shared} {env : Env}
theorem callWithC_type1 {pos : Pos} {T : String} {e : PySem.Expr} {rest : List PySem.Expr} {Q : Value → Shared → Prop}
    (h : wpAny M A (spliced (backTo pos (starEach (e :: rest) env))) (fun vs s₁ => wpC M A (call (.type T) vs) Q E s₁) E s)
    (he : starEach (e :: rest) env = (false, eval e env) :: starEach rest env := by rfl)
    (hplain : (backTo pos (starEach rest env)).any (·.1) = false := by rfl) :
    wpC M A (callWith pos (.type T) [] (backTo pos (starEach (e :: rest) env)) []) Q E s := by
  rw [he] at h ⊢
  exact callWithC_type (by show (false || (backTo pos (starEach rest env)).any (·.1)) = false; rw [hplain]; rfl) (Calls.evalArgs_plain h)
theorem callWithC_def1 {pos : Pos} {a : Addr} {o : Obj} {fd : FuncData} {e : PySem.Expr} {rest : List PySem.Expr} {Q : Value → Shared → Prop} (hfew : ¬ (backTo pos (starEach (e :: rest) env)).length + 2 * ([] : List (Option Str × Sem Value)).length > 30)
    (h : wpAny M A (spliced (backTo pos (starEach (e :: rest) env))) (fun vs s₁ => (s₁.heap.get? a = some o ∧ o.data = .func fd) ∧ wpC M A (call (.ref a) vs) Q E s₁) E s)
    (he : starEach (e :: rest) env = (false, eval e env) :: starEach rest env := by rfl)
    (hplain : (backTo pos (starEach rest env)).any (·.1) = false := by rfl) :
    wpC M A (callWith pos (.ref a) [] (backTo pos (starEach (e :: rest) env)) []) Q E s := by
  rw [he] at h hfew ⊢
  exact callWithC_def (by show (false || (backTo pos (starEach rest env)).any (·.1)) = false; rw [hplain]; rfl) hfew (Calls.evalArgs_plain h)
end
end Mine

end

/- part H1 -/
section
open PySem PySem.W PySem.Calls PyProof.Rows
set_option Elab.async false
set_option maxRecDepth 100000
namespace Mine
section
variable {prog : Program} {w : World} {A : Around} {E : Value → Shared → Prop} {s : Shared} {h₀ h : Heap} {env : Env} {outer : List Env} {L e : Addr} {m : Str → Option Value}
  {t : PySem.Expr} {b₀ : Stmt} {suite : List Stmt} {pos : Pos} {rest : List ExceptHandler} {Q : Flow → Shared → Prop}

/-- a built-in exception, new in this frame, taken by the frame's own clause: any stack -/
theorem caughtH (hfr : A.frames = some (env :: outer)) (hf : env.frame = some L) (hk : env.scope.kind ≠ .module) (FF : Fr h₀ L h m)
    (hx : Heap.NewExc h s.heap e "ValueError") (hL0 : h₀.get? L = none) (B : Heap) (hB0 : h₀.StaysIn B) (hBh : B.StaysIn h) (hBL : B.get? L = none) (hBf : h.FunFrames B outer)
    (hname : ∀ (Q' : Value → Shared → Prop) (E' : Value → Shared → Prop) (h₅ : Heap), Fr h₀ L h₅ m → Q' (.type "ValueError") { s with heap := h₅ } → wpAny (model prog w) (A.mark (some (.ref e))) (eval t env) Q' E' { s with heap := h₅ })
    (k : ∀ h', Fr h₀ L h' m → B.StaysIn h' → h.UpToSlots h' → wpAny (model prog w) (A.mark (some (.ref e))) (execs (b₀ :: suite) env) Q NoE { s with heap := h' }) :
    wpAny (model prog w) A (noteFrame (.ref e) env) (fun _ s₂ => wpAny (model prog w) A (setFlight (.ref e) none) (fun _ s₃ =>
      wpAny (model prog w) A (handleBy (.ref e) env (.ExceptHandler (some t) none (b₀ :: suite) pos :: rest)) Q E s₃) E s₂) E s := by
  obtain ⟨ob, tp, he, hcls, hd⟩ := hx.there
  have hen : B.get? e = none := by
    cases hq : B.get? e with
    | none => rfl
    | some o' => have := hBh e o' hq; rw [hx.new] at this; cases this
  have hl : s.heap.FunFrames B (env :: outer) := (Heap.FunFrames.cons hk hf FF.ns hBL hBf).of_keeps fun b o hb _ => ⟨o, hx.keeps b o hb, rfl⟩
  have hkb : B.StaysIn s.heap := fun b o hb => hx.keeps b o (hBh b o hb)
  have hsm : h.UpToSlots s.heap := .of_keeps hx.keeps
  unfold noteFrame
  simp only [hf]
  refine wpAny_bind (wpAny_field he hd rfl ?_)
  rw [if_neg (by simp)]
  refine wpAny_newEntryW hfr hl hf he hkb hen hd (by simp) rfl fun h₅ hleft => ?_
  obtain ⟨k1, k2, k3, k4⟩ := hleft
  have F₅ : Fr h₀ L h₅ m    := FF.of_stays (fun b o e => k1 b o (hB0 b o e)) (hsm.trans k4)
  rw [hcls] at k3
  obtain ⟨oe, vs5, T5, oT5, ts5, he5, hc5, rest5⟩ := id k3
  refine wpAny_handleBy_builtin (X := "ValueError") (T := "ValueError") (b := true) F.isExc_ValueError F.notTuple_ValueError F.self_ValueError (hname _ _ h₅ F₅ ⟨rfl, ⟨oe, he5, hc5.1⟩, ?_⟩)
  refine lands_againW (s := { s with heap := h₅ }) ⟨k1, hen, k2, k3⟩ fun h₆ hfl₆ hsm₆ => ?_
  exact wpAny_noRaise (k h₆ (FF.of_stays (fun b o e => hfl₆.1 b o (hB0 b o e)) ((hsm.trans k4).trans hsm₆)) hfl₆.1 ((hsm.trans k4).trans hsm₆))
end
end Mine

end

/- part FS -/
section
set_option maxRecDepth 100000
namespace Mine
open PySem PySem.W PyProof.Rows
def stageTab : List (PyData × PyData) := [(PyData.str { cps := #[100, 101, 118] }, PyData.int 10),
          (PyData.str { cps := #[97, 108, 112, 104, 97] }, PyData.int 20), (PyData.str { cps := #[97] }, PyData.int 20),
          (PyData.str { cps := #[98, 101, 116, 97] }, PyData.int 30), (PyData.str { cps := #[98] }, PyData.int 30),
          (PyData.str { cps := #[99] }, PyData.int 40), (PyData.str { cps := #[82, 67] }, PyData.int 50),
          (PyData.str { cps := #[114, 99] }, PyData.int 50), (PyData.str { cps := #[112, 108] }, PyData.int 200),
          (PyData.str { cps := #[112] }, PyData.int 200)]
theorem lookup_step {k y : Str} {d : PyData} {r : List (PyData × PyData)} {v : Int} (c : Str) (hc : c = k) (hd : ∃ n, d = .int n ∧ ∃ w, v = (if y = c then n else w) ∧ (Spec.lookup (.str y) r).getD (.int 0) = .int w) :
    (Spec.lookup (.str y) ((.str k, d) :: r)).getD (.int 0) = .int v := by
  subst hc
  obtain ⟨n, rfl, w, rfl, h⟩ := hd
  have e : Spec.same (.str c) (.str y) = (c == y) := by simp [Spec.same]
  unfold Spec.lookup
  rw [e]
  by_cases q : y = c
  · rw [if_pos q, q, if_pos (by simp)]; rfl
  · rw [if_neg q, if_neg (by simpa using fun z => q z.symm)]; exact h
theorem stage_lookup (y : Str) : (Spec.lookup (.str y) stageTab).getD (.int 0) = .int (stage y) := by
  unfold stage stageTab
  refine lookup_step (Str.ofString "dev") (by decide +kernel) ⟨_, rfl, _, rfl, ?_⟩
  refine lookup_step (Str.ofString "alpha") (by decide +kernel) ⟨_, rfl, _, rfl, ?_⟩
  refine lookup_step (Str.ofString "a") (by decide +kernel) ⟨_, rfl, _, rfl, ?_⟩
  refine lookup_step (Str.ofString "beta") (by decide +kernel) ⟨_, rfl, _, rfl, ?_⟩
  refine lookup_step (Str.ofString "b") (by decide +kernel) ⟨_, rfl, _, rfl, ?_⟩
  refine lookup_step (Str.ofString "c") (by decide +kernel) ⟨_, rfl, _, rfl, ?_⟩
  refine lookup_step (Str.ofString "RC") (by decide +kernel) ⟨_, rfl, _, rfl, ?_⟩
  refine lookup_step (Str.ofString "rc") (by decide +kernel) ⟨_, rfl, _, rfl, ?_⟩
  refine lookup_step (Str.ofString "pl") (by decide +kernel) ⟨_, rfl, _, rfl, ?_⟩
  refine lookup_step (Str.ofString "p") (by decide +kernel) ⟨_, rfl, _, rfl, ?_⟩
  rfl
theorem flat_stage {v : Value} {y : Str} (h : PyProof.V.Flat v ((Spec.lookup (PyData.str y) stageTab).getD (PyData.int 0))) : ∃ t, v = .int (It.sgn y).t t := by
  rw [stage_lookup] at h
  exact PyProof.V.Flat.int_inv h
end Mine

end

/- part F2 -/
section
open PySem PySem.W PyProof.Rows
set_option Elab.async false
set_option maxRecDepth 100000
set_option maxHeartbeats 8000000
namespace Mine
local macro_rules | `(tactic| walk_at "m_enter") => `(tactic| ((case k1 => k_asm); (case k2 => exact TopRead.nolimit (by k_asm)); (case k6 => k_is); (case k7 => k_is); (case k9 => exact BindsTo.of_eq rfl); (case kB => exact locs rfl); (case c5 => decide); (case c2 => exact rfl); (case c3 => exact rfl); (case c4 => exact rfl); (case k3 => omega); k_whole))
local macro_rules | `(tactic| walk_at "m_go") => `(tactic| repeat' (
  (fail_if_success (with_reducible show wpAny _ _ (exec (Stmt.For _ _ _ _ _) _) _ _ _));
  (fail_if_success (with_reducible show wpAny _ _ (pyIter _) _ _ _));
  (fail_if_success (with_reducible show TurnEnd _ _ _ _ _ _ _ _ _));
  first | walk1 | (k_unfold; (try dsimp only)) | (dsimp only; walk1)))

theorem at36 (w : World) : ∃ x t u, (MTop.hd.heap_39 w.params).lookup 36 = some (Re.patObj 35 x t u) := ⟨_, _, _, rfl⟩
theorem at35 (w : World) : (MTop.hd.heap_39 w.params).lookup 35 = some Re.codeObj := rfl
def CJ (x : Str) (l lr L₁ : Addr) (ol o₁ : Obj) (i : Nat) (m : Str → Option Value) (news : List (Addr × Obj)) : Prop :=
  ∃ ws its n sl, news = [(l, ol), (lr, W.listOf ws.toArray n), (L₁, { o₁ with slots := sl })] ∧ m (Str.ofString "result") = some (.ref lr) ∧ ItsAre ws its ∧ its = ((Re.pieces x.cps).take i).filterMap cmpIt

local macro_rules | `(tactic| walk_at "call builtin:list.extend") => `(tactic| (k_here; (with_reducible show wpAny _ _ (call (Value.builtin _) [Value.ref _, Value.ref _]) _ _ _); k_dflt (refine' kup_extend ?F ?N ?b rfl ?ne ?U ?d ?z ?y ?_; (case F => k_asm); (case N => k_asm); (case b => k_mem); (case ne => simp); (case U => k_upd); (case d => simp [Builtin.List.listTooLong, sizeLine]; omega); (case z => simp [sizeLine]; omega); (case y => simp [sizeLine]; omega)); intro h' F' N'; (try k_sweep)))
theorem pick4 {h₀ h : Heap} {L : Addr} {news : List (Addr × Obj)} {a b c d : Addr × Obj} (N : News h₀ L h news) (ha : a ∈ news) (hb : b ∈ news) (hc : c ∈ news) (hd : d ∈ news) : News h₀ L h [a, b, c, d] := fun p hp => by
  rcases List.mem_cons.mp hp with rfl | hp
  · exact N _ ha
  · exact pick3 N hb hc hd p hp
theorem str_of {y : Str} {l : List Nat} (h : y.cps.toList = l) : y = ⟨l.toArray⟩ := by
  obtain ⟨a⟩ := y
  show (⟨a⟩ : Str) = ⟨l.toArray⟩
  rw [← h]
theorem contains_nil {y : Str} (h : y.cps.toList = []) : Txt.contains (Str.ofString "._+-") y = true := by rw [str_of h]; decide +kernel
theorem contains_cut {y : Str} {c : Nat} (hc : Re.isCut c = true) (h : y.cps.toList = [c]) : Txt.contains (Str.ofString "._+-") y = true := by
  rw [str_of h]
  unfold Re.isCut at hc
  simp only [Bool.or_eq_true, beq_iff_eq] at hc
  rcases hc with ((rfl | rfl) | rfl) | rfl <;> decide +kernel
theorem enterH {w : World} {A : Around} {E : Value → Shared → Prop} {s : Shared} {f L₁ : Addr} {o₁ : Obj} {name qual : Str} {params : Arguments} {body : List Stmt} {scope : Scope} {dV kV doc pm cdv ct oc : Value} {an od : Option Addr} {osl : Array (Option Value)}
    {pos : List Value} {binds : List (Str × Value)} {Q : Value → Shared → Prop} (ho₁ : s.heap.get? L₁ = some o₁)
    (X : (MTop.hd.heap_39 w.params).In (hideAll s.heap [L₁])) (hlim : (hideAll s.heap [L₁]).NoLimit) (hroom : A.depth < recursionLimit)
    (ho : (MTop.hd.heap_39 w.params).lookup f = some ⟨oc, od, .func (fnOf name qual params body scope dV kV doc pm an cdv ct), osl⟩) (hcd : codeIn (MTop.hd.heap_39 w.params) cdv qual = true)
    (hbind : BindsTo s (fnOf name qual params body scope dV kV doc pm an cdv ct) ⟨pos, []⟩ binds) (hloc : ∀ y ∈ binds, scope.names.lookup y.1 = some .local)
    (h : ∀ h₁, Fr (hideAll s.heap [L₁]) s.heap.objs.size h₁ (fun y => binds.reverse.lookup y) → News (hideAll s.heap [L₁]) s.heap.objs.size h₁ [(L₁, o₁)] →
      wpC (model PySem.Challenge.rw_mj0058_01.prog w) (A.deeper (envOf qual scope s.heap.objs.size f cdv)) (execs body (envOf qual scope s.heap.objs.size f cdv))
        (fun fl s' => Q (match fl with | .ret v => v | _ => .none) s') NoE { s with heap := h₁, toks := s.toks + binds.length })
    (hcell : ∀ x ∈ scope.names, x.2 ≠ .cell) (hco : scope.isCoroutine = false) (hgen : scope.isGenerator = false) (hk : scope.kind = .function) :
    wpC (model PySem.Challenge.rw_mj0058_01.prog w) A (call (.ref f) pos []) Q E s := by
  have X' : (MTop.hd.heap_39 w.params).In s.heap := fun b o e => of_hideAll _ (X b o e)
  refine wpC_call (call_defC (fd := fnOf name qual params body scope dV kV doc pm an cdv ct) (body := body) (binds := binds) hroom (X' _ _ ho) rfl (hlim.keeps fun b o e => of_hideAll _ e) (codeRec_of X' hcd) rfl hbind hcell hloc (fun h₁ hns hk₁ => ?_) hco hgen hk)
  refine h h₁ ⟨hns, fun b o e => hk₁ b o (of_hideAll _ e), Nat.le_of_eq (hideAll_size _ _)⟩ fun p hp => ?_
  rw [List.mem_singleton.mp hp]
  exact ⟨hk₁ _ _ ho₁, Nat.ne_of_lt (Heap.lt_size ho₁), hideAll_none _ (.head _)⟩

theorem cmp_ok : ∀ (w : World) (mg mb : Str → Option Value) (p : Program) (loose : List Str) (s : Shared) (A : Around) (L₁ : Addr) (o₁ : Obj) (env₁ : Env) (x : Str) (t : Tok) (Q : Value → Shared → Prop) (E : Value → Shared → Prop),
   (MTop.hd.heap_39 w.params).In (hideAll s.heap [L₁]) → TopRead p loose mg mb (hideAll s.heap [L₁]) → A.handled = none → A.depth + 10 < recursionLimit → A.frames = some [env₁] → env₁.frame = some L₁ → env₁.scope.kind = .function →
   s.heap.get? L₁ = some o₁ → (∃ es n, o₁.data = .dict es n) →
   OkText 66 x → (∀ v ∈ Re.pieces x.cps, Cls v ∧ v.length ≤ 66) → (Re.pieces x.cps).length ≤ 1000 →
   (∀ h' tk l' vs n sl, (∀ b o, b ≠ L₁ → s.heap.get? b = some o → h'.get? b = some o) → h'.get? L₁ = some { o₁ with slots := sl } → h'.get? l' = some (W.listOf vs.toArray n) → s.heap.get? l' = none → ItsAre vs ((Re.pieces x.cps).filterMap cmpIt) → Q (.ref l') { s with heap := h', toks := tk }) →
   wpC (model PySem.Challenge.rw_mj0058_01.prog w) A (call (.ref 44) [.str x t] []) Q E s := by
  k_fill
  intro w mg mb p loose s A L₁ o₁ env₁ x t Q E KX T hh hd hfr hf₁ hk₁ ho₁ hd₁ hx hcls hpl hQ
  refine' enterH (L₁ := L₁) (o₁ := o₁) (binds := [(Str.ofString "version", .str x t)]) ho₁ ?k1 ?k2 ?k3 ?k6 ?k7 ?k9 ?kB ?_ ?c5 ?c2 ?c3 ?c4
  walk_at "m_enter"
  intro h₁ F N
  refine execsC_cons (wpC_of ?_)
  walk_at "m_go"
  dsimp only
  refine execsC_cons (wpC_of ?_)
  walk_at "m_go"
  dsimp only
  refine execsC_cons (ForC ?_)
  walk_at "m_go"
  rename_i _ lr _ hlL h₂ F₂ N₂
  obtain ⟨xp, tp, up, hpat⟩ := at36 w
  refine split_method (F₂.keep _ _ (KX _ _ hpat)) rfl rfl ?_
  walk_at "m_go"
  refine split_call (c := 35) (F₂.keep _ _ (KX _ _ hpat)) (F₂.keep _ _ (KX _ _ (at35 w))) (by have := hx.1; omega) fun vals tk' hv => ?_
  dsimp only
  have F₃ := F₂.push { cls := .type "list", data := .seq vals.toArray }
  have N₃ := News.push F₂ N₂ { cls := .type "list", data := .seq vals.toArray }
  have hl : lr < h₂.objs.size := Heap.lt_size (N₂ _ (.head _)).1
  have hvl : vals.length = (Re.pieces x.cps).length := StrsAre.length hv
  generalize hl3 : h₂.objs.size = l at N₃ hl
  generalize hh3 : h₂.push { cls := .type "list", data := .seq vals.toArray } = h₃ at F₃ N₃ ⊢
  refine wpAny_pyIter_list (l := l) (items := vals.toArray) (PySem.IsL.isList (n := 0) (N₃ _ (.head _)).1) ?_
  refine loopC_list (s := { s with heap := h₃.push { cls := .type "list_iterator", data := .fields #[.ref l, .int 0 0] }, toks := tk' }) (l := l) (I := h₃.objs.size) (ol := W.listOf vals.toArray 0) (items := vals.toArray) (ne := 0) (CJ x l lr L₁ (W.listOf vals.toArray 0) o₁) rfl rfl hh rfl rfl (next_is_new F₃) ?hIL ?hit ?hn ?hJf (F₃.push _) (N₃.pushKeep _) ?hj ?turn ?done
  case hIL => exact Nat.ne_of_gt F₃.ns.lt
  case hit => exact ⟨_, Heap.get?_push_size _ rfl, rfl, rfl⟩
  case hn => intro p hp; exact Nat.ne_of_lt (Heap.lt_size (N₃ p hp).1)
  case hJf =>
    rintro i m news ⟨ws, its, n, sl, rfl, _⟩
    exact .head _
  case hj => exact ⟨[], [], 0, o₁.slots, rfl, rfl, .nil, by simp⟩
  case done =>
    rintro m₁ news₁ h tk ⟨ws, its, n, sl, rfl, hm, hws, rfl⟩ F₄ N₄
    have F₅ : Fr (hideAll s.heap [L₁]) s.heap.objs.size h (fun y => if y = Str.ofString "result" then some (.ref lr) else m₁ y) := fr_known F₄ hm
    have hlr : s.heap.get? lr = none := by
      cases hq : s.heap.get? lr with
      | none => rfl
      | some o' =>
        have := hideAll_get [L₁] hq (by simp; exact Nat.ne_of_gt hlL)
        rw [(N₄ _ (.tail _ (.head _))).2.2] at this; cases this
    clear F₂ F₃ N₂ N₃ F₄
    refine wpC_of ?_
    walk_at "m_go"
    exact hQ h tk lr ws n sl (fun b o hb e => F₅.keep b o (hideAll_get _ e (by simpa using hb))) (N₄ _ (.tail _ (.tail _ (.head _)))).1 (N₄ _ (.tail _ (.head _))).1 hlr (by rw [List.take_of_length_le (by simp [hvl])] at hws; exact hws)
  case turn =>
    rintro i v m₁ news₁ h tk o hi ⟨ws, its, n, sl, rfl, hm, hws, rfl⟩ hne F₄ N₄
    obtain ⟨y, ty, rfl, hy⟩ := StrsAre.item hv i v (by simpa using hi)
    have F₅ : Fr (hideAll s.heap [L₁]) s.heap.objs.size h (fun z => if z = Str.ofString "v" then some (.str y ty) else if z = Str.ofString "result" then some (.ref lr) else m₁ z) := by
      have e : (fun z => if z = Str.ofString "v" then some (.str y ty) else if z = Str.ofString "result" then some (.ref lr) else m₁ z) = fun z => if z = Str.ofString "v" then some (.str y ty) else m₁ z := by
        funext z
        by_cases q : z = Str.ofString "v"
        · rw [if_pos q, if_pos q]
        · rw [if_neg q, if_neg q]
          by_cases q' : z = Str.ofString "result"
          · rw [if_pos q', q', hm]
          · rw [if_neg q']
      rw [e]; exact F₄
    obtain ⟨hyc, hyl⟩ := hcls y (List.mem_of_getElem? hy)
    have hIn : @LT.lt Nat _ l h₃.objs.size := Heap.lt_size (N₃ _ (.head _)).1
    have hlr2 : @LT.lt Nat _ lr l := hl
    have hlL2 : @LT.lt Nat _ L₁ lr := hlL
    have hwl : ws.length ≤ 2000 := by
      have h1 := hws.length
      have h2 : (((Re.pieces x.cps).take i).filterMap cmpIt).length ≤ ((Re.pieces x.cps).take i).length := List.length_filterMap_le _ _
      have h3 : ((Re.pieces x.cps).take i).length ≤ (Re.pieces x.cps).length := by simp; omega
      omega
    have htk : (Re.pieces x.cps).take (i + 1) = (Re.pieces x.cps).take i ++ [y] := by rw [List.take_add_one, hy]; rfl
    replace N₄ : News (hideAll s.heap [L₁]) s.heap.objs.size h [(h₃.objs.size, o), (l, W.listOf vals.toArray 0), (lr, W.listOf ws.toArray n), (L₁, { o₁ with slots := sl })] := N₄
    clear F₂ F₃ N₂ N₃ F₄
    refine execsC_cons (IfC ?_)
    walk_at "m_go"
    · rename_i hcon
      have hcon' : Txt.contains (Str.ofString "._+-") y = false := by unfold Txt.contains; rw [hcon]; rfl
      refine execsC_cons (TryC (execsC_cons (AssignC (CallC ?_))))
      walk_at "m_go"
      refine callWithC_type1 ?_
      walk_at "m_go"
      rcases hyc with h0 | ⟨c, hc, h0⟩ | ⟨h0, hf⟩ | ⟨h0, hf⟩
      · exact absurd hcon' (by rw [contains_nil h0]; decide)
      · exact absurd hcon' (by rw [contains_cut hc h0]; decide)
      · refine wpC_of (int_val (fig_val hf h0 (by omega)) (by omega) ?_)
        walk_at "m_go"
        dsimp only
        refine wpC_of ?_
        walk_at "m_go"
        dsimp only
        refine wpC_of ?_
        walk_at "m_go"
        dsimp only
        refine wpC_of ?_
        walk_at "m_go"
        dsimp only
        refine wpC_of (wpAny_execs_nil ?_)
        (with_reducible rename Fr _ _ _ _ => FF)
        (with_reducible rename News _ _ _ _ => NN)
        have hit : cmpIt y = some (.num (NumText.digitsVal y.cps.toList)) := by
          unfold cmpIt
          rw [hcon', if_neg (by decide), if_pos (List.all_eq_true.mpr hf)]
        exact turn_go FF ⟨_, _, _, _, rfl, rfl, hws.append (.cons _ (.num (NumText.digitsVal y.cps.toList) _) .nil), by rw [htk, List.filterMap_append]; simp [hit]⟩ (pick4 NN (by k_mem) (by k_mem) (by k_mem) (by k_mem)) (by k_all)
      · refine int_ref hh (by omega) (fun c hc => by have := sgn_lt (hf c hc); omega) (sgn_invalid hf) fun h' tk' e hexc => ?_
        have hit : cmpIt y = some (.sgn y) := by
          unfold cmpIt
          rw [hcon', if_neg (by decide), if_neg]
          intro hall
          cases hy0 : y.cps.toList with
          | nil => exact h0 hy0
          | cons c cs =>
            have h1 := hf c (by rw [hy0]; exact .head _)
            have h2 := List.all_eq_true.mp hall c (by rw [hy0]; exact .head _)
            unfold isSgn at h1
            rw [h2] at h1
            simp at h1
        have hL0 : (hideAll s.heap [L₁]).get? s.heap.objs.size = none := Heap.get?_none_of_le (Nat.le_of_eq (hideAll_size _ _))
        refine caughtH (L := s.heap.objs.size) (h := h) (h₀ := hideAll s.heap [L₁]) (outer := [env₁]) (Around.frames_deeper hfr) rfl (by intro q; cases q) F₅ hexc hL0 (hideAll h [s.heap.objs.size, L₁]) ?hB0 ?hBh ?hBL ?hBf ?hname ?k
        case hB0 =>
          intro b o' e'
          refine hideAll_get _ (F₅.keep b o' e') ?_
          intro hm
          rcases List.mem_cons.mp hm with q | hm
          · rw [q, hL0] at e'; cases e'
          · rw [List.mem_singleton.mp hm, hideAll_none _ (.head _)] at e'; cases e'
        case hBh => intro b o' e'; exact of_hideAll _ e'
        case hBL => exact hideAll_none _ (.head _)
        case hBf =>
          obtain ⟨es, nn, hes⟩ := hd₁
          exact ⟨by rw [hk₁]; decide, ⟨L₁, _, hf₁, hideAll_none _ (.tail _ (.head _)), (N₄ _ (.tail _ (.tail _ (.tail _ (.head _))))).1, fun vs q => by have q' : o₁.data = .fields vs := q; rw [hes] at q'; cases q'⟩, trivial⟩
        case hname =>
          intro Q' E' h₅ F₆ hq
          clear F₅ N₄
          walk_at "m_go"
          exact hq
        case k =>
          intro h₆ F₆ hB₆ hsl
          obtain ⟨sl', hsl'⟩ : ∃ sl', h₆.get? L₁ = some { o₁ with slots := sl' } := by
            obtain ⟨es, nn, hes⟩ := hd₁
            obtain ⟨sl', h7⟩ := hsl L₁ _ (N₄ _ (.tail _ (.tail _ (.tail _ (.head _))))).1 (fun vs q => by have q' : o₁.data = .fields vs := q; rw [hes] at q'; cases q')
            exact ⟨sl', h7⟩
          have N₆ : News (hideAll s.heap [L₁]) s.heap.objs.size h₆ [(h₃.objs.size, o), (l, W.listOf vals.toArray 0), (lr, W.listOf ws.toArray n), (L₁, { o₁ with slots := sl' })] := by
            have up : ∀ q ∈ [(h₃.objs.size, o), (l, W.listOf vals.toArray 0), (lr, W.listOf ws.toArray n)], q.1 ≠ L₁ → q ∈ [(h₃.objs.size, o), (l, W.listOf vals.toArray 0), (lr, W.listOf ws.toArray n), (L₁, { o₁ with slots := sl })] → h₆.get? q.1 = some q.2 ∧ q.1 ≠ s.heap.objs.size ∧ (hideAll s.heap [L₁]).get? q.1 = none := by
              intro q _ hne' hq4
              have z := N₄ q hq4
              exact ⟨hB₆ _ _ (hideAll_get _ z.1 (by simp; exact ⟨z.2.1, hne'⟩)), z.2⟩
            intro q hq
            rcases List.mem_cons.mp hq with rfl | hq
            · exact up _ (.head _) (by k_ne) (.head _)
            rcases List.mem_cons.mp hq with rfl | hq
            · exact up _ (.tail _ (.head _)) (by k_ne) (.tail _ (.head _))
            rcases List.mem_cons.mp hq with rfl | hq
            · exact up _ (.tail _ (.tail _ (.head _))) (by k_ne) (.tail _ (.tail _ (.head _)))
            rw [List.mem_singleton.mp hq]
            exact ⟨hsl', (N₄ _ (.tail _ (.tail _ (.tail _ (.head _))))).2⟩
          clear F₅ N₄ hexc
          walk_at "m_go"
          (with_reducible rename PyProof.V.Flat _ _ => hfl)
          obtain ⟨tt, hvt⟩ := flat_stage hfl
          subst hvt
          dsimp only
          refine wpC_of ?_
          walk_at "m_go"
          try dsimp only
          refine wpC_of ?_
          walk_at "m_go"
          try dsimp only
          try refine wpC_of (wpAny_execs_nil ?_)
          (with_reducible rename Fr _ _ _ _ => FF)
          (with_reducible rename News _ _ _ _ => NN)
          exact turn_go FF ⟨_, _, _, _, rfl, rfl, hws.append (.cons _ (.sgn y _) .nil), by rw [htk, List.filterMap_append]; simp [hit]⟩ (pick4 NN (by k_mem) (by k_mem) (by k_mem) (by k_mem)) (by k_all)
    · rename_i hcon
      have hcon' : Txt.contains (Str.ofString "._+-") y = true := by
        unfold Txt.contains
        simpa using hcon
      have hit : cmpIt y = none := by unfold cmpIt; rw [hcon', if_pos rfl]
      refine wpC_of ?_
      walk_at "m_go"
      dsimp only
      refine wpC_of (wpAny_execs_nil ?_)
      exact turn_go F₅ ⟨_, _, _, _, rfl, rfl, hws, by rw [htk, List.filterMap_append]; simp [hit]⟩ N₄ hne
end Mine

end

/- part L2 -/
section
open PySem PySem.W PyProof.Rows
set_option Elab.async false
set_option maxRecDepth 100000
namespace Mine
section
variable {prog : Program} {w : World} {A : Around} {E : Value → Shared → Prop} {s : Shared} {env : Env} {h₀ : Heap} {x : Str} {body : List Stmt} {Q : Flow → Shared → Prop}

/-- a for over the signs of a text -/
theorem iter_strN {y : Str} {ty : Tok} {m₀ : Str → Option Value} {news : List (Addr × Obj)} (J : Nat → (Str → Option Value) → List (Addr × Obj) → Prop)
    (hh : A.handled = none) (ha : y.cps.all (· < 128) = true)
    (F : Fr h₀ env.locals s.heap m₀) (N : News h₀ env.locals s.heap news) (hj : J 0 m₀ news)
    (turn : ∀ I i c u m₁ news₁ h tk o, (∀ p ∈ news, p.1 < I) → env.locals < I → y.cps[i]? = some c → J i m₁ news₁ → (∀ p ∈ news₁, p.1 ≠ I) → Fr h₀ env.locals h (fun z => if z = x then some (.str ⟨#[c]⟩ u) else m₁ z) → News h₀ env.locals h ((I, o) :: news₁) →
      wpAny (model prog w) A (execs body env) (TurnEnd h₀ env.locals s I o (J (i + 1)) Q) E { s with heap := h, toks := tk })
    (done : ∀ m₁ news₁ h tk, J y.cps.size m₁ news₁ → Fr h₀ env.locals h m₁ → News h₀ env.locals h news₁ → Q .next { s with heap := h, toks := tk }) :
    wpAny (model prog w) A (pyIter (.str y ty)) (fun it s₂ => LoopAtV prog w A h₀ env x body Q E it s₂) E s := by
  refine wpAny_pyIter_ascii ha ?_
  refine loop_at (s := { s with heap := _ }) J [] (Walks.strAscii hh s.heap.objs.size y ty) ?_ (next_is_new F) ?_ ?_ (fun i h st => let ⟨o, ho, _⟩ := st; ⟨o, ho⟩) ?_ (fun i m news hJ p hp => by cases hp) (F.push _) (fun p hp => ⟨Heap.get?_push_of_some _ (N p hp).1, (N p hp).2⟩) hj ?_ done
  · intro hm
    exact absurd F.ns.lt ((List.mem_singleton.mp hm) ▸ Nat.lt_irrefl _)
  · intro p hp q
    exact absurd (Heap.lt_size (N p hp).1) (q ▸ Nat.lt_irrefl _)
  · exact ⟨_, Heap.get?_push_size _ rfl, rfl, rfl⟩
  · intro b hb
    exact .inl (List.mem_singleton.mp hb)
  · rintro i v m₁ news₁ h tk o hi ⟨c, u, hc, rfl⟩ hJ hn F₁ N₁
    exact turn s.heap.objs.size i c u m₁ news₁ h tk o (fun p hp => Heap.lt_size (N p hp).1) F.ns.lt hc hJ hn F₁ N₁

/-- a for over range(n) -/
theorem iter_rangeN {r : Addr} {b₀ : Int} {t₀ u₀ v₀ : Tok} {n : Nat} {m₀ : Str → Option Value} {news : List (Addr × Obj)} (J : Nat → (Str → Option Value) → List (Addr × Obj) → Prop)
    (hh : A.handled = none) (hr : IsRange s.heap r 0 b₀ 1 t₀ u₀ v₀) (hb : b₀ = (n : Int)) (hn : n < 1000000)
    (F : Fr h₀ env.locals s.heap m₀) (N : News h₀ env.locals s.heap news) (hj : J 0 m₀ news)
    (turn : ∀ I i u m₁ news₁ h tk o, (∀ p ∈ news, p.1 < I) → env.locals < I → i < n → J i m₁ news₁ → (∀ p ∈ news₁, p.1 ≠ I) → Fr h₀ env.locals h (fun z => if z = x then some (.int (i : Int) u) else m₁ z) → News h₀ env.locals h ((I, o) :: news₁) →
      wpAny (model prog w) A (execs body env) (TurnEnd h₀ env.locals s I o (J (i + 1)) Q) E { s with heap := h, toks := tk })
    (done : ∀ m₁ news₁ h tk, J n m₁ news₁ → Fr h₀ env.locals h m₁ → News h₀ env.locals h news₁ → Q .next { s with heap := h, toks := tk }) :
    wpAny (model prog w) A (pyIter (.ref r)) (fun it s₂ => LoopAtV prog w A h₀ env x body Q E it s₂) E s := by
  subst hb
  refine wpAny_pyIter_range hr (small_one (by omega) (by omega) (by omega) (by omega)) ?_
  have hsz : Builtin.Range.rangeSize 0 (n : Int) 1 = (n : Int) := by rw [rangeSize_nat]; omega
  refine loop_at (s := { s with heap := _ }) J [] (Walks.range hh s.heap.objs.size 0 1 n) ?_ (next_is_new F) ?_ ?_ (fun i h st => ⟨_, st⟩) ?_ (fun i m news hJ p hp => by cases hp) (F.push _) (fun p hp => ⟨Heap.get?_push_of_some _ (N p hp).1, (N p hp).2⟩) hj ?_ done
  · intro hm
    exact absurd F.ns.lt ((List.mem_singleton.mp hm) ▸ Nat.lt_irrefl _)
  · intro p hp q
    exact absurd (Heap.lt_size (N p hp).1) (q ▸ Nat.lt_irrefl _)
  · show IsRangeIter _ _ _ _ _
    rw [hsz]
    simpa using Heap.get?_push_size _ rfl
  · intro b hb
    exact .inl (List.mem_singleton.mp hb)
  · rintro i v m₁ news₁ h tk o hi ⟨u, rfl⟩ hJ hn F₁ N₁
    have e : (0 : Int) + (i : Int) * 1 = (i : Int) := by omega
    rw [e] at F₁
    exact turn s.heap.objs.size i u m₁ news₁ h tk o (fun p hp => Heap.lt_size (N p hp).1) F.ns.lt hi hJ hn F₁ N₁
theorem fr_under {h : Heap} {L : Addr} {m : Str → Option Value} {a b : Str} {v : Option Value} {u : Value} (F : Fr h₀ L h (fun z => if z = a then v else m z)) (e : m b = some u) : Fr h₀ L h (fun z => if z = a then v else if z = b then some u else m z) := by
  have : (fun z => if z = a then v else if z = b then some u else m z) = fun z => if z = a then v else m z := by
    funext z
    by_cases q : z = a
    · rw [if_pos q, if_pos q]
    · rw [if_neg q, if_neg q]
      by_cases q' : z = b
      · rw [if_pos q', q', e]
      · rw [if_neg q']
  rw [this]; exact F
end
end Mine

end

/- part P1 -/
section
set_option maxRecDepth 100000
namespace Mine
open PySem PySem.NumText PyProof.Rows
open Mine.Re (isFig isCut find figs cuts piece pieces)

/-- the kind of a sign: 0 a cut, 1 a figure, 2 another sign -/
def kd (c : Nat) : Nat := if isCut c = true then 0 else if isFig c = true then 1 else 2

theorem kd_le (c : Nat) : kd c = 0 ∨ kd c = 1 ∨ kd c = 2 := by
  unfold kd
  split
  · exact .inl rfl
  · split
    · exact .inr (.inl rfl)
    · exact .inr (.inr rfl)
theorem fig_not_cut {c : Nat} (h : isFig c = true) : isCut c = false := by
  unfold isFig at h
  simp only [Bool.and_eq_true, decide_eq_true_eq] at h
  unfold isCut
  have h1 : c ≠ 46 := by omega
  have h2 : c ≠ 95 := by omega
  have h3 : c ≠ 43 := by omega
  have h4 : c ≠ 45 := by omega
  simp [h1, h2, h3, h4]
theorem kd_fig {c : Nat} : kd c = 1 ↔ isFig c = true := by
  unfold kd
  constructor
  · intro h
    split at h
    · cases h
    · split at h
      · assumption
      · cases h
  · intro h
    rw [if_neg (by rw [fig_not_cut h]; decide), if_pos h]
theorem kd_cut {c : Nat} : kd c = 0 ↔ isCut c = true := by
  unfold kd
  constructor
  · intro h
    split at h
    · assumption
    · split at h <;> cases h
  · intro h
    rw [if_pos h]
theorem kd_sgn {c : Nat} : kd c = 2 ↔ isCut c = false ∧ isFig c = false := by
  have h1 := @kd_fig c
  have h2 := @kd_cut c
  constructor
  · intro h
    constructor
    · cases q : isCut c with
      | false => rfl
      | true => rw [h2.mpr q] at h; cases h
    · cases q : isFig c with
      | false => rfl
      | true => rw [h1.mpr q] at h; cases h
  · rintro ⟨a, b⟩
    rcases kd_le c with h | h | h
    · rw [h2.mp h] at a; cases a
    · rw [h1.mp h] at b; cases b
    · exact h

abbrev Run := Nat × List Nat
/-- what is left of the scan -/
def scan : List Run → Nat → List Nat → List Run
  | R, _, [] => R
  | R, last, c :: cs =>
    if kd c ≠ 0 ∧ kd c = last then scan (R.dropLast ++ [(kd c, (R.getLastD (0, [])).2 ++ [c])]) (kd c) cs
    else if kd c ≠ 0 then scan (R ++ [(kd c, [c])]) (kd c) cs
    else scan R (kd c) cs
def itOf (r : Run) : It := if r.1 = 1 then .num (digitsVal r.2) else .sgn ⟨r.2.toArray⟩

theorem scan_more {k : Nat} (hk : k ≠ 0) (b : List Nat) : ∀ (a : List Nat) (pre : List Run) (t : List Nat), (∀ c ∈ a, kd c = k) → scan (pre ++ [(k, t)]) k (a ++ b) = scan (pre ++ [(k, t ++ a)]) k b := by
  intro a
  induction a with
  | nil => intro pre t _; simp
  | cons c a ih =>
    intro pre t h
    have hc := h c (.head _)
    rw [List.cons_append, scan, hc, if_pos ⟨hk, rfl⟩, List.dropLast_concat, List.getLastD_concat, ih _ _ fun d hd => h d (.tail _ hd)]
    simp
theorem scan_new {k last : Nat} (hk : k ≠ 0) {a : List Nat} (ha : a ≠ []) (b : List Nat) (R : List Run) (h : ∀ c ∈ a, kd c = k) (hl : last ≠ k) : scan R last (a ++ b) = scan (R ++ [(k, a)]) k b := by
  cases a with
  | nil => exact absurd rfl ha
  | cons c a =>
    have hc := h c (.head _)
    rw [List.cons_append, scan, hc, if_neg (fun q => hl q.2.symm), if_pos hk, scan_more hk b a R [c] fun d hd => h d (.tail _ hd)]
    simp
theorem scan_cut {c last : Nat} (hc : kd c = 0) (b : List Nat) (R : List Run) : scan R last (c :: b) = scan R 0 b := by
  rw [scan, hc, if_neg (fun q => q.1 rfl), if_neg (fun q => q rfl)]

/-- what find says -/
theorem find_none {text : Array Nat} : ∀ (k s : Nat), s + k = text.size → find text k s = none → ∀ j, s ≤ j → j < text.size → kd (text.getD j 0) = 2 := by
  intro k
  induction k with
  | zero => intro s hs _ j h1 h2; omega
  | succ k ih =>
    intro s hs h j h1 h2
    unfold find at h
    split at h
    · cases h
    · split at h
      · cases h
      · rename_i q1 q2
        by_cases e : j = s
        · rw [e]; exact kd_sgn.mpr ⟨by simpa using q2, by simpa using q1⟩
        · exact ih (s + 1) (by omega) h j (by omega) h2
theorem figs_all {text : Array Nat} : ∀ (n p : Nat), ∀ j, p ≤ j → j < p + figs text n p → isFig (text.getD j 0) = true := by
  intro n
  induction n with
  | zero => intro p j h1 h2; unfold figs at h2; omega
  | succ n ih =>
    intro p j h1 h2
    unfold figs at h2
    split at h2
    · rename_i q
      by_cases e : j = p
      · rw [e]; exact q
      · exact ih (p + 1) j (by omega) (by omega)
    · omega
theorem figs_stop {text : Array Nat} : ∀ (n p : Nat), p + n = text.size → p + figs text n p < text.size → isFig (text.getD (p + figs text n p) 0) = false := by
  intro n
  induction n with
  | zero => intro p h1 h2; unfold figs at h2; omega
  | succ n ih =>
    intro p h1 h2
    unfold figs at h2 ⊢
    by_cases q : isFig (text.getD p 0) = true
    · rw [if_pos q] at h2 ⊢
      have := ih (p + 1) (by omega) (by omega)
      rw [show p + (figs text n (p + 1) + 1) = p + 1 + figs text n (p + 1) by omega]
      exact this
    · rw [if_neg q]
      simpa using q
theorem find_some {text : Array Nat} : ∀ (k s : Nat) {p e : Nat}, s + k = text.size → find text k s = some (p, e) →
    (∀ j, s ≤ j → j < p → kd (text.getD j 0) = 2) ∧ (((∀ j, p ≤ j → j < e → kd (text.getD j 0) = 1) ∧ (e < text.size → kd (text.getD e 0) ≠ 1)) ∨ (e = p + 1 ∧ kd (text.getD p 0) = 0)) := by
  intro k
  induction k with
  | zero => intro s p e _ h; cases h
  | succ k ih =>
    intro s p e hs h
    unfold find at h
    split at h
    · rename_i q
      cases h
      refine ⟨fun j h1 h2 => by omega, .inl ⟨fun j h1 h2 => kd_fig.mpr (figs_all _ _ j h1 h2), fun hlt => ?_⟩⟩
      have := figs_stop (text.size - s) s (by omega) hlt
      intro z
      rw [kd_fig.mp z] at this
      cases this
    · split at h
      · rename_i q
        cases h
        exact ⟨fun j h1 h2 => by omega, .inr ⟨rfl, kd_cut.mpr q⟩⟩
      · rename_i q1 q2
        obtain ⟨h1, h2⟩ := ih (s + 1) (by omega) h
        refine ⟨fun j a b => ?_, h2⟩
        by_cases e : j = s
        · rw [e]; exact kd_sgn.mpr ⟨by simpa using q2, by simpa using q1⟩
        · exact h1 j (by omega) b

theorem occ_none {x y : Str} {lo hi n : Nat} (h : ∀ i, (decide (i + y.length ≤ hi) && PySem.Builtin.Str.subAt x y i) = false) : PySem.Builtin.Str.occurrences x y lo hi n = [] := by
  unfold PySem.Builtin.Str.occurrences
  have hb : ∀ (l : List Nat) (a : Array Nat) (b : Nat), (forIn l ((a, b) : Array Nat × Nat) (fun i r => if (decide (r.1.size < n) && decide (r.2 ≤ i) && decide (i + y.length ≤ hi) && PySem.Builtin.Str.subAt x y i) = true then (pure (ForInStep.yield (r.1.push i, i + y.length)) : Id _) else pure (ForInStep.yield (r.1, r.2)))) = pure (a, b) := by
    intro l
    induction l with
    | nil => intro a b; rfl
    | cons c l ih =>
      intro a b
      rw [List.forIn_cons]
      have hc : ¬ ((decide (a.size < n) && decide (b ≤ c) && decide (c + y.length ≤ hi) && PySem.Builtin.Str.subAt x y c) = true) := by
        rw [Bool.and_assoc, h c]; simp
      simp only [hc]
      exact ih a b
  simp only [Std.Legacy.Range.forIn_eq_forIn_range']
  rw [hb]; rfl
theorem four : (Str.ofString "._+-").cps = #[46, 95, 43, 45] := by decide +kernel
theorem four_cut : ∀ i : Fin 4, isCut ((#[46, 95, 43, 45] : Array Nat).getD i.val 0) = true := by decide +kernel
theorem contains_no {y : Str} {c : Nat} {cs : List Nat} (h : y.cps.toList = c :: cs) (hc : isCut c = false) : Txt.contains (Str.ofString "._+-") y = false := by
  unfold Txt.contains
  rw [occ_none]
  · rfl
  · intro i
    by_cases hi : i + y.length ≤ (Str.ofString "._+-").length
    · cases hq : PySem.Builtin.Str.subAt (Str.ofString "._+-") y i with
      | false => simp
      | true =>
        exfalso
        unfold PySem.Builtin.Str.subAt at hq
        rw [beq_iff_eq, four] at hq
        have hlen : y.length = cs.length + 1 := by
          show y.cps.size = _
          rw [← Array.length_toList, h]; rfl
        have h4 : (Str.ofString "._+-").length = 4 := by decide +kernel
        have hi4 : i < 4 := by omega
        have e0 : y.cps[0]? = some c := by rw [← Array.getElem?_toList, h]; rfl
        rw [← hq, Array.getElem?_extract_of_lt (by simp; omega)] at e0
        have := four_cut ⟨i, hi4⟩
        have e1 : (#[46, 95, 43, 45] : Array Nat)[i]? = some c := by
          rw [Array.getElem?_eq_getElem (by simpa using hi4)]
          simpa using e0
        rw [Array.getD_eq_getD_getElem?, show (⟨i, hi4⟩ : Fin 4).val = i from rfl, e1] at this
        simp [hc] at this
    · rw [decide_eq_false hi]; rfl
theorem p_contains_nil {y : Str} (h : y.cps.toList = []) : Txt.contains (Str.ofString "._+-") y = true := by
  obtain ⟨a⟩ := y
  obtain ⟨l⟩ := a
  cases h
  decide +kernel
theorem p_contains_cut {y : Str} {c : Nat} (hc : isCut c = true) (h : y.cps.toList = [c]) : Txt.contains (Str.ofString "._+-") y = true := by
  obtain ⟨a⟩ := y
  obtain ⟨l⟩ := a
  cases h
  unfold isCut at hc
  simp only [Bool.or_eq_true, beq_iff_eq] at hc
  rcases hc with ((rfl | rfl) | rfl) | rfl <;> decide +kernel
theorem cmpIt_nil {v : Str} (h : v.cps.toList = []) : cmpIt v = none := by unfold cmpIt; rw [p_contains_nil h, if_pos rfl]
theorem cmpIt_cut {v : Str} {c : Nat} (hc : kd c = 0) (h : v.cps.toList = [c]) : cmpIt v = none := by unfold cmpIt; rw [p_contains_cut (kd_cut.mp hc) h, if_pos rfl]
theorem cmpIt_sgn {v : Str} (h0 : v.cps.toList ≠ []) (h : ∀ c ∈ v.cps.toList, kd c = 2) : cmpIt v = some (.sgn v) := by
  cases hv : v.cps.toList with
  | nil => exact absurd hv h0
  | cons c cs =>
    have hc := kd_sgn.mp (h c (by rw [hv]; exact .head _))
    unfold cmpIt
    rw [contains_no hv hc.1, if_neg (by decide), if_neg]
    rw [hv, List.all_cons, hc.2]
    simp
theorem cmpIt_fig {v : Str} (h0 : v.cps.toList ≠ []) (h : ∀ c ∈ v.cps.toList, kd c = 1) : cmpIt v = some (.num (digitsVal v.cps.toList)) := by
  cases hv : v.cps.toList with
  | nil => exact absurd hv h0
  | cons c cs =>
    have hc := kd_fig.mp (h c (by rw [hv]; exact .head _))
    unfold cmpIt
    rw [contains_no hv (fig_not_cut hc), if_neg (by decide), if_pos]
    · rw [hv]
    · rw [List.all_eq_true]
      exact fun d hd => kd_fig.mp (h d hd)

theorem piece_list (text : Array Nat) (s p : Nat) : (piece text s p).cps.toList = (text.toList.drop s).take (p - s) := by
  unfold piece
  rw [Array.toList_extract]
theorem mem_piece {text : Array Nat} {s p c : Nat} (h : c ∈ (piece text s p).cps.toList) : ∃ j, s ≤ j ∧ j < p ∧ j < text.size ∧ c = text.getD j 0 := by
  rw [piece_list] at h
  obtain ⟨i, hi, rfl⟩ := List.mem_iff_getElem.mp h
  simp only [List.length_take, List.length_drop, Array.length_toList] at hi
  refine ⟨s + i, by omega, by omega, by omega, ?_⟩
  rw [List.getElem_take, List.getElem_drop, Array.getElem_toList, Array.getD_eq_getD_getElem?, Array.getElem?_eq_getElem (by omega)]
  rfl
theorem drop_piece {text : Array Nat} {s p : Nat} (h : s ≤ p) : text.toList.drop s = (piece text s p).cps.toList ++ text.toList.drop p := by
  rw [piece_list]
  have : text.toList.drop p = (text.toList.drop s).drop (p - s) := by rw [List.drop_drop]; congr 1; omega
  rw [this, List.take_append_drop]
theorem piece_nil {text : Array Nat} {s p : Nat} (h : s ≤ p) (hp : p ≤ text.size) (e : (piece text s p).cps.toList = []) : s = p := by
  rw [piece_list] at e
  have := congrArg List.length e
  simp only [List.length_take, List.length_drop, Array.length_toList, List.length_nil] at this
  omega
theorem piece_ne {text : Array Nat} {s p : Nat} (h : s < p) (hp : p ≤ text.size) : (piece text s p).cps.toList ≠ [] := fun e => by
  have := piece_nil (Nat.le_of_lt h) hp e
  omega
theorem piece_one {text : Array Nat} {p : Nat} (hp : p < text.size) : (piece text p (p + 1)).cps.toList = [text.getD p 0] := by
  rw [piece_list, Nat.add_sub_cancel_left]
  have hp' : p < text.toList.length := by simpa using hp
  rw [List.drop_eq_getElem_cons hp', List.take_succ_cons, List.take_zero, Array.getElem_toList, Array.getD_eq_getD_getElem?, Array.getElem?_eq_getElem hp]
  rfl
theorem itOf_sgn (v : Str) : itOf (2, v.cps.toList) = .sgn v := by
  unfold itOf
  rw [if_neg (show ¬ (2 : Nat) = 1 by decide)]
theorem itOf_fig (l : List Nat) : itOf (1, l) = .num (digitsVal l) := by
  unfold itOf
  rw [if_pos rfl]

theorem scan_pieces (text : Array Nat) : ∀ (k s : Nat) (R : List Run) (last : Nat), s ≤ text.size → text.size - s < k → last ≠ 2 → (last = 1 → s < text.size → kd (text.getD s 0) ≠ 1) →
    (scan R last (text.toList.drop s)).map itOf = R.map itOf ++ ((cuts text k s).1 ++ [piece text (cuts text k s).2 text.size]).filterMap cmpIt := by
  intro k
  induction k with
  | zero => intro s R last _ h; omega
  | succ k ih =>
    intro s R last hs hk hl2 hl1
    -- the signs ahead
    have ahead : ∀ p, s ≤ p → p ≤ text.size → (∀ j, s ≤ j → j < p → kd (text.getD j 0) = 2) → ∀ X, ∃ R' l', scan R last ((piece text s p).cps.toList ++ X) = scan R' l' X ∧ R'.map itOf = R.map itOf ++ [piece text s p].filterMap cmpIt ∧ (l' = 2 ∨ (s = p ∧ l' = last)) := by
      intro p hsp hp hall X
      by_cases e : (piece text s p).cps.toList = []
      · refine ⟨R, last, by rw [e]; rfl, ?_, .inr ⟨piece_nil hsp hp e, rfl⟩⟩
        simp [cmpIt_nil e]
      · have hm : ∀ c ∈ (piece text s p).cps.toList, kd c = 2 := fun c hc => by
          obtain ⟨j, h1, h2, _, rfl⟩ := mem_piece hc
          exact hall j h1 h2
        refine ⟨_, 2, scan_new (by decide) e X R hm hl2, ?_, .inl rfl⟩
        rw [List.map_append, List.map_cons, List.map_nil, itOf_sgn]
        simp [cmpIt_sgn e hm]
    rw [cuts]
    cases hf : find text (text.size - s) s with
    | none =>
      dsimp only
      have hn := find_none (text.size - s) s (by omega) hf
      obtain ⟨R', l', h1, h2, _⟩ := ahead text.size hs (Nat.le_refl _) (fun j a b => hn j a b) []
      rw [drop_piece hs, List.drop_of_length_le (by simp), h1]
      rw [scan, h2]
      rfl
    | some pe =>
      obtain ⟨p, e⟩ := pe
      dsimp only
      have hle := Re.find_le (text.size - s) s (by omega) hf
      obtain ⟨ha, hb⟩ := find_some (text.size - s) s (by omega) hf
      obtain ⟨R', l', h1, h2, h3⟩ := ahead p hle.1 (by omega) ha ((piece text p e).cps.toList ++ text.toList.drop e)
      rw [drop_piece hle.1, drop_piece (Nat.le_of_lt hle.2.1), h1]
      rcases hb with ⟨hfig, hstop⟩ | ⟨rfl, hcut⟩
      · have hm : ∀ c ∈ (piece text p e).cps.toList, kd c = 1 := fun c hc => by
          obtain ⟨j, q1, q2, _, rfl⟩ := mem_piece hc
          exact hfig j q1 q2
        have hne := piece_ne hle.2.1 hle.2.2
        have hl' : l' ≠ 1 := by
          rcases h3 with rfl | ⟨rfl, rfl⟩
          · decide
          · intro q
            exact hl1 q (by omega) (hfig s (Nat.le_refl _) hle.2.1)
        rw [scan_new (by decide) hne _ R' hm hl', ih e _ 1 hle.2.2 (by omega) (by decide) (fun _ => hstop), List.map_append, h2, List.map_cons, List.map_nil, itOf_fig]
        simp only [List.cons_append, List.filterMap_cons, List.filterMap_nil, cmpIt_fig hne hm]
        cases cmpIt (piece text s p) <;> simp
      · rw [piece_one (by omega), List.cons_append, List.nil_append, scan_cut hcut, ih (p + 1) R' 0 hle.2.2 (by omega) (by decide) (fun q => by cases q), h2]
        simp only [List.cons_append, List.filterMap_cons, List.filterMap_nil, cmpIt_cut hcut (piece_one (text := text) (p := p) (by omega))]
        cases cmpIt (piece text s p) <;> simp

theorem scan_all (text : Array Nat) : (scan [] 0 text.toList).map itOf = (pieces text).filterMap cmpIt := by
  have := scan_pieces text (2 * text.size + 3) 0 [] 0 (Nat.zero_le _) (by omega) (by decide) (fun q => by cases q)
  simpa [pieces] using this

theorem piece_size (text : Array Nat) (s p : Nat) : (piece text s p).length ≤ text.size := Re.piece_len text s p
theorem cls_pieces {text : Array Nat} (hok : ∀ j, j < text.size → okc (text.getD j 0) = true) : ∀ (k s : Nat), s ≤ text.size → text.size - s < k → ∀ v ∈ (cuts text k s).1 ++ [piece text (cuts text k s).2 text.size], Cls v ∧ v.length ≤ text.size := by
  have sg : ∀ s p, (∀ j, s ≤ j → j < p → kd (text.getD j 0) = 2) → Cls (piece text s p) := by
    intro s p h
    by_cases e : (piece text s p).cps.toList = []
    · exact .inl e
    · refine .inr (.inr (.inr ⟨e, fun c hc => ?_⟩))
      obtain ⟨j, h1, h2, h3, rfl⟩ := mem_piece hc
      have q := kd_sgn.mp (h j h1 h2)
      have o := hok j h3
      unfold okc at o
      unfold isSgn
      rw [o, q.1, q.2]; rfl
  intro k
  induction k with
  | zero => intro s _ h; omega
  | succ k ih =>
    intro s hs hk
    rw [cuts]
    cases hf : find text (text.size - s) s with
    | none =>
      dsimp only
      intro v hv
      rw [List.nil_append, List.mem_singleton] at hv
      rw [hv]
      have hn := find_none (text.size - s) s (by omega) hf
      exact ⟨sg _ _ (fun j a b => hn j a b), piece_size _ _ _⟩
    | some pe =>
      obtain ⟨p, e⟩ := pe
      dsimp only
      have hle := Re.find_le (text.size - s) s (by omega) hf
      obtain ⟨ha, hb⟩ := find_some (text.size - s) s (by omega) hf
      intro v hv
      rw [List.cons_append, List.cons_append] at hv
      rcases List.mem_cons.mp hv with rfl | hv
      · exact ⟨sg _ _ ha, piece_size _ _ _⟩
      rcases List.mem_cons.mp hv with rfl | hv
      · refine ⟨?_, piece_size _ _ _⟩
        rcases hb with ⟨hfig, _⟩ | ⟨rfl, hcut⟩
        · refine .inr (.inr (.inl ⟨piece_ne hle.2.1 hle.2.2, fun c hc => ?_⟩))
          obtain ⟨j, q1, q2, _, rfl⟩ := mem_piece hc
          exact kd_fig.mp (hfig j q1 q2)
        · exact .inr (.inl ⟨_, kd_cut.mp hcut, piece_one (by omega)⟩)
      · exact ih e hle.2.2 (by omega) v hv

theorem pieces_ok {x : Str} (h : OkText 66 x) : (∀ v ∈ pieces x.cps, Cls v ∧ v.length ≤ 66) ∧ (pieces x.cps).length ≤ 1000 := by
  have hok : ∀ j, j < x.cps.size → okc (x.cps.getD j 0) = true := fun j hj => by
    rw [Array.getD_eq_getD_getElem?, Array.getElem?_eq_getElem hj]
    exact Array.all_eq_true.mp h.2 j hj
  refine ⟨fun v hv => ?_, ?_⟩
  · obtain ⟨a, b⟩ := cls_pieces hok (2 * x.cps.size + 3) 0 (Nat.zero_le _) (by omega) v hv
    exact ⟨a, Nat.le_trans b h.1⟩
  · have h1 := Re.cuts_len x.cps (2 * x.cps.size + 3) 0 (Nat.zero_le _)
    have h2 := h.1
    unfold pieces
    rw [List.length_append, List.length_singleton]
    omega
end Mine

end

/- part P2 -/
section
set_option maxRecDepth 100000
namespace Mine
open PySem PySem.NumText PyProof.Rows
/-- the ladder's step of a text of signs -/
def lad (x : Str) : Nat :=
  if x = Str.ofString "dev" then 1 else if x = Str.ofString "alpha" then 2 else if x = Str.ofString "a" then 2 else if x = Str.ofString "beta" then 3 else if x = Str.ofString "b" then 3
  else if x = Str.ofString "c" then 4 else if x = Str.ofString "rc" then 5 else if x = Str.ofString "RC" then 5 else if x = Str.ofString "pl" then 7 else if x = Str.ofString "p" then 7 else 0
/-- the ten texts, or none of them -/
theorem ten (P : Str → Prop) (x : Str) (h1 : P (Str.ofString "dev")) (h2 : P (Str.ofString "alpha")) (h3 : P (Str.ofString "a")) (h4 : P (Str.ofString "beta")) (h5 : P (Str.ofString "b")) (h6 : P (Str.ofString "c"))
    (h7 : P (Str.ofString "rc")) (h8 : P (Str.ofString "RC")) (h9 : P (Str.ofString "pl")) (h10 : P (Str.ofString "p"))
    (h0 : lad x = 0 → stage x = 0 → x ≠ Str.ofString "dev" → x ≠ Str.ofString "alpha" → x ≠ Str.ofString "a" → x ≠ Str.ofString "beta" → x ≠ Str.ofString "b" → x ≠ Str.ofString "c" → x ≠ Str.ofString "rc" → x ≠ Str.ofString "RC" → x ≠ Str.ofString "pl" → x ≠ Str.ofString "p" → P x) : P x := by
  by_cases q1 : x = Str.ofString "dev"
  · rw [q1]; exact h1
  by_cases q2 : x = Str.ofString "alpha"
  · rw [q2]; exact h2
  by_cases q3 : x = Str.ofString "a"
  · rw [q3]; exact h3
  by_cases q4 : x = Str.ofString "beta"
  · rw [q4]; exact h4
  by_cases q5 : x = Str.ofString "b"
  · rw [q5]; exact h5
  by_cases q6 : x = Str.ofString "c"
  · rw [q6]; exact h6
  by_cases q7 : x = Str.ofString "rc"
  · rw [q7]; exact h7
  by_cases q8 : x = Str.ofString "RC"
  · rw [q8]; exact h8
  by_cases q9 : x = Str.ofString "pl"
  · rw [q9]; exact h9
  by_cases q10 : x = Str.ofString "p"
  · rw [q10]; exact h10
  refine h0 ?_ ?_ q1 q2 q3 q4 q5 q6 q7 q8 q9 q10
  · unfold lad
    rw [if_neg q1, if_neg q2, if_neg q3, if_neg q4, if_neg q5, if_neg q6, if_neg q7, if_neg q8, if_neg q9, if_neg q10]
  · unfold stage
    rw [if_neg q1, if_neg q2, if_neg q3, if_neg q4, if_neg q5, if_neg q6, if_neg q8, if_neg q7, if_neg q9, if_neg q10]

theorem lad_0 {x : Str} : ([Str.ofString "dev"].any fun y => y == x) = decide (lad x = 1) := by
  refine ten (fun x => ([Str.ofString "dev"].any fun y => y == x) = decide (lad x = 1)) x ?_ ?_ ?_ ?_ ?_ ?_ ?_ ?_ ?_ ?_ fun h0 _ q1 q2 q3 q4 q5 q6 q7 q8 q9 q10 => ?_
  iterate 10 · decide +kernel
  rw [h0]
  simp [Ne.symm q1]
theorem lad_1 {x : Str} : ([Str.ofString "alpha", Str.ofString "a"].any fun y => y == x) = decide (lad x = 2) := by
  refine ten (fun x => ([Str.ofString "alpha", Str.ofString "a"].any fun y => y == x) = decide (lad x = 2)) x ?_ ?_ ?_ ?_ ?_ ?_ ?_ ?_ ?_ ?_ fun h0 _ q1 q2 q3 q4 q5 q6 q7 q8 q9 q10 => ?_
  iterate 10 · decide +kernel
  rw [h0]
  simp [Ne.symm q2, Ne.symm q3]
theorem lad_2 {x : Str} : ([Str.ofString "beta", Str.ofString "b"].any fun y => y == x) = decide (lad x = 3) := by
  refine ten (fun x => ([Str.ofString "beta", Str.ofString "b"].any fun y => y == x) = decide (lad x = 3)) x ?_ ?_ ?_ ?_ ?_ ?_ ?_ ?_ ?_ ?_ fun h0 _ q1 q2 q3 q4 q5 q6 q7 q8 q9 q10 => ?_
  iterate 10 · decide +kernel
  rw [h0]
  simp [Ne.symm q4, Ne.symm q5]
theorem lad_3 {x : Str} : ([Str.ofString "c"].any fun y => y == x) = decide (lad x = 4) := by
  refine ten (fun x => ([Str.ofString "c"].any fun y => y == x) = decide (lad x = 4)) x ?_ ?_ ?_ ?_ ?_ ?_ ?_ ?_ ?_ ?_ fun h0 _ q1 q2 q3 q4 q5 q6 q7 q8 q9 q10 => ?_
  iterate 10 · decide +kernel
  rw [h0]
  simp [Ne.symm q6]
theorem lad_4 {x : Str} : ([Str.ofString "rc", Str.ofString "RC"].any fun y => y == x) = decide (lad x = 5) := by
  refine ten (fun x => ([Str.ofString "rc", Str.ofString "RC"].any fun y => y == x) = decide (lad x = 5)) x ?_ ?_ ?_ ?_ ?_ ?_ ?_ ?_ ?_ ?_ fun h0 _ q1 q2 q3 q4 q5 q6 q7 q8 q9 q10 => ?_
  iterate 10 · decide +kernel
  rw [h0]
  simp [Ne.symm q7, Ne.symm q8]
theorem lad_6 {x : Str} : ([Str.ofString "pl", Str.ofString "p"].any fun y => y == x) = decide (lad x = 7) := by
  refine ten (fun x => ([Str.ofString "pl", Str.ofString "p"].any fun y => y == x) = decide (lad x = 7)) x ?_ ?_ ?_ ?_ ?_ ?_ ?_ ?_ ?_ ?_ fun h0 _ q1 q2 q3 q4 q5 q6 q7 q8 q9 q10 => ?_
  iterate 10 · decide +kernel
  rw [h0]
  simp [Ne.symm q9, Ne.symm q10]
def rungL (i : Nat) : List Str :=
  match i with
  | 0 => [Str.ofString "dev"]
  | 1 => [Str.ofString "alpha", Str.ofString "a"]
  | 2 => [Str.ofString "beta", Str.ofString "b"]
  | 3 => [Str.ofString "c"]
  | 4 => [Str.ofString "rc", Str.ofString "RC"]
  | 5 => []
  | _ => [Str.ofString "pl", Str.ofString "p"]
theorem lad_ne6 {x : Str} : lad x ≠ 6 := by
  refine ten (fun x => lad x ≠ 6) x ?_ ?_ ?_ ?_ ?_ ?_ ?_ ?_ ?_ ?_ fun h0 _ _ _ _ _ _ _ _ _ _ _ => ?_
  iterate 10 · decide +kernel
  rw [h0]; decide
theorem lad_le {x : Str} : lad x ≤ 7 := by
  refine ten (fun x => lad x ≤ 7) x ?_ ?_ ?_ ?_ ?_ ?_ ?_ ?_ ?_ ?_ fun h0 _ _ _ _ _ _ _ _ _ _ _ => ?_
  iterate 10 · decide +kernel
  rw [h0]; decide
theorem lad_at {x : Str} {i : Nat} (h : i < 7) : ((rungL i).any fun y => y == x) = decide (lad x = i + 1) := by
  have h7 : i = 0 ∨ i = 1 ∨ i = 2 ∨ i = 3 ∨ i = 4 ∨ i = 5 ∨ i = 6 := by omega
  rcases h7 with rfl | rfl | rfl | rfl | rfl | rfl | rfl
  · exact lad_0
  · exact lad_1
  · exact lad_2
  · exact lad_3
  · exact lad_4
  · exact (decide_eq_false lad_ne6).symm
  · exact lad_6
end Mine

end

/- part F3a -/
section
open PySem PySem.W PyProof.Rows
set_option Elab.async false
set_option maxRecDepth 100000
set_option maxHeartbeats 8000000
namespace Mine
local macro_rules | `(tactic| walk_at "m_enter") => `(tactic| ((case k1 => k_asm); (case k2 => exact TopRead.nolimit (by k_asm)); (case k6 => k_is); (case k7 => k_is); (case k9 => exact BindsTo.of_eq rfl); (case kB => exact locs rfl); (case c5 => decide); (case c2 => exact rfl); (case c3 => exact rfl); (case c4 => exact rfl); (case k3 => omega); k_whole))
local macro_rules | `(tactic| walk_at "m_go") => `(tactic| repeat' (
  (fail_if_success (with_reducible show wpAny _ _ (exec (Stmt.For _ _ _ _ _) _) _ _ _));
  (fail_if_success (with_reducible show wpAny _ _ (pyIter _) _ _ _));
  (fail_if_success (with_reducible show TurnEnd _ _ _ _ _ _ _ _ _));
  first | walk1 | (k_unfold; (try dsimp only)) | (dsimp only; walk1)))
theorem idx_fig : ∀ j : Fin 10, PySem.Builtin.Str.occurrences (Str.ofString "0123456789") ⟨#[48 + j.val]⟩ 0 (Str.ofString "0123456789").length 1 = [j.val] := by decide +kernel
theorem fig_occ {c : Nat} (h : Re.isFig c = true) : PySem.Builtin.Str.occurrences (Str.ofString "0123456789") ⟨#[c]⟩ 0 (Str.ofString "0123456789").length 1 = [c - 48] := by
  unfold Re.isFig at h
  simp only [Bool.and_eq_true, decide_eq_true_eq] at h
  have := idx_fig ⟨c - 48, by omega⟩
  rw [show 48 + (c - 48) = c by omega] at this
  exact this
theorem ok_ascii {b : Nat} {x : Str} (h : OkText b x) : x.cps.all (· < 128) = true := by
  rw [Array.all_eq_true]
  intro i hi
  have := Array.all_eq_true.mp h.2 i hi
  unfold okc at this
  simp only [Bool.and_eq_true, decide_eq_true_eq] at this ⊢
  omega
theorem digitsVal_snoc (cs : List Nat) (c : Nat) : NumText.digitsVal (cs ++ [c]) = NumText.digitsVal cs * 10 + (c - 48) := by
  unfold NumText.digitsVal
  rw [List.foldl_append]; rfl
def RJ (x : Str) (i : Nat) (m : Str → Option Value) (news : List (Addr × Obj)) : Prop :=
  news = [] ∧ ∃ t, m (Str.ofString "number") = some (.int ((NumText.digitsVal (x.cps.toList.take i) : Nat) : Int) t) ∧ NumText.digitsVal (x.cps.toList.take i) < 10 ^ i
theorem rung_fig : ∀ (w : World) (mg mb : Str → Option Value) (p : Program) (loose : List Str) (s : Shared) (A : Around) (x : Str) (t u : Tok) (Q : Value → Shared → Prop) (E : Value → Shared → Prop),
   (MTop.hd.heap_39 w.params).In s.heap → TopRead p loose mg mb s.heap → A.handled = none → A.depth + 10 < recursionLimit → OkText 66 x → (∀ c ∈ x.cps.toList, Re.isFig c = true) →
   (∀ h' tk r a b c, (∀ b o, s.heap.get? b = some o → h'.get? b = some o) → h'.get? r = some { cls := .type "tuple", data := .seq #[.int 6 a, .int ((NumText.digitsVal x.cps.toList : Nat) : Int) b, .str (Str.ofString "") c] } → s.heap.get? r = none → Q (.ref r) { s with heap := h', toks := tk }) →
   wpAny (model PySem.Challenge.rw_mj0058_01.prog w) A (call (.ref 86) [.str (Str.ofString "figures") u, .str x t] []) Q E s := by
  k_fill
  intro w mg mb p loose s A x t u Q E KX T hh hd hx hf hQ
  refine' enter (binds := [(Str.ofString "kind", .str (Str.ofString "figures") u), (Str.ofString "run", .str x t)]) ?k1 ?k2 ?k3 ?k6 ?k7 ?k9 ?kB ?_ ?c5 ?c2 ?c3 ?c4
  walk_at "m_enter"
  intro h₁ F N
  walk_at "m_go"
  refine For_invV s.heap rfl rfl ?_
  walk_at "m_go"
  (with_reducible rename Fr _ _ _ _ => F₂)
  (with_reducible rename News _ _ _ _ => N₂)
  refine iter_strN (RJ x) hh ?_ F₂ N₂ ?_ ?_ ?_
  · exact ok_ascii hx
  · exact ⟨rfl, _, rfl, by rw [List.take_zero]; decide⟩
  · rintro I i c uc m₁ news₁ h tk o hlt hLI hc ⟨rfl, tn, hm, hb⟩ hne F₃ N₃
    have F₄ := fr_under F₃ hm
    clear F₃ F₂ N₂
    walk_at "m_go"
    have hcm : c ∈ x.cps.toList := by
      rw [← Array.getElem?_toList] at hc
      exact List.mem_of_getElem? hc
    have hcf := hf c hcm
    have htk : x.cps.toList.take (i + 1) = x.cps.toList.take i ++ [c] := by
      rw [List.take_add_one, Array.getElem?_toList, hc]; rfl
    refine SC.index (fig_occ hcf) ?_
    walk_at "m_go"
    (with_reducible rename Fr _ _ _ _ => FF)
    (with_reducible rename News _ _ _ _ => NN)
    have e : 10 * ((NumText.digitsVal (List.take i x.cps.toList) : Nat) : Int) + ((c - 48 : Nat) : Int) = ((NumText.digitsVal (List.take (i + 1) x.cps.toList) : Nat) : Int) := by
      rw [htk, digitsVal_snoc]
      push_cast
      omega
    refine turn_go FF ⟨rfl, _, congrArg (fun z => some (Value.int z _)) e, ?_⟩ NN hne
    · rw [htk, digitsVal_snoc]
      unfold Re.isFig at hcf
      simp only [Bool.and_eq_true, decide_eq_true_eq] at hcf
      rw [Nat.pow_succ]
      omega
  · rintro m₁ news₁ h tk ⟨rfl, tn, hm, hb⟩ F₃ N₃
    have F₄ := fr_known F₃ hm
    clear F₃ F₂ N₂
    rw [List.take_of_length_le (by simp)] at hm F₄
    walk_at "m_go"
    (with_reducible rename Fr _ _ _ _ => FF)
    (with_reducible rename News _ _ _ _ => NN)
    exact hQ _ _ _ _ _ _ FF.keep (NN _ (.head _)).1 (NN _ (.head _)).2.2
end Mine

end

/- part F3b -/
section
open PySem PySem.W PyProof.Rows
set_option Elab.async false
set_option maxRecDepth 100000
set_option maxHeartbeats 8000000
namespace Mine
local macro_rules | `(tactic| walk_at "m_enter") => `(tactic| ((case k1 => k_asm); (case k2 => exact TopRead.nolimit (by k_asm)); (case k6 => k_is); (case k7 => k_is); (case k9 => exact BindsTo.of_eq rfl); (case kB => exact locs rfl); (case c5 => decide); (case c2 => exact rfl); (case c3 => exact rfl); (case c4 => exact rfl); (case k3 => omega); k_whole))
local macro_rules | `(tactic| walk_at "m_go") => `(tactic| repeat' (
  (fail_if_success (with_reducible show wpAny _ _ (exec (Stmt.For _ _ _ _ _) _) _ _ _));
  (fail_if_success (with_reducible show wpAny _ _ (pyIter _) _ _ _));
  (fail_if_success (with_reducible show TurnEnd _ _ _ _ _ _ _ _ _));
  first | walk1 | (k_unfold; (try dsimp only)) | (dsimp only; walk1)))
def RLJ (news₀ : List (Addr × Obj)) (l : Addr) (x : Str) (t : Tok) (i : Nat) (m : Str → Option Value) (news : List (Addr × Obj)) : Prop :=
  news = news₀ ∧ m (Str.ofString "ladder") = some (.ref l) ∧ m (Str.ofString "run") = some (.str x t) ∧ (lad x = 0 ∨ i < lad x)
local macro_rules | `(tactic| walk_at "m_go2") => `(tactic| repeat' (
  (fail_if_success (with_reducible show wpAny _ _ (subscriptTail _ _ _ _) _ _ _));
  first | walk1 | (k_unfold; (try dsimp only)) | (dsimp only; walk1)))
theorem item_nat {prog : Program} {w : World} {A : Around} {E : Value → Shared → Prop} {s : Shared} {value slice : PySem.Expr} {l : Addr} {items : Array Value} {i : Nat} {v : Value} {u : Tok} {Q : Value → Shared → Prop}
    (hl : s.heap.IsList l items) (hx : items[i]? = some v) (hi : i < 1000000) (h : Q v s)
    (hs : subscripted slice false (.ref l) (.int (i : Int) u) = operate [.ref l, .int (i : Int) u] (getItem (.ref l) (.int (i : Int) u)) := by with_unfolding_all rfl) :
    wpAny (model prog w) A (subscriptTail value slice (.ref l) (.int (i : Int) u)) Q E s :=
  tail_any hl.typeIs slot_list_getitem.lookup (wpAny_getItem_list hl (by omega) (by omega) (by simpa using hx) h) hs
theorem signs_ne : ¬ ((Str.ofString "signs" == Str.ofString "figures") = true) := by decide +kernel
local macro_rules | `(tactic| walk_at "ite") => `(tactic| ((with_reducible refine ite_neg signs_ne ?_)))
theorem rung_sgn : ∀ (w : World) (mg mb : Str → Option Value) (p : Program) (loose : List Str) (s : Shared) (A : Around) (x : Str) (t u : Tok) (Q : Value → Shared → Prop) (E : Value → Shared → Prop),
   (MTop.hd.heap_39 w.params).In s.heap → TopRead p loose mg mb s.heap → A.handled = none → A.depth + 10 < recursionLimit → OkText 66 x →
   (∀ h' tk r a b c, (∀ b o, s.heap.get? b = some o → h'.get? b = some o) → h'.get? r = some { cls := .type "tuple", data := .seq #[.int ((lad x : Nat) : Int) a, .int 0 b, .str x c] } → s.heap.get? r = none → Q (.ref r) { s with heap := h', toks := tk }) →
   wpAny (model PySem.Challenge.rw_mj0058_01.prog w) A (call (.ref 86) [.str (Str.ofString "signs") u, .str x t] []) Q E s := by
  k_fill
  intro w mg mb p loose s A x t u Q E KX T hh hd hx hQ
  have key : ∀ h' tk r n a b c, (∀ b o, s.heap.get? b = some o → h'.get? b = some o) → h'.get? r = some { cls := .type "tuple", data := .seq #[.int n a, .int 0 b, .str x c] } → s.heap.get? r = none → n = ((lad x : Nat) : Int) → Q (.ref r) { s with heap := h', toks := tk } := by
    rintro h' tk r n a b c h1 h2 h3 rfl
    exact hQ h' tk r a b c h1 h2 h3
  clear hQ
  refine' enter (binds := [(Str.ofString "kind", .str (Str.ofString "signs") u), (Str.ofString "run", .str x t)]) ?k1 ?k2 ?k3 ?k6 ?k7 ?k9 ?kB ?_ ?c5 ?c2 ?c3 ?c4
  walk_at "m_enter"
  intro h₁ F N
  walk_at "m_go"
  refine For_invV s.heap rfl rfl ?_
  walk_at "m_go"
  (with_reducible rename IsRange _ _ _ _ _ _ _ _ => R₂)
  (with_reducible rename Fr _ _ _ _ => F₂)
  (with_reducible rename News _ _ _ _ => N₂)
  refine iter_rangeN (n := 7) (RLJ _ _ x t) hh R₂ rfl (by omega) F₂ N₂ ⟨rfl, rfl, rfl, by omega⟩ ?_ ?_
  · rintro I i ui m₁ news₁ h tk o hlt hLI hi ⟨rfl, hm1, hm2, hlad⟩ hne F₃ N₃
    have F₄ := fr_under (fr_under F₃ hm1) (b := Str.ofString "run") (u := .str x t) (by rw [if_neg (by decide +kernel)]; exact hm2)
    clear F₃ F₂ N₂
    obtain ⟨b, vs, hb1, hb2, hb3⟩ : ∃ b vs, (#[_, _, _, _, _, _, _] : Array Value)[i]? = some (.ref b) ∧ h.IsList b vs.toArray ∧ StrsAre vs (rungL i) := by
      have h7 : i = 0 ∨ i = 1 ∨ i = 2 ∨ i = 3 ∨ i = 4 ∨ i = 5 ∨ i = 6 := by omega
      rcases h7 with rfl | rfl | rfl | rfl | rfl | rfl | rfl
      · exact ⟨_, [_], rfl, News.isList N₃ (.tail _ (.tail _ (.tail _ (.tail _ (.tail _ (.tail _ (.tail _ (.tail _ (.head _))))))))), .cons _ _ .nil⟩
      · exact ⟨_, [_, _], rfl, News.isList N₃ (.tail _ (.tail _ (.tail _ (.tail _ (.tail _ (.tail _ (.tail _ (.head _)))))))), .cons _ _ (.cons _ _ .nil)⟩
      · exact ⟨_, [_, _], rfl, News.isList N₃ (.tail _ (.tail _ (.tail _ (.tail _ (.tail _ (.tail _ (.head _))))))), .cons _ _ (.cons _ _ .nil)⟩
      · exact ⟨_, [_], rfl, News.isList N₃ (.tail _ (.tail _ (.tail _ (.tail _ (.tail _ (.head _)))))), .cons _ _ .nil⟩
      · exact ⟨_, [_, _], rfl, News.isList N₃ (.tail _ (.tail _ (.tail _ (.tail _ (.head _))))), .cons _ _ (.cons _ _ .nil)⟩
      · exact ⟨_, [], rfl, News.isList N₃ (.tail _ (.tail _ (.tail _ (.head _)))), .nil⟩
      · exact ⟨_, [_, _], rfl, News.isList N₃ (.tail _ (.tail _ (.head _))), .cons _ _ (.cons _ _ .nil)⟩
    walk_at "m_go2"
    refine item_nat (News.isList N₃ (.tail _ (.head _))) hb1 (by omega) ?_
    walk_at "m_go2"
    · rename_i hc _ _ _ _ _
      rw [lad_at hi, decide_eq_true_eq] at hc
      (with_reducible rename Fr _ _ _ _ => FF)
      (with_reducible rename News _ _ _ _ => NN)
      exact key _ _ _ _ _ _ _ FF.keep (NN _ (.head _)).1 (NN _ (.head _)).2.2 (by omega)
    · rename_i hc
      rw [lad_at hi, decide_eq_false_iff_not] at hc
      (with_reducible rename Fr _ _ _ _ => FF)
      (with_reducible rename News _ _ _ _ => NN)
      exact turn_go FF ⟨rfl, rfl, rfl, by omega⟩ NN hne
  · rintro m₁ news₁ h tk ⟨rfl, hm1, hm2, hlad⟩ F₃ N₃
    have F₄ := fr_known F₃ hm2
    clear F₃ F₂ N₂
    have h0 : lad x = 0 := by have := @lad_le x; omega
    walk_at "m_go"
    (with_reducible rename Fr _ _ _ _ => FF)
    (with_reducible rename News _ _ _ _ => NN)
    exact key _ _ _ _ _ _ _ FF.keep (NN _ (.head _)).1 (NN _ (.head _)).2.2 (by omega)
end Mine

end

/- part L3 -/
section
open PySem PySem.W PyProof.Rows
set_option Elab.async false
set_option maxRecDepth 100000
namespace Mine
section
variable {prog : Program} {w : World} {A : Around} {E : Value → Shared → Prop} {s : Shared} {env : Env} {R : Result → Shared → Prop}

theorem compLoopT {elt target iter : PySem.Expr} {scope : Scope} {pos : Pos} {it acc : Value} (I : Nat → Shared → Prop)
    (turn : ∀ n s, I n s → wpAny (model prog w) A (pyNext it) (fun r s₁ => match r with
      | none => R (.ok .next) s₁
      | some v => wpAny (model prog w) A (letOwnedTupleGo target it v) (fun _ s₀ => wpAny (model prog w) A (assign target env v) (fun _ s₂ => wpC (model prog w) A (eval elt env) (fun y s₃ =>
          wpAny (model prog w) A (call (.builtin "list.append") [acc, y]) (fun _ s₄ => ∃ m, m < n ∧ I m s₄) NoE s₃) NoE s₂) NoE s₀) NoE s₁) NoE s)
    (n : Nat) (h : I n s) :
    codeC (model prog w) A (.compLoop (.ListComp elt [⟨target, iter, [], 0⟩] scope pos) 0 it acc env) R s := by
  refine codeC_loop rfl I (fun n s hI => ?_) n h
  show wpC _ _ ((compTurn (.ListComp elt [⟨target, iter, [], 0⟩] scope pos) 0 it acc env).onRaise (fun x => do noteFrame x env; theTreesLotGoes x)) _ _ s
  refine wpC_onRaise ?_
  rw [compTurn_list1]
  refine wpC_stand (wpC_step (wpAny_mono (turn n s hI) (fun r s₁ h₁ => ?_) fun _ _ h' => h'))
  cases r with
  | none => exact wpC_pure h₁
  | some v =>
    refine wpC_step (wpAny_mono h₁ (fun _ s₀ h₀ => ?_) fun _ _ h' => h')
    exact wpC_step (wpAny_mono h₀ (fun _ s₂ h₂ => wpC_bind (wpC_bind (wpC_mono h₂ (fun y s₃ h₃ => wpC_step (wpAny_mono h₃
      (fun _ s₄ h₄ => wpC_pure (wpC_pure (.inl ⟨rfl, h₄⟩))) fun _ _ h' => h')) fun _ _ h' => h'))) fun _ _ h' => h')

theorem compStartT {elt target iter : PySem.Expr} {scope : Scope} {pos : Pos} {it acc : Value}
    (h0 : codeC (model prog w) A (.compLoop (.ListComp elt [⟨target, iter, [], 0⟩] scope pos) 0 it acc env) R s)
    (h : wpAny (model prog w) A (pyIter it) (fun it' s' => codeC (model prog w) A (.compLoop (.ListComp elt [⟨target, iter, [], 0⟩] scope pos) 0 it' acc env) R s') NoE s) :
    codeC (model prog w) A (.compStart (.ListComp elt [⟨target, iter, [], 0⟩] scope pos) 0 it acc env) R s := by
  refine codeC_tree ?_
  show wpC _ _ ((compStart (.ListComp elt [⟨target, iter, [], 0⟩] scope pos) 0 it acc env).onRaise (fun x => do noteFrame x env; standAt theWindowsPlace)) _ _ s
  refine wpC_onRaise ?_
  unfold compStart
  show wpC _ _ (ask >>= _) _ _ s
  refine wpC_step (wpAny_askSetting ?_)
  split
  · first
      | exact wpC_step (wpAny_pure (wpC_pure (And.intro rfl h0)))
      | exact wpC_pure (And.intro rfl h0)
  · refine wpC_step (wpAny_rule ?_)
    exact wpC_stand (wpC_step (wpAny_mono h (fun it' s' h' => wpC_pure (And.intro rfl h')) fun _ _ x => x))

theorem ListCompT {elt target iter : PySem.Expr} {scope : Scope} {pos : Pos} {Q : Value → Shared → Prop}
    (hfree : ∀ x ∈ scope.names, x.2 ≠ .free) (hkind : scope.kind = .function) (hnames : ∀ x ∈ scope.names, x.2 = .local → scope.names.lookup x.1 = some .local)
    (h : wpAny (model prog w) A (eval iter env) (fun x' s₁ => wpAny (model prog w) A (pyIter x') (fun it s₂ => wpAny (model prog w) A (newList []) (fun acc s₃ =>
      wpAny (model prog w) A (newFunctionEnv scope env.globals [] [] env.qual none .none (some env)) (fun cenv s₄ =>
        codeC (model prog w) A (.compStart (.ListComp elt [⟨target, iter, [], 0⟩] scope pos) 0 it acc { cenv with scope := scope })
          (fun r s' => ∃ m, s'.heap.Ns cenv.locals m ∧ match r with | .ok _ => ∀ h', Heap.SameBut cenv.locals s'.heap h' → Q acc { s' with heap := h' } | .error _ => False) s₄) E s₃) E s₂) E s₁) E s)
    (hs : ∀ x, foldedSetIterable iter env x = pure x := by intro _; rfl) :
    wpC (model prog w) A (eval (.ListComp elt [⟨target, iter, [], 0⟩] scope pos) env) Q E s := by
  rw [eval_ListComp]
  show wpC _ _ (comprehension _ scope env _ (newList []) false (eval iter env)) _ _ _
  unfold comprehension
  rw [closureFor_none hfree]
  show wpC _ _ (eval iter env >>= _) _ _ _
  refine wpC_step (wpAny_mono h (fun x s₁ h₁ => wpC_stand (wpC_step (wpAny_of_eq (hs x) (wpC_step (wpAny_holding (wpAny_mono h₁ (fun it s₂ h₂ => ?_) fun _ _ h' => h')))))) fun _ _ h' => h')
  refine wpC_step (wpAny_mono h₂ (fun acc s₃ h₃ => wpC_step (wpAny_pure (wpC_step (wpAny_mono h₃ (fun cenv s₄ h₄ => ?_) fun _ _ h' => h')))) fun _ _ h' => h')
  dsimp only
  rw [map_eq_self (l := scope.names) (fun x hx => by
    obtain ⟨n, k⟩ := x
    have : (k == NameKind.free) = false := by simpa using hfree _ hx
    simp [this])]
  have hv : ∀ x ∈ (scope.names.filter fun x => (x.2 == .local || x.2 == .cell) && x.1 != (".0" : Str)).reverse, x.2 = .local →
      Env.kindOf { cenv with scope := scope } x.1 = some .local := fun x hx hl => hnames x (List.mem_filter.mp (List.mem_reverse.mp hx)).1 hl
  refine wpC_holding (wpC_bind (wpC_attempt (wpC_holding (wpC_run (codeC_mono h₄ fun r s' hr => ?_)))))
  obtain ⟨m, hn, hr⟩ := hr
  cases r with
  | ok f => exact wpC_of (wpAny_bind (wpAny_holding (wpAny_comp_letGo (cenv := { cenv with scope := scope }) hkind _ s' m hv hn fun h' m' _ hs' => wpAny_pure (hr h' hs'))))
  | error x => exact hr.elim

/-- a list comprehension over a list: all that stands ahead of its turns -/
theorem lc_start {elt target iter : PySem.Expr} {scope : Scope} {pos : Pos} {Q : Value → Shared → Prop}
    (hfree : ∀ x ∈ scope.names, x.2 ≠ .free) (hcell : ∀ x ∈ scope.names, x.2 ≠ .cell) (hkind : scope.kind = .function) (hnames : ∀ x ∈ scope.names, x.2 = .local → scope.names.lookup x.1 = some .local)
    (h : wpAny (model prog w) A (eval iter env) (fun v s₁ => ∃ l items, v = .ref l ∧ s₁.heap.IsList l items ∧
      ∀ h₁ tk, h₁.Ns (s₁.heap.objs.size + 2) (fun _ => none) → (∀ b o, s₁.heap.get? b = some o → h₁.get? b = some o) → h₁.IsListIter s₁.heap.objs.size l 0 → h₁.get? (s₁.heap.objs.size + 1) = some (W.listOf #[] 0) →
        codeC (model prog w) A (.compLoop (.ListComp elt [⟨target, iter, [], 0⟩] scope pos) 0 (.ref s₁.heap.objs.size) (.ref (s₁.heap.objs.size + 1)) (compEnv scope (s₁.heap.objs.size + 2) env))
          (fun r s' => ∃ m, s'.heap.Ns (s₁.heap.objs.size + 2) m ∧ match r with | .ok _ => ∀ h', Heap.SameBut (s₁.heap.objs.size + 2) s'.heap h' → Q (.ref (s₁.heap.objs.size + 1)) { s' with heap := h' } | .error _ => False) { s₁ with heap := h₁, toks := tk }) E s)
    (hs : ∀ x, foldedSetIterable iter env x = pure x := by intro _; rfl) :
    wpC (model prog w) A (eval (.ListComp elt [⟨target, iter, [], 0⟩] scope pos) env) Q E s := by
  refine ListCompT hfree hkind hnames (wpAny_mono h (fun xv s₁ h₁ => ?_) fun _ _ e => e) hs
  obtain ⟨ax, items, rfl, hl, hrest⟩ := h₁
  refine wpAny_pyIter_list hl (wpAny_newObj_type (wpAny_newFunctionEnv hcell (by intro y hy; simp at hy) (fun h₁ hns₁ hsb₁ => ?_) hkind))
  dsimp only at hns₁ hsb₁ ⊢
  generalize hH1 : s₁.heap.push { cls := .type "list_iterator", data := .fields #[.ref ax, .int 0 0] } = H1 at hns₁ hsb₁ ⊢
  have hD : H1.objs.size = s₁.heap.objs.size + 1 := by rw [← hH1, Heap.size_push]
  generalize hH2 : H1.push { cls := .type "list", dict := none, data := .seq ([] : List Value).toArray } = H2 at hns₁ hsb₁ ⊢
  have hC : H2.objs.size = s₁.heap.objs.size + 2 := by rw [← hH2, Heap.size_push, hD]
  have hDC : H1.objs.size ≠ H2.objs.size := by rw [hD, hC]; exact Nat.ne_of_lt (Nat.lt_succ_self _)
  have hIC : s₁.heap.objs.size ≠ H2.objs.size := by rw [hC]; exact Nat.ne_of_lt (Nat.lt_succ_of_lt (Nat.lt_succ_self _))
  have old : ∀ b o, s₁.heap.get? b = some o → h₁.get? b = some o := fun b o e =>
    hsb₁.extBut b o (by rw [hC]; exact Nat.ne_of_lt (Nat.lt_succ_of_lt (Nat.lt_succ_of_lt (Heap.lt_size e)))) (Heap.get?_push_of_some _ (hH2 ▸ Heap.get?_push_of_some _ (hH1 ▸ Heap.get?_push_of_some _ e)))
  have hit : h₁.IsListIter s₁.heap.objs.size ax 0 :=
    ⟨_, hsb₁.extBut _ _ hIC (Heap.get?_push_of_some _ (hH2 ▸ Heap.get?_push_of_some _ (hH1 ▸ Heap.get?_push_size _ rfl))), rfl, rfl⟩
  have hacc : h₁.get? H1.objs.size = some (W.listOf #[] 0) := hsb₁.extBut _ _ hDC (Heap.get?_push_of_some _ (hH2 ▸ Heap.get?_push_size _ rfl))
  rw [hD] at hacc
  rw [hC] at hns₁
  have loop := hrest h₁ (s₁.toks + ([] : List (Str × Value)).length) hns₁ old hit hacc
  rw [hD, hC]
  exact compStartT loop (wpAny_pyIter_listiter hit loop)

variable {h₀ : Heap}
/-- a comprehension that unpacks the pairs of a list, in the caller's logic -/
theorem compC_pairs {elt iter : PySem.Expr} {scope : Scope} {pos pa pb tp : Pos} {a b : Str} {kk : Nat} {l I D : Addr} {items : Array Value} {m₀ : Str → Option Value} {news : List (Addr × Obj)} (J : Nat → List Value → List (Addr × Obj) → Prop)
    (ha : env.kindOf a = some .local) (hb : env.kindOf b = some .local) (hp : (env.scope.kind == .class || (env.scope.kind == .module && env.locals != env.globals)) = false)
    (hh : A.handled = none) (hl : h₀.IsList l items) (ht : ∀ (i : Nat) (v : Value), items[i]? = some v → ∃ T x y, v = .ref T ∧ h₀.IsTuple T #[x, y]) (hI : h₀.get? I = none) (hIL : I ≠ env.locals) (hID : I ≠ D) (hsz : items.size ≤ 1000) (hit : s.heap.IsListIter I l 0) (hn : ∀ p ∈ news, p.1 ≠ I ∧ p.1 ≠ D)
    (F : Fr h₀ env.locals s.heap m₀) (N : News h₀ env.locals s.heap ((D, W.listOf #[] 0) :: news)) (hj : J 0 [] news)
    (turn : ∀ (i : Nat) (T : Addr) (x y : Value) (m₁ : Str → Option Value) ws n news₁ h tk o, items[i]? = some (.ref T) → h₀.IsTuple T #[x, y] → J i ws news₁ → Fr h₀ env.locals h (fun z => if z = b then some y else if z = a then some x else m₁ z) → News h₀ env.locals h ((I, o) :: (D, W.listOf ws.toArray n) :: news₁) → I < h.objs.size → D < h.objs.size →
      wpC (model prog w) A (eval elt env) (fun y s' => ∃ h' tk' m' news', s' = { s with heap := h', toks := tk' } ∧ Fr h₀ env.locals h' m' ∧ News h₀ env.locals h' ((I, o) :: (D, W.listOf ws.toArray n) :: news') ∧ (∀ p ∈ news', p.1 ≠ I ∧ p.1 ≠ D) ∧ J (i + 1) (ws ++ [y]) news') NoE { s with heap := h, toks := tk })
    (done : ∀ m₁ ws n news₁ h tk, ws.length = items.size → J items.size ws news₁ → Fr h₀ env.locals h m₁ → News h₀ env.locals h ((D, W.listOf ws.toArray n) :: news₁) → R (.ok .next) { s with heap := h, toks := tk }) :
    codeC (model prog w) A (.compLoop (.ListComp elt [⟨.Tuple [.Name a pa, .Name b pb] kk tp, iter, [], 0⟩] scope pos) 0 (.ref I) (.ref D) env) R s := by
  refine compLoopT (fun k s' => ∃ h tk m ws n news i, s' = { s with heap := h, toks := tk } ∧ h.IsListIter I l i ∧ Fr h₀ env.locals h m ∧ News h₀ env.locals h ((D, W.listOf ws.toArray n) :: news) ∧ (∀ p ∈ news, p.1 ≠ I ∧ p.1 ≠ D) ∧ J i ws news ∧ ws.length = i ∧ i ≤ items.size ∧ k = items.size - i) ?_ (items.size)
    ⟨s.heap, s.toks, m₀, [], 0, news, 0, rfl, hit, F, N, hn, hj, rfl, Nat.zero_le _, rfl⟩
  rintro k s' ⟨h, tk, m, ws, n, nws, i, rfl, hit', F', N', hn', hJ, hw, hi, rfl⟩
  have hl' : h.IsList l items := F'.lst hl
  by_cases hlt : i < items.size
  · obtain ⟨T, x, y, hv, hT⟩ := ht i items[i] (by simp [hlt])
    refine wpAny_pyNext_list_item hit' hl' (x := items[i]) (by simp [hlt]) fun h₁ hit₁ hs₁ => ?_
    have F₁ : Fr h₀ env.locals h₁ m := F'.change hs₁ hIL hI
    dsimp only
    rw [hv]
    refine wpAny_letOwnedTupleGo_listiter hit₁ ?_
    have hT₁ : h₁.IsTuple T #[x, y] := hT.at fun o e => F₁.keep _ _ e
    refine kcp_assign hh hT₁ ha hb hp F₁.ns fun h₂ tk₂ hn₂ hs₂ => ?_
    obtain ⟨o, ho, hoc, hod⟩ := hit₁
    have ho₂ : h₂.get? I = some o := hs₂ I o hIL ho
    have F₂ : Fr h₀ env.locals h₂ (fun z => if z = b then some y else if z = a then some x else m z) := ⟨hn₂, fun c o e => hs₂ c o (Nat.ne_of_lt (Nat.lt_of_lt_of_le (Heap.lt_size e) F₁.above)) (F₁.keep c o e), F₁.above⟩
    have N₂ : News h₀ env.locals h₂ ((I, o) :: (D, W.listOf ws.toArray n) :: nws) := fun p hp => by
      rcases List.mem_cons.mp hp with rfl | hp
      · exact ⟨ho₂, hIL, hI⟩
      · have hpI : p.1 ≠ I := by
          rcases List.mem_cons.mp hp with rfl | hp
          · exact Ne.symm hID
          · exact (hn' p hp).1
        exact ⟨hs₂ p.1 _ (N' p hp).2.1 ((hs₁.2 p.1 hpI).trans (N' p hp).1), (N' p hp).2⟩
    refine wpC_mono (turn i T x y m ws n nws h₂ _ o (by rw [← hv]; simp [hlt]) hT hJ F₂ N₂ (Heap.lt_size (N₂ _ (.head _)).1) (Heap.lt_size (N₂ _ (.tail _ (.head _))).1)) (fun y s₃ hf => ?_) fun _ _ x => x
    obtain ⟨h', tk', m', news', rfl, F₃, N₃, hn₃, hJ₃⟩ := hf
    have z := N₃ _ (.tail _ (.head _))
    refine append_at z.1 (fun h₄ hs₄ ho₄ => ?_) (by show ws.toArray.size ≤ 2 ^ 24; simp; omega)
    refine ⟨items.size - (i + 1), by omega, h₄, tk', m', ws ++ [y], n + 1, news', i + 1, rfl, ⟨o, (hs₄.2 I hID).trans (N₃ _ (.head _)).1, hoc, hod⟩, F₃.change hs₄ z.2.1 z.2.2, fun p hp => ?_, hn₃, hJ₃, by simp [hw], hlt, rfl⟩
    rcases List.mem_cons.mp hp with rfl | hp
    · exact ⟨by simpa using ho₄, z.2⟩
    · have q := N₃ p (.tail _ (.tail _ hp))
      exact ⟨(hs₄.2 p.1 (hn₃ p hp).2).trans q.1, q.2⟩
  · have hin : i = items.size := by omega
    subst hin
    refine wpAny_pyNext_list_end hh hit' hl' (by simp) fun h₁ hs₁ => ?_
    refine done m ws n nws h₁ tk hw hJ (ext_fr F' hI hIL hs₁) (ext_news N' (fun p hp => ?_) hs₁)
    rcases List.mem_cons.mp hp with rfl | hp
    · exact Ne.symm hID
    · exact (hn' p hp).1
end
end Mine

end

/- part K1 -/
section
set_option maxRecDepth 100000
namespace Mine
open PySem PySem.W PyProof.Rows
/-- the rung of one run, as an object -/
def rungObj (it : It) (a b c : Tok) : Obj := match it with
  | .num n => { cls := .type "tuple", data := .seq #[.int 6 a, .int ((n : Nat) : Int) b, .str (Str.ofString "") c] }
  | .sgn x => { cls := .type "tuple", data := .seq #[.int ((lad x : Nat) : Int) a, .int 0 b, .str x c] }
inductive RgIn (T : List (Addr × Obj)) : List Value → List It → Prop
  | nil : RgIn T [] []
  | cons {r : Addr} {it : It} {a b c : Tok} {vs : List Value} {its : List It} : (r, rungObj it a b c) ∈ T → RgIn T vs its → RgIn T (.ref r :: vs) (it :: its)
theorem RgIn.mono {T T' : List (Addr × Obj)} (hT : ∀ p ∈ T, p ∈ T') {vs : List Value} {its : List It} (h : RgIn T vs its) : RgIn T' vs its := by
  induction h with
  | nil => exact .nil
  | cons hm _ ih => exact .cons (hT _ hm) ih
theorem RgIn.snoc {T : List (Addr × Obj)} {r : Addr} {it : It} {a b c : Tok} {vs : List Value} {its : List It} (h : RgIn T vs its) (hm : (r, rungObj it a b c) ∈ T) : RgIn T (vs ++ [.ref r]) (its ++ [it]) := by
  induction h with
  | nil => exact .cons hm .nil
  | cons hm' _ ih => exact .cons hm' ih
/-- the same in a heap -/
inductive RgAt (h : Heap) : List Value → List It → Prop
  | nil : RgAt h [] []
  | cons {r : Addr} {it : It} {a b c : Tok} {vs : List Value} {its : List It} : h.get? r = some (rungObj it a b c) → RgAt h vs its → RgAt h (.ref r :: vs) (it :: its)
theorem RgIn.at {T : List (Addr × Obj)} {h₀ h : Heap} {L : Addr} (N : News h₀ L h T) {vs : List Value} {its : List It} (k : RgIn T vs its) : RgAt h vs its := by
  induction k with
  | nil => exact .nil
  | cons hm _ ih => exact .cons (N _ hm).1 ih
theorem RgAt.keeps {h h' : Heap} (hk : ∀ b o, h.get? b = some o → h'.get? b = some o) {vs : List Value} {its : List It} (k : RgAt h vs its) : RgAt h' vs its := by
  induction k with
  | nil => exact .nil
  | cons hm _ ih => exact .cons (hk _ _ hm) ih
theorem RgAt.length {h : Heap} {vs : List Value} {its : List It} (k : RgAt h vs its) : vs.length = its.length := by
  induction k with
  | nil => rfl
  | cons _ _ ih => simp [ih]
theorem RgAt.get {h : Heap} {vs : List Value} {its : List It} (k : RgAt h vs its) : ∀ {i : Nat} {it : It}, its[i]? = some it → ∃ r a b c, vs[i]? = some (.ref r) ∧ h.get? r = some (rungObj it a b c) := by
  induction k with
  | nil => intro i it e; simp at e
  | @cons r it' a b c vs its hm _ ih =>
    intro i it e
    cases i with
    | zero =>
      simp only [List.getElem?_cons_zero, Option.some.injEq] at e
      subst e
      exact ⟨r, a, b, c, rfl, hm⟩
    | succ i => exact ih (by simpa using e)
section
variable {h₀ h h' : Heap} {L r : Addr} {o : Obj} {m : Str → Option Value} {news : List (Addr × Obj)}
theorem grow_fr (F : Fr h₀ L h m) (hk : ∀ b o, h.get? b = some o → h'.get? b = some o) : Fr h₀ L h' m := ⟨F.ns.keeps hk, fun b o e => hk _ _ (F.keep b o e), F.above⟩
theorem grow_news (N : News h₀ L h news) (hk : ∀ b o, h.get? b = some o → h'.get? b = some o) : News h₀ L h' news := fun p hp => ⟨hk _ _ (N p hp).1, (N p hp).2⟩
theorem grow_new (F : Fr h₀ L h m) (hr : h'.get? r = some o) (hn : h.get? r = none) : h'.get? r = some o ∧ r ≠ L ∧ h₀.get? r = none := by
  refine ⟨hr, fun q => ?_, F.noneBack hn⟩
  obtain ⟨o', es, ep, ho, _⟩ := F.ns
  rw [← q, hn] at ho
  cases ho
theorem new_ne {p : Addr × Obj} (N : News h₀ L h news) (hp : p ∈ news) (hn : h.get? r = none) : r ≠ p.1 := fun q => by
  have := (N p hp).1
  rw [← q, hn] at this
  cases this
end
section
variable {M : Model} {A : Around} {E : Value → Shared → Prop} {s : Shared} {env : Env}
theorem ReturnC {e : PySem.Expr} {pos : Pos} {Q : Flow → Shared → Prop} (h : wpC M A (eval e env) (fun v s' => Q (.ret v) s') E s) : wpC M A (exec (.Return (some e) pos) env) Q E s := by
  rw [exec_Return_some]
  exact wpC_stand (wpC_bind (wpC_mono h (fun v s' hv => wpC_pure hv) fun _ _ x => x))
end
end Mine

end

/- part F4 -/
section
open PySem PySem.W PyProof.Rows
set_option Elab.async false
set_option maxRecDepth 100000
set_option maxHeartbeats 8000000
namespace Mine
local macro_rules | `(tactic| walk_at "m_enter") => `(tactic| ((case k1 => k_asm); (case k2 => exact TopRead.nolimit (by k_asm)); (case k6 => k_is); (case k7 => k_is); (case k9 => exact BindsTo.of_eq rfl); (case kB => exact locs rfl); (case c5 => decide); (case c2 => exact rfl); (case c3 => exact rfl); (case c4 => exact rfl); (case k3 => omega); k_whole))
local macro_rules | `(tactic| walk_at "m_go") => `(tactic| repeat' (
  (fail_if_success (with_reducible show wpAny _ _ (exec (Stmt.For _ _ _ _ _) _) _ _ _));
  (fail_if_success (with_reducible show wpAny _ _ (pyIter _) _ _ _));
  (fail_if_success (with_reducible show TurnEnd _ _ _ _ _ _ _ _ _));
  (fail_if_success (with_reducible show _ ∧ _));
  first | walk1 | (k_unfold; (try dsimp only)) | (dsimp only; walk1)))
def kstr (k : Nat) : Str := if k = 0 then Str.ofString "cut" else if k = 1 then Str.ofString "figures" else Str.ofString "signs"
def tup2 (k : Nat) (y : Str) (t u : Tok) : Obj := { cls := .type "tuple", data := .seq #[.str (kstr k) t, .str y u] }
inductive RunsIn (T : List (Addr × Obj)) : List Value → List Run → Prop
  | nil : RunsIn T [] []
  | cons {a : Addr} {k : Nat} {y : Str} {t u : Tok} {vs : List Value} {R : List Run} : (a, tup2 k y t u) ∈ T → RunsIn T vs R → RunsIn T (.ref a :: vs) ((k, y.cps.toList) :: R)
theorem RunsIn.mono {T T' : List (Addr × Obj)} (hT : ∀ p ∈ T, p ∈ T') {vs : List Value} {R : List Run} (h : RunsIn T vs R) : RunsIn T' vs R := by
  induction h with
  | nil => exact .nil
  | cons hm _ ih => exact .cons (hT _ hm) ih
theorem RunsIn.snoc {T : List (Addr × Obj)} {a : Addr} {k : Nat} {y : Str} {t u : Tok} {vs : List Value} {R : List Run} (h : RunsIn T vs R) (hm : (a, tup2 k y t u) ∈ T) : RunsIn T (vs ++ [.ref a]) (R ++ [(k, y.cps.toList)]) := by
  induction h with
  | nil => exact .cons hm .nil
  | cons hm' _ ih => exact .cons hm' ih
theorem RunsIn.last {T : List (Addr × Obj)} {vs : List Value} {R : List Run} (h : RunsIn T vs R) : ∀ {pre : List Run} {k : Nat} {l : List Nat}, R = pre ++ [(k, l)] → ∃ ws a y t u, vs = ws ++ [.ref a] ∧ RunsIn T ws pre ∧ (a, tup2 k y t u) ∈ T ∧ y.cps.toList = l := by
  induction h with
  | nil => intro pre k l e; simp at e
  | @cons a k y t u vs R hm hR ih =>
    intro pre k' l e
    cases pre with
    | nil =>
      simp only [List.nil_append, List.cons.injEq, Prod.mk.injEq] at e
      obtain ⟨⟨rfl, rfl⟩, rfl⟩ := e
      cases hR
      exact ⟨[], a, y, t, u, rfl, .nil, hm, rfl⟩
    | cons q pre =>
      simp only [List.cons_append, List.cons.injEq] at e
      obtain ⟨rfl, rfl⟩ := e
      obtain ⟨ws, a', y', t', u', rfl, h1, h2, h3⟩ := ih rfl
      exact ⟨.ref a :: ws, a', y', t', u', rfl, .cons hm h1, h2, h3⟩
theorem RunsIn.length {T : List (Addr × Obj)} {vs : List Value} {R : List Run} (h : RunsIn T vs R) : vs.length = R.length := by
  induction h with
  | nil => rfl
  | cons _ _ ih => simp [ih]
theorem RunsIn.get {T : List (Addr × Obj)} {vs : List Value} {R : List Run} (h : RunsIn T vs R) : ∀ {i : Nat} {v : Value}, vs[i]? = some v → ∃ a k y t u, v = .ref a ∧ (a, tup2 k y t u) ∈ T ∧ R[i]? = some (k, y.cps.toList) := by
  induction h with
  | nil => intro i v e; simp at e
  | @cons a k y t u vs R hm _ ih =>
    intro i v e
    cases i with
    | zero =>
      simp only [List.getElem?_cons_zero, Option.some.injEq] at e
      exact ⟨a, k, y, t, u, e.symm, hm, rfl⟩
    | succ i => exact ih (by simpa using e)
theorem tup2_is {h : Heap} {a : Addr} {k : Nat} {y : Str} {t u : Tok} {x₁ x₂ : Value} (hg : h.get? a = some (tup2 k y t u)) (ht : h.IsTuple a #[x₁, x₂]) : x₁ = .str (kstr k) t ∧ x₂ = .str y u := by
  obtain ⟨o, ho, _, n, hd⟩ := ht
  rw [hg] at ho
  cases ho
  have hd' : Data.seq #[.str (kstr k) t, .str y u] 0 = Data.seq #[x₁, x₂] n := hd
  cases hd'
  exact ⟨rfl, rfl⟩
theorem at86 (w : World) : ∃ o fd, (MTop.hd.heap_39 w.params).lookup 86 = some o ∧ o.data = .func fd := ⟨_, _, rfl, rfl⟩
def CRJ (R : List Run) (I : Addr) (i : Nat) (ws : List Value) (news : List (Addr × Obj)) : Prop := RgIn news ws ((R.take i).map itOf) ∧ ∀ p ∈ news, p.1 ≠ I ∧ p.1 ≠ I + 1
def RunOk (b : Nat) (r : Run) : Prop := (r.1 = 1 ∨ r.1 = 2) ∧ r.2.length ≤ b ∧ ∀ c ∈ r.2, kd c = r.1 ∧ okc c = true
def RNJ (x : Str) (l : Addr) (i : Nat) (m : Str → Option Value) (news : List (Addr × Obj)) : Prop :=
  ∃ R last vs n T tl, news = (l, W.listOf vs.toArray n) :: T ∧ (∀ p ∈ T, p.1 ≠ l) ∧ m (Str.ofString "runs") = some (.ref l) ∧ m (Str.ofString "last") = some (.str (kstr last) tl) ∧ last ≤ 2 ∧ (last ≠ 0 → ∃ pre t, R = pre ++ [(last, t)]) ∧
    RunsIn T vs R ∧ R.length ≤ i ∧ (∀ r ∈ R, RunOk i r) ∧ scan R last (x.cps.toList.drop i) = scan [] 0 x.cps.toList
theorem occ_cut : ∀ c : Nat, c < 127 → (PySem.Builtin.Str.occurrences (Str.ofString "._+-") ⟨#[c]⟩ 0 (Str.ofString "._+-").length 1).isEmpty = !Re.isCut c := by decide +kernel
theorem occ_fig : ∀ c : Nat, c < 127 → (PySem.Builtin.Str.occurrences (Str.ofString "0123456789") ⟨#[c]⟩ 0 (Str.ofString "0123456789").length 1).isEmpty = !Re.isFig c := by decide +kernel
theorem kstr_inj {a b : Nat} (ha : a ≤ 2) (hb : b ≤ 2) (h : (kstr a == kstr b) = true) : a = b := by
  have ha' : a = 0 ∨ a = 1 ∨ a = 2 := by omega
  have hb' : b = 0 ∨ b = 1 ∨ b = 2 := by omega
  rcases ha' with rfl | rfl | rfl <;> rcases hb' with rfl | rfl | rfl <;> first | rfl | exact absurd h (by decide +kernel)
section
variable {x : Str} {l : Addr} {i c last n : Nat} {R : List Run} {vs : List Value} {T : List (Addr × Obj)}
theorem rnj_cut {m : Str → Option Value} {tl : Tok} (hT : ∀ p ∈ T, p.1 ≠ l) (hR : RunsIn T vs R) (hRl : R.length ≤ i) (hRo : ∀ r ∈ R, RunOk i r) (hsc : scan R last (c :: x.cps.toList.drop (i + 1)) = scan [] 0 x.cps.toList)
    (hk : kd c = 0) (h1 : m (Str.ofString "runs") = some (.ref l)) (h2 : m (Str.ofString "last") = some (.str (Str.ofString "cut") tl)) : RNJ x l (i + 1) m ((l, W.listOf vs.toArray n) :: T) :=
  ⟨R, 0, vs, n, T, tl, rfl, hT, h1, h2, by omega, fun q => absurd rfl q, hR, by omega, fun r hr => have z := hRo r hr; ⟨z.1, by have := z.2.1; omega, z.2.2⟩, by rw [scan_cut hk] at hsc; exact hsc⟩
theorem rnj_new {m : Str → Option Value} {tl ta tb : Tok} {k : Nat} {D : Addr} {z : Str} (hz : z = ⟨#[c]⟩) (hT : ∀ p ∈ T, p.1 ≠ l) (hR : RunsIn T vs R) (hRl : R.length ≤ i) (hRo : ∀ r ∈ R, RunOk i r) (hsc : scan R last (c :: x.cps.toList.drop (i + 1)) = scan [] 0 x.cps.toList)
    (hk : kd c = k) (hk0 : k ≠ 0) (hkl : last ≠ k) (hok : okc c = true) (hD : D ≠ l) (h1 : m (Str.ofString "runs") = some (.ref l)) (h2 : m (Str.ofString "last") = some (.str (kstr k) tl)) :
    RNJ x l (i + 1) m ((l, W.listOf (vs.toArray.push (.ref D)) n) :: (D, tup2 k z ta tb) :: T) := by
  subst hz
  have hk2 : k ≤ 2 := by rcases kd_le c with q | q | q <;> omega
  refine ⟨R ++ [(k, [c])], k, vs ++ [.ref D], n, (D, tup2 k ⟨#[c]⟩ ta tb) :: T, tl, by simp, ?_, h1, h2, hk2, fun _ => ⟨R, [c], rfl⟩, ?_, by simp; omega, ?_, ?_⟩
  · intro p hp
    rcases List.mem_cons.mp hp with rfl | hp
    · exact hD
    · exact hT p hp
  · exact RunsIn.snoc (y := ⟨#[c]⟩) (hR.mono fun p hp => .tail _ hp) (.head _)
  · intro r hr
    rcases List.mem_append.mp hr with hr | hr
    · have z := hRo r hr
      exact ⟨z.1, by have := z.2.1; omega, z.2.2⟩
    · rw [List.mem_singleton.mp hr]
      refine ⟨by show k = 1 ∨ k = 2; omega, by simp, fun d hd => ?_⟩
      rw [List.mem_singleton.mp hd]
      exact ⟨hk, hok⟩
  · rw [scan, hk, if_neg (fun q => hkl q.2.symm), if_pos hk0] at hsc
    exact hsc
theorem rnj_same {m : Str → Option Value} {tl ta tb : Tok} {D : Addr} {z y : Str} {ws : List Value} {pre : List Run} (hz : z = y ++ ⟨#[c]⟩) (hT : ∀ p ∈ T, p.1 ≠ l) (hR : RunsIn T ws pre) (hRl : (pre ++ [(last, y.cps.toList)]).length ≤ i) (hRo : ∀ r ∈ pre ++ [(last, y.cps.toList)], RunOk i r)
    (hsc : scan (pre ++ [(last, y.cps.toList)]) last (c :: x.cps.toList.drop (i + 1)) = scan [] 0 x.cps.toList)
    (hk : kd c = last) (hk0 : last ≠ 0) (hok : okc c = true) (hD : D ≠ l) (h1 : m (Str.ofString "runs") = some (.ref l)) (h2 : m (Str.ofString "last") = some (.str (kstr last) tl)) :
    RNJ x l (i + 1) m ((l, W.listOf (ws ++ [Value.ref D]).toArray n) :: (D, tup2 last z ta tb) :: T) := by
  subst hz
  have hk2 : last ≤ 2 := by rcases kd_le c with q | q | q <;> omega
  have hzl : (y ++ ⟨#[c]⟩ : Str).cps.toList = y.cps.toList ++ [c] := by
    show (y.cps ++ #[c]).toList = _
    simp
  refine ⟨pre ++ [(last, y.cps.toList ++ [c])], last, ws ++ [.ref D], n, (D, tup2 last (y ++ ⟨#[c]⟩) ta tb) :: T, tl, rfl, ?_, h1, h2, hk2, fun _ => ⟨pre, _, rfl⟩, ?_, ?_, ?_, ?_⟩
  · intro p hp
    rcases List.mem_cons.mp hp with rfl | hp
    · exact hD
    · exact hT p hp
  · have := RunsIn.snoc (y := y ++ ⟨#[c]⟩) (hR.mono fun p hp => .tail (D, tup2 last (y ++ ⟨#[c]⟩) ta tb) hp) (.head _)
    rw [hzl] at this
    exact this
  · simp at hRl ⊢; omega
  · intro r hr
    rcases List.mem_append.mp hr with hr | hr
    · have z := hRo r (List.mem_append_left _ hr)
      exact ⟨z.1, by have := z.2.1; omega, z.2.2⟩
    · have z := hRo (last, y.cps.toList) (List.mem_append_right _ (.head _))
      rw [List.mem_singleton.mp hr]
      refine ⟨z.1, by have := z.2.1; simp at this ⊢; omega, fun d hd => ?_⟩
      rcases List.mem_append.mp hd with hd | hd
      · exact z.2.2 d hd
      · rw [List.mem_singleton.mp hd]; exact ⟨hk, hok⟩
  · rw [scan, hk, if_pos ⟨hk0, rfl⟩, List.dropLast_concat, List.getLastD_concat] at hsc
    exact hsc
theorem pickT {h₀ h : Heap} {L : Addr} {news T : List (Addr × Obj)} {a b c : Addr × Obj} (N : News h₀ L h news) (ha : a ∈ news) (hb : b ∈ news) (hc : c ∈ news) (hT : ∀ p ∈ T, p ∈ news) : News h₀ L h (a :: b :: c :: T) := fun p hp => by
  rcases List.mem_cons.mp hp with rfl | hp
  · exact N _ ha
  rcases List.mem_cons.mp hp with rfl | hp
  · exact N _ hb
  rcases List.mem_cons.mp hp with rfl | hp
  · exact N _ hc
  exact N _ (hT p hp)
end
theorem pick2T {h₀ h : Heap} {L : Addr} {news T : List (Addr × Obj)} {a b : Addr × Obj} (N : News h₀ L h news) (ha : a ∈ news) (hb : b ∈ news) (hT : ∀ p ∈ T, p ∈ news) : News h₀ L h (a :: b :: T) := fun p hp => by
  rcases List.mem_cons.mp hp with rfl | hp
  · exact N _ ha
  rcases List.mem_cons.mp hp with rfl | hp
  · exact N _ hb
  exact N _ (hT p hp)
theorem fin_new {h₀ h : Heap} {L I l D : Addr} {s : Shared} {o : Obj} {Q : Flow → Shared → Prop} {x z : Str} {i c last n tk k : Nat} {R : List Run} {vs : List Value} {T T' : List (Addr × Obj)} {m : Str → Option Value} {tl ta tb : Tok}
    (FF : Fr h₀ L h m) (NN : News h₀ L h ((D, tup2 k z ta tb) :: (I, o) :: (l, W.listOf (vs.toArray.push (.ref D)) n) :: T')) (hTT : ∀ p ∈ T, p ∈ T') (hneT : ∀ p ∈ T, p.1 ≠ I) (hDI : @Ne Nat D I) (hlI : @Ne Nat l I) (hD : @Ne Nat D l)
    (hz : z = ⟨#[c]⟩) (hT : ∀ p ∈ T, p.1 ≠ l) (hR : RunsIn T vs R) (hRl : R.length ≤ i) (hRo : ∀ r ∈ R, RunOk i r) (hsc : scan R last (c :: x.cps.toList.drop (i + 1)) = scan [] 0 x.cps.toList)
    (hk : kd c = k) (hk0 : k ≠ 0) (hkl : last ≠ k) (hok : okc c = true) (h1 : m (Str.ofString "runs") = some (.ref l)) (h2 : m (Str.ofString "last") = some (.str (kstr k) tl)) :
    TurnEnd h₀ L s I o (RNJ x l (i + 1)) Q .next { s with heap := h, toks := tk } :=
  turn_go FF (rnj_new hz hT hR hRl hRo hsc hk hk0 hkl hok hD h1 h2) (pickT NN (.tail _ (.head _)) (.tail _ (.tail _ (.head _))) (.head _) fun p hp => .tail _ (.tail _ (.tail _ (hTT p hp))))
    (List.forall_mem_cons.mpr ⟨hlI, List.forall_mem_cons.mpr ⟨hDI, hneT⟩⟩)
theorem fin_same {h₀ h : Heap} {L I l D : Addr} {s : Shared} {o : Obj} {Q : Flow → Shared → Prop} {x z y : Str} {i c last n tk : Nat} {pre : List Run} {ws : List Value} {T T' : List (Addr × Obj)} {m : Str → Option Value} {tl ta tb : Tok}
    (FF : Fr h₀ L h m) (NN : News h₀ L h ((D, tup2 last z ta tb) :: (I, o) :: (l, W.listOf (ws ++ [Value.ref D]).toArray n) :: T')) (hTT : ∀ p ∈ T, p ∈ T') (hneT : ∀ p ∈ T, p.1 ≠ I) (hDI : @Ne Nat D I) (hlI : @Ne Nat l I) (hD : @Ne Nat D l)
    (hz : z = y ++ ⟨#[c]⟩) (hT : ∀ p ∈ T, p.1 ≠ l) (hR : RunsIn T ws pre) (hRl : (pre ++ [(last, y.cps.toList)]).length ≤ i) (hRo : ∀ r ∈ pre ++ [(last, y.cps.toList)], RunOk i r)
    (hsc : scan (pre ++ [(last, y.cps.toList)]) last (c :: x.cps.toList.drop (i + 1)) = scan [] 0 x.cps.toList)
    (hk : kd c = last) (hk0 : last ≠ 0) (hok : okc c = true) (h1 : m (Str.ofString "runs") = some (.ref l)) (h2 : m (Str.ofString "last") = some (.str (kstr last) tl)) :
    TurnEnd h₀ L s I o (RNJ x l (i + 1)) Q .next { s with heap := h, toks := tk } :=
  turn_go FF (rnj_same hz hT hR hRl hRo hsc hk hk0 hok hD h1 h2) (pickT NN (.tail _ (.head _)) (.tail _ (.tail _ (.head _))) (.head _) fun p hp => .tail _ (.tail _ (.tail _ (hTT p hp))))
    (List.forall_mem_cons.mpr ⟨hlI, List.forall_mem_cons.mpr ⟨hDI, hneT⟩⟩)
theorem kd0 {c : Nat} (h : false = !Re.isCut c) : kd c = 0 := kd_cut.mpr (by simpa using h.symm)
theorem kd1 {c : Nat} (h : false = !Re.isFig c) : kd c = 1 := kd_fig.mpr (by simpa using h.symm)
theorem kd2 {c : Nat} (h : true = !Re.isCut c) (k : true = !Re.isFig c) : kd c = 2 := kd_sgn.mpr ⟨by simpa using h.symm, by simpa using k.symm⟩
theorem last_ne1 {last : Nat} (h : (Str.ofString "figures" == kstr last) = false) : last ≠ 1 := by
  rintro rfl
  rw [show (Str.ofString "figures" == kstr 1) = true by decide +kernel] at h
  cases h
theorem last_ne2 {last : Nat} (h : (Str.ofString "signs" == kstr last) = false) : last ≠ 2 := by
  rintro rfl
  rw [show (Str.ofString "signs" == kstr 2) = true by decide +kernel] at h
  cases h
theorem last_is1 {last : Nat} (hl : last ≤ 2) (h : (Str.ofString "figures" == kstr last) = true) : last = 1 := (kstr_inj (a := 1) (by omega) hl h).symm
theorem last_is2 {last : Nat} (hl : last ≤ 2) (h : (Str.ofString "signs" == kstr last) = true) : last = 2 := (kstr_inj (a := 2) (by omega) hl h).symm
theorem sc_ne : ¬ ((Str.ofString "signs" == kstr 0) = true) := by decide +kernel
theorem fc_ne : ¬ ((Str.ofString "figures" == kstr 0) = true) := by decide +kernel
local macro_rules | `(tactic| walk_at "ite") => `(tactic| first | with_reducible refine ite_neg sc_ne ?_ | with_reducible refine ite_neg fc_ne ?_)
local macro_rules | `(tactic| k_all) => `(tactic| assumption)
local macro_rules | `(tactic| walk_at "subscriptTail") => `(tactic| (k_here; (with_reducible show wpAny _ _ (subscriptTail _ _ (Value.ref _) (Value.int (-1) _)) _ _ _); k_dflt (refine' item_last ?k1 ?k2 ?_ ?k3; (case k1 => k_asm); (case k2 => k_mem); (case k3 => with_unfolding_all rfl); k_whole)))
local macro_rules | `(tactic| walk_at "setItem ref int") => `(tactic| (k_here; (with_reducible show wpAny _ _ (setItem (Value.ref _) (Value.int (-1) _) _) _ _ _); k_dflt (refine' set_last ?k1 ?k2 ?k3 ?_; (case k1 => k_asm); (case k2 => k_asm); (case k3 => k_upd); k_whole); intro h' F' N'; (try k_sweep)))
local macro_rules | `(tactic| walk_at "call builtin:list.append") => `(tactic| (k_here; (with_reducible show wpAny _ _ (call (Value.builtin _) [Value.ref _, _]) _ _ _); k_dflt (refine' append_K ?k1 ?k2 ?k3 ?_ ?z; (case k1 => k_asm); (case k2 => k_asm); (case k3 => k_upd); (case z => assumption); k_whole); intro h' F' N'; (try k_sweep)))
local macro_rules | `(tactic| walk_at "binaryOp Add str str") => `(tactic| (k_here; k_dflt (refine' add_str ?_ ?k3; (case k3 => assumption); k_whole); intro t' tk'))
theorem runs_ok : ∀ (w : World) (mg mb : Str → Option Value) (p : Program) (loose : List Str) (s : Shared) (A : Around) (x : Str) (t : Tok) (Q : Value → Shared → Prop) (E : Value → Shared → Prop),
   (MTop.hd.heap_39 w.params).In s.heap → TopRead p loose mg mb s.heap → A.handled = none → A.depth + 20 < recursionLimit → OkText 66 x →
   (∀ h' tk l vs n, (∀ b o, s.heap.get? b = some o → h'.get? b = some o) → h'.get? l = some (W.listOf vs.toArray n) → s.heap.get? l = none → (∃ T, RgIn T vs ((Re.pieces x.cps).filterMap cmpIt) ∧ ∀ p ∈ T, h'.get? p.1 = some p.2 ∧ s.heap.get? p.1 = none) → vs.length ≤ 66 → Q (.ref l) { s with heap := h', toks := tk }) →
   wpC (model PySem.Challenge.rw_mj0058_01.prog w) A (call (.ref 91) [.str x t] []) Q E s := by
  k_fill
  intro w mg mb p loose s A x t Q E KX T hh hd hx hQ
  refine' enterC (binds := [(Str.ofString "text", .str x t)]) ?k1 ?k2 ?k3 ?k6 ?k7 ?k9 ?kB ?_ ?c5 ?c2 ?c3 ?c4
  walk_at "m_enter"
  intro h₁ F N
  refine execsC_cons (wpC_of ?_)
  walk_at "m_go"
  dsimp only
  refine execsC_cons (wpC_of ?_)
  walk_at "m_go"
  dsimp only
  refine execsC_cons (wpC_of ?_)
  refine For_invV s.heap rfl rfl ?_
  walk_at "m_go"
  (with_reducible rename Fr _ _ _ _ => F₂)
  (with_reducible rename News _ _ _ _ => N₂)
  rename_i lr _ _ _ _
  refine iter_strN (RNJ x _) hh (ok_ascii hx) F₂ N₂ ⟨[], 0, [], 0, [], _, rfl, by simp, rfl, rfl, by omega, fun q => absurd rfl q, .nil, by simp, by simp, rfl⟩ ?_ ?_
  · rintro I i c uc m₁ news₁ h tk o hlt hLI hc ⟨R, last, vs, n, T, tl, rfl, hTl, hm1, hm2, hlast, hlr, hR, hRl, hRo, hsc⟩ hne F₃ N₃
    have F₄ := fr_under (fr_under F₃ hm1) (b := Str.ofString "last") (u := .str (kstr last) tl) (by rw [if_neg (by decide +kernel)]; exact hm2)
    have hcs : x.cps.toList[i]? = some c := by rw [Array.getElem?_toList]; exact hc
    have hi66 : i < 66 := by
      have h1 := (Array.getElem?_eq_some_iff.mp hc).1
      have := hx.1
      omega
    have hdrop : x.cps.toList.drop i = c :: x.cps.toList.drop (i + 1) := by
      obtain ⟨h1, h2⟩ := List.getElem?_eq_some_iff.mp hcs
      rw [List.drop_eq_getElem_cons h1, h2]
    have hok : okc c = true := by
      obtain ⟨h1, h2⟩ := Array.getElem?_eq_some_iff.mp hc
      rw [← h2]
      exact Array.all_eq_true.mp hx.2 i h1
    have hc127 : c < 127 := by
      unfold okc at hok
      simp only [Bool.and_eq_true, decide_eq_true_eq] at hok
      exact hok.2
    have oc := occ_cut c hc127
    have of := occ_fig c hc127
    rw [hdrop] at hsc
    have hIl : @Ne Nat I lr := fun q => hne _ (.head _) q.symm
    have hlI : @LT.lt Nat _ lr I := hlt _ (.head _)
    have hvl : vs.length = R.length := hR.length
    have hneT : ∀ p ∈ T, p.1 ≠ I := fun p hp => hne p (.tail _ hp)
    clear F₃ F₂ N₂ hlt hLI
    rcases Nat.eq_zero_or_pos last with h0 | h0
    · subst h0
      have hsz : vs.toArray.size ≤ sizeLine := by show _ ≤ 2 ^ 24; simp; omega
      walk_at "m_go"
      all_goals (rename (PySem.Builtin.Str.occurrences (Str.ofString "._+-") _ _ _ _).isEmpty = _ => q1)
      all_goals rw [q1] at oc
      all_goals (rename (PySem.Builtin.Str.occurrences (Str.ofString "0123456789") _ _ _ _).isEmpty = _ => q2)
      all_goals try rw [q2] at of
      all_goals (with_reducible rename Fr _ _ _ _ => FF)
      all_goals (with_reducible rename News _ _ _ _ => NN)
      all_goals first
        | exact turn_go FF (rnj_cut hTl hR hRl hRo hsc (kd0 oc) rfl rfl) NN hne
        | exact fin_new (k := 1) FF NN (fun p hp => hp) hneT (by k_ne) (by k_ne) (by k_ne) rfl hTl hR hRl hRo hsc (kd1 of) (by decide) (by decide) hok rfl rfl
        | exact fin_new (k := 2) FF NN (fun p hp => hp) hneT (by k_ne) (by k_ne) (by k_ne) rfl hTl hR hRl hRo hsc (kd2 oc of) (by decide) (by decide) hok rfl rfl
    · obtain ⟨pre, tt, rfl⟩ := hlr (by omega)
      obtain ⟨ws, a, y, ta, ub, rfl, hws, ham, rfl⟩ := hR.last rfl
      have hal : @Ne Nat a lr := hTl _ ham
      have hsz : (ws ++ [Value.ref a]).toArray.size ≤ sizeLine := by show _ ≤ 2 ^ 24; simp at hvl hRl ⊢; omega
      have hadd : y.length + (⟨#[c]⟩ : Str).length ≤ sizeLine := by
        have z : y.cps.toList.length ≤ i := (hRo (last, y.cps.toList) (List.mem_append_right _ (.head _))).2.1
        rw [Array.length_toList] at z
        show y.cps.size + 1 ≤ 2 ^ 24
        omega
      have N₄ : News s.heap s.heap.objs.size h ((I, o) :: (lr, W.listOf (ws ++ [Value.ref a]).toArray n) :: (a, { cls := .type "tuple", data := .seq #[.str (kstr last) ta, .str y ub] }) :: T) :=
        pickT N₃ (.head _) (.tail _ (.head _)) (.tail _ (.tail _ ham)) fun p hp => .tail _ (.tail _ hp)
      clear N₃
      walk_at "m_go"
      all_goals (rename (PySem.Builtin.Str.occurrences (Str.ofString "._+-") _ _ _ _).isEmpty = _ => q1)
      all_goals rw [q1] at oc
      all_goals (rename (PySem.Builtin.Str.occurrences (Str.ofString "0123456789") _ _ _ _).isEmpty = _ => q2)
      all_goals try rw [q2] at of
      all_goals (with_reducible rename Fr _ _ _ _ => FF)
      all_goals (with_reducible rename News _ _ _ _ => NN)
      all_goals first
        | exact turn_go FF (rnj_cut hTl hR hRl hRo hsc (kd0 oc) rfl rfl) (pick2T NN (by k_mem) (by k_mem) fun p hp => .tail _ (.tail _ (.tail _ hp))) hne
        | exact fin_new (k := 1) FF NN (fun p hp => .tail _ hp) hneT (by k_ne) (by k_ne) (by k_ne) rfl hTl hR hRl hRo hsc (kd1 of) (by decide) (last_ne1 (by assumption)) hok rfl rfl
        | exact fin_new (k := 2) FF NN (fun p hp => .tail _ hp) hneT (by k_ne) (by k_ne) (by k_ne) rfl hTl hR hRl hRo hsc (kd2 oc of) (by decide) (last_ne2 (by assumption)) hok rfl rfl
        | (have hl1 : last = 1 := last_is1 hlast (by assumption)
           subst hl1
           exact fin_same (last := 1) FF NN (fun p hp => .tail _ hp) hneT (by k_ne) (by k_ne) (by k_ne) rfl hTl hws hRl hRo hsc (kd1 of) (by decide) hok rfl rfl)
        | (have hl2 : last = 2 := last_is2 hlast (by assumption)
           subst hl2
           exact fin_same (last := 2) FF NN (fun p hp => .tail _ hp) hneT (by k_ne) (by k_ne) (by k_ne) rfl hTl hws hRl hRo hsc (kd2 oc of) (by decide) hok rfl rfl)
  · rintro m₁ news₁ h tk ⟨R, last, vs, n, T₁, tl, rfl, hTl, hm1, hm2, hlast, hlr, hR, hRl, hRo, hsc⟩ F₃ N₃
    have F₄ := fr_known F₃ hm1
    dsimp only
    refine execsC_cons (ReturnC ?_)
    refine lc_start (by decide) (by decide) rfl (by decide) ?_
    clear F₃ F₂ N₂
    walk1
    refine ⟨lr, vs.toArray, rfl, News.isList N₃ (.head _), fun h₂ tk₂ hns hold hit hD => ?_⟩
    dsimp only at hns hold hit hD ⊢
    have KX' := KX.keeps F₄.keep
    have T' := T.keeps F₄.keep
    have hRs : R = scan [] 0 x.cps.toList := by
      rw [← hsc, List.drop_of_length_le (by simp)]; rfl
    have hvl : vs.length = R.length := hR.length
    have hx66 := hx.1
    have nb : ∀ b, h.get? b = none → s.heap.get? b = none := fun b e => F₄.noneBack e
    have kp := F₄.keep
    have out : ∀ b, @LE.le Nat _ h.objs.size b → h.get? b = none := fun b e => Heap.get?_none_of_le e
    have ht : ∀ (i : Nat) (v : Value), vs.toArray[i]? = some v → ∃ T x y, v = .ref T ∧ h.IsTuple T #[x, y] := by
      intro i v hv
      obtain ⟨a, k, y, t, u, rfl, hm, _⟩ := hR.get (by simpa using hv)
      exact ⟨a, _, _, rfl, ⟨_, (N₃ _ (.tail _ hm)).1, rfl, _, rfl⟩⟩
    have Fb : Fr h (h.objs.size + 2) h₂ (fun _ => none) := ⟨hns, hold, by omega⟩
    have Nb : News h (h.objs.size + 2) h₂ [(h.objs.size + 1, W.listOf #[] 0)] := by
      intro p hp
      rw [List.mem_singleton.mp hp]
      exact ⟨hD, Nat.ne_of_lt (Nat.lt_succ_self _), out _ (Nat.le_succ _)⟩
    have hl' : h.IsList lr vs.toArray := News.isList N₃ (.head _)
    have hRT : ∀ (i : Nat) (v : Value), vs[i]? = some v → ∃ a k y t u, v = .ref a ∧ h.get? a = some (tup2 k y t u) ∧ R[i]? = some (k, y.cps.toList) := by
      intro i v hv
      obtain ⟨a, k, y, t, u, e1, hm, e2⟩ := hR.get hv
      exact ⟨a, k, y, t, u, e1, (N₃ _ (.tail _ hm)).1, e2⟩
    clear F₄ N₃ KX T hm1 hm2 hsc hR
    refine compC_pairs (h₀ := h) (s := { s with heap := h₂, toks := tk₂ }) (l := lr) (I := h.objs.size) (D := h.objs.size + 1) (items := vs.toArray) (m₀ := fun _ => none) (news := []) (CRJ R h.objs.size) rfl rfl rfl hh hl' ht (out _ (Nat.le_refl _)) (show @Ne Nat h.objs.size (h.objs.size + 2) by omega) (show @Ne Nat h.objs.size (h.objs.size + 1) by omega) (by simp; omega) hit (by simp) Fb Nb ⟨.nil, by simp⟩ ?turn ?done
    case turn =>
      intro i T₂ x₁ x₂ m₃ ws n₃ news₃ h₃ tk₃ o hi hT₂ hJ F₅ N₅ hI₅ hD₅
      obtain ⟨a, k, y, t₂, u₂, e1, hg, e2⟩ := hRT i _ (by simpa using hi)
      cases e1
      obtain ⟨rfl, rfl⟩ := tup2_is hg hT₂
      have hro := hRo _ (List.mem_of_getElem? e2)
      have hyo : OkText 66 y := by
        refine ⟨?_, ?_⟩
        · have := hro.2.1
          simp only [Array.length_toList] at this
          omega
        · rw [Array.all_eq_true]
          intro j hj
          exact (hro.2.2 _ (by simp)).2
      have htake : (R.take (i + 1)).map itOf = (R.take i).map itOf ++ [itOf (k, y.cps.toList)] := by
        rw [List.take_add_one, e2, List.map_append]; rfl
      have KX₃ := KX'.keeps F₅.keep
      have T₃ := T'.keeps F₅.keep
      obtain ⟨o86, fd86, h86, hd86⟩ := at86 w
      have fin : ∀ h' tk' r a b c, (∀ b o, h₃.get? b = some o → h'.get? b = some o) → h'.get? r = some (rungObj (itOf (k, y.cps.toList)) a b c) → h₃.get? r = none →
          ∃ h'' tk'' m' news', ({ s with heap := h', toks := tk' } : Shared) = { s with heap := h'', toks := tk'' } ∧ Fr h (h.objs.size + 2) h'' m' ∧ News h (h.objs.size + 2) h'' ((h.objs.size, o) :: (h.objs.size + 1, W.listOf ws.toArray n₃) :: news') ∧ (∀ p ∈ news', p.1 ≠ h.objs.size ∧ p.1 ≠ h.objs.size + 1) ∧ CRJ R h.objs.size (i + 1) (ws ++ [.ref r]) news' := by
        intro h' tk' r a b c hk hr hn
        have hne : ∀ p ∈ (r, rungObj (itOf (k, y.cps.toList)) a b c) :: news₃, p.1 ≠ h.objs.size ∧ p.1 ≠ h.objs.size + 1 := by
          intro p hp
          rcases List.mem_cons.mp hp with rfl | hp
          · exact ⟨new_ne N₅ (.head _) hn, new_ne N₅ (.tail _ (.head _)) hn⟩
          · exact hJ.2 p hp
        refine ⟨h', tk', _, (r, rungObj (itOf (k, y.cps.toList)) a b c) :: news₃, rfl, grow_fr F₅ hk, ?_, hne, ?_, hne⟩
        · intro p hp
          rcases List.mem_cons.mp hp with rfl | hp
          · exact grow_news N₅ hk _ (.head _)
          rcases List.mem_cons.mp hp with rfl | hp
          · exact grow_news N₅ hk _ (.tail _ (.head _))
          rcases List.mem_cons.mp hp with rfl | hp
          · exact grow_new F₅ hr hn
          · exact grow_news N₅ hk _ (.tail _ (.tail _ hp))
        · rw [htake]
          exact RgIn.snoc (hJ.1.mono fun p hp => .tail _ hp) (.head _)
      rcases hro.1 with hk | hk
      · dsimp only at hk
        subst hk
        refine CallC ?_
        walk_at "m_go"
        refine callWithC_def1 (o := o86) (fd := fd86) (show ¬ (2 + 0 : Nat) > 30 by omega) ?_
        walk_at "m_go"
        all_goals try (first | exact (0 : Addr) | exact Str.ofString "" | exact Value.none | exact ([] : List (Str × Addr)))
        refine ⟨⟨KX₃ _ _ h86, hd86⟩, wpC_of ?_⟩
        refine rung_fig w mg mb p loose _ _ y u₂ t₂ _ _ KX₃ T₃ hh (by show A.depth + 1 + 10 < _; omega) hyo (fun c hc => kd_fig.mp (hro.2.2 c hc).1) fun h' tk' r a b c hk hr hn => ?_
        exact fin h' tk' r a b c hk (by rw [itOf_fig]; exact hr) hn
      · dsimp only at hk
        subst hk
        refine CallC ?_
        walk_at "m_go"
        refine callWithC_def1 (o := o86) (fd := fd86) (show ¬ (2 + 0 : Nat) > 30 by omega) ?_
        walk_at "m_go"
        all_goals try (first | exact (0 : Addr) | exact Str.ofString "" | exact Value.none | exact ([] : List (Str × Addr)))
        refine ⟨⟨KX₃ _ _ h86, hd86⟩, wpC_of ?_⟩
        refine rung_sgn w mg mb p loose _ _ y u₂ t₂ _ _ KX₃ T₃ hh (by show A.depth + 1 + 10 < _; omega) hyo fun h' tk' r a b c hk hr hn => ?_
        exact fin h' tk' r a b c hk (by rw [itOf_sgn]; exact hr) hn
    case done =>
      intro m₃ ws n₃ news₃ h₃ tk₃ hwl hJ F₅ N₅
      refine ⟨m₃, F₅.ns, fun h' hs' => ?_⟩
      have N₆ : News h (h.objs.size + 2) h' ((h.objs.size + 1, W.listOf ws.toArray n₃) :: news₃) := fun p hp => ⟨(hs'.2 p.1 (N₅ p hp).2.1).trans (N₅ p hp).1, (N₅ p hp).2⟩
      refine hQ h' tk₃ (h.objs.size + 1) ws n₃ (fun b o e => ?_) (N₆ _ (.head _)).1 (nb _ (N₆ _ (.head _)).2.2) ?_ ?_
      · have e1 := kp b o e
        exact (hs'.2 b (Nat.ne_of_lt (Nat.lt_succ_of_lt (Nat.lt_succ_of_lt (Heap.lt_size e1))))).trans (F₅.keep b o e1)
      · have z := hJ.1
        rw [List.take_of_length_le (by simp [hvl]), hRs, scan_all] at z
        exact ⟨news₃, z, fun p hp => ⟨(N₆ p (.tail _ hp)).1, nb _ (N₆ p (.tail _ hp)).2.2⟩⟩
      · simp at hwl
        omega
end Mine

end

/- part O1 -/
section
set_option maxRecDepth 100000
namespace Mine
open PySem PySem.SeqAt PySem.W PyProof.Rows
open AutoSeq1 (wpAny_loadPart')
open MeetsSeq MeetsSeq2 MeetsSeq3
/-- one comparison's answer -/
def CmpAt (op : CmpOp) (A : Around) (s : Shared) (y x : Value) (b : Bool) : Prop :=
  ∀ (prog : Program) (w : World) (E : Value → Shared → Prop) (Q : Value → Shared → Prop), Q (.bool b) s → wpAny (model prog w) A (richCompare op y x) Q E s
/-- the first place that differs decides -/
def fc (e d : Nat → Bool) (sz : Bool) : Nat → Nat → Bool
  | 0, _ => sz
  | k + 1, i => if e i = true then fc e d sz k (i + 1) else d i

theorem lt_loopAt (l b : Addr) (items items2 : Array Value) (n n2 : Nat) (dd dd2 : Option Addr) (sl sl2 : Array (Option Value)) (e d : Nat → Bool) (k : Nat) :
    ∀ i : Nat, min items.size items2.size - i = k → Meets (Builtin.«list.__eq__.loop» ⟨[.ref l, .ref b, rawInt i, rawInt 0], []⟩)
      (fun A R s => s.heap.get? l = some { cls := .type "list", dict := dd, data := .seq items n, slots := sl } ∧ s.heap.get? b = some { cls := .type "list", dict := dd2, data := .seq items2 n2, slots := sl2 } ∧
        (∀ j (h1 : j < items.size) (h2 : j < items2.size), EqAt A.in1 s items[j] items2[j] (e j)) ∧ (∀ j, i ≤ j → ∀ (h1 : j < items.size) (h2 : j < items2.size), (∀ q, i ≤ q → q < j → e q = true) → e j = false → CmpAt .Lt A.in1 s items[j] items2[j] (d j)) ∧
        R (.ok (.ret (.bool (fc e d (decide (items.size < items2.size)) k i)))) s) := by
  induction k with
  | zero =>
    intro i hk prog w A R s h
    obtain ⟨hp, g, dr, tk, os⟩ := s; obtain ⟨hl, hb, he, hd, h⟩ := h
    wp_walk using wpAny_loadPart' hl, wpAny_loadPart' hb
    have hor : items[((i : Nat) : Int).toNat]? = none ∨ items2[((i : Nat) : Int).toNat]? = none := by
      rcases Nat.lt_or_ge i items.size with q | q
      · exact .inr (by simp; omega)
      · exact .inl (by simp; omega)
    have fin : R (.ok (.ret (.bool (decide (items.size < items2.size))))) ⟨hp, g, dr, tk, os⟩ := h
    rcases hor with q | q
    · rw [q]
      wp_walk using wpAny_loadPart' hl, wpAny_loadPart' hb
      exact fin
    · cases q1 : items[((i : Nat) : Int).toNat]? with
      | none =>
        wp_walk using wpAny_loadPart' hl, wpAny_loadPart' hb
        exact fin
      | some y =>
        rw [q]
        wp_walk using wpAny_loadPart' hl, wpAny_loadPart' hb
        exact fin
  | succ k ih =>
    intro i hk prog w A R s h
    obtain ⟨hp, g, dr, tk, os⟩ := s; obtain ⟨hl, hb, he, hd, h⟩ := h
    wp_walk using wpAny_loadPart' hl, wpAny_loadPart' hb
    have hlt : i < items.size := by omega
    have hlt2 : i < items2.size := by omega
    have hi1 : items[((i : Nat) : Int).toNat]? = some items[i] := by simp [hlt]
    have hi2 : items2[((i : Nat) : Int).toNat]? = some items2[i] := by simp [hlt2]
    have hc : ((i : Int) + 1) = ((i + 1 : Nat) : Int) := by push_cast; rfl
    rw [hi1, hi2]
    refine wpAny_bind (he i hlt hlt2 prog w _ _ ?_)
    cases hb' : e i with
    | true =>
      rw [fc, hb', if_pos rfl] at h
      wp_walk
      rw [hc]
      exact ⟨plainId_quiet plain_eq_loop _, codeAny_builtin entry_eq_loop (by
        rw [Around.under_plainId plain_eq_loop _]
        exact ih (i + 1) (by omega) prog w A R _ ⟨hl, hb, he, fun j hj h1 h2 hq hj' => hd j (by omega) h1 h2 (fun q q1 q2 => by
          by_cases e1 : q = i
          · rw [e1]; exact hb'
          · exact hq q (by omega) q2) hj', h⟩)⟩
    | false =>
      rw [fc, hb', if_neg (by decide)] at h
      wp_walk using wpAny_loadPart' hl, wpAny_loadPart' hb
      rw [hi1, hi2]
      refine wpAny_bind (hd i (Nat.le_refl _) hlt hlt2 (fun q q1 q2 => by omega) hb' prog w _ _ ?_)
      exact wpAny_pure h

theorem list_ltAt (l b : Addr) (items items2 : Array Value) (n n2 : Nat) (dd dd2 : Option Addr) (sl sl2 : Array (Option Value)) (e d : Nat → Bool) :
    Meets (Builtin.«list.__lt__» ⟨[.ref l, .ref b], []⟩)
      (fun A R s => s.heap.get? l = some { cls := .type "list", dict := dd, data := .seq items n, slots := sl } ∧ s.heap.get? b = some { cls := .type "list", dict := dd2, data := .seq items2 n2, slots := sl2 } ∧
        (∀ j (h1 : j < items.size) (h2 : j < items2.size), EqAt A.in1 s items[j] items2[j] (e j)) ∧ (∀ j, 0 ≤ j → ∀ (h1 : j < items.size) (h2 : j < items2.size), (∀ q, 0 ≤ q → q < j → e q = true) → e j = false → CmpAt .Lt A.in1 s items[j] items2[j] (d j)) ∧
        R (.ok (.ret (.bool (fc e d (decide (items.size < items2.size)) (min items.size items2.size) 0)))) s) := by
  intro prog w A R s h
  obtain ⟨hp, g, dr, tk, os⟩ := s; obtain ⟨hl, hb, he, hd, h⟩ := h
  have f3 := AutoSeq1.sub_list_list
  wp_walk using wpAny_loadPart' hl, wpAny_loadPart' hb
  exact ⟨plainId_quiet plain_eq_loop _, codeAny_builtin entry_eq_loop (by
    rw [Around.under_plainId plain_eq_loop _]
    exact lt_loopAt l b items items2 n n2 dd dd2 sl sl2 e d _ 0 rfl prog w A R _ ⟨hl, hb, he, hd, by simpa using h⟩)⟩

theorem CmpAt.lists_lt {A : Around} {s : Shared} {l b : Addr} {items items2 : Array Value} {e d : Nat → Bool} (hl : s.heap.IsList l items) (hb : s.heap.IsList b items2) (hu : A.units < cLine)
    (he : ∀ j (h1 : j < items.size) (h2 : j < items2.size), EqAt A.in1 s items[j] items2[j] (e j))
    (hd : ∀ j, 0 ≤ j → ∀ (h1 : j < items.size) (h2 : j < items2.size), (∀ q, 0 ≤ q → q < j → e q = true) → e j = false → CmpAt .Lt A.in1 s items[j] items2[j] (d j)) :
    CmpAt .Lt A s (.ref l) (.ref b) (fc e d (decide (items.size < items2.size)) (min items.size items2.size) 0) := fun prog w E Q h => by
  obtain ⟨⟨cls, dd, data, sl⟩, ho, hc, n, hd'⟩ := id hl
  obtain ⟨⟨cls2, dd2, data2, sl2⟩, ho2, hc2, n2, hd2⟩ := id hb
  simp only at hc hd' hc2 hd2
  subst hc hd' hc2 hd2
  exact richCompare_meets_room (op := .Lt) ⟨_, ho, rfl⟩ ⟨_, ho2, rfl⟩ F.slot_list_lt F.entry_list_lt (F.args_list_lt_2 _ _) (list_ltAt l b items items2 n n2 dd dd2 sl sl2 e d)
    ⟨ho, ho2, he, hd, show Value.bool _ ≠ Value.notImplemented ∧ Q (.bool _) s from ⟨(fun x => nomatch x), h⟩⟩ hu

theorem gt_loopAt (l b : Addr) (items items2 : Array Value) (n n2 : Nat) (dd dd2 : Option Addr) (sl sl2 : Array (Option Value)) (e d : Nat → Bool) (k : Nat) :
    ∀ i : Nat, min items.size items2.size - i = k → Meets (Builtin.«list.__eq__.loop» ⟨[.ref l, .ref b, rawInt i, rawInt 4], []⟩)
      (fun A R s => s.heap.get? l = some { cls := .type "list", dict := dd, data := .seq items n, slots := sl } ∧ s.heap.get? b = some { cls := .type "list", dict := dd2, data := .seq items2 n2, slots := sl2 } ∧
        (∀ j (h1 : j < items.size) (h2 : j < items2.size), EqAt A.in1 s items[j] items2[j] (e j)) ∧ (∀ j, i ≤ j → ∀ (h1 : j < items.size) (h2 : j < items2.size), (∀ q, i ≤ q → q < j → e q = true) → e j = false → CmpAt .Gt A.in1 s items[j] items2[j] (d j)) ∧
        R (.ok (.ret (.bool (fc e d (decide (items.size > items2.size)) k i)))) s) := by
  induction k with
  | zero =>
    intro i hk prog w A R s h
    obtain ⟨hp, g, dr, tk, os⟩ := s; obtain ⟨hl, hb, he, hd, h⟩ := h
    wp_walk using wpAny_loadPart' hl, wpAny_loadPart' hb
    have hor : items[((i : Nat) : Int).toNat]? = none ∨ items2[((i : Nat) : Int).toNat]? = none := by
      rcases Nat.lt_or_ge i items.size with q | q
      · exact .inr (by simp; omega)
      · exact .inl (by simp; omega)
    have fin : R (.ok (.ret (.bool (decide (items.size > items2.size))))) ⟨hp, g, dr, tk, os⟩ := h
    rcases hor with q | q
    · rw [q]
      wp_walk using wpAny_loadPart' hl, wpAny_loadPart' hb
      exact fin
    · cases q1 : items[((i : Nat) : Int).toNat]? with
      | none =>
        wp_walk using wpAny_loadPart' hl, wpAny_loadPart' hb
        exact fin
      | some y =>
        rw [q]
        wp_walk using wpAny_loadPart' hl, wpAny_loadPart' hb
        exact fin
  | succ k ih =>
    intro i hk prog w A R s h
    obtain ⟨hp, g, dr, tk, os⟩ := s; obtain ⟨hl, hb, he, hd, h⟩ := h
    wp_walk using wpAny_loadPart' hl, wpAny_loadPart' hb
    have hlt : i < items.size := by omega
    have hlt2 : i < items2.size := by omega
    have hi1 : items[((i : Nat) : Int).toNat]? = some items[i] := by simp [hlt]
    have hi2 : items2[((i : Nat) : Int).toNat]? = some items2[i] := by simp [hlt2]
    have hc : ((i : Int) + 1) = ((i + 1 : Nat) : Int) := by push_cast; rfl
    rw [hi1, hi2]
    refine wpAny_bind (he i hlt hlt2 prog w _ _ ?_)
    cases hb' : e i with
    | true =>
      rw [fc, hb', if_pos rfl] at h
      wp_walk
      rw [hc]
      exact ⟨plainId_quiet plain_eq_loop _, codeAny_builtin entry_eq_loop (by
        rw [Around.under_plainId plain_eq_loop _]
        exact ih (i + 1) (by omega) prog w A R _ ⟨hl, hb, he, fun j hj h1 h2 hq hj' => hd j (by omega) h1 h2 (fun q q1 q2 => by
          by_cases e1 : q = i
          · rw [e1]; exact hb'
          · exact hq q (by omega) q2) hj', h⟩)⟩
    | false =>
      rw [fc, hb', if_neg (by decide)] at h
      wp_walk using wpAny_loadPart' hl, wpAny_loadPart' hb
      rw [hi1, hi2]
      refine wpAny_bind (hd i (Nat.le_refl _) hlt hlt2 (fun q q1 q2 => by omega) hb' prog w _ _ ?_)
      exact wpAny_pure h

theorem list_gtAt (l b : Addr) (items items2 : Array Value) (n n2 : Nat) (dd dd2 : Option Addr) (sl sl2 : Array (Option Value)) (e d : Nat → Bool) :
    Meets (Builtin.«list.__gt__» ⟨[.ref l, .ref b], []⟩)
      (fun A R s => s.heap.get? l = some { cls := .type "list", dict := dd, data := .seq items n, slots := sl } ∧ s.heap.get? b = some { cls := .type "list", dict := dd2, data := .seq items2 n2, slots := sl2 } ∧
        (∀ j (h1 : j < items.size) (h2 : j < items2.size), EqAt A.in1 s items[j] items2[j] (e j)) ∧ (∀ j, 0 ≤ j → ∀ (h1 : j < items.size) (h2 : j < items2.size), (∀ q, 0 ≤ q → q < j → e q = true) → e j = false → CmpAt .Gt A.in1 s items[j] items2[j] (d j)) ∧
        R (.ok (.ret (.bool (fc e d (decide (items.size > items2.size)) (min items.size items2.size) 0)))) s) := by
  intro prog w A R s h
  obtain ⟨hp, g, dr, tk, os⟩ := s; obtain ⟨hl, hb, he, hd, h⟩ := h
  have f3 := AutoSeq1.sub_list_list
  wp_walk using wpAny_loadPart' hl, wpAny_loadPart' hb
  exact ⟨plainId_quiet plain_eq_loop _, codeAny_builtin entry_eq_loop (by
    rw [Around.under_plainId plain_eq_loop _]
    exact gt_loopAt l b items items2 n n2 dd dd2 sl sl2 e d _ 0 rfl prog w A R _ ⟨hl, hb, he, hd, by simpa using h⟩)⟩

theorem CmpAt.lists_gt {A : Around} {s : Shared} {l b : Addr} {items items2 : Array Value} {e d : Nat → Bool} (hl : s.heap.IsList l items) (hb : s.heap.IsList b items2) (hu : A.units < cLine)
    (he : ∀ j (h1 : j < items.size) (h2 : j < items2.size), EqAt A.in1 s items[j] items2[j] (e j))
    (hd : ∀ j, 0 ≤ j → ∀ (h1 : j < items.size) (h2 : j < items2.size), (∀ q, 0 ≤ q → q < j → e q = true) → e j = false → CmpAt .Gt A.in1 s items[j] items2[j] (d j)) :
    CmpAt .Gt A s (.ref l) (.ref b) (fc e d (decide (items.size > items2.size)) (min items.size items2.size) 0) := fun prog w E Q h => by
  obtain ⟨⟨cls, dd, data, sl⟩, ho, hc, n, hd'⟩ := id hl
  obtain ⟨⟨cls2, dd2, data2, sl2⟩, ho2, hc2, n2, hd2⟩ := id hb
  simp only at hc hd' hc2 hd2
  subst hc hd' hc2 hd2
  exact richCompare_meets_room (op := .Gt) ⟨_, ho, rfl⟩ ⟨_, ho2, rfl⟩ F.slot_list_gt F.entry_list_gt (F.args_list_gt_2 _ _) (list_gtAt l b items items2 n n2 dd dd2 sl sl2 e d)
    ⟨ho, ho2, he, hd, show Value.bool _ ≠ Value.notImplemented ∧ Q (.bool _) s from ⟨(fun x => nomatch x), h⟩⟩ hu

end Mine

end

/- part O2 -/
section
set_option maxRecDepth 100000
namespace Mine
open PySem PySem.SeqAt PySem.W PyProof.Rows
open AutoSeq1 (wpAny_loadPart')
open MeetsSeq MeetsSeq2 MeetsSeq3
theorem tuple_gtAt (l b : Addr) (items items2 : Array Value) (n n2 : Nat) (dd dd2 : Option Addr) (sl sl2 : Array (Option Value)) (e d : Nat → Bool) :
    Meets (Builtin.«tuple.__gt__» ⟨[.ref l, .ref b], []⟩)
      (fun A R s => s.heap.get? l = some { cls := .type "tuple", dict := dd, data := .seq items n, slots := sl } ∧ s.heap.get? b = some { cls := .type "tuple", dict := dd2, data := .seq items2 n2, slots := sl2 } ∧
        (∀ j (h1 : j < items.size) (h2 : j < items2.size), EqAt A.in1 s items[j] items2[j] (e j)) ∧
        (∀ j (h1 : j < items.size) (h2 : j < items2.size), (∀ q, q < j → e q = true) → e j = false → CmpAt .Gt A.in1 s items[j] items2[j] (d j)) ∧
        R (.ok (.ret (.bool (fc e d (decide (items.size > items2.size)) (min items.size items2.size) 0)))) s) :=
  .of_wp fun prog w A R s h => by
    obtain ⟨hp, g, dr, tk, os⟩ := s; obtain ⟨hl, hb, he, hd, h⟩ := h
    have f2 := AutoSeq1.sub_tuple_tuple
    have hZ : (items.toList.zip items2.toList).length = min items.size items2.size := by simp
    wp_walk using wpAny_loadPart' hl, wpAny_loadPart' hb, wpAny_forIn_list _ (fun rest b s' => b.1 = none ∧ s' = ⟨hp, g, dr, tk, os⟩ ∧ ∃ i, rest = (items.toList.zip items2.toList).drop i ∧ i ≤ min items.size items2.size ∧ (∀ q, q < i → e q = true) ∧
      R (.ok (.ret (.bool (fc e d (decide (items.size > items2.size)) (min items.size items2.size - i) i)))) ⟨hp, g, dr, tk, os⟩) _
    case turn =>
      rintro ⟨y, x⟩ rest b s' ⟨hb', rfl, i, hz, hle, hall, hR⟩
      have hlt : i < (items.toList.zip items2.toList).length := by
        rcases Nat.lt_or_ge i (items.toList.zip items2.toList).length with h' | h'
        · exact h'
        · rw [List.drop_of_length_le h'] at hz; cases hz
      have hm : i < min items.size items2.size := hZ ▸ hlt
      have h1 : i < items.size := Nat.lt_of_lt_of_le hm (Nat.min_le_left _ _)
      have h2 : i < items2.size := Nat.lt_of_lt_of_le hm (Nat.min_le_right _ _)
      rw [List.drop_eq_getElem_cons hlt] at hz
      injection hz with hyx hrest
      have hy : y = items[i] := by have := congrArg Prod.fst hyx; simpa using this
      have hx : x = items2[i] := by have := congrArg Prod.snd hyx; simpa using this
      subst hy hx
      obtain ⟨k, hk⟩ : ∃ k, min items.size items2.size - i = k + 1 := ⟨min items.size items2.size - i - 1, by omega⟩
      rw [hk, fc] at hR
      refine wpAny_bind (he i h1 h2 prog w _ _ ?_)
      cases hy : e i with
      | true =>
        rw [hy, if_pos rfl] at hR
        wp_walk
        refine ⟨rfl, rfl, i + 1, hrest, by omega, fun q hq => ?_, ?_⟩
        · by_cases e1 : q = i
          · rw [e1]; exact hy
          · exact hall q (by omega)
        · rw [show min items.size items2.size - (i + 1) = k by omega]; exact hR
      | false =>
        rw [hy, if_neg (by decide)] at hR
        simp only [Bool.not_false, ↓reduceIte]
        refine wpAny_bind (wpAny_rule ?_)
        refine wpAny_bind (hd i h1 h2 hall hy prog w _ _ ?_)
        wp_walk
        exact ⟨_, rfl, by simpa using hR⟩
    case fin =>
      rintro ⟨b1, b2⟩ s' ⟨hb', rfl, i, hz, hle, hall, hR⟩
      simp only at hb'
      subst hb'
      have hge : min items.size items2.size ≤ i := by
        rcases Nat.lt_or_ge i (items.toList.zip items2.toList).length with h' | h'
        · rw [List.drop_eq_getElem_cons h'] at hz; cases hz
        · exact hZ ▸ h'
      rw [show min items.size items2.size - i = 0 by omega, fc] at hR
      wp_walk
      exact ⟨_, rfl, by simpa [Builtin.Tuple.tupleCompareSizes] using hR⟩
    case h =>
      exact ⟨rfl, rfl, 0, rfl, Nat.zero_le _, fun q hq => by omega, by simpa using h⟩
theorem CmpAt.tuples_gt {A : Around} {s : Shared} {l b : Addr} {items items2 : Array Value} {e d : Nat → Bool} (hl : s.heap.IsTuple l items) (hb : s.heap.IsTuple b items2) (hu : A.units < cLine)
    (he : ∀ j (h1 : j < items.size) (h2 : j < items2.size), EqAt A.in1 s items[j] items2[j] (e j))
    (hd : ∀ j (h1 : j < items.size) (h2 : j < items2.size), (∀ q, q < j → e q = true) → e j = false → CmpAt .Gt A.in1 s items[j] items2[j] (d j)) :
    CmpAt .Gt A s (.ref l) (.ref b) (fc e d (decide (items.size > items2.size)) (min items.size items2.size) 0) := fun prog w E Q h => by
  obtain ⟨⟨cls, dd, data, sl⟩, ho, hc, n, hd'⟩ := id hl
  obtain ⟨⟨cls2, dd2, data2, sl2⟩, ho2, hc2, n2, hd2⟩ := id hb
  simp only at hc hd' hc2 hd2
  subst hc hd' hc2 hd2
  exact richCompare_meets_room (op := .Gt) ⟨_, ho, rfl⟩ ⟨_, ho2, rfl⟩ F.slot_tuple_gt F.entry_tuple_gt (F.args_tuple_gt_2 _ _) (tuple_gtAt l b items items2 n n2 dd dd2 sl sl2 e d)
    ⟨ho, ho2, he, hd, show Value.bool _ ≠ Value.notImplemented ∧ Q (.bool _) s from ⟨(fun x => nomatch x), h⟩⟩ hu
end Mine

end

/- part P3 -/
section
set_option maxRecDepth 100000
namespace Mine
open PySem PySem.SeqAt PySem.W PyProof.Rows

/-- rank of one run -/
def rk : It → Nat
  | .num _ => 6
  | .sgn x => lad x
def gv (i : Nat) : Int := match i with
  | 0 => 0 | 1 => 10 | 2 => 20 | 3 => 30 | 4 => 40 | 5 => 50 | 6 => 100 | _ => 200
theorem stage_lad (x : Str) : stage x = gv (lad x) := by
  refine ten (fun x => stage x = gv (lad x)) x ?_ ?_ ?_ ?_ ?_ ?_ ?_ ?_ ?_ ?_ fun h0 h1 _ _ _ _ _ _ _ _ _ _ => ?_
  iterate 10 · decide +kernel
  rw [h0, h1]; rfl
theorem t_rk (a : It) : a.t = gv (rk a) := by
  cases a with
  | num n => rfl
  | sgn x => exact stage_lad x
theorem rk_le (a : It) : rk a < 8 := by
  cases a with
  | num n => show 6 < 8; decide
  | sgn x => have := @lad_le x; show lad x < 8; omega
theorem gv_mono : ∀ i j : Fin 8, (gv i.val < gv j.val ↔ i.val < j.val) ∧ (gv i.val = gv j.val ↔ i.val = j.val) := by decide
theorem t_lt {a b : It} : a.t < b.t ↔ rk a < rk b := by
  rw [t_rk a, t_rk b]
  exact (gv_mono ⟨rk a, rk_le a⟩ ⟨rk b, rk_le b⟩).1
theorem t_eq {a b : It} : a.t = b.t ↔ rk a = rk b := by
  rw [t_rk a, t_rk b]
  exact (gv_mono ⟨rk a, rk_le a⟩ ⟨rk b, rk_le b⟩).2

def inner : It → It → Bool
  | .num n, .num m => decide (n < m)
  | .sgn x, .sgn y => decide (x.cps.toList < y.cps.toList)
  | _, _ => false
def less (a b : It) : Bool := decide (rk a < rk b) || (decide (rk a = rk b) && inner a b)
theorem str_ne {x y : Str} (h : x ≠ y) (h' : ¬ x.cps.toList < y.cps.toList) : y.cps.toList < x.cps.toList := by
  apply Classical.byContradiction
  intro q
  have a := List.not_lt.mp h'
  have b := List.not_lt.mp q
  have e := List.le_antisymm b a
  apply h
  obtain ⟨⟨x⟩⟩ := x
  obtain ⟨⟨y⟩⟩ := y
  cases e
  rfl
theorem str_asymm {x y : Str} (h : x.cps.toList < y.cps.toList) : ¬ y.cps.toList < x.cps.toList := List.lt_asymm h
theorem less_tri {a b : It} (h : a ≠ b) : less b a = !less a b := by
  unfold less
  by_cases e : rk a = rk b
  · have e' : rk b = rk a := e.symm
    rw [decide_eq_false (p := rk b < rk a) (by omega), decide_eq_false (p := rk a < rk b) (by omega), decide_eq_true e, decide_eq_true e']
    simp only [Bool.false_or, Bool.true_and]
    cases a with
    | num n =>
      cases b with
      | num m =>
        have : n ≠ m := fun q => h (by rw [q])
        show decide (m < n) = !decide (n < m)
        by_cases q : n < m
        · rw [decide_eq_true q, decide_eq_false (by omega)]; rfl
        · rw [decide_eq_false q, decide_eq_true (by omega)]; rfl
      | sgn y => exact absurd e.symm (@lad_ne6 y)
    | sgn x =>
      cases b with
      | num m => exact absurd e (@lad_ne6 x)
      | sgn y =>
        have : x ≠ y := fun q => h (by rw [q])
        show decide (y.cps.toList < x.cps.toList) = !decide (x.cps.toList < y.cps.toList)
        by_cases q : x.cps.toList < y.cps.toList
        · rw [decide_eq_true q, decide_eq_false (str_asymm q)]; rfl
        · rw [decide_eq_false q, decide_eq_true (str_ne this q)]; rfl
  · have e' : ¬ rk b = rk a := fun q => e q.symm
    rw [decide_eq_false e, decide_eq_false e']
    simp only [Bool.false_and, Bool.or_false]
    by_cases q : rk a < rk b
    · rw [decide_eq_true q, decide_eq_false (by omega)]; rfl
    · rw [decide_eq_false q, decide_eq_true (by omega)]; rfl

/-- -1: the left one is newer; 1: the right one; 0: no runs differ -/
def cmpIts : List It → List It → Int
  | [], [] => 0
  | [], _ :: _ => 1
  | _ :: _, [] => -1
  | a :: as, b :: bs => if a = b then cmpIts as bs else if less b a = true then -1 else 1
theorem cmpIts_diff {a b : It} {as bs : List It} (h : a ≠ b) : ∀ pre : List It, cmpIts (pre ++ a :: as) (pre ++ b :: bs) = if less b a = true then -1 else 1
  | [] => by rw [List.nil_append, List.nil_append, cmpIts, if_neg h]
  | c :: pre => by rw [List.cons_append, List.cons_append, cmpIts, if_pos rfl, cmpIts_diff h pre]
theorem cmpIts_left {a : It} {as : List It} : ∀ pre : List It, cmpIts (pre ++ a :: as) pre = -1
  | [] => rfl
  | c :: pre => by rw [List.cons_append, cmpIts, if_pos rfl, cmpIts_left pre]
theorem cmpIts_right {a : It} {as : List It} : ∀ pre : List It, cmpIts pre (pre ++ a :: as) = 1
  | [] => rfl
  | c :: pre => by rw [List.cons_append, cmpIts, if_pos rfl, cmpIts_right pre]
theorem cmpIts_same : ∀ l : List It, cmpIts l l = 0
  | [] => rfl
  | c :: l => by rw [cmpIts, if_pos rfl, cmpIts_same l]
theorem cmpIts_at {A B : List It} {k : Nat} {a b : It} (h : A.take k = B.take k) (ha : A[k]? = some a) (hb : B[k]? = some b) (hne : a ≠ b) : cmpIts A B = if less b a = true then -1 else 1 := by
  obtain ⟨h1, e1⟩ := List.getElem?_eq_some_iff.mp ha
  obtain ⟨h2, e2⟩ := List.getElem?_eq_some_iff.mp hb
  have eA : A = A.take k ++ a :: A.drop (k + 1) := by
    have := List.take_append_drop k A
    rw [List.drop_eq_getElem_cons h1, e1] at this
    exact this.symm
  have eB : B = A.take k ++ b :: B.drop (k + 1) := by
    have := List.take_append_drop k B
    rw [List.drop_eq_getElem_cons h2, e2, ← h] at this
    exact this.symm
  rw [eA, eB]
  simpa using cmpIts_diff hne (A.take k)
theorem cmpIts_end {A B : List It} (h : A.take (min A.length B.length) = B.take (min A.length B.length)) : cmpIts A B = if A.length = B.length then 0 else if A.length > B.length then -1 else 1 := by
  rcases Nat.lt_trichotomy A.length B.length with q | q | q
  · rw [Nat.min_eq_left (by omega), List.take_of_length_le (Nat.le_refl _)] at h
    have eB : B = A ++ B.drop A.length := by
      have := List.take_append_drop A.length B
      rw [← h] at this
      exact this.symm
    rw [if_neg (by omega), if_neg (by omega), eB]
    cases hd : B.drop A.length with
    | nil =>
      have := congrArg List.length hd
      simp at this
      omega
    | cons c cs => exact cmpIts_right A
  · rw [Nat.min_eq_left (by omega), List.take_of_length_le (Nat.le_refl _), q, List.take_of_length_le (Nat.le_refl _)] at h
    rw [if_pos q, h]
    exact cmpIts_same B
  · rw [Nat.min_eq_right (by omega), List.take_of_length_le (l := B) (Nat.le_refl _)] at h
    have eA : A = B ++ A.drop B.length := by
      have := List.take_append_drop B.length A
      rw [h] at this
      exact this.symm
    rw [if_neg (by omega), if_pos (by omega), eA]
    cases hd : A.drop B.length with
    | nil =>
      have := congrArg List.length hd
      simp at this
      omega
    | cons c cs => exact cmpIts_left B

/-- the law's own answer -/
def due (A : List It) (x : Str) (B : List It) (y : Str) : Int :=
  if cmpIts A B ≠ 0 then cmpIts A B else if x = y then 0 else if x.cps.toList < y.cps.toList then -1 else 1
theorem cmpIts_vals : ∀ (A B : List It), cmpIts A B = 0 ∨ cmpIts A B = 1 ∨ cmpIts A B = -1
  | [], [] => .inl rfl
  | [], _ :: _ => .inr (.inl rfl)
  | _ :: _, [] => .inr (.inr rfl)
  | a :: as, b :: bs => by
    rw [cmpIts]
    split
    · exact cmpIts_vals as bs
    · split
      · exact .inr (.inr rfl)
      · exact .inr (.inl rfl)

/-- values -/
def eqV : Value → Value → Bool
  | .int a _, .int b _ => a == b
  | .str x _, .str y _ => x == y
  | _, _ => false
def ltV : Value → Value → Bool
  | .int a _, .int b _ => decide (a < b)
  | .str x _, .str y _ => decide (x.cps.toList < y.cps.toList)
  | _, _ => false
def gtV : Value → Value → Bool
  | .int a _, .int b _ => decide (b < a)
  | .str x _, .str y _ => decide (y.cps.toList < x.cps.toList)
  | _, _ => false
inductive Pl : Value → Prop
  | int (a : Int) (t : Tok) : Pl (.int a t)
  | str (x : Str) (t : Tok) : Pl (.str x t)
inductive Like : Value → Value → Prop
  | int (a : Int) (t : Tok) (b : Int) (u : Tok) : Like (.int a t) (.int b u)
  | str (x : Str) (t : Tok) (y : Str) (u : Tok) : Like (.str x t) (.str y u)
theorem eq_at {A : Around} {s : Shared} {v w : Value} (hv : Pl v) (hw : Pl w) : EqAt A s v w (eqV v w) := by
  cases hv with
  | int a t => cases hw with
    | int b u => exact EqAt.int_int a t b u
    | str y u => exact EqAt.int_str a t y u
  | str x t => cases hw with
    | int b u => exact EqAt.str_int x t b u
    | str y u => exact EqAt.str_str x t y u
theorem lt_at {A : Around} {s : Shared} {v w : Value} (h : Like v w) : CmpAt .Lt A s v w (ltV v w) := by
  cases h with
  | int a t b u => exact fun prog w E Q hq => cmp_ofLt (PyProof.Rows.lt_int hq)
  | str x t y u => exact fun prog w E Q hq => cmp_ofLt (PyProof.Rows.lt_str hq)
theorem gt_at {A : Around} {s : Shared} {v w : Value} (h : Like v w) : CmpAt .Gt A s v w (gtV v w) := by
  cases h with
  | int a t b u => exact fun prog w E Q hq => cmp_ofGt (PyProof.Rows.gt_int hq)
  | str x t y u => exact fun prog w E Q hq => cmp_ofGt (PySem.P.gt_str hq)

/-- lists of values, the first place that differs -/
def flt : List Value → List Value → Bool
  | [], [] => false
  | [], _ :: _ => true
  | _ :: _, [] => false
  | v :: vs, w :: ws => if eqV v w = true then flt vs ws else ltV v w
def fgt : List Value → List Value → Bool
  | [], [] => false
  | [], _ :: _ => false
  | _ :: _, [] => true
  | v :: vs, w :: ws => if eqV v w = true then fgt vs ws else gtV v w
def at2 (f : Value → Value → Bool) (A B : List Value) (j : Nat) : Bool := f (A.getD j .none) (B.getD j .none)
theorem fc_flt (A B : List Value) : ∀ (k i : Nat), min A.length B.length - i = k → i ≤ min A.length B.length → fc (at2 eqV A B) (at2 ltV A B) (decide (A.length < B.length)) k i = flt (A.drop i) (B.drop i) := by
  intro k
  induction k with
  | zero =>
    intro i hk hi
    rw [fc]
    have hi' : i = min A.length B.length := by omega
    rcases Nat.lt_trichotomy A.length B.length with q | q | q
    · rw [decide_eq_true q, List.drop_of_length_le (by omega), List.drop_eq_getElem_cons (show i < B.length by omega)]; rfl
    · rw [decide_eq_false (by omega), List.drop_of_length_le (by omega), List.drop_of_length_le (by omega)]; rfl
    · rw [decide_eq_false (by omega), List.drop_of_length_le (l := B) (by omega), List.drop_eq_getElem_cons (show i < A.length by omega)]; rfl
  | succ k ih =>
    intro i hk hi
    have h1 : i < A.length := by omega
    have h2 : i < B.length := by omega
    have eA : A.getD i .none = A[i] := by simp [h1]
    have eB : B.getD i .none = B[i] := by simp [h2]
    rw [fc, List.drop_eq_getElem_cons h1, List.drop_eq_getElem_cons h2, flt, ih (i + 1) (by omega) (by omega)]
    unfold at2
    rw [eA, eB]
theorem fc_fgt (A B : List Value) : ∀ (k i : Nat), min A.length B.length - i = k → i ≤ min A.length B.length → fc (at2 eqV A B) (at2 gtV A B) (decide (A.length > B.length)) k i = fgt (A.drop i) (B.drop i) := by
  intro k
  induction k with
  | zero =>
    intro i hk hi
    rw [fc]
    have hi' : i = min A.length B.length := by omega
    rcases Nat.lt_trichotomy A.length B.length with q | q | q
    · rw [decide_eq_false (by omega), List.drop_of_length_le (by omega), List.drop_eq_getElem_cons (show i < B.length by omega)]; rfl
    · rw [decide_eq_false (by omega), List.drop_of_length_le (by omega), List.drop_of_length_le (by omega)]; rfl
    · rw [decide_eq_true q, List.drop_of_length_le (l := B) (by omega), List.drop_eq_getElem_cons (show i < A.length by omega)]; rfl
  | succ k ih =>
    intro i hk hi
    have h1 : i < A.length := by omega
    have h2 : i < B.length := by omega
    have eA : A.getD i .none = A[i] := by simp [h1]
    have eB : B.getD i .none = B[i] := by simp [h2]
    rw [fc, List.drop_eq_getElem_cons h1, List.drop_eq_getElem_cons h2, fgt, ih (i + 1) (by omega) (by omega)]
    unfold at2
    rw [eA, eB]

/-- one run against one run -/
theorem it_pair {v w : Value} {a b : It} (hv : ItIs v a) (hw : ItIs w b) (ht : a.t = b.t) : Like v w ∧ (eqV v w = true ↔ a = b) ∧ ltV v w = inner a b ∧ gtV v w = inner b a := by
  have hr := t_eq.mp ht
  cases hv with
  | num n t => cases hw with
    | num m u =>
      refine ⟨.int _ _ _ _, ?_, ?_, ?_⟩
      · show (((n : Nat) : Int) == ((m : Nat) : Int)) = true ↔ _
        rw [beq_iff_eq]
        constructor
        · intro h; rw [Int.ofNat.inj h]
        · intro h; cases h; rfl
      · show decide (((n : Nat) : Int) < ((m : Nat) : Int)) = decide (n < m)
        simp
      · show decide (((m : Nat) : Int) < ((n : Nat) : Int)) = decide (m < n)
        simp
    | sgn y u => exact absurd hr.symm (@lad_ne6 y)
  | sgn x t => cases hw with
    | num m u => exact absurd hr (@lad_ne6 x)
    | sgn y u =>
      refine ⟨.str _ _ _ _, ?_, rfl, rfl⟩
      show (x == y) = true ↔ _
      rw [beq_iff_eq]
      constructor
      · intro h; rw [h]
      · intro h; cases h; rfl
theorem flt_its {vs : List Value} {A : List It} (h : ItsAre vs A) : ∀ {ws : List Value} {B : List It}, ItsAre ws B → flt vs ws = decide (cmpIts A B = 1) := by
  induction h with
  | nil => intro ws B k; cases k <;> rfl
  | @cons v a vs A t hv _ ih =>
    intro ws B k
    cases k with
    | nil => rfl
    | @cons w b ws B u hw k =>
      rw [flt, cmpIts]
      show (if (a.t == b.t) = true then flt (v :: vs) (w :: ws) else decide (a.t < b.t)) = _
      by_cases e : a.t = b.t
      · obtain ⟨hl, h1, h2, h3⟩ := it_pair hv hw e
        rw [if_pos (by simpa using e), flt]
        by_cases q : a = b
        · rw [if_pos (h1.mpr q), if_pos q]
          exact ih k
        · rw [if_neg (fun z => q (h1.mp z)), if_neg q, h2]
          have lt := less_tri q
          have er := t_eq.mp e
          unfold less at lt
          rw [decide_eq_false (p := rk b < rk a) (by omega), decide_eq_false (p := rk a < rk b) (by omega), decide_eq_true er, decide_eq_true er.symm] at lt
          simp only [Bool.false_or, Bool.true_and] at lt
          unfold less
          rw [decide_eq_false (p := rk b < rk a) (by omega), decide_eq_true er.symm]
          simp only [Bool.false_or, Bool.true_and]
          rw [lt]
          cases inner a b <;> rfl
      · rw [if_neg (by simpa using e)]
        have q : a ≠ b := fun z => e (by rw [z])
        have er : ¬ rk b = rk a := fun z => e (t_eq.mpr z.symm)
        rw [if_neg q]
        unfold less
        rw [decide_eq_false er]
        simp only [Bool.false_and, Bool.or_false, decide_eq_true_eq]
        by_cases z : rk a < rk b
        · rw [decide_eq_true (t_lt.mpr z), if_neg (by omega)]; rfl
        · rw [decide_eq_false (fun y => z (t_lt.mp y)), if_pos (by omega)]; rfl
theorem fgt_its {vs : List Value} {A : List It} (h : ItsAre vs A) : ∀ {ws : List Value} {B : List It}, ItsAre ws B → fgt vs ws = decide (cmpIts A B = -1) := by
  induction h with
  | nil => intro ws B k; cases k <;> rfl
  | @cons v a vs A t hv _ ih =>
    intro ws B k
    cases k with
    | nil => rfl
    | @cons w b ws B u hw k =>
      rw [fgt, cmpIts]
      show (if (a.t == b.t) = true then fgt (v :: vs) (w :: ws) else decide (b.t < a.t)) = _
      by_cases e : a.t = b.t
      · obtain ⟨hl, h1, h2, h3⟩ := it_pair hv hw e
        rw [if_pos (by simpa using e), fgt]
        by_cases q : a = b
        · rw [if_pos (h1.mpr q), if_pos q]
          exact ih k
        · rw [if_neg (fun z => q (h1.mp z)), if_neg q, h3]
          have er := t_eq.mp e
          unfold less
          rw [decide_eq_false (p := rk b < rk a) (by omega), decide_eq_true er.symm]
          simp only [Bool.false_or, Bool.true_and]
          cases inner b a <;> rfl
      · rw [if_neg (by simpa using e)]
        have q : a ≠ b := fun z => e (by rw [z])
        have er : ¬ rk b = rk a := fun z => e (t_eq.mpr z.symm)
        rw [if_neg q]
        unfold less
        rw [decide_eq_false er]
        simp only [Bool.false_and, Bool.or_false, decide_eq_true_eq]
        by_cases z : rk b < rk a
        · rw [decide_eq_true (t_lt.mpr z), if_pos z]; rfl
        · rw [decide_eq_false (fun y => z (t_lt.mp y)), if_neg z]; rfl
end Mine

end

/- part P4 -/
section
set_option maxRecDepth 100000
namespace Mine
open PySem PySem.SeqAt PySem.W PyProof.Rows
theorem its_pl {vs : List Value} {A : List It} (h : ItsAre vs A) : ∀ v ∈ vs, Pl v := by
  induction h with
  | nil => intro v hv; cases hv
  | @cons v a vs A t hv _ ih =>
    intro x hx
    rcases List.mem_cons.mp hx with rfl | hx
    · exact .int _ _
    rcases List.mem_cons.mp hx with rfl | hx
    · cases hv
      · exact .int _ _
      · exact .str _ _
    · exact ih x hx
theorem its_like {vs : List Value} {A : List It} (h : ItsAre vs A) : ∀ {ws : List Value} {B : List It}, ItsAre ws B → ∀ (j : Nat) (v w : Value), vs[j]? = some v → ws[j]? = some w → (∀ q, q < j → at2 eqV vs ws q = true) → Like v w := by
  induction h with
  | nil => intro ws B _ j v w hv; simp at hv
  | @cons v a vs A t hv _ ih =>
    intro ws B k j x y hx hy hq
    cases k with
    | nil => simp at hy
    | @cons w b ws B u hw k =>
      match j, hx, hy, hq with
      | 0, hx, hy, _ =>
        simp only [List.getElem?_cons_zero, Option.some.injEq] at hx hy
        subst hx hy
        exact .int _ _ _ _
      | 1, hx, hy, hq =>
        simp only [List.getElem?_cons_succ, List.getElem?_cons_zero, Option.some.injEq] at hx hy
        subst hx hy
        have e : (a.t == b.t) = true := hq 0 (by omega)
        exact (it_pair hv hw (by simpa using e)).1
      | j + 2, hx, hy, hq =>
        simp only [List.getElem?_cons_succ] at hx hy
        refine ih k j x y hx hy fun q hqj => ?_
        have := hq (q + 2) (by omega)
        unfold at2 at this ⊢
        simpa using this
theorem at2_get {f : Value → Value → Bool} {vs ws : List Value} {j : Nat} (h1 : j < vs.length) (h2 : j < ws.length) : at2 f vs ws j = f vs[j] ws[j] := by
  unfold at2
  simp [h1, h2]
section
variable {A : Around} {s : Shared} {l b : Addr} {vs ws : List Value} {X Y : List It}
theorem lists_lt_its (hl : s.heap.IsList l vs.toArray) (hb : s.heap.IsList b ws.toArray) (hu : A.units < cLine) (hv : ItsAre vs X) (hw : ItsAre ws Y) : CmpAt .Lt A s (.ref l) (.ref b) (decide (cmpIts X Y = 1)) := by
  have z := CmpAt.lists_lt (e := at2 eqV vs ws) (d := at2 ltV vs ws) hl hb hu (fun j h1 h2 => by
    simp only [List.size_toArray] at h1 h2
    rw [at2_get h1 h2]
    exact eq_at (its_pl hv _ (by simp)) (its_pl hw _ (by simp))) (fun j _ h1 h2 hq _ => by
    simp only [List.size_toArray] at h1 h2
    rw [at2_get h1 h2]
    exact lt_at (its_like hv hw j _ _ (by simp [h1]) (by simp [h2]) fun q hqj => hq q (Nat.zero_le _) hqj))
  simp only [List.size_toArray] at z
  rw [fc_flt vs ws (min vs.length ws.length) 0 (by omega) (Nat.zero_le _), List.drop_zero, List.drop_zero, flt_its hv hw] at z
  exact z
theorem lists_gt_its (hl : s.heap.IsList l vs.toArray) (hb : s.heap.IsList b ws.toArray) (hu : A.units < cLine) (hv : ItsAre vs X) (hw : ItsAre ws Y) : CmpAt .Gt A s (.ref l) (.ref b) (decide (cmpIts X Y = -1)) := by
  have z := CmpAt.lists_gt (e := at2 eqV vs ws) (d := at2 gtV vs ws) hl hb hu (fun j h1 h2 => by
    simp only [List.size_toArray] at h1 h2
    rw [at2_get h1 h2]
    exact eq_at (its_pl hv _ (by simp)) (its_pl hw _ (by simp))) (fun j _ h1 h2 hq _ => by
    simp only [List.size_toArray] at h1 h2
    rw [at2_get h1 h2]
    exact gt_at (its_like hv hw j _ _ (by simp [h1]) (by simp [h2]) fun q hqj => hq q (Nat.zero_le _) hqj))
  simp only [List.size_toArray] at z
  rw [fc_fgt vs ws (min vs.length ws.length) 0 (by omega) (Nat.zero_le _), List.drop_zero, List.drop_zero, fgt_its hv hw] at z
  exact z
end
theorem due_at {X Y : List It} {x y : Str} {i : Nat} {a b : It} (h : X.take i = Y.take i) (ha : X[i]? = some a) (hb : Y[i]? = some b) (hne : a ≠ b) : due X x Y y = if less b a = true then -1 else 1 := by
  have e := cmpIts_at h ha hb hne
  have hn : cmpIts X Y ≠ 0 := by rw [e]; split <;> decide
  unfold due
  rw [if_pos hn, e]
theorem due_long {X Y : List It} {x y : Str} (h : X.take (min X.length Y.length) = Y.take (min X.length Y.length)) (hl : X.length ≠ Y.length) : due X x Y y = if X.length > Y.length then -1 else 1 := by
  have e := cmpIts_end h
  rw [if_neg hl] at e
  have hn : cmpIts X Y ≠ 0 := by rw [e]; split <;> decide
  unfold due
  rw [if_pos hn, e]
theorem due_text {X Y : List It} {x y : Str} (h : X.take (min X.length Y.length) = Y.take (min X.length Y.length)) (hl : X.length = Y.length) : due X x Y y = if x = y then 0 else if x.cps.toList < y.cps.toList then -1 else 1 := by
  have e := cmpIts_end h
  rw [if_pos hl] at e
  unfold due
  rw [if_neg (fun q => q e)]
/-- the rungs -/
def qq : It → Int
  | .num n => (n : Int)
  | .sgn _ => 0
def zz : It → Str
  | .num _ => Str.ofString ""
  | .sgn x => x
def rv (it : It) (a b c : Tok) : List Value := [.int ((rk it : Nat) : Int) a, .int (qq it) b, .str (zz it) c]
theorem rung_eq (it : It) (a b c : Tok) : rungObj it a b c = { cls := .type "tuple", data := .seq (rv it a b c).toArray } := by
  cases it <;> rfl
theorem it_ext {a b : It} (h1 : rk a = rk b) (h2 : qq a = qq b) (h3 : zz a = zz b) : a = b := by
  cases a with
  | num n => cases b with
    | num m => rw [Int.ofNat.inj h2]
    | sgn y => exact absurd h1.symm (@lad_ne6 y)
  | sgn x => cases b with
    | num m => exact absurd h1 (@lad_ne6 x)
    | sgn y => rw [show x = y from h3]
theorem rv_ne (p q : It) (a b c a' b' c' : Tok) : (!((List.range 3).all (at2 eqV (rv p a b c) (rv q a' b' c')) && (3 == 3))) = decide (p ≠ q) := by
  have e : (List.range 3).all (at2 eqV (rv p a b c) (rv q a' b' c')) = ((((rk p : Nat) : Int) == ((rk q : Nat) : Int)) && ((qq p == qq q) && ((zz p == zz q) && true))) := rfl
  rw [e]
  by_cases h : p = q
  · subst h; simp
  · rw [decide_eq_true h]
    simp only [Bool.and_true, beq_self_eq_true, Bool.not_eq_true', Bool.and_eq_false_iff]
    by_cases h1 : rk p = rk q
    · by_cases h2 : qq p = qq q
      · by_cases h3 : zz p = zz q
        · exact absurd (it_ext h1 h2 h3) h
        · exact .inr (.inr (by simpa using h3))
      · exact .inr (.inl (by simpa using h2))
    · refine .inl ?_
      rw [beq_eq_false_iff_ne]
      intro z
      exact h1 (Int.ofNat.inj z)
theorem rv_gt (p q : It) (a b c a' b' c' : Tok) (sz : Bool) (hsz : sz = false) : fc (at2 eqV (rv p a b c) (rv q a' b' c')) (at2 gtV (rv p a b c) (rv q a' b' c')) sz 3 0 = less q p := by
  subst hsz
  show (if (((rk p : Nat) : Int) == ((rk q : Nat) : Int)) = true then (if (qq p == qq q) = true then (if (zz p == zz q) = true then false else decide ((zz q).cps.toList < (zz p).cps.toList)) else decide (qq q < qq p)) else decide (((rk q : Nat) : Int) < ((rk p : Nat) : Int))) = _
  unfold less
  by_cases h1 : rk p = rk q
  · rw [if_pos (by rw [h1]; simp), decide_eq_false (p := rk q < rk p) (by omega), decide_eq_true h1.symm]
    simp only [Bool.false_or, Bool.true_and]
    cases p with
    | num n => cases q with
      | num m =>
        show (if (((n : Nat) : Int) == ((m : Nat) : Int)) = true then (if (Str.ofString "" == Str.ofString "") = true then false else _) else decide (((m : Nat) : Int) < ((n : Nat) : Int))) = decide (m < n)
        by_cases q : n = m
        · subst q
          simp
        · rw [if_neg (by rw [beq_iff_eq]; exact fun z => q (Int.ofNat.inj z))]
          simp
      | sgn y => exact absurd h1.symm (@lad_ne6 y)
    | sgn x => cases q with
      | num m => exact absurd h1 (@lad_ne6 x)
      | sgn y =>
        show (if ((0 : Int) == 0) = true then (if (x == y) = true then false else decide (y.cps.toList < x.cps.toList)) else _) = decide (y.cps.toList < x.cps.toList)
        rw [if_pos (by decide)]
        by_cases q : x = y
        · subst q
          rw [if_pos (by simp), decide_eq_false (List.lt_irrefl _)]
        · rw [if_neg (by simpa using q)]
  · rw [if_neg (by simp; omega), decide_eq_false (p := rk q = rk p) (by omega)]
    simp
theorem rv_pl (p : It) (a b c : Tok) : ∀ v ∈ rv p a b c, Pl v := by
  intro v hv
  unfold rv at hv
  simp only [List.mem_cons, List.not_mem_nil, or_false] at hv
  rcases hv with rfl | rfl | rfl
  · exact .int _ _
  · exact .int _ _
  · exact .str _ _
theorem rv_like (p q : It) (a b c a' b' c' : Tok) (j : Nat) (v w : Value) (hv : (rv p a b c)[j]? = some v) (hw : (rv q a' b' c')[j]? = some w) : Like v w := by
  match j, hv, hw with
  | 0, hv, hw => cases hv; cases hw; exact .int _ _ _ _
  | 1, hv, hw => cases hv; cases hw; exact .int _ _ _ _
  | 2, hv, hw => cases hv; cases hw; exact .str _ _ _ _
  | j + 3, hv, hw => simp [rv] at hv
section
variable {A : Around} {s : Shared} {l b : Addr} {p q : It} {x y z x' y' z' : Tok}
theorem rungs_ne (hl : s.heap.get? l = some (rungObj p x y z)) (hb : s.heap.get? b = some (rungObj q x' y' z')) (hu : A.units < cLine) : RcNeAt A s (.ref l) (.ref b) (decide (p ≠ q)) := by
  rw [rung_eq] at hl hb
  have r := RcNeAt.tuples (A := A) (items := (rv p x y z).toArray) (items2 := (rv q x' y' z').toArray) (e := at2 eqV (rv p x y z) (rv q x' y' z')) ⟨_, hl, rfl, _, rfl⟩ ⟨_, hb, rfl, _, rfl⟩ hu (fun j h1 h2 => by
    simp only [List.size_toArray] at h1 h2
    rw [at2_get h1 h2]
    exact eq_at (rv_pl p x y z _ (by simp)) (rv_pl q x' y' z' _ (by simp)))
  rw [← rv_ne p q x y z x' y' z']
  exact r
theorem rungs_gt (hl : s.heap.get? l = some (rungObj p x y z)) (hb : s.heap.get? b = some (rungObj q x' y' z')) (hu : A.units < cLine) : CmpAt .Gt A s (.ref l) (.ref b) (less q p) := by
  rw [rung_eq] at hl hb
  have r := CmpAt.tuples_gt (A := A) (items := (rv p x y z).toArray) (items2 := (rv q x' y' z').toArray) (e := at2 eqV (rv p x y z) (rv q x' y' z')) (d := at2 gtV (rv p x y z) (rv q x' y' z')) ⟨_, hl, rfl, _, rfl⟩ ⟨_, hb, rfl, _, rfl⟩ hu (fun j h1 h2 => by
    simp only [List.size_toArray] at h1 h2
    rw [at2_get h1 h2]
    exact eq_at (rv_pl p x y z _ (by simp)) (rv_pl q x' y' z' _ (by simp))) (fun j h1 h2 _ _ => by
    simp only [List.size_toArray] at h1 h2
    rw [at2_get h1 h2]
    exact gt_at (rv_like p q x y z x' y' z' j _ _ (by simp [h1]) (by simp [h2])))
  rw [← rv_gt p q x y z x' y' z' (decide ((rv p x y z).toArray.size > (rv q x' y' z').toArray.size)) rfl]
  exact r
end
end Mine

end

/- part F5 -/
section
open PySem PySem.W PyProof.Rows
set_option Elab.async false
set_option maxRecDepth 100000
set_option maxHeartbeats 8000000
namespace Mine
local macro_rules | `(tactic| walk_at "m_enter") => `(tactic| ((case k1 => k_asm); (case k2 => exact TopRead.nolimit (by k_asm)); (case k6 => k_is); (case k7 => k_is); (case k9 => exact BindsTo.of_eq rfl); (case kB => exact locs rfl); (case c5 => decide); (case c2 => exact rfl); (case c3 => exact rfl); (case c4 => exact rfl); (case k3 => omega); k_whole))
local macro_rules | `(tactic| walk_at "m_go") => `(tactic| repeat' (
  (fail_if_success (with_reducible show wpAny _ _ (exec (Stmt.For _ _ _ _ _) _) _ _ _));
  (fail_if_success (with_reducible show wpAny _ _ (pyIter _) _ _ _));
  (fail_if_success (with_reducible show wpAny _ _ (subscriptTail _ _ _ _) _ _ _));
  (fail_if_success (with_reducible show wpAny _ _ (compareOp _ (Value.ref _) (Value.ref _)) _ _ _));
  (fail_if_success (with_reducible show TurnEnd _ _ _ _ _ _ _ _ _));
  first | walk1 | (k_unfold; (try dsimp only)) | (dsimp only; walk1)))
local macro_rules | `(tactic| walk_at "call builtin:len") => `(tactic| (k_here; (with_reducible show wpAny _ _ (call (Value.builtin "len") [Value.ref _]) _ _ _); k_dflt (refine' len_list ?k1 ?k2 ?_; (case k1 => exact Fr.lst (by with_reducible assumption) (by with_reducible assumption)); (case k2 => simp; omega); k_whole)))
def FJ (X Y : List It) (l₁ l₂ : Addr) (x y : Str) (t u : Tok) (i : Nat) (m : Str → Option Value) (news : List (Addr × Obj)) : Prop :=
  news = [] ∧ m (Str.ofString "one") = some (.ref l₁) ∧ m (Str.ofString "other") = some (.ref l₂) ∧ m (Str.ofString "left") = some (.str x t) ∧ m (Str.ofString "right") = some (.str y u) ∧ X.take i = Y.take i
theorem first_ok : ∀ (w : World) (mg mb : Str → Option Value) (p : Program) (loose : List Str) (s : Shared) (A : Around) (l₁ l₂ : Addr) (vs ws : List Value) (X Y : List It) (x y : Str) (t u : Tok) (Q : Value → Shared → Prop) (E : Value → Shared → Prop),
   (MTop.hd.heap_39 w.params).In s.heap → TopRead p loose mg mb s.heap → A.handled = none → A.depth + 10 < recursionLimit → A.units + 20 < cLine →
   s.heap.IsList l₁ vs.toArray → RgAt s.heap vs X → vs.length ≤ 66 → s.heap.IsList l₂ ws.toArray → RgAt s.heap ws Y → ws.length ≤ 66 → 
   (∀ h' tk tr, (∀ b o, s.heap.get? b = some o → h'.get? b = some o) → Q (.int (due X x Y y) tr) { s with heap := h', toks := tk }) →
   wpAny (model PySem.Challenge.rw_mj0058_01.prog w) A (call (.ref 98) [.ref l₁, .str x t, .ref l₂, .str y u] []) Q E s := by
  k_fill
  intro w mg mb p loose s A l₁ l₂ vs ws X Y x y t u Q E KX T hh hd hu hl₁ hX hv66 hl₂ hY hw66 hQ
  have key : ∀ h' tk n tr, (∀ b o, s.heap.get? b = some o → h'.get? b = some o) → n = due X x Y y → Q (.int n tr) { s with heap := h', toks := tk } := by
    rintro h' tk n tr h1 rfl
    exact hQ h' tk tr h1
  clear hQ
  refine' enter (binds := [(Str.ofString "one", .ref l₁), (Str.ofString "left", .str x t), (Str.ofString "other", .ref l₂), (Str.ofString "right", .str y u)]) ?k1 ?k2 ?k3 ?k6 ?k7 ?k9 ?kB ?_ ?c5 ?c2 ?c3 ?c4
  walk_at "m_enter"
  intro h₁ F N
  walk_at "m_go"
  refine For_invV s.heap rfl rfl ?_
  walk_at "m_go"
  refine min_two_N hh F N fun h₂ tk₂ F₂ N₂ => ?_
  clear F N
  have hmin : (if ((ws.toArray.size : Nat) : Int) < ((vs.toArray.size : Nat) : Int) then ((ws.toArray.size : Nat) : Int) else ((vs.toArray.size : Nat) : Int)) = ((min X.length Y.length : Nat) : Int) := by
    rw [← hX.length, ← hY.length]
    simp only [List.size_toArray]
    split <;> omega
  rw [hmin]
  walk_at "m_go"
  (with_reducible rename IsRange _ _ _ _ _ _ _ _ => R₂)
  (with_reducible rename Fr _ _ _ _ => F₃)
  (with_reducible rename News _ _ _ _ => N₃)
  have hXl := hX.length
  have hYl := hY.length
  refine iter_rangeN (n := min X.length Y.length) (FJ X Y l₁ l₂ x y t u) hh R₂ rfl (by omega) F₃ N₃ ⟨rfl, rfl, rfl, rfl, rfl, rfl⟩ ?_ ?_
  · rintro I i ui m₁ news₁ h tk o hlt hLI hi ⟨rfl, hm1, hm2, hm3, hm4, htk⟩ hne F₄ N₄
    have F₅ := fr_under (fr_under F₄ hm1) (b := Str.ofString "other") (u := .ref l₂) (by rw [if_neg (by decide +kernel)]; exact hm2)
    obtain ⟨a, ha⟩ : ∃ a, X[i]? = some a := ⟨_, List.getElem?_eq_getElem (show i < X.length by omega)⟩
    obtain ⟨b, hb⟩ : ∃ b, Y[i]? = some b := ⟨_, List.getElem?_eq_getElem (show i < Y.length by omega)⟩
    obtain ⟨r₁, t1, t2, t3, hv1, hg1⟩ := hX.get ha
    obtain ⟨r₂, u1, u2, u3, hv2, hg2⟩ := hY.get hb
    clear F₄ F₃ N₃
    walk_at "m_go"
    refine item_nat (Fr.lst F₅ hl₁) (by simpa using hv1) (by omega) ?_
    walk_at "m_go"
    refine item_nat (Fr.lst F₅ hl₂) (by simpa using hv2) (by omega) ?_
    walk_at "m_go"
    refine cmp_ofNotEq (rungs_ne (F₅.keep _ _ hg1) (F₅.keep _ _ hg2) (by show A.units + 3 < cLine; omega) _ _ _ _ ?_)
    walk_at "m_go"
    · rename_i hab
      refine item_nat (Fr.lst F₅ hl₁) (by simpa using hv1) (by omega) ?_
      walk_at "m_go"
      refine item_nat (Fr.lst F₅ hl₂) (by simpa using hv2) (by omega) ?_
      walk_at "m_go"
      refine cmp_ofGt (rungs_gt (F₅.keep _ _ hg1) (F₅.keep _ _ hg2) (by show A.units + 3 < cLine; omega) _ _ _ _ ?_)
      walk_at "m_go"
      · rename_i hls
        exact key _ _ _ _ F₅.keep (by rw [due_at htk ha hb hab, if_pos hls])
      · rename_i hls
        exact key _ _ _ _ F₅.keep (by rw [due_at htk ha hb hab, if_neg (by rw [hls]; decide)])
    · rename_i hab
      have hab' : a = b := Classical.not_not.mp hab
      refine turn_go F₅ ⟨rfl, rfl, rfl, hm3, hm4, ?_⟩ N₄ hne
      rw [List.take_add_one, List.take_add_one, ha, hb, htk, hab']
  · rintro m₁ news₁ h tk ⟨rfl, hm1, hm2, hm3, hm4, htk⟩ F₄ N₄
    have F₅ := fr_known F₄ hm1
    have F₆ := fr_under F₅ hm2
    have F₇ := fr_under F₆ (b := Str.ofString "left") (u := .str x t) (by rw [if_neg (by decide +kernel)]; exact hm3)
    have F₈ := fr_under F₇ (b := Str.ofString "right") (u := .str y u) (by rw [if_neg (by decide +kernel), if_neg (by decide +kernel)]; exact hm4)
    clear F₃ N₃ F₄ F₅ F₆ F₇
    walk_at "m_go"
    all_goals simp only [List.size_toArray] at *
    · exact key _ _ _ _ F₈.keep (by rw [due_long htk (by omega), if_pos (by omega)])
    · exact key _ _ _ _ F₈.keep (by rw [due_long htk (by omega), if_neg (by omega)])
    · exact key _ _ _ _ F₈.keep (by rw [due_text htk (by omega), if_neg (by simpa using ‹(x != y) = true›), if_pos (by assumption)])
    · exact key _ _ _ _ F₈.keep (by rw [due_text htk (by omega), if_neg (by simpa using ‹(x != y) = true›), if_neg (by assumption)])
    · exact key _ _ _ _ F₈.keep (by rw [due_text htk (by omega), if_pos (by simpa using ‹(x != y) = false›)])
end Mine

end

/- part L4 -/
section
open PySem PySem.W PyProof.Rows
set_option Elab.async false
set_option maxRecDepth 100000
namespace Mine
section
variable {prog : Program} {w : World} {A : Around} {E : Value → Shared → Prop} {s : Shared} {env : Env} {h₀ : Heap} {Q : Flow → Shared → Prop}
theorem letGo_tupleiter {elts : List PySem.Expr} {x1 : Nat} {pos : Pos} {I l T : Addr} {i : Nat} {Q : Unit → Shared → Prop} (hit : s.heap.IsTupleIter I l i) (hQ : Q () s) :
    wpAny (model prog w) A (letOwnedTupleGo (.Tuple elts x1 pos) (.ref I) (.ref T)) Q E s := by
  obtain ⟨o, ho, hc, hd⟩ := hit
  unfold letOwnedTupleGo
  refine wpAny_bind (wpAny_load ho ?_)
  rw [hc, hd]
  show wpAny _ A (if (["enumerate", "zip", "dict_itemiterator", "dict_reverseitemiterator", "odict_iterator", "itertools.zip_longest", "itertools.pairwise"].contains "tuple_iterator" &&
      (#[.ref l, .int i 0] : Array Value)[0]? == some (rawInt T)) = true then _ else _) Q E s
  rw [if_neg (by
    intro h
    rw [show (["enumerate", "zip", "dict_itemiterator", "dict_reverseitemiterator", "odict_iterator", "itertools.zip_longest", "itertools.pairwise"].contains "tuple_iterator") = false from by decide, Bool.false_and] at h
    cases h)]
  exact wpAny_pure hQ

/-- a for over a tuple of pairs that stands below the call; the turns make nothing that stays -/
theorem for_pairs {iter : PySem.Expr} {body : List Stmt} {a b : Str} {pa pb tp pos : Pos} {kk : Nat} (J : Nat → (Str → Option Value) → Prop)
    (ha : env.kindOf a = some .local) (hb : env.kindOf b = some .local) (hp : (env.scope.kind == .class || (env.scope.kind == .module && env.locals != env.globals)) = false) (hh : A.handled = none)
    (h : wpAny (model prog w) A (eval iter env) (fun v s₁ => ∃ (T : Addr) (items : Array Value) (m₀ : Str → Option Value), v = .ref T ∧ h₀.IsTuple T items ∧ (∀ (i : Nat) (v : Value), items[i]? = some v → ∃ P x y, v = .ref P ∧ h₀.IsTuple P #[x, y]) ∧ Fr h₀ env.locals s₁.heap m₀ ∧ J 0 m₀ ∧
      (∀ (i : Nat) (P : Addr) (x y : Value) (m₁ : Str → Option Value) (I : Addr) (o : Obj) (h : Heap) (tk : Nat), items[i]? = some (.ref P) → h₀.IsTuple P #[x, y] → J i m₁ → Fr h₀ env.locals h (fun z => if z = b then some y else if z = a then some x else m₁ z) → News h₀ env.locals h [(I, o)] →
        wpAny (model prog w) A (execs body env) (TurnEnd h₀ env.locals s₁ I o (fun m news => news = [] ∧ J (i + 1) m) Q) (fun _ _ => False) { s₁ with heap := h, toks := tk }) ∧
      (∀ m₁ h tk, J items.size m₁ → Fr h₀ env.locals h m₁ → Q .next { s₁ with heap := h, toks := tk })) E s)
    (hs : ∀ x, foldedSetIterable iter env x = pure x := by intro _; rfl) :
    wpAny (model prog w) A (exec (.For (.Tuple [.Name a pa, .Name b pb] kk tp) iter body [] pos) env) Q E s := by
  refine wpAny_For (wpAny_mono h (fun v s₁ h₁ => ?_) fun _ _ e => e) hs
  obtain ⟨T, items, m₀, rfl, hT, hP, F, hj, turn, done⟩ := h₁
  have hT₁ : s₁.heap.IsTuple T items := hT.at fun o e => F.keep _ _ e
  refine wpAny_pyIter_tuple hT₁ ?_
  have hIn : h₀.get? s₁.heap.objs.size = none := next_is_new F
  have hIL : s₁.heap.objs.size ≠ env.locals := Nat.ne_of_gt F.ns.lt
  generalize hI : s₁.heap.objs.size = I at hIn hIL ⊢
  refine codeAny_forLoop_any (fun n s' => ∃ h tk m i, s' = { s₁ with heap := h, toks := tk } ∧ h.IsTupleIter I T i ∧ Fr h₀ env.locals h m ∧ J i m ∧ i ≤ items.size ∧ n = items.size - i) ?_ items.size
    ⟨_, s₁.toks, m₀, 0, rfl, ⟨_, hI ▸ Heap.get?_push_size _ rfl, rfl, rfl⟩, F.push _, hj, Nat.zero_le _, rfl⟩
  rintro n s' ⟨h, tk, m, i, rfl, hit, F', hJ, hi, rfl⟩
  have hT' : h.IsTuple T items := hT.at fun o e => F'.keep _ _ e
  by_cases hlt : i < items.size
  · obtain ⟨P, x, y, hv, hPt⟩ := hP i items[i] (by simp [hlt])
    refine wpAny_pyNext_tuple_item hit hT' (x := items[i]) (by simp [hlt]) fun h₁ hit₁ hs₁ => ?_
    have F₁ : Fr h₀ env.locals h₁ m := F'.change hs₁ hIL hIn
    dsimp only
    rw [hv]
    refine letGo_tupleiter hit₁ ?_
    have hP₁ : h₁.IsTuple P #[x, y] := hPt.at fun o e => F₁.keep _ _ e
    refine kcp_assign hh hP₁ ha hb hp F₁.ns fun h₂ tk₂ hn₂ hs₂ => ?_
    obtain ⟨o, ho, hoc, hod⟩ := hit₁
    have F₂ : Fr h₀ env.locals h₂ (fun z => if z = b then some y else if z = a then some x else m z) := ⟨hn₂, fun c o e => hs₂ c o (Nat.ne_of_lt (Nat.lt_of_lt_of_le (Heap.lt_size e) F₁.above)) (F₁.keep c o e), F₁.above⟩
    have N₂ : News h₀ env.locals h₂ [(I, o)] := fun p hp => by
      rw [List.mem_singleton.mp hp]
      exact ⟨hs₂ I o hIL ho, hIL, hIn⟩
    refine wpAny_mono (turn i P x y m I o h₂ tk₂ (by rw [← hv]; simp [hlt]) hPt hJ F₂ N₂) (fun f s₃ hf => ?_) fun _ _ e => e.elim
    have fin : (∃ h' tk' m₂ news₂, s₃ = { s₁ with heap := h', toks := tk' } ∧ Fr h₀ env.locals h' m₂ ∧ News h₀ env.locals h' ((I, o) :: news₂) ∧ (∀ p ∈ news₂, p.1 ≠ I) ∧ (news₂ = [] ∧ J (i + 1) m₂)) →
        ∃ k, k < items.size - i ∧ ∃ h tk m i, s₃ = { s₁ with heap := h, toks := tk } ∧ h.IsTupleIter I T i ∧ Fr h₀ env.locals h m ∧ J i m ∧ i ≤ items.size ∧ k = items.size - i := by
      rintro ⟨h', tk', m₂, news₂, rfl, F₃, N₃, _, _, hJ₂⟩
      exact ⟨items.size - (i + 1), by omega, h', tk', m₂, i + 1, rfl, ⟨o, (N₃ _ (.head _)).1, hoc, hod⟩, F₃, hJ₂, hlt, rfl⟩
    cases f with
    | ret v => exact hf
    | brk => exact hf
    | next => exact fin hf
    | cont => exact fin hf
  · have hin : i = items.size := by omega
    subst hin
    refine wpAny_pyNext_tuple_end hh hit hT' (by simp) fun h₁ hs₁ => ?_
    exact wpAny_execs_nil (done m h₁ tk hJ (ext_fr F' hIn hIL hs₁))
end
end Mine

end

/- part F6 -/
section
open PySem PySem.W PyProof.Rows
set_option Elab.async false
set_option maxRecDepth 100000
set_option maxHeartbeats 8000000
namespace Mine
local macro_rules | `(tactic| walk_at "m_enter") => `(tactic| ((case k1 => k_asm); (case k2 => exact TopRead.nolimit (by k_asm)); (case k6 => k_is); (case k7 => k_is); (case k9 => exact BindsTo.of_eq rfl); (case kB => exact locs rfl); (case c5 => decide); (case c2 => exact rfl); (case c3 => exact rfl); (case c4 => exact rfl); (case k3 => omega); k_whole))
local macro_rules | `(tactic| walk_at "m_go") => `(tactic| repeat' (
  (fail_if_success (with_reducible show wpAny _ _ (exec (Stmt.For _ _ _ _ _) _) _ _ _));
  (fail_if_success (with_reducible show wpAny _ _ (pyIter _) _ _ _));
  (fail_if_success (with_reducible show wpAny _ _ (subscriptTail _ _ _ _) _ _ _));
  (fail_if_success (with_reducible show wpAny _ _ (compareOp _ (Value.ref _) (Value.ref _)) _ _ _));
  (fail_if_success (with_reducible show TurnEnd _ _ _ _ _ _ _ _ _));
  (fail_if_success (with_reducible show Exists _));
  first | walk1 | (k_unfold; (try dsimp only)) | (dsimp only; walk1)))
local macro_rules | `(tactic| k_inst) => `(tactic| assumption)
theorem tup_inj {h : Heap} {a : Addr} {xs ys : Array Value} (h1 : h.IsTuple a xs) (h2 : h.IsTuple a ys) : xs = ys := by
  obtain ⟨o, ho, _, n, hd⟩ := h1
  obtain ⟨o', ho', _, n', hd'⟩ := h2
  rw [ho] at ho'
  cases ho'
  rw [hd] at hd'
  cases hd'
  rfl
theorem item_tup {prog : Program} {w : World} {A : Around} {E : Value → Shared → Prop} {s : Shared} {value slice : PySem.Expr} {l : Addr} {a b : Value} {i : Int} {j : Nat} {v : Value} {u : Tok} {Q : Value → Shared → Prop}
    (hl : s.heap.IsTuple l #[a, b]) (hj : seqIndex? i 2 = some j) (h0 : 0 ≤ i) (hi : i < 1000000) (hx : [a, b][j]? = some v) (h : Q v s)
    (hs : subscripted slice false (.ref l) (.int i u) = operate [.ref l, .int i u] (getItem (.ref l) (.int i u)) := by with_unfolding_all rfl) :
    wpAny (model prog w) A (subscriptTail value slice (.ref l) (.int i u)) Q E s :=
  item_tupleT (l := [a, b]) hl (by omega) (by omega) hj hx h hs
theorem due_ne {X Y : List It} {x y : Str} (h : cmpIts X Y ≠ 0) : due X x Y y = cmpIts X Y := by unfold due; rw [if_pos h]
theorem due_eq {X Y : List It} {x y : Str} (h : cmpIts X Y = 0) : due X x Y y = if x = y then 0 else if x.cps.toList < y.cps.toList then -1 else 1 := by unfold due; rw [if_neg (fun q => q h)]
def PJ (X Y : List It) (x y : Str) (ra rb : Addr) (i : Nat) (m : Str → Option Value) : Prop :=
  m (Str.ofString "left") = some (.ref ra) ∧ m (Str.ofString "right") = some (.ref rb) ∧ (i = 0 ∨ cmpIts X Y = 0) ∧ (i ≤ 1 ∨ x = y)
abbrev selOf (hsh : Int) (tk : Tok) (T : Addr) (n : Nat) : Obj := dictOf [⟨hsh, .str (Str.ofString "comp_select_list") tk, .ref T⟩] n
theorem compare_ok : ∀ (w : World) (mg mb : Str → Option Value) (p : Program) (loose : List Str) (s : Shared) (A : Around) (self dx T T0 T1 ra rb la lb : Addr) (hsh : Int) (tk0 q0 q1 q2 q3 : Tok) (n : Nat) (sl : Array (Option Value)) (vs ws : List Value) (X Y : List It) (x y : Str) (t u : Tok) (Q : Value → Shared → Prop) (E : Value → Shared → Prop),
   (MTop.hd.heap_39 w.params).In s.heap → TopRead p loose mg mb s.heap → A.handled = none → A.depth + 10 < recursionLimit → A.units + 20 < cLine →
   InstAt s.heap self ⟨.ref 68, some dx, .plain, sl⟩ 68 (some (selOf hsh tk0 T n)) → s.heap.IsTuple T #[.ref T0, .ref T1] → s.heap.IsTuple T0 #[.int 0 q0, .int (-1) q1] → s.heap.IsTuple T1 #[.int 1 q2, .int 1 q3] →
   s.heap.IsTuple ra #[.ref la, .str x t] → s.heap.IsTuple rb #[.ref lb, .str y u] → s.heap.IsList la vs.toArray → ItsAre vs X → s.heap.IsList lb ws.toArray → ItsAre ws Y →
   (∀ h' tk tr, (∀ b o, s.heap.get? b = some o → h'.get? b = some o) → Q (.int (due X x Y y) tr) { s with heap := h', toks := tk }) →
   wpAny (model PySem.Challenge.rw_mj0058_01.prog w) A (call (.ref 65) [.ref self, .ref ra, .ref rb] []) Q E s := by
  k_fill
  intro w mg mb p loose s A self dx T T0 T1 ra rb la lb hsh tk0 q0 q1 q2 q3 n sl vs ws X Y x y t u Q E KX TT hh hd hu hI hT hT0 hT1 hra hrb hla hX hlb hY hQ
  have key : ∀ h' tk n tr, (∀ b o, s.heap.get? b = some o → h'.get? b = some o) → n = due X x Y y → Q (.int n tr) { s with heap := h', toks := tk } := by
    rintro h' tk n tr h1 rfl
    exact hQ h' tk tr h1
  clear hQ
  refine' enter (binds := [(Str.ofString "self", .ref self), (Str.ofString "left", .ref ra), (Str.ofString "right", .ref rb)]) ?k1 ?k2 ?k3 ?k6 ?k7 ?k9 ?kB ?_ ?c5 ?c2 ?c3 ?c4
  walk_at "m_enter"
  intro h₁ F N
  have hI₁ : InstAt h₁ self ⟨.ref 68, some dx, .plain, sl⟩ 68 (some (selOf hsh tk0 T n)) := ⟨F.keep _ _ hI.at_, hI.cls, hI.no, F.keep _ _ hI.dict⟩
  walk_at "m_go"
  refine for_pairs (h₀ := s.heap) (PJ X Y x y ra rb) rfl rfl rfl hh ?_
  walk_at "m_go"
  refine ⟨T, _, _, rfl, hT, ?_, F, ⟨rfl, rfl, .inl rfl, .inl (by omega)⟩, ?_, ?_⟩
  · intro i v hv
    match i, hv with
    | 0, hv => cases hv; exact ⟨T0, _, _, rfl, hT0⟩
    | 1, hv => cases hv; exact ⟨T1, _, _, rfl, hT1⟩
    | i + 2, hv => simp at hv
  · intro i P x₁ y₁ m₁ I o h tk hi hP hJ F₂ N₂
    obtain ⟨hm1, hm2, hc0, hx0⟩ := hJ
    clear F N hI₁
    match i, hi with
    | 0, hi =>
      cases hi
      have e := tup_inj hP hT0
      cases e
      have F₃ := fr_under F₂ (b := Str.ofString "left") (u := .ref ra) (by rw [if_neg (by decide +kernel)]; exact hm1)
      have F₄ := fr_under F₃ (b := Str.ofString "right") (u := .ref rb) (by rw [if_neg (by decide +kernel), if_neg (by decide +kernel)]; exact hm2)
      clear F₂ F₃
      walk_at "m_go"
      refine item_tup (j := 0) (hra.at fun o e => F₄.keep _ _ e) rfl (by decide) (by decide) rfl ?_
      walk_at "m_go"
      (with_reducible rename Fr _ _ _ _ => F₅)
      refine item_tup (j := 0) (hrb.at fun o e => F₅.keep _ _ e) rfl (by decide) (by decide) rfl ?_
      walk_at "m_go"
      (with_reducible rename Fr _ _ _ _ => F₆)
      refine cmp_ofLt (lists_lt_its (F₆.lst hla) (F₆.lst hlb) (by show A.units + 3 < cLine; omega) hX hY _ _ _ _ ?_)
      walk_at "m_go"
      · rename_i hc
        exact key _ _ _ _ F₆.keep (by rw [due_ne (by omega)]; omega)
      · rename_i hc
        refine cmp_ofGt (lists_gt_its (F₆.lst hla) (F₆.lst hlb) (by show A.units + 3 < cLine; omega) hX hY _ _ _ _ ?_)
        walk_at "m_go"
        · rename_i hc'
          exact key _ _ _ _ F₆.keep (by rw [due_ne (by omega)]; omega)
        · rename_i hc'
          (with_reducible rename News _ _ _ _ => NN)
          refine turn_go F₆ ⟨rfl, rfl, rfl, .inr ?_, .inl (by omega)⟩ NN (by simp)
          have := cmpIts_vals X Y
          omega
    | 1, hi =>
      cases hi
      have e := tup_inj hP hT1
      cases e
      have F₃ := fr_under F₂ (b := Str.ofString "left") (u := .ref ra) (by rw [if_neg (by decide +kernel)]; exact hm1)
      have F₄ := fr_under F₃ (b := Str.ofString "right") (u := .ref rb) (by rw [if_neg (by decide +kernel), if_neg (by decide +kernel)]; exact hm2)
      clear F₂ F₃
      have hc1 : cmpIts X Y = 0 := by omega
      walk_at "m_go"
      refine item_tup (j := 1) (hra.at fun o e => F₄.keep _ _ e) rfl (by decide) (by decide) rfl ?_
      walk_at "m_go"
      (with_reducible rename Fr _ _ _ _ => F₅)
      refine item_tup (j := 1) (hrb.at fun o e => F₅.keep _ _ e) rfl (by decide) (by decide) rfl ?_
      walk_at "m_go"
      all_goals (with_reducible rename Fr _ _ _ _ => F₆)
      · have hlt : x.cps.toList < y.cps.toList := by assumption
        exact key _ _ _ _ F₆.keep (by rw [due_eq hc1, if_neg (fun q => by rw [q] at hlt; exact List.lt_irrefl _ hlt), if_pos hlt])
      · have hlt : y.cps.toList < x.cps.toList := by assumption
        exact key _ _ _ _ F₆.keep (by rw [due_eq hc1, if_neg (fun q => by rw [q] at hlt; exact List.lt_irrefl _ hlt), if_neg (str_asymm hlt)])
      · have h1 : ¬ x.cps.toList < y.cps.toList := by assumption
        have h2 : ¬ y.cps.toList < x.cps.toList := by assumption
        (with_reducible rename News _ _ _ _ => NN)
        refine turn_go F₆ ⟨rfl, rfl, rfl, .inr hc1, .inr ?_⟩ NN (by simp)
        exact Classical.byContradiction fun q => h2 (str_ne q h1)
    | i + 2, hi => simp at hi
  · intro m₁ h tk hJ F₂
    have hxy : x = y := by
      rcases hJ.2.2.2 with q | q
      · exact absurd q (by simp)
      · exact q
    have hc1 : cmpIts X Y = 0 := by
      rcases hJ.2.2.1 with q | q
      · exact absurd q (by simp)
      · exact q
    clear F N hI₁
    walk_at "m_go"
    exact key _ _ _ _ F₂.keep (by rw [due_eq hc1, if_pos hxy])
end Mine

end

/- part F6b -/
section
open PySem PySem.W PyProof.Rows
set_option Elab.async false
set_option maxRecDepth 100000
set_option maxHeartbeats 8000000
namespace Mine
local macro_rules | `(tactic| walk_at "m_enter") => `(tactic| ((case k1 => k_asm); (case k2 => exact TopRead.nolimit (by k_asm)); (case k6 => k_is); (case k7 => k_is); (case k9 => exact BindsTo.of_eq rfl); (case kB => exact locs rfl); (case c5 => decide); (case c2 => exact rfl); (case c3 => exact rfl); (case c4 => exact rfl); (case k3 => omega); k_whole))
local macro_rules | `(tactic| walk_at "m_go") => `(tactic| repeat' (first | walk1 | (k_unfold; (try dsimp only)) | (dsimp only; walk1)))
theorem enterX {w : World} {A : Around} {s : Shared} {f x dx : Addr} {ox od : Obj} {name qual : Str} {params : Arguments} {body : List Stmt} {scope : Scope} {dV kV doc pm cdv ct oc : Value} {an od' : Option Addr} {osl : Array (Option Value)}
    {pos : List Value} {binds : List (Str × Value)} {R : Result → Shared → Prop} (hx : s.heap.get? x = some ox) (hdx : s.heap.get? dx = some od)
    (X : (MTop.hd.heap_39 w.params).In (hideAll s.heap [x, dx])) (hlim : (hideAll s.heap [x, dx]).NoLimit) (hroom : A.depth < recursionLimit)
    (ho : (MTop.hd.heap_39 w.params).lookup f = some ⟨oc, od', .func (fnOf name qual params body scope dV kV doc pm an cdv ct), osl⟩) (hcd : codeIn (MTop.hd.heap_39 w.params) cdv qual = true)
    (hbind : BindsTo s (fnOf name qual params body scope dV kV doc pm an cdv ct) ⟨pos, []⟩ binds) (hloc : ∀ y ∈ binds, scope.names.lookup y.1 = some .local)
    (h : ∀ h₁, Fr (hideAll s.heap [x, dx]) s.heap.objs.size h₁ (fun y => binds.reverse.lookup y) → News (hideAll s.heap [x, dx]) s.heap.objs.size h₁ [(x, ox), (dx, od)] →
      wpAny (model PySem.Challenge.rw_mj0058_01.prog w) (A.deeper (envOf qual scope s.heap.objs.size f cdv)) (execs body (envOf qual scope s.heap.objs.size f cdv))
        (fun fl s' => R (.ok (.ret (match fl with | .ret v => v | _ => .none))) s') (fun _ _ => False) { s with heap := h₁, toks := s.toks + binds.length })
    (hcell : ∀ x ∈ scope.names, x.2 ≠ .cell) (hco : scope.isCoroutine = false) (hgen : scope.isGenerator = false) (hk : scope.kind = .function) :
    codeAny (model PySem.Challenge.rw_mj0058_01.prog w) A (.call (.ref f) ⟨pos, []⟩) R s := by
  have X' : (MTop.hd.heap_39 w.params).In s.heap := fun b o e => of_hideAll _ (X b o e)
  refine codeAny_call_def (fd := fnOf name qual params body scope dV kV doc pm an cdv ct) (body := body) (binds := binds) hroom (X' _ _ ho) rfl (hlim.keeps fun b o e => of_hideAll _ e) (codeRec_of X' hcd) rfl hbind hcell hloc (fun h₁ hns hk₁ => ?_) hco hgen hk
  refine wpAny_mono (h h₁ ⟨hns, fun b o e => hk₁ b o (of_hideAll _ e), Nat.le_of_eq (hideAll_size _ _)⟩ fun p hp => ?_) (fun _ _ x => x) fun _ _ x => x.elim
  rcases List.mem_cons.mp hp with rfl | hp
  · exact ⟨hk₁ _ _ hx, Nat.ne_of_lt (Heap.lt_size hx), hideAll_none _ (.head _)⟩
  · rw [List.mem_singleton.mp hp]
    exact ⟨hk₁ _ _ hdx, Nat.ne_of_lt (Heap.lt_size hdx), hideAll_none _ (.tail _ (.head _))⟩
theorem news_dx {h₀ h h' : Heap} {L x dx : Addr} {ox od od' : Obj} {rest : List (Addr × Obj)} (N : News h₀ L h ((x, ox) :: (dx, od) :: rest)) (hk : ∀ b o, b ≠ dx → h.get? b = some o → h'.get? b = some o) (hs : h'.get? dx = some od') (hx : @LT.lt Nat _ dx x) (hr : ∀ p ∈ rest, p.1 < dx) :
    News h₀ L h' ((x, ox) :: (dx, od') :: rest) := by
  intro p hp
  rcases List.mem_cons.mp hp with rfl | hp
  · exact ⟨hk _ _ (Nat.ne_of_gt hx) (N _ (.head _)).1, (N _ (.head _)).2⟩
  rcases List.mem_cons.mp hp with rfl | hp
  · exact ⟨hs, (N _ (.tail _ (.head _))).2⟩
  · exact ⟨hk _ _ (Nat.ne_of_lt (hr p hp)) (N _ (.tail _ (.tail _ hp))).1, (N _ (.tail _ (.tail _ hp))).2⟩
theorem init_ok : ∀ (w : World) (mg mb : Str → Option Value) (p : Program) (loose : List Str) (s : Shared) (A : Around) (x dx T : Addr) (R : Result → Shared → Prop),
   (MTop.hd.heap_39 w.params).In (hideAll s.heap [x, dx]) → TopRead p loose mg mb (hideAll s.heap [x, dx]) → A.handled = none → A.depth + 10 < recursionLimit →
   s.heap.get? x = some (instObj 68 dx) → s.heap.get? dx = some (dictOf [] 0) → @LT.lt Nat _ dx x →
   (∀ h' tk hsh tk0 n, (∀ b o, b ≠ dx → s.heap.get? b = some o → h'.get? b = some o) → h'.get? dx = some (selOf hsh tk0 T n) → R (.ok (.ret .none)) { s with heap := h', toks := tk }) →
   codeAny (model PySem.Challenge.rw_mj0058_01.prog w) A (.call (.ref 58) ⟨[.ref x, .ref T], []⟩) R s := by
  k_fill
  intro w mg mb p loose s A x dx T R KX TT hh hd hx hdx hlt hR
  refine' enterX (binds := [(Str.ofString "self", .ref x), (Str.ofString "comp_select_list", .ref T)]) hx hdx ?k1 ?k2 ?k3 ?k6 ?k7 ?k9 ?kB ?_ ?c5 ?c2 ?c3 ?c4
  walk_at "m_enter"
  intro h₁ F N
  walk_at "m_go"
  (with_reducible rename Fr _ _ _ _ => FF)
  (with_reducible rename News _ _ _ _ => NN)
  refine hR _ _ _ _ _ (fun b o hb e => ?_) (NN _ (.tail _ (.head _))).1
  by_cases hbx : b = x
  · rw [hbx, hx] at e
    cases e
    rw [hbx]
    exact (NN _ (.head _)).1
  · exact FF.keep b o (hideAll_get _ e (by
      intro q
      rcases List.mem_cons.mp q with q | q
      · exact hbx q
      · exact hb (List.mem_singleton.mp q)))
end Mine

end

/- part L5 -/
section
open PySem PySem.W PyProof.Rows
set_option Elab.async false
set_option maxRecDepth 100000
namespace Mine
section
variable {M : Model} {A : Around} {E : Value → Shared → Prop} {s : Shared} {env : Env}
theorem splicedC_cons {e : PySem.Expr} {rest : List PySem.Expr} {pos : Pos} {Q : List Value → Shared → Prop}
    (h : wpC M A (eval e env) (fun v s₁ => wpAny M A (spliced (backTo pos (starEach rest env))) (fun vs s₂ => Q (v :: vs) s₂) E s₁) E s)
    (he : starEach (e :: rest) env = (false, eval e env) :: starEach rest env := by rfl) : wpC M A (spliced (backTo pos (starEach (e :: rest) env))) Q E s := by
  rw [he]
  show wpC M A (eval e env >>= fun v => (pure [v] : Sem (List Value)) >>= fun here => holding here (spliced (backTo pos (starEach rest env))) >>= fun r => pure (here ++ r)) Q E s
  exact wpC_bind (wpC_mono h (fun v s₁ h₁ => wpC_step (wpAny_pure (wpC_step (wpAny_holding (wpAny_mono h₁ (fun vs s₂ h₂ => wpC_pure h₂) fun _ _ x => x))))) fun _ _ x => x)
theorem CallA {x : Str} {p pos : Pos} {args : List PySem.Expr} {Q : Value → Shared → Prop} (h : wpAny M A (eval (.Name x p) env) (fun f s₁ => wpAny M A (callWith pos f [] (backTo pos (starEach args env)) []) Q E s₁) E s) :
    wpAny M A (eval (.Call (.Name x p) args [] pos) env) Q E s := wpAny_bind h
theorem callWithA_def {pos : Pos} {a : Addr} {o : Obj} {fd : FuncData} {args : List (Bool × Sem Value)} {Q : Value → Shared → Prop} (hplain : args.any (·.1) = false) (hfew : ¬ args.length + 2 * ([] : List (Option Str × Sem Value)).length > 30)
    (h : wpAny M A (evalArgs (.ref a) true args []) (fun x s₁ => (s₁.heap.get? a = some o ∧ o.data = .func fd) ∧ wpAny M A (call (.ref a) x.pos x.kw) Q E s₁) E s) : wpAny M A (callWith pos (.ref a) [] args []) Q E s := by
  unfold callWith
  refine wpAny_bind (wpAny_holding (wpAny_mono h (fun x s₁ h₁ => wpAny_bind (wpAny_standAt ?_)) fun _ _ x => x))
  simp only [hplain, List.any_nil, Bool.or_false]
  refine wpAny_bind ?_
  unfold keeperOf
  refine wpAny_bind (wpAny_load h₁.1.1 ?_)
  rw [h₁.1.2]
  refine wpAny_pure ?_
  show wpAny M A (if args.length + 2 * ([] : List (Option Str × Sem Value)).length > 30 then (call (.ref a) x.pos x.kw >>= fun r => holding [r] point >>= fun _ => pure r) else (callMarked plainCall (.ref a) x.pos x.kw >>= fun r => holding [r] point >>= fun _ => pure r)) Q E s₁
  rw [if_neg hfew]
  unfold callMarked
  have tail : ∀ r s₂, Q r s₂ → wpAny M A (holding [r] point >>= fun _ => pure r) Q E s₂ := fun r s₂ hr => wpAny_bind (wpAny_holding (wpAny_point (wpAny_pure hr)))
  refine wpAny_bind (fun Γ p hΓ => ?_)
  rw [Sem.wp_keep]
  exact wpAny_mono h₁.2 tail (fun _ _ x => x) Γ p hΓ
theorem callWithA_def1 {pos : Pos} {a : Addr} {o : Obj} {fd : FuncData} {e : PySem.Expr} {rest : List PySem.Expr} {Q : Value → Shared → Prop} (hfew : ¬ (backTo pos (starEach (e :: rest) env)).length + 2 * ([] : List (Option Str × Sem Value)).length > 30)
    (h : wpAny M A (spliced (backTo pos (starEach (e :: rest) env))) (fun vs s₁ => (s₁.heap.get? a = some o ∧ o.data = .func fd) ∧ wpAny M A (call (.ref a) vs) Q E s₁) E s)
    (he : starEach (e :: rest) env = (false, eval e env) :: starEach rest env := by rfl)
    (hplain : (backTo pos (starEach rest env)).any (·.1) = false := by rfl) :
    wpAny M A (callWith pos (.ref a) [] (backTo pos (starEach (e :: rest) env)) []) Q E s := by
  rw [he] at h hfew ⊢
  exact callWithA_def (by show (false || (backTo pos (starEach rest env)).any (·.1)) = false; rw [hplain]; rfl) hfew (Calls.evalArgs_plain h)
end
end Mine

end

/- part L6 -/
section
open PySem PySem.W PyProof.Rows
set_option Elab.async false
set_option maxRecDepth 100000
namespace Mine
section
variable {prog : Program} {w : World} {A : Around} {E : Value → Shared → Prop} {s : Shared} {env : Env}
theorem compUseT {elt target iter : PySem.Expr} {scope : Scope} {pos p0 : Pos} {u : Value → Sem Unit} {Q : Value → Shared → Prop}
    (hs : ∀ x, foldedSetIterable iter env x = pure x)
    (hfree : ∀ x ∈ scope.names, x.2 ≠ .free) (hkind : scope.kind = .function) (hnames : ∀ x ∈ scope.names, x.2 = .local → scope.names.lookup x.1 = some .local)
    (h : wpAny (model prog w) A (eval iter env) (fun x s₁ => wpAny (model prog w) A (pyIter x) (fun it s₂ => wpAny (model prog w) A (newList []) (fun acc s₃ =>
      wpAny (model prog w) A (newFunctionEnv scope env.globals [] [] env.qual none .none (some env)) (fun cenv s₄ =>
        codeC (model prog w) A (.compStart (.ListComp elt [⟨target, iter, [], 0⟩] scope pos) 0 it acc { cenv with scope := scope }) (fun r s' => match r with
          | .ok _ => wpAny (model prog w) A (u acc) (fun _ s'' => ∃ m, s''.heap.Ns cenv.locals m ∧ ∀ h', Heap.SameBut cenv.locals s''.heap h' → Q .none { s'' with heap := h' }) E s'
          | .error _ => False) s₄) E s₃) E s₂) E s₁) E s) :
    wpC (model prog w) A (comprehension (.ListComp elt [⟨target, iter, [], 0⟩] scope pos) scope env p0 (newList []) false (eval iter env) (some u)) Q E s := by
  unfold comprehension
  rw [closureFor_none hfree]
  show wpC _ _ (eval iter env >>= _) _ _ _
  refine wpC_step (wpAny_mono h (fun x s₁ h₁ => wpC_stand (wpC_step (wpAny_of_eq (hs x) (wpC_step (wpAny_holding (wpAny_mono h₁ (fun it s₂ h₂ => ?_) fun _ _ h' => h')))))) fun _ _ h' => h')
  show wpC _ _ (standAt _ >>= _) _ _ _
  refine wpC_stand ?_
  refine wpC_step (wpAny_mono h₂ (fun acc s₃ h₃ => wpC_step (wpAny_pure (wpC_step (wpAny_mono h₃ (fun cenv s₄ h₄ => ?_) fun _ _ h' => h')))) fun _ _ h' => h')
  dsimp only
  rw [map_eq_self (l := scope.names) (fun x hx => by
    obtain ⟨n, k⟩ := x
    have : (k == NameKind.free) = false := by simpa using hfree _ hx
    simp [this])]
  have hv : ∀ x ∈ (scope.names.filter fun x => (x.2 == .local || x.2 == .cell) && x.1 != (".0" : Str)).reverse, x.2 = .local →
      Env.kindOf { cenv with scope := scope } x.1 = some .local := fun x hx hl => hnames x (List.mem_filter.mp (List.mem_reverse.mp hx)).1 hl
  have hv' : ∀ x ∈ (scope.names.filter fun x => (x.2 == .local || x.2 == .cell) && x.1 != (".0" : Str)).reverse.drop 1 ++ (scope.names.filter fun x => (x.2 == .local || x.2 == .cell) && x.1 != (".0" : Str)).reverse.take 1,
      x.2 = .local → Env.kindOf { cenv with scope := scope } x.1 = some .local := fun x hx hl => by
    rcases List.mem_append.mp hx with h1 | h1
    · exact hv x (List.mem_of_mem_drop h1) hl
    · exact hv x (List.mem_of_mem_take h1) hl
  refine wpC_holding (wpC_bind (wpC_attempt (wpC_holding (wpC_run (codeC_mono h₄ fun r s' hr => ?_)))))
  cases r with
  | ok f =>
    refine wpC_of (wpAny_bind (wpAny_rule (wpAny_bind (wpAny_holding (wpAny_mono hr (fun _ s'' hr' => ?_) fun _ _ h' => h')))))
    obtain ⟨m, hn, hr'⟩ := hr'
    exact wpAny_bind (wpAny_comp_letGo (cenv := { cenv with scope := scope }) hkind _ s'' m hv' hn fun h' m' _ hs' => wpAny_pure (hr' h' hs'))
  | error x => exact hr.elim

/-- y = [.. for .. in ..] on one line: the store stands ahead of the names' going -/
theorem lc_assign {elt target iter : PySem.Expr} {scope : Scope} {pos py spos : Pos} {y : Str} {Q : Flow → Shared → Prop}
    (hsw : swapsWith (.ListComp elt [⟨target, iter, [], 0⟩] scope pos) (some (.Name y py)) spos.line env = pure true)
    (hfree : ∀ x ∈ scope.names, x.2 ≠ .free) (hcell : ∀ x ∈ scope.names, x.2 ≠ .cell) (hkind : scope.kind = .function) (hnames : ∀ x ∈ scope.names, x.2 = .local → scope.names.lookup x.1 = some .local)
    (h : wpAny (model prog w) A (eval iter env) (fun v s₁ => ∃ l items, v = .ref l ∧ s₁.heap.IsList l items ∧
      ∀ h₁ tk, h₁.Ns (s₁.heap.objs.size + 2) (fun _ => none) → (∀ b o, s₁.heap.get? b = some o → h₁.get? b = some o) → h₁.IsListIter s₁.heap.objs.size l 0 → h₁.get? (s₁.heap.objs.size + 1) = some (W.listOf #[] 0) →
        codeC (model prog w) A (.compLoop (.ListComp elt [⟨target, iter, [], 0⟩] scope pos) 0 (.ref s₁.heap.objs.size) (.ref (s₁.heap.objs.size + 1)) (compEnv scope (s₁.heap.objs.size + 2) env))
          (fun r s' => match r with
            | .ok _ => wpAny (model prog w) A (assign (.Name y py) env (.ref (s₁.heap.objs.size + 1))) (fun _ s'' => ∃ m, s''.heap.Ns (s₁.heap.objs.size + 2) m ∧ ∀ h', Heap.SameBut (s₁.heap.objs.size + 2) s''.heap h' → Q .next { s'' with heap := h' }) E s'
            | .error _ => False) { s₁ with heap := h₁, toks := tk }) E s)
    (hs : ∀ x, foldedSetIterable iter env x = pure x := by intro _; rfl) :
    wpC (model prog w) A (exec (.Assign [.Name y py] (.ListComp elt [⟨target, iter, [], 0⟩] scope pos) spos) env) Q E s := by
  rw [exec_Assign_Name_used _ _ _ _ hsw]
  refine wpC_stand (wpC_bind ?_)
  show wpC _ A (do let _ ← comprehension (.ListComp elt [⟨target, iter, [], 0⟩] scope pos) scope env _ (newList []) false (eval iter env) (some (assign (.Name y py) env))) _ _ s
  refine wpC_bind (wpC_mono (compUseT (Q := fun _ s' => Q .next s') hs hfree hkind hnames (wpAny_mono h (fun xv s₁ h₁ => ?_) fun _ _ e => e))
    (fun _ s' hq => wpC_pure (wpC_pure hq)) fun _ _ e => e)
  obtain ⟨ax, items, rfl, hl, hrest⟩ := h₁
  refine wpAny_pyIter_list hl (wpAny_newObj_type (wpAny_newFunctionEnv hcell (by intro y hy; simp at hy) (fun h₁ hns₁ hsb₁ => ?_) hkind))
  dsimp only at hns₁ hsb₁ ⊢
  generalize hH1 : s₁.heap.push { cls := .type "list_iterator", data := .fields #[.ref ax, .int 0 0] } = H1 at hns₁ hsb₁ ⊢
  have hD : H1.objs.size = s₁.heap.objs.size + 1 := by rw [← hH1, Heap.size_push]
  generalize hH2 : H1.push { cls := .type "list", dict := none, data := .seq ([] : List Value).toArray } = H2 at hns₁ hsb₁ ⊢
  have hC : H2.objs.size = s₁.heap.objs.size + 2 := by rw [← hH2, Heap.size_push, hD]
  have hDC : H1.objs.size ≠ H2.objs.size := by rw [hD, hC]; exact Nat.ne_of_lt (Nat.lt_succ_self _)
  have hIC : s₁.heap.objs.size ≠ H2.objs.size := by rw [hC]; exact Nat.ne_of_lt (Nat.lt_succ_of_lt (Nat.lt_succ_self _))
  have old : ∀ b o, s₁.heap.get? b = some o → h₁.get? b = some o := fun b o e =>
    hsb₁.extBut b o (by rw [hC]; exact Nat.ne_of_lt (Nat.lt_succ_of_lt (Nat.lt_succ_of_lt (Heap.lt_size e)))) (Heap.get?_push_of_some _ (hH2 ▸ Heap.get?_push_of_some _ (hH1 ▸ Heap.get?_push_of_some _ e)))
  have hit : h₁.IsListIter s₁.heap.objs.size ax 0 :=
    ⟨_, hsb₁.extBut _ _ hIC (Heap.get?_push_of_some _ (hH2 ▸ Heap.get?_push_of_some _ (hH1 ▸ Heap.get?_push_size _ rfl))), rfl, rfl⟩
  have hacc : h₁.get? H1.objs.size = some (W.listOf #[] 0) := hsb₁.extBut _ _ hDC (Heap.get?_push_of_some _ (hH2 ▸ Heap.get?_push_size _ rfl))
  rw [hD] at hacc
  rw [hC] at hns₁
  have loop := hrest h₁ (s₁.toks + ([] : List (Str × Value)).length) hns₁ old hit hacc
  rw [hD, hC]
  exact compStartT loop (wpAny_pyIter_listiter hit loop)
end
end Mine

end

/- part F7 -/
section
open PySem PySem.W PyProof.Rows
set_option Elab.async false
set_option maxRecDepth 100000
set_option maxHeartbeats 8000000
namespace Mine
local macro_rules | `(tactic| walk_at "m_enter") => `(tactic| ((case k1 => k_asm); (case k2 => exact TopRead.nolimit (by k_asm)); (case k6 => k_is); (case k7 => k_is); (case k9 => exact BindsTo.of_eq rfl); (case kB => exact locs rfl); (case c5 => decide); (case c2 => exact rfl); (case c3 => exact rfl); (case c4 => exact rfl); k_whole))
local macro_rules | `(tactic| walk_at "m_go") => `(tactic| repeat' (
  (fail_if_success (with_reducible show wpAny _ _ (exec (Stmt.For _ _ _ _ _) _) _ _ _));
  (fail_if_success (with_reducible show wpAny _ _ (pyIter _) _ _ _));
  (fail_if_success (with_reducible show wpAny _ _ (subscriptTail _ _ _ _) _ _ _));
  (fail_if_success (with_reducible show wpAny _ _ (eval (Expr.Call (Expr.Name _ _) _ _ _) _) _ _ _));
  (fail_if_success (with_reducible show wpAny _ _ (getMethod _ _ _) _ _ _));
  (fail_if_success (with_reducible show wpAny _ _ (call (Value.ref _) _ _) _ _ _));
  (fail_if_success (with_reducible show TurnEnd _ _ _ _ _ _ _ _ _));
  (fail_if_success (with_reducible show wpC _ _ _ _ _ _));
  (fail_if_success (with_reducible show _ ∧ _));
  (fail_if_success (with_reducible show Exists _));
  first | walk1 | (k_unfold; (try dsimp only)) | (dsimp only; walk1)))
local macro_rules | `(tactic| k_inst) => `(tactic| assumption)
theorem at79 (w : World) : ∃ o fd, (MTop.hd.heap_39 w.params).lookup 79 = some o ∧ o.data = .func fd := ⟨_, _, rfl, rfl⟩
theorem at44 (w : World) : ∃ o fd, (MTop.hd.heap_39 w.params).lookup 44 = some o ∧ o.data = .func fd := ⟨_, _, rfl, rfl⟩
theorem at91 (w : World) : ∃ o fd, (MTop.hd.heap_39 w.params).lookup 91 = some o ∧ o.data = .func fd := ⟨_, _, rfl, rfl⟩
theorem at98 (w : World) : ∃ o fd, (MTop.hd.heap_39 w.params).lookup 98 = some o ∧ o.data = .func fd := ⟨_, _, rfl, rfl⟩
local macro_rules | `(tactic| walk_at "m_go3") => `(tactic| repeat' (
  (fail_if_success (with_reducible show wpAny _ _ (call (Value.ref _) _ _) _ _ _));
  (fail_if_success (with_reducible show wpC _ _ _ _ _ _));
  (fail_if_success (with_reducible show _ ∧ _));
  (fail_if_success (with_reducible show Exists _));
  first | walk1 | (k_unfold; (try dsimp only)) | (dsimp only; walk1)))
local macro_rules | `(tactic| walk_at "m_go4") => `(tactic| repeat' (
  (fail_if_success (with_reducible show wpAny _ _ (exec (Stmt.For _ _ _ _ _) _) _ _ _));
  (fail_if_success (with_reducible show wpAny _ _ (pyIter _) _ _ _));
  (fail_if_success (with_reducible show wpAny _ _ (subscriptTail _ _ _ _) _ _ _));
  (fail_if_success (with_reducible show TurnEnd _ _ _ _ _ _ _ _ _));
  (fail_if_success (with_reducible show wpAny _ _ (call (Value.ref _) _ _) _ _ _));
  (fail_if_success (with_reducible show _ ∧ _));
  first | walk1 | (k_unfold; (try dsimp only)) | (dsimp only; walk1)))
local macro_rules | `(tactic| walk_at "call builtin:len") => `(tactic| (k_here; (with_reducible show wpAny _ _ (call (Value.builtin "len") [Value.ref _]) _ _ _); k_dflt (refine' len_list ?k1 ?k2 ?_; (case k1 => exact News.isList (by with_reducible assumption) (by first | with_reducible assumption | exact List.Mem.tail _ (by with_reducible assumption))); (case k2 => simp; omega); k_whole)))
def LJ (LD : List (Addr × Obj)) (x Dn Dr l' : Addr) (_i : Nat) (m : Str → Option Value) (news : List (Addr × Obj)) : Prop :=
  news = LD ∧ m (Str.ofString "newest") = some (.ref x) ∧ m (Str.ofString "runs") = some (.ref Dn) ∧ m (Str.ofString "rows") = some (.ref Dr) ∧ m (Str.ofString "versions") = some (.ref l')
def LJ2 (LD : List (Addr × Obj)) (x Dn Dr l' : Addr) (i : Nat) (_j : Nat) (m : Str → Option Value) (news : List (Addr × Obj)) : Prop :=
  news = LD ∧ m (Str.ofString "newest") = some (.ref x) ∧ m (Str.ofString "runs") = some (.ref Dn) ∧ m (Str.ofString "rows") = some (.ref Dr) ∧ m (Str.ofString "versions") = some (.ref l') ∧ ∃ t, m (Str.ofString "i") = some (.int (i : Int) t)
/-- what a version's text is read as -/
def itsOf (y : Str) : List It := (Re.pieces y.cps).filterMap cmpIt
def rowObj (la : Addr) (y : Str) (t : Tok) : Obj := { cls := .type "tuple", data := .seq #[.ref la, .str y t] }
inductive RowsIn (T : List (Addr × Obj)) : List Value → List Str → Prop
  | nil : RowsIn T [] []
  | cons {r la : Addr} {y : Str} {t : Tok} {us : List Value} {n : Nat} {vs : List Value} {ys : List Str} : (r, rowObj la y t) ∈ T → (la, W.listOf us.toArray n) ∈ T → ItsAre us (itsOf y) → RowsIn T vs ys → RowsIn T (.ref r :: vs) (y :: ys)
theorem RowsIn.mono {T T' : List (Addr × Obj)} (hT : ∀ p ∈ T, p ∈ T') {vs : List Value} {ys : List Str} (h : RowsIn T vs ys) : RowsIn T' vs ys := by
  induction h with
  | nil => exact .nil
  | cons h1 h2 h3 _ ih => exact .cons (hT _ h1) (hT _ h2) h3 ih
theorem RowsIn.snoc {T : List (Addr × Obj)} {r la : Addr} {y : Str} {t : Tok} {us : List Value} {n : Nat} {vs : List Value} {ys : List Str} (h : RowsIn T vs ys) (h1 : (r, rowObj la y t) ∈ T) (h2 : (la, W.listOf us.toArray n) ∈ T) (h3 : ItsAre us (itsOf y)) : RowsIn T (vs ++ [.ref r]) (ys ++ [y]) := by
  induction h with
  | nil => exact .cons h1 h2 h3 .nil
  | cons a b c _ ih => exact .cons a b c ih
theorem RowsIn.get {T : List (Addr × Obj)} {vs : List Value} {ys : List Str} (h : RowsIn T vs ys) : ∀ {i : Nat} {y : Str}, ys[i]? = some y → ∃ r la t us n, vs[i]? = some (.ref r) ∧ (r, rowObj la y t) ∈ T ∧ (la, W.listOf us.toArray n) ∈ T ∧ ItsAre us (itsOf y) := by
  induction h with
  | nil => intro i y e; simp at e
  | @cons r la y' t us n vs ys h1 h2 h3 _ ih =>
    intro i y e
    cases i with
    | zero =>
      simp only [List.getElem?_cons_zero, Option.some.injEq] at e
      subst e
      exact ⟨r, la, t, us, n, rfl, h1, h2, h3⟩
    | succ i => exact ih (by simpa using e)
theorem RowsIn.length {T : List (Addr × Obj)} {vs : List Value} {ys : List Str} (h : RowsIn T vs ys) : vs.length = ys.length := by
  induction h with
  | nil => rfl
  | cons _ _ _ _ ih => simp [ih]
def RowJ (ys : List Str) (L I D : Addr) (oL : Obj) (i : Nat) (ws : List Value) (news : List (Addr × Obj)) : Prop :=
  ∃ sl T, news = (L, { oL with slots := sl }) :: T ∧ RowsIn T ws (ys.take i) ∧ ∀ p ∈ T, p.1 ≠ L ∧ p.1 ≠ I ∧ p.1 ≠ D
inductive RunsL (T : List (Addr × Obj)) : List Value → List Str → Prop
  | nil : RunsL T [] []
  | cons {a : Addr} {y : Str} {us : List Value} {n : Nat} {vs : List Value} {ys : List Str} : (a, W.listOf us.toArray n) ∈ T → RgIn T us (itsOf y) → us.length ≤ 66 → RunsL T vs ys → RunsL T (.ref a :: vs) (y :: ys)
theorem RunsL.mono {T T' : List (Addr × Obj)} (hT : ∀ p ∈ T, p ∈ T') {vs : List Value} {ys : List Str} (h : RunsL T vs ys) : RunsL T' vs ys := by
  induction h with
  | nil => exact .nil
  | cons h1 h2 h3 _ ih => exact .cons (hT _ h1) (h2.mono hT) h3 ih
theorem RunsL.snoc {T : List (Addr × Obj)} {a : Addr} {y : Str} {us : List Value} {n : Nat} {vs : List Value} {ys : List Str} (h : RunsL T vs ys) (h1 : (a, W.listOf us.toArray n) ∈ T) (h2 : RgIn T us (itsOf y)) (h3 : us.length ≤ 66) : RunsL T (vs ++ [.ref a]) (ys ++ [y]) := by
  induction h with
  | nil => exact .cons h1 h2 h3 .nil
  | cons a b c _ ih => exact .cons a b c ih
theorem RunsL.get {T : List (Addr × Obj)} {vs : List Value} {ys : List Str} (h : RunsL T vs ys) : ∀ {i : Nat} {y : Str}, ys[i]? = some y → ∃ a us n, vs[i]? = some (.ref a) ∧ (a, W.listOf us.toArray n) ∈ T ∧ RgIn T us (itsOf y) ∧ us.length ≤ 66 := by
  induction h with
  | nil => intro i y e; simp at e
  | @cons a y' us n vs ys h1 h2 h3 _ ih =>
    intro i y e
    cases i with
    | zero =>
      simp only [List.getElem?_cons_zero, Option.some.injEq] at e
      subst e
      exact ⟨a, us, n, rfl, h1, h2, h3⟩
    | succ i => exact ih (by simpa using e)
def RnJ (ys : List Str) (I : Addr) (i : Nat) (ws : List Value) (news : List (Addr × Obj)) : Prop := RunsL news ws (ys.take i) ∧ ∀ p ∈ news, p.1 ≠ I ∧ p.1 ≠ I + 1
theorem law_ok : ∀ (w : World) (mg mb : Str → Option Value) (p : Program) (loose : List Str) (s : Shared) (l : Addr) (vs : List Value) (ns : List Int) (Q : Value → Shared → Prop) (E : Value → Shared → Prop),
   (MTop.hd.heap_39 w.params).In s.heap → TopRead p loose mg mb s.heap → s.heap.IsList l vs.toArray → IntsAre vs ns → ns.length ≤ 63 →
   (∀ h' tk, (∀ b o, s.heap.get? b = some o → h'.get? b = some o) → Q (.bool true) { s with heap := h', toks := tk }) →
   wpC (model PySem.Challenge.rw_mj0058_01.prog w) callerA (call (.ref 103) [.ref l] []) Q E s := by
  k_fill
  intro w mg mb p loose s l vs ns Q E KX T hl hi hlen hQ
  have hh : callerA.handled = none := rfl
  refine' enterC (binds := [(Str.ofString "script", .ref l)]) ?k1 ?k2 ?k3 ?k6 ?k7 ?k9 ?kB ?_ ?c5 ?c2 ?c3 ?c4
  case k3 => decide
  walk_at "m_enter"
  intro h₁ F N
  obtain ⟨o79, fd79, h79, hd79⟩ := at79 w
  refine execsC_cons (AssignC (CallC ?_))
  walk_at "m_go"
  refine callWithC_def1 (o := o79) (fd := fd79) (show ¬ (1 + 0 : Nat) > 30 by omega) ?_
  walk_at "m_go"
  refine ⟨⟨KX.keeps F.keep _ _ h79, hd79⟩, wpC_of ?_⟩
  refine versions_ok w mg mb p loose _ _ l vs ns _ _ (KX.keeps F.keep) (T.keeps F.keep) rfl (show callerA.depth + 1 + 10 < recursionLimit by decide) (F.lst hl) hi hlen fun h₂ tk₂ l' vals ys hk₂ hg₂ hn₂ hst hy5 hyo => ?_
  have F₂ := grow_fr F hk₂
  have N₂ : News s.heap s.heap.objs.size h₂ [(l', W.listOf vals.toArray 0)] := by
    intro p hp
    rw [List.mem_singleton.mp hp]
    exact grow_new F hg₂ hn₂
  clear F N hk₂ hg₂ hn₂
  walk_at "m_go"
  dsimp only
  (with_reducible rename Fr _ _ _ _ => F₃)
  (with_reducible rename News _ _ _ _ => N₃)
  obtain ⟨o44, fd44, h44, hd44⟩ := at44 w
  refine execsC_cons (lc_assign (by rfl) (by decide) (by decide) rfl (by decide) ?_)
  walk1
  (with_reducible rename Fr _ _ _ _ => F₃)
  rename_i h₃
  refine ⟨l', vals.toArray, rfl, News.isList N₃ (.head _), fun h₄ tk₄ hns hold hit hD => ?_⟩
  dsimp only at hns hold hit hD ⊢
  obtain ⟨oL, es, ep, hoL, hdL, hrest⟩ := id F₃.ns
  obtain ⟨B, hB⟩ : ∃ B, B = hideAll h₃ [s.heap.objs.size] := ⟨_, rfl⟩
  have hBsz : B.objs.size = h₃.objs.size := by rw [hB]; exact hideAll_size _ _
  have hBh : ∀ b o, B.get? b = some o → h₃.get? b = some o := fun b o e => by rw [hB] at e; exact of_hideAll _ e
  have hBL : B.get? s.heap.objs.size = none := by rw [hB]; exact hideAll_none _ (.head _)
  have hBg : ∀ b o, h₃.get? b = some o → b ≠ s.heap.objs.size → B.get? b = some o := fun b o e hb => by rw [hB]; exact hideAll_get _ e (by simpa using hb)
  have hB0 : ∀ b o, s.heap.get? b = some o → B.get? b = some o := fun b o e => hBg b o (F₃.keep b o e) (Nat.ne_of_lt (Heap.lt_size e))
  have hnB : ∀ b, B.get? b = none → s.heap.get? b = none := fun b e => by
    cases q : s.heap.get? b with
    | none => rfl
    | some o => rw [hB0 b o q] at e; cases e
  have KB := KX.keeps hB0
  have TB := T.keeps hB0
  have hLlt : @LT.lt Nat _ s.heap.objs.size h₃.objs.size := F₃.ns.lt
  have hl'L : l' ≠ s.heap.objs.size := (N₃ _ (.head _)).2.1
  have hg' : h₃.get? l' = some (W.listOf vals.toArray 0) := (N₃ _ (.head _)).1
  have hlB : B.IsList l' vals.toArray := ⟨_, hBg _ _ hg' hl'L, rfl, _, rfl⟩
  have hvl : vals.length = ys.length := StrsAre.length hst
  have out : ∀ b, @LE.le Nat _ h₃.objs.size b → B.get? b = none := fun b e => Heap.get?_none_of_le (by rw [hBsz]; exact e)
  have Fb : Fr B (h₃.objs.size + 2) h₄ (fun _ => none) := ⟨hns, fun b o e => hold b o (hBh b o e), by rw [hBsz]; omega⟩
  have Nb : News B (h₃.objs.size + 2) h₄ [(h₃.objs.size + 1, W.listOf #[] 0), (s.heap.objs.size, oL)] := by
    intro p hp
    rcases List.mem_cons.mp hp with rfl | hp
    · exact ⟨hD, Nat.ne_of_lt (Nat.lt_succ_self _), out _ (Nat.le_succ _)⟩
    · rw [List.mem_singleton.mp hp]
      exact ⟨hold _ _ hoL, show @Ne Nat _ _ by omega, hBL⟩
  refine compC_list (h₀ := B) (s := { s with heap := h₄, toks := tk₄ }) (l := l') (I := h₃.objs.size) (D := h₃.objs.size + 1) (items := vals.toArray) (m₀ := fun _ => none) (news := [(s.heap.objs.size, oL)]) (RowJ ys s.heap.objs.size h₃.objs.size (h₃.objs.size + 1) oL) rfl rfl rfl hlB (out _ (Nat.le_refl _)) (show @Ne Nat h₃.objs.size (h₃.objs.size + 2) by omega) (show @Ne Nat h₃.objs.size (h₃.objs.size + 1) by omega) (by simp; omega) hit ?hn Fb Nb ⟨oL.slots, [], rfl, .nil, by simp⟩ ?turn ?done
  case hn =>
    intro p hp
    rw [List.mem_singleton.mp hp]
    exact ⟨show @Ne Nat _ _ by omega, show @Ne Nat _ _ by omega⟩
  case turn =>
    intro i v m₁ ws n news₁ h₅ tk₅ o hi₅ hJ F₅ N₅ hI₅ hD₅
    obtain ⟨sl, T₁, rfl, hrows, hTne⟩ := hJ
    obtain ⟨y, ty, rfl, hy⟩ := StrsAre.item hst i v (by simpa using hi₅)
    have hyo' := hyo y (List.mem_of_getElem? hy)
    obtain ⟨hcls, hplen⟩ := pieces_ok hyo'
    have htake : ys.take (i + 1) = ys.take i ++ [y] := by rw [List.take_add_one, hy]; rfl
    clear F₃ N₃ Fb Nb
    refine TupleC (splicedC_cons (CallC ?_))
    walk_at "m_go"
    refine callWithC_def1 (o := o44) (fd := fd44) (show ¬ (1 + 0 : Nat) > 30 by omega) ?_
    walk_at "m_go"
    all_goals try (first | exact (0 : Addr) | exact Str.ofString "" | exact Value.none | exact ([] : List (Str × Addr)))
    (with_reducible rename Fr _ _ _ _ => F₅)
    have hBh5 : ∀ b o, B.get? b = some o → (hideAll h₅ [s.heap.objs.size]).get? b = some o := fun b o e => hideAll_get _ (F₅.keep b o e) (by
      intro q
      rw [List.mem_singleton.mp q, hBL] at e
      cases e)
    refine ⟨⟨KB.keeps F₅.keep _ _ h44, hd44⟩, ?_⟩
    refine cmp_ok w mg mb p loose _ _ s.heap.objs.size { oL with slots := sl } _ y ty _ _ (KB.keeps hBh5) (TB.keeps hBh5) rfl (show callerA.depth + 1 + 10 < recursionLimit by decide) rfl rfl rfl (N₅ _ (.tail _ (.tail _ (.head _)))).1 ⟨es, ep, hdL⟩ hyo' hcls hplen fun h₆ tk₆ l₆ us n₆ sl₆ hk₆ hL₆ hg₆ hn₆ hits => ?_
    have hCL : @Ne Nat (h₃.objs.size + 2) s.heap.objs.size := by omega
    have F₆ : Fr B (h₃.objs.size + 2) h₆ (fun z => if z = Str.ofString "text" then some (.str y ty) else m₁ z) := ⟨F₅.ns.at' fun o e => hk₆ _ o hCL e, fun b o e => hk₆ b o (fun q => by rw [q, hBL] at e; cases e) (F₅.keep b o e), F₅.above⟩
    have N₆ : News B (h₃.objs.size + 2) h₆ ((h₃.objs.size, o) :: (h₃.objs.size + 1, W.listOf ws.toArray n) :: (l₆, W.listOf us.toArray n₆) :: (s.heap.objs.size, { oL with slots := sl₆ }) :: T₁) := by
      have up : ∀ q ∈ (h₃.objs.size, o) :: (h₃.objs.size + 1, W.listOf ws.toArray n) :: (s.heap.objs.size, { oL with slots := sl }) :: T₁, q.1 ≠ s.heap.objs.size → h₆.get? q.1 = some q.2 ∧ q.1 ≠ h₃.objs.size + 2 ∧ B.get? q.1 = none := fun q hq hne => ⟨hk₆ _ _ hne (N₅ q hq).1, (N₅ q hq).2⟩
      intro q hq
      rcases List.mem_cons.mp hq with rfl | hq
      · exact up _ (.head _) (show @Ne Nat _ _ by omega)
      rcases List.mem_cons.mp hq with rfl | hq
      · exact up _ (.tail _ (.head _)) (show @Ne Nat _ _ by omega)
      rcases List.mem_cons.mp hq with rfl | hq
      · exact grow_new F₅ hg₆ hn₆
      rcases List.mem_cons.mp hq with rfl | hq
      · exact ⟨hL₆, (N₅ _ (.tail _ (.tail _ (.head _)))).2⟩
      · exact up _ (.tail _ (.tail _ (.tail _ hq))) (hTne _ hq).1
    have hl6 : l₆ ≠ s.heap.objs.size ∧ l₆ ≠ h₃.objs.size ∧ l₆ ≠ h₃.objs.size + 1 := ⟨new_ne N₅ (.tail _ (.tail _ (.head _))) hn₆, new_ne N₅ (.head _) hn₆, new_ne N₅ (.tail _ (.head _)) hn₆⟩
    clear F₅ N₅ hold hit hns hD hBh5
    walk_at "m_go"
    all_goals try (first | exact (0 : Addr) | exact Str.ofString "" | exact Value.none | exact ([] : List (Str × Addr)))
    (with_reducible rename Fr _ _ _ _ => F₇)
    (with_reducible rename News _ _ _ _ => N₇)
    rename_i D' _ l1'
    have e1 : @LT.lt Nat _ h₃.objs.size D' := l1'.1
    have e2 : @LT.lt Nat _ (h₃.objs.size + 1) D' := l1'.2.1
    have e3 : @LT.lt Nat _ s.heap.objs.size D' := l1'.2.2.2.1
    have hT' : ∀ p ∈ (D', rowObj l₆ y ty) :: (l₆, W.listOf us.toArray n₆) :: T₁, p.1 ≠ s.heap.objs.size ∧ p.1 ≠ h₃.objs.size ∧ p.1 ≠ h₃.objs.size + 1 := by
      intro p hp
      rcases List.mem_cons.mp hp with rfl | hp
      · exact ⟨Nat.ne_of_gt e3, Nat.ne_of_gt e1, Nat.ne_of_gt e2⟩
      rcases List.mem_cons.mp hp with rfl | hp
      · exact hl6
      · exact hTne p hp
    refine ⟨_, _, _, (s.heap.objs.size, { oL with slots := sl₆ }) :: (D', rowObj l₆ y ty) :: (l₆, W.listOf us.toArray n₆) :: T₁, rfl, F₇, ?_, ?_, sl₆, _, rfl, ?_, hT'⟩
    · intro q hq
      rcases List.mem_cons.mp hq with rfl | hq
      · exact N₇ _ (.tail _ (.head _))
      rcases List.mem_cons.mp hq with rfl | hq
      · exact N₇ _ (.tail _ (.tail _ (.head _)))
      rcases List.mem_cons.mp hq with rfl | hq
      · exact N₇ _ (.tail _ (.tail _ (.tail _ (.tail _ (.head _)))))
      rcases List.mem_cons.mp hq with rfl | hq
      · exact N₇ _ (.head _)
      rcases List.mem_cons.mp hq with rfl | hq
      · exact N₇ _ (.tail _ (.tail _ (.tail _ (.head _))))
      · exact N₇ _ (.tail _ (.tail _ (.tail _ (.tail _ (.tail _ hq)))))
    · intro q hq
      rcases List.mem_cons.mp hq with rfl | hq
      · exact ⟨show @Ne Nat _ _ by omega, show @Ne Nat _ _ by omega⟩
      · exact (hT' q hq).2
    · rw [htake]
      exact RowsIn.snoc (hrows.mono fun p hp => .tail _ (.tail _ hp)) (.head _) (.tail _ (.head _)) hits
  case done =>
    intro m₁ rws n news₁ h₅ tk₅ hwl hJ F₅ N₅
    obtain ⟨sl, T₁, rfl, hrows, hTne⟩ := hJ
    have hCL : @Ne Nat (h₃.objs.size + 2) s.heap.objs.size := by omega
    dsimp only
    refine wpAny_assign_Name (wpAny_storeName_local (m := _) rfl ⟨{ oL with slots := sl }, es, ep, (N₅ _ (.tail _ (.head _))).1, hdL, hrest⟩ (fun h₆ hn₆ hs₆ => ?_) rfl)
    refine ⟨m₁, F₅.ns.sameBut hs₆ hCL, fun h₇ hs₇ => ?_⟩
    have st : ∀ b o, h₅.get? b = some o → b ≠ s.heap.objs.size → b ≠ h₃.objs.size + 2 → h₇.get? b = some o := fun b o e h1 h2 => (hs₇.2 b h2).trans ((hs₆.2 b h1).trans e)
    have F₈ := Fr.mk (h₀ := s.heap) (hn₆.sameBut hs₇ (Ne.symm hCL)) (fun b o e => st b o (F₅.keep b o (hB0 b o e)) (Nat.ne_of_lt (Heap.lt_size e)) (Nat.ne_of_lt (Nat.lt_succ_of_lt (Nat.lt_succ_of_lt (Nat.lt_trans (Heap.lt_size e) hLlt))))) (Nat.le_refl _)
    have N₈ : News s.heap s.heap.objs.size h₇ ((h₃.objs.size + 1, W.listOf rws.toArray n) :: (l', W.listOf vals.toArray 0) :: T₁) := by
      intro q hq
      rcases List.mem_cons.mp hq with rfl | hq
      · have z := N₅ _ (.head _)
        exact ⟨st _ _ z.1 (show @Ne Nat _ _ by omega) z.2.1, show @Ne Nat _ _ by omega, hnB _ z.2.2⟩
      rcases List.mem_cons.mp hq with rfl | hq
      · exact ⟨st _ _ (F₅.keep _ _ (hBg _ _ hg' hl'L)) hl'L (Nat.ne_of_lt (Nat.lt_succ_of_lt (Nat.lt_succ_of_lt (Heap.lt_size hg')))), hl'L, (N₃ _ (.head _)).2.2⟩
      · have z := N₅ _ (.tail _ (.tail _ hq))
        exact ⟨st _ _ z.1 (hTne _ hq).1 z.2.1, (hTne _ hq).1, hnB _ z.2.2⟩
    have hwl' : rws.length = ys.length := by rw [hwl]; simpa using hvl
    rw [show vals.toArray.size = ys.length by simpa using hvl, List.take_of_length_le (Nat.le_refl _)] at hrows
    have hl'n : @Ne Nat l' (h₃.objs.size + 1) := Nat.ne_of_lt (Nat.lt_succ_of_lt (Heap.lt_size hg'))
    have hDL : @Ne Nat (h₃.objs.size + 1) s.heap.objs.size := by omega
    have hDn : ∀ p ∈ T₁, p.1 ≠ h₃.objs.size + 1 := fun p hp => (hTne p hp).2.2
    clear F₃ N₃ Fb Nb F₅ N₅ hns hold hit hD hB hBsz hBh hBL hBg hB0 hnB KB TB hlB out st hTne hs₆ hs₇ hn₆ hoL hdL hrest hLlt hg'
    generalize h₃.objs.size + 1 = Dr at *
    replace F₈ : Fr s.heap s.heap.objs.size h₇ _ := F₈
    try dsimp only
    clear hCL hwl
    obtain ⟨o91, fd91, h91, hd91⟩ := at91 w
    refine execsC_cons (lc_assign (by rfl) (by decide) (by decide) rfl (by decide) ?_)
    walk1
    (with_reducible rename Fr _ _ _ _ => F₈)
    refine ⟨l', vals.toArray, rfl, News.isList N₈ (.tail _ (.head _)), fun h₄ tk₄ hns hold hit hD => ?_⟩
    dsimp only at hns hold hit hD ⊢
    have KB := KX.keeps F₈.keep
    have TB := T.keeps F₈.keep
    have hlB : h₇.IsList l' vals.toArray := News.isList N₈ (.tail _ (.head _))
    have out : ∀ b, @LE.le Nat _ h₇.objs.size b → h₇.get? b = none := fun b e => Heap.get?_none_of_le e
    have hLlt : @LT.lt Nat _ s.heap.objs.size h₇.objs.size := F₈.ns.lt
    have Fb : Fr h₇ (h₇.objs.size + 2) h₄ (fun _ => none) := ⟨hns, hold, by omega⟩
    have Nb : News h₇ (h₇.objs.size + 2) h₄ [(h₇.objs.size + 1, W.listOf #[] 0)] := by
      intro p hp
      rw [List.mem_singleton.mp hp]
      exact ⟨hD, Nat.ne_of_lt (Nat.lt_succ_self _), out _ (Nat.le_succ _)⟩
    refine compC_list (h₀ := h₇) (s := { s with heap := h₄, toks := tk₄ }) (l := l') (I := h₇.objs.size) (D := h₇.objs.size + 1) (items := vals.toArray) (m₀ := fun _ => none) (news := []) (RnJ ys h₇.objs.size) rfl rfl rfl hlB (out _ (Nat.le_refl _)) (show @Ne Nat h₇.objs.size (h₇.objs.size + 2) by omega) (show @Ne Nat h₇.objs.size (h₇.objs.size + 1) by omega) (by simp; omega) hit (by simp) Fb Nb ⟨.nil, by simp⟩ ?turn ?done
    case turn =>
      intro i v m₁ ws n₁ news₁ h₅ tk₅ o hi₅ hJ F₅ N₅ hI₅ hD₅
      obtain ⟨y, ty, rfl, hy⟩ := StrsAre.item hst i v (by simpa using hi₅)
      have hyo' := hyo y (List.mem_of_getElem? hy)
      have htake : ys.take (i + 1) = ys.take i ++ [y] := by rw [List.take_add_one, hy]; rfl
      have K5 := KB.keeps F₅.keep
      have T5 := TB.keeps F₅.keep
      have hb5 : ∀ b, h₅.get? b = none → h₇.get? b = none := fun b e => F₅.noneBack e
      clear F₈ N₈ Fb Nb hns hold hit hD
      refine CallC ?_
      walk_at "m_go"
      refine callWithC_def1 (o := o91) (fd := fd91) (show ¬ (1 + 0 : Nat) > 30 by omega) ?_
      walk_at "m_go"
      all_goals try (first | exact (0 : Addr) | exact Str.ofString "" | exact Value.none | exact ([] : List (Str × Addr)))
      (with_reducible rename Fr _ _ _ _ => F₅)
      refine ⟨⟨K5 _ _ h91, hd91⟩, ?_⟩
      refine runs_ok w mg mb p loose _ _ y ty _ _ K5 T5 rfl (show callerA.depth + 1 + 20 < recursionLimit by decide) hyo' fun h₆ tk₆ l₆ us n₆ hk₆ hg₆ hn₆ hTT h66 => ?_
      obtain ⟨T₂, hrg, hT₂⟩ := hTT
      have hne : ∀ p ∈ (l₆, W.listOf us.toArray n₆) :: (T₂ ++ news₁), p.1 ≠ h₇.objs.size ∧ p.1 ≠ h₇.objs.size + 1 := by
        intro p hp
        rcases List.mem_cons.mp hp with rfl | hp
        · exact ⟨new_ne N₅ (.head _) hn₆, new_ne N₅ (.tail _ (.head _)) hn₆⟩
        rcases List.mem_append.mp hp with hp | hp
        · exact ⟨new_ne N₅ (.head _) (hT₂ p hp).2, new_ne N₅ (.tail _ (.head _)) (hT₂ p hp).2⟩
        · exact hJ.2 p hp
      refine ⟨h₆, tk₆, _, (l₆, W.listOf us.toArray n₆) :: (T₂ ++ news₁), rfl, grow_fr F₅ hk₆, ?_, hne, ?_, hne⟩
      · intro q hq
        rcases List.mem_cons.mp hq with rfl | hq
        · exact grow_news N₅ hk₆ _ (.head _)
        rcases List.mem_cons.mp hq with rfl | hq
        · exact grow_news N₅ hk₆ _ (.tail _ (.head _))
        rcases List.mem_cons.mp hq with rfl | hq
        · exact grow_new F₅ hg₆ hn₆
        rcases List.mem_append.mp hq with hq | hq
        · exact grow_new F₅ (hT₂ q hq).1 (hT₂ q hq).2
        · exact grow_news N₅ hk₆ _ (.tail _ (.tail _ hq))
      · rw [htake]
        exact RunsL.snoc (hJ.1.mono fun p hp => .tail _ (List.mem_append_right _ hp)) (.head _) (hrg.mono fun p hp => .tail _ (List.mem_append_left _ hp)) h66
    case done =>
      intro m₁ rns n₁ T₂ h₅ tk₅ hwl hJ F₅ N₅
      have hCL : @Ne Nat (h₇.objs.size + 2) s.heap.objs.size := by omega
      dsimp only
      refine wpAny_assign_Name (wpAny_storeName_local (m := _) rfl (F₈.ns.keeps F₅.keep) (fun h₆ hn₆ hs₆ => ?_) rfl)
      refine ⟨m₁, F₅.ns.sameBut hs₆ hCL, fun h₉ hs₇ => ?_⟩
      have st : ∀ b o, h₅.get? b = some o → b ≠ s.heap.objs.size → b ≠ h₇.objs.size + 2 → h₉.get? b = some o := fun b o e h1 h2 => (hs₇.2 b h2).trans ((hs₆.2 b h1).trans e)
      have ltC : ∀ b o, h₇.get? b = some o → b ≠ h₇.objs.size + 2 := fun b o e => Nat.ne_of_lt (Nat.lt_succ_of_lt (Nat.lt_succ_of_lt (Heap.lt_size e)))
      have F₉ := Fr.mk (h₀ := s.heap) (hn₆.sameBut hs₇ (Ne.symm hCL)) (fun b o e => st b o (F₅.keep b o (F₈.keep b o e)) (Nat.ne_of_lt (Heap.lt_size e)) (ltC _ _ (F₈.keep b o e))) (Nat.le_refl _)
      replace F₉ : Fr s.heap s.heap.objs.size h₉ _ := F₉
      have nb : ∀ b, h₇.get? b = none → s.heap.get? b = none := fun b e => F₈.noneBack e
      have neL : ∀ b, h₇.get? b = none → b ≠ s.heap.objs.size := fun b e q => by
        obtain ⟨o', es', ep', ho', _⟩ := F₈.ns
        rw [q, ho'] at e
        cases e
      have N₉ : News s.heap s.heap.objs.size h₉ ((h₇.objs.size + 1, W.listOf rns.toArray n₁) :: (Dr, W.listOf rws.toArray n) :: (l', W.listOf vals.toArray 0) :: (T₁ ++ T₂)) := by
        have old : ∀ q ∈ (Dr, W.listOf rws.toArray n) :: (l', W.listOf vals.toArray 0) :: T₁, h₉.get? q.1 = some q.2 ∧ q.1 ≠ s.heap.objs.size ∧ s.heap.get? q.1 = none := fun q hq => ⟨st _ _ (F₅.keep _ _ (N₈ q hq).1) (N₈ q hq).2.1 (ltC _ _ (N₈ q hq).1), (N₈ q hq).2⟩
        have new : ∀ q ∈ (h₇.objs.size + 1, W.listOf rns.toArray n₁) :: T₂, h₉.get? q.1 = some q.2 ∧ q.1 ≠ s.heap.objs.size ∧ s.heap.get? q.1 = none := fun q hq => ⟨st _ _ (N₅ q hq).1 (neL _ (N₅ q hq).2.2) (N₅ q hq).2.1, neL _ (N₅ q hq).2.2, nb _ (N₅ q hq).2.2⟩
        intro q hq
        rcases List.mem_cons.mp hq with rfl | hq
        · exact new _ (.head _)
        rcases List.mem_cons.mp hq with rfl | hq
        · exact old _ (.head _)
        rcases List.mem_cons.mp hq with rfl | hq
        · exact old _ (.tail _ (.head _))
        rcases List.mem_append.mp hq with hq | hq
        · exact old _ (.tail _ (.tail _ hq))
        · exact new _ (.tail _ hq)
      have hrns := hJ.1
      rw [show vals.toArray.size = ys.length by simpa using hvl, List.take_of_length_le (Nat.le_refl _)] at hrns
      have hrl : rns.length = ys.length := by rw [hwl]; simpa using hvl
      clear F₈ N₈ Fb Nb F₅ N₅ hns hold hit hD KB TB hlB out st hs₆ hs₇ hn₆ hLlt hJ ltC nb neL hCL hwl
      generalize h₇.objs.size + 1 = Dn at *
      replace hrns := hrns.mono (T' := T₁ ++ T₂) fun p hp => List.mem_append_right _ hp
      replace hrows := hrows.mono (T' := T₁ ++ T₂) fun p hp => List.mem_append_left _ hp
      generalize T₁ ++ T₂ = TT at *
      try dsimp only
      refine wpC_of ?_
      walk_at "m_go3"
      (with_reducible rename Fr _ _ _ _ => F₁₀)
      (with_reducible rename News _ _ _ _ => N₁₀)
      refine ⟨KX.keeps F₁₀.keep, ?_⟩
      refine call_cls (fI := 58) F₁₀ KX N₁₀ (by k_is) (by k_is) (by k_is) ?_
      intro x dx h₁₁ F₁₁ N₁₁ l1 l2
      clear F₁₀ N₁₀
      have hHd : ∀ b o, s.heap.get? b = some o → (hideAll h₁₁ [x, dx]).get? b = some o := fun b o e => hideAll_get _ (F₁₁.keep b o e) (by
        intro q
        rcases List.mem_cons.mp q with q | q
        · rw [q, (N₁₁ _ (.head _)).2.2] at e; cases e
        · rw [List.mem_singleton.mp q, (N₁₁ _ (.tail _ (.head _))).2.2] at e; cases e)
      refine init_ok w mg mb p loose _ _ x dx _ _ (KX.keeps hHd) (T.keeps hHd) rfl ?hdep (N₁₁ _ (.head _)).1 (N₁₁ _ (.tail _ (.head _))).1 l2 ?_
      case hdep => k_room
      intro h₁₂ tk₁₂ hsh tk0 n₁₂ hk₁₂ hsel
      refine ⟨rfl, ?_⟩
      dsimp only
      have F₁₂ : Fr s.heap s.heap.objs.size h₁₂ _ := ⟨F₁₁.ns.at' fun o e => hk₁₂ _ o (Ne.symm (N₁₁ _ (.tail _ (.head _))).2.1) e, fun b o e => hk₁₂ b o (fun q => by rw [q, (N₁₁ _ (.tail _ (.head _))).2.2] at e; cases e) (F₁₁.keep b o e), F₁₁.above⟩
      have N₁₂ := news_dx N₁₁ hk₁₂ hsel l2 l1
      obtain ⟨LD, Ta, T0, T1, qa, qb, qc, qd, N₁₃, mx, mdx, mT, mT0, mT1, mDn, mDr, ml, mTT⟩ : ∃ LD Ta T0 T1 qa qb qc qd, News s.heap s.heap.objs.size h₁₂ LD ∧ (x, instObj 68 dx) ∈ LD ∧ (dx, selOf hsh tk0 Ta n₁₂) ∈ LD ∧
          (Ta, ({ cls := .type "tuple", data := .seq #[.ref T0, .ref T1] } : Obj)) ∈ LD ∧ (T0, ({ cls := .type "tuple", data := .seq #[.int 0 qa, .int (-1) qb] } : Obj)) ∈ LD ∧ (T1, ({ cls := .type "tuple", data := .seq #[.int 1 qc, .int 1 qd] } : Obj)) ∈ LD ∧
          (Dn, W.listOf rns.toArray n₁) ∈ LD ∧ (Dr, W.listOf rws.toArray n) ∈ LD ∧ (l', W.listOf vals.toArray 0) ∈ LD ∧ ∀ p ∈ TT, p ∈ LD :=
        ⟨_, _, _, _, _, _, _, _, N₁₂, .head _, .tail _ (.head _), .tail _ (.tail _ (.head _)), .tail _ (.tail _ (.tail _ (.tail _ (.head _)))), .tail _ (.tail _ (.tail _ (.head _))),
          .tail _ (.tail _ (.tail _ (.tail _ (.tail _ (.head _))))), .tail _ (.tail _ (.tail _ (.tail _ (.tail _ (.tail _ (.head _)))))), .tail _ (.tail _ (.tail _ (.tail _ (.tail _ (.tail _ (.tail _ (.head _))))))), fun p hp => .tail _ (.tail _ (.tail _ (.tail _ (.tail _ (.tail _ (.tail _ (.tail _ hp)))))))⟩
      replace hrns := hrns.mono mTT
      replace hrows := hrows.mono mTT
      clear F₁₁ N₁₁ N₁₂ l1 hk₁₂ hsel hHd mTT
      walk_at "m_go"
      (with_reducible rename Fr _ _ _ _ => F₁₄)
      (with_reducible rename News _ _ _ _ => N₁₄)
      refine For_invV s.heap rfl rfl ?_
      walk_at "m_go4"
      (with_reducible rename IsRange _ _ _ _ _ _ _ _ => R₁)
      (with_reducible rename Fr _ _ _ _ => F₁₅)
      (with_reducible rename News _ _ _ _ => N₁₅)
      refine iter_rangeN (n := ys.length) (LJ LD x Dn Dr l') rfl R₁ (by simp [hwl']) (by omega) F₁₅ N₁₅ ⟨rfl, rfl, rfl, rfl, rfl⟩ ?_ ?_
      · rintro I i ui m₂ news₂ h tk o hlt hLI hi₁ ⟨rfl, hm1, hm2, hm3, hm4⟩ hne F₁₆ N₁₆
        have Fa := fr_under F₁₆ hm1
        have Fb := fr_under Fa (b := Str.ofString "runs") (u := .ref Dn) (by rw [if_neg (by decide +kernel)]; exact hm2)
        have Fc := fr_under Fb (b := Str.ofString "rows") (u := .ref Dr) (by rw [if_neg (by decide +kernel), if_neg (by decide +kernel)]; exact hm3)
        have Fd := fr_under Fc (b := Str.ofString "versions") (u := .ref l') (by rw [if_neg (by decide +kernel), if_neg (by decide +kernel), if_neg (by decide +kernel)]; exact hm4)
        clear F₁₆ Fa Fb Fc F₁₅ N₁₅
        walk_at "m_go4"
        refine For_invV s.heap rfl rfl ?_
        walk_at "m_go4"
        (with_reducible rename News _ _ _ _ => Ne)
        refine len_list (News.isList Ne (.tail _ mDr)) (by simp; omega) ?_
        walk_at "m_go4"
        (with_reducible rename IsRange _ _ _ _ _ _ _ _ => R₂)
        (with_reducible rename Fr _ _ _ _ => F₁₇)
        (with_reducible rename News _ _ _ _ => N₁₇)
        replace F₁₇ : Fr s.heap s.heap.objs.size _ _ := F₁₇
        replace N₁₇ : News s.heap s.heap.objs.size _ _ := N₁₇
        have hIm : ∀ p ∈ news₂, p.1 ≠ I := hne
        refine iter_rangeN (n := ys.length) (LJ2 ((I, o) :: news₂) x Dn Dr l' i) rfl R₂ (by simp [hwl']) (by omega) F₁₇ N₁₇ ⟨rfl, rfl, rfl, rfl, rfl, ui, rfl⟩ ?_ ?_
        · rintro I₂ j uj m₃ news₃ h tk o₂ hlt₂ hLI₂ hj₁ ⟨rfl, hm1, hm2, hm3, hm4, ti, hm5⟩ hne₂ F₁₈ N₁₈
          have Fa := fr_under F₁₈ hm1
          have Fb := fr_under Fa (b := Str.ofString "runs") (u := .ref Dn) (by rw [if_neg (by decide +kernel)]; exact hm2)
          have Fc := fr_under Fb (b := Str.ofString "rows") (u := .ref Dr) (by rw [if_neg (by decide +kernel), if_neg (by decide +kernel)]; exact hm3)
          have Fd := fr_under Fc (b := Str.ofString "versions") (u := .ref l') (by rw [if_neg (by decide +kernel), if_neg (by decide +kernel), if_neg (by decide +kernel)]; exact hm4)
          have Fe := fr_under Fd (b := Str.ofString "i") (u := .int (i : Int) ti) (by rw [if_neg (by decide +kernel), if_neg (by decide +kernel), if_neg (by decide +kernel), if_neg (by decide +kernel)]; exact hm5)
          clear F₁₈ Fa Fb Fc Fd F₁₇ N₁₇
          replace Fe : Fr s.heap s.heap.objs.size _ _ := Fe
          replace N₁₈ : News s.heap s.heap.objs.size _ _ := N₁₈
          have up : ∀ p ∈ news₂, p ∈ (I₂, o₂) :: (I, o) :: news₂ := fun p hp => .tail _ (.tail _ hp)
          obtain ⟨yi, hyi⟩ : ∃ y, ys[i]? = some y := ⟨_, List.getElem?_eq_getElem hi₁⟩
          obtain ⟨yj, hyj⟩ : ∃ y, ys[j]? = some y := ⟨_, List.getElem?_eq_getElem hj₁⟩
          obtain ⟨ai, usi, nni, hai, mai, rgi, li66⟩ := hrns.get hyi
          obtain ⟨aj, usj, nnj, haj, maj, rgj, lj66⟩ := hrns.get hyj
          obtain ⟨ri, lai, tri, uri, nri, hri, mri, mlai, iti⟩ := hrows.get hyi
          obtain ⟨rj, laj, trj, urj, nrj, hrj, mrj, mlaj, itj⟩ := hrows.get hyj
          obtain ⟨tyi, hvi⟩ : ∃ t, vals[i]? = some (.str yi t) := by
            obtain ⟨v, hv⟩ : ∃ v, vals[i]? = some v := ⟨_, List.getElem?_eq_getElem (by omega)⟩
            obtain ⟨y, t, rfl, hy⟩ := StrsAre.item hst i v hv
            rw [hyi] at hy
            cases hy
            exact ⟨t, hv⟩
          obtain ⟨tyj, hvj⟩ : ∃ t, vals[j]? = some (.str yj t) := by
            obtain ⟨v, hv⟩ : ∃ v, vals[j]? = some v := ⟨_, List.getElem?_eq_getElem (by omega)⟩
            obtain ⟨y, t, rfl, hy⟩ := StrsAre.item hst j v hv
            rw [hyj] at hy
            cases hy
            exact ⟨t, hv⟩
          obtain ⟨o98, fd98, h98, hd98⟩ := at98 w
          walk_at "m_go"
          refine CallA ?_
          walk_at "m_go"
          refine item_nat (News.isList N₁₈ (up _ mDn)) (by simpa using hai) (by omega) ?_
          walk_at "m_go"
          refine item_nat (News.isList N₁₈ (up _ ml)) (by simpa using hvi) (by omega) ?_
          walk_at "m_go"
          refine item_nat (News.isList N₁₈ (up _ mDn)) (by simpa using haj) (by omega) ?_
          walk_at "m_go"
          refine item_nat (News.isList N₁₈ (up _ ml)) (by simpa using hvj) (by omega) ?_
          walk_at "m_go"
          (with_reducible rename Fr _ _ _ _ => Fe)
          refine ⟨KX.keeps Fe.keep, ?_⟩
          have NL : News s.heap s.heap.objs.size h news₂ := fun p hp => N₁₈ p (up p hp)
          refine first_ok w mg mb p loose _ _ ai aj usi usj (itsOf yi) (itsOf yj) yi yj tyi tyj _ _ (KX.keeps Fe.keep) (T.keeps Fe.keep) rfl (show callerA.depth + 1 + 10 < recursionLimit by decide) (show callerA.units + 3 + 20 < cLine by decide) (News.isList NL mai) (RgIn.at NL rgi) li66 (News.isList NL maj) (RgIn.at NL rgj) lj66 fun h₂ tk₂ tr hk => ?_
          have F2 := grow_fr Fe hk
          have N2 := grow_news N₁₈ hk
          clear Fe N₁₈ NL hk
          try dsimp only
          walk_at "m_go"
          (with_reducible rename Fr _ _ _ _ => F3)
          (with_reducible rename News _ _ _ _ => N3)
          rename_i h₃'
          have hInst : InstAt h₃' x ⟨.ref 68, some dx, .plain, #[]⟩ 68 (some (selOf hsh tk0 Ta n₁₂)) := ⟨(N3 _ (up _ mx)).1, rfl, rfl, (N3 _ (up _ mdx)).1⟩
          walk1
          walk_at "m_go"
          refine item_nat (News.isList N3 (up _ mDr)) (by simpa using hri) (by omega) ?_
          walk_at "m_go"
          refine item_nat (News.isList N3 (up _ mDr)) (by simpa using hrj) (by omega) ?_
          walk_at "m_go"
          (with_reducible rename Fr _ _ _ _ => F3)
          refine ⟨KX.keeps F3.keep, ?_⟩
          try dsimp only [List.cons_append, List.nil_append]
          have tup : ∀ {a : Addr} {items : Array Value}, (a, ({ cls := .type "tuple", data := .seq items } : Obj)) ∈ news₂ → h₃'.IsTuple a items := fun hm => ⟨_, (N3 _ (up _ hm)).1, rfl, _, rfl⟩
          have NL : News s.heap s.heap.objs.size h₃' news₂ := fun p hp => N3 p (up p hp)
          refine compare_ok w mg mb p loose _ _ x dx Ta T0 T1 ri rj lai laj hsh tk0 qa qb qc qd n₁₂ #[] uri urj (itsOf yi) (itsOf yj) yi yj tri trj _ _ (KX.keeps F3.keep) (T.keeps F3.keep) rfl (show callerA.depth + 1 + 10 < recursionLimit by decide) (show callerA.units + 3 + 20 < cLine by decide) hInst (tup mT) (tup mT0) (tup mT1) (tup mri) (tup mrj) (News.isList NL mlai) iti (News.isList NL mlaj) itj fun h₄ tk₄ tr₂ hk₂ => ?_
          have F4 := grow_fr F3 hk₂
          have N4 := grow_news N3 hk₂
          clear F3 N3 NL tup hk₂ hInst
          try dsimp only
          walk_at "m_go"
          · rename_i hcon
            exact absurd rfl hcon
          · (with_reducible rename Fr _ _ _ _ => F5)
            (with_reducible rename News _ _ _ _ => N5)
            exact turn_go F5 ⟨rfl, rfl, rfl, rfl, rfl, ti, rfl⟩ N5 hne₂
        · rintro m₃ news₃ h tk ⟨rfl, hm1, hm2, hm3, hm4, ti, hm5⟩ F₁₈ N₁₈
          walk_at "m_go4"
          exact turn_go F₁₈ ⟨rfl, hm1, hm2, hm3, hm4⟩ N₁₈ hne
      · rintro m₂ news₂ h tk ⟨rfl, hm1, hm2, hm3, hm4⟩ F₁₆ N₁₆
        walk_at "m_go4"
        exact hQ _ _ F₁₆.keep
end Mine

end

/- part F8 -/
section
open PySem PySem.W PyProof.Rows
set_option Elab.async false
set_option maxRecDepth 100000
set_option maxHeartbeats 8000000
namespace Mine
theorem walk_ok : PySem.Challenge.rw_mj0058_01.Holds := by
  refine MTop.hd ?_
  k_fill
  intro w s₀ s₁ mg mb G Y fa o pm cd doc dV kV ho hd hcd hD hmg hg args vals as hpre hlay hrd hwl hlo
  have KX := kIn_of Y
  have X := (Ground.X G).1
  have V := (Ground.X G).2
  refine Ground.open G ?_
  intro T B D TE TW
  wrow_args hpre hlay hrd hwl hlo
  clear hd hcd hD
  replace hmg : mg (Str.ofString "law") = some (.ref fa) := hmg
  have e103 : mg (Str.ofString "law") = some (.ref 103) := mg_of KX T.g (by k_is)
  rw [hmg] at e103
  have hfa : fa = 103 := by cases e103; rfl
  subst hfa
  clear ho hmg e103
  (with_reducible rename IntsAre _ _ => hI)
  (with_reducible rename Heap.IsList _ _ _ => hL)
  (with_reducible rename ¬ _ < _ => hc)
  refine law_ok w mg mb _ _ s₁ _ _ _ _ _ KX (topRead_of T) hL hI (by omega) fun h' tk hk => ?_
  refine GoodW.toG ⟨.inl ⟨.bool true, .bool true, [], rfl, ?hn, .bool true, ?hp, unshared_nil⟩, hk, rfl, hg⟩
  case hn => intro cls; rfl
  case hp => first | with_unfolding_all rfl | kernel_rfl | decide | (simp; done)
end Mine

end

theorem PySem.Challenge.cw_mj0058_01_holds : PySem.Challenge.rw_mj0058_01.Holds :=
  Mine.walk_ok
