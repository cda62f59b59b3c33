import PyProof.Rows.All
import Wide.All
import OpenK.AllK
import KE.LcTurns
import KE.KData
import KE.KIntText
import KE.KSortAsk
import Wide.FinOn
import Lean
import PySem.Challenge.RW_mr0083_01
set_option Elab.async false

-- part W1
section
open PySem PySem.W PyProof.Rows PySem.Spec PySem.Calls
set_option maxRecDepth 100000
set_option maxHeartbeats 1000000
namespace Mine
open Sem (wp)

/-- the claim's caller stands in the stack -/
def belC (Γ : PySem.Ctx) : Prop := ∃ x ∈ Γ.below, x.1.isCaller = true
def hasC (Γ : PySem.Ctx) : Prop := Γ.code.isCaller = true ∨ belC Γ
theorem hasC.enter {Γ : PySem.Ctx} (h : hasC Γ) (c : Code) (hd : Option Value) (p : Pos) : belC (Γ.enter c hd p) := by
  rcases h with h | ⟨x, hx, h⟩
  · exact ⟨(Γ.code, p), List.mem_cons_self, h⟩
  · exact ⟨x, List.mem_cons_of_mem _ hx, h⟩
theorem belC.goto {Γ : PySem.Ctx} (h : belC Γ) (c : Code) : belC (Γ.goto c) := h

def wpC {α : Type} (M : Model) (A : Around) (t : Sem α) (Q : α → Shared → Prop) (E : Value → Shared → Prop) (s : Shared) : Prop :=
  ∀ (Γ : PySem.Ctx) p, Γ.In A → hasC Γ → wp M Γ t (fun a _ s' => Q a s') (fun e _ s' => E e s') p s
def codeC (M : Model) (A : Around) (c : Code) (R : Result → Shared → Prop) (s : Shared) : Prop :=
  ∀ (Γ : PySem.Ctx) p, Γ.code = c → Γ.Below A → belC Γ → wpCode M Γ R p s

abbrev noE : Value → Shared → Prop := fun _ _ => False

section
variable {α β : Type} {M : Model} {A : Around} {E : Value → Shared → Prop} {s : Shared}
theorem wpC_any {t : Sem α} {Q : α → Shared → Prop} (h : wpAny M A t Q E s) : wpC M A t Q E s := fun Γ p hΓ _ => h Γ p hΓ
theorem codeC_any {c : Code} {R : Result → Shared → Prop} (h : codeAny M A c R s) : codeC M A c R s := fun Γ p hc hΓ _ => h Γ p hc hΓ
theorem wpC_mono {t : Sem α} {Q Q' : α → Shared → Prop} {E' : Value → Shared → Prop} (h : wpC M A t Q E s) (hQ : ∀ a s, Q a s → Q' a s) (hE : ∀ e s, E e s → E' e s) : wpC M A t Q' E' s :=
  fun Γ p hΓ hC => Sem.wp_mono M Γ t (fun a _ s => hQ a s) (fun e _ s => hE e s) p s (h Γ p hΓ hC)
theorem wpC_noE {t : Sem α} {Q : α → Shared → Prop} (h : wpC M A t Q noE s) : wpC M A t Q E s := wpC_mono h (fun _ _ x => x) fun _ _ x => x.elim
theorem wpC_pure {a : α} {Q : α → Shared → Prop} (h : Q a s) : wpC M A (pure a) Q E s := fun _ _ _ _ => h
theorem wpC_bind {m : Sem α} {f : α → Sem β} {Q : β → Shared → Prop} (h : wpC M A m (fun a s' => wpC M A (f a) Q E s') E s) : wpC M A (m >>= f) Q E s := fun Γ p hΓ hC => by
  rw [Sem.wp_bind']
  exact Sem.wp_mono M Γ m (fun a p' s' h' => h' Γ p' hΓ hC) (fun _ _ _ h' => h') p s (h Γ p hΓ hC)
/-- a leaf first -/
theorem wpC_then {m : Sem α} {f : α → Sem β} {Q : β → Shared → Prop} (h : wpAny M A m (fun a s' => wpC M A (f a) Q E s') E s) : wpC M A (m >>= f) Q E s := wpC_bind (wpC_any h)
theorem wpC_onRaise {m : Sem α} {k : Value → Sem Unit} {Q : α → Shared → Prop} (h : wpC M A m Q noE s) : wpC M A (m.onRaise k) Q E s := fun Γ p hΓ hC => by
  rw [Sem.wp_onRaise]
  exact Sem.wp_mono M Γ m (fun _ _ _ h' => h') (fun _ _ _ h' => h'.elim) p s (h Γ p hΓ hC)
theorem wpC_attempt {m : Sem α} {Q : Except Value α → Shared → Prop} (h : wpC M A m (fun a => Q (.ok a)) (fun e => Q (.error e)) s) : wpC M A m.attempt Q E s := fun Γ p hΓ hC => by
  rw [Sem.wp_attempt]; exact h Γ p hΓ hC
theorem wpC_holding {vs : List Value} {m : Sem α} {Q : α → Shared → Prop} (h : wpC M A m Q E s) : wpC M A (holding vs m) Q E s := fun Γ p hΓ hC => by
  rw [Sem.wp_holding]; exact h Γ p hΓ hC
theorem codeC_mono {c : Code} {R R' : Result → Shared → Prop} (h : codeC M A c R s) (hR : ∀ r s, R r s → R' r s) : codeC M A c R' s :=
  fun Γ p hc hΓ hC => wpCode_mono hR (h Γ p hc hΓ hC)
theorem wpC_run {c : Code} {h : Option Value} {Q : Flow → Shared → Prop} (hc : codeC M (A.mark h) c (fun r s' => match r with | .ok f => Q f s' | .error e => E e s') s) (hnb : h ≠ some byPass := by intro x; cases x) :
    wpC M A (run c h) Q E s := fun Γ p hΓ hC => by
  rw [Sem.wp_run]; exact hc _ p rfl (hΓ.enter c h p hnb) (hC.enter c h p)
theorem wpC_runValue {c : Code} {Q : Value → Shared → Prop} (hc : codeC M A c (fun r s' => match r with | .ok (.ret v) => Q v s' | .ok _ => False | .error e => E e s') s) :
    wpC M A (runValue c) Q E s := fun Γ p hΓ hC => by
  rw [Sem.wp_runValue]; exact hc _ p rfl (hΓ.enter c none p (by intro x; cases x)) (hC.enter c none p)
theorem wpC_call {f : Value} {pos : List Value} {kw : List (Str × Value)} {Q : Value → Shared → Prop}
    (hc : codeC M A (.call f ⟨pos, kw⟩) (fun r s' => match r with | .ok (.ret v) => Q v s' | .ok _ => False | .error e => E e s') s) : wpC M A (call f pos kw) Q E s := wpC_runValue hc
theorem codeC_of_tree {c : Code} {R : Result → Shared → Prop}
    (h : wpC M (A.under c) (M.den c) (fun fin s' => match fin with | .done f => R (.ok f) s' | .again c' => c'.quiet = true ∧ codeC M A c' R s') (fun e s' => R (.error e) s') s) : codeC M A c R s := fun Γ p hc hΓ hC => by
  rw [wpCode_iff_wp, hc]
  refine Sem.wp_mono M Γ _ (fun fin p' s' h' => ?_) (fun _ _ _ h' => h') p s (h Γ p (hc ▸ hΓ.in) (.inr hC))
  cases fin with
  | done f => exact h'
  | again c' => exact ⟨h'.1, h'.2 (Γ.goto c') p' rfl (hΓ.goto c') (hC.goto c')⟩
theorem codeC_loop {c : Code} {R : Result → Shared → Prop} (hq : c.quiet = true) (I : Nat → Shared → Prop)
    (turn : ∀ n s, I n s → wpC M (A.under c) (M.den c)
      (fun fin s' => match fin with | .done f => R (.ok f) s' | .again c' => (c' = c ∧ ∃ m, m < n ∧ I m s') ∨ (c'.quiet = true ∧ codeC M A c' R s')) (fun e s' => R (.error e) s') s)
    (n : Nat) (h : I n s) : codeC M A c R s := by
  induction n using Nat.strongRecOn generalizing s with
  | ind n ih =>
    refine codeC_of_tree (wpC_mono (turn n s h) (fun fin s' hf => ?_) fun _ _ h' => h')
    cases fin with
    | done f => exact hf
    | again c' =>
      rcases hf with ⟨rfl, m, hm, hI⟩ | hf
      · exact ⟨hq, ih m hm hI⟩
      · exact hf

theorem wpC_execs_cons {env : Env} {st rest} {Q : Flow → Shared → Prop}
    (h : wpC M A (exec st env) (fun f s' => match f with | .next => wpC M A (execs rest env) Q E s' | f => Q f s') E s) : wpC M A (execs (st :: rest) env) Q E s := by
  rw [execs_cons]
  refine wpC_bind (wpC_mono h (fun f s' h' => ?_) fun _ _ x => x)
  cases f <;> first | exact h' | exact wpC_pure h'
theorem wpC_execs_nil {env : Env} {Q : Flow → Shared → Prop} (h : Q .next s) : wpC M A (execs [] env) Q E s := fun _ _ _ _ => h
theorem wpC_If {env : Env} {test body orelse pos} {Q : Flow → Shared → Prop}
    (h : wpAny M A (isTrue test env (eval test env)) (fun b s₂ => if b then wpC M A (execs body env) Q E s₂ else wpC M A (execs orelse env) Q E s₂) E s) : wpC M A (exec (.If test body orelse pos) env) Q E s := by
  rw [exec_If]
  refine wpC_then (wpAny_standAt (wpC_then (wpAny_mono h (fun b s₂ h₂ => ?_) fun _ _ x => x)))
  cases b <;> exact h₂
theorem wpC_Assign {env : Env} {x pos' value pos} {Q : Flow → Shared → Prop}
    (h : wpC M A (eval value env) (fun v s₁ => wpAny M A (storeName env x v) (fun _ => Q .next) E s₁) E s)
    (hs : swapsWith value (some (.Name x pos')) pos.line env = pure false := by rfl) : wpC M A (exec (.Assign [.Name x pos'] value pos) env) Q E s := by
  rw [exec_Assign_Name env x pos' value pos hs]
  refine wpC_then (wpAny_standAt (wpC_bind (wpC_mono h (fun v s₁ h₁ => ?_) fun _ _ x => x)))
  exact wpC_then (wpAny_standAt (wpC_then (wpAny_bindName (wpAny_mono h₁ (fun _ _ q => wpC_pure q) fun _ _ x => x))))
theorem wpC_For {env : Env} {target iter body orelse pos} {Q : Flow → Shared → Prop}
    (h : wpAny M A (eval iter env) (fun x s₁ => wpAny M A (pyIter x) (fun it s₂ => codeC M A (.forLoop target it body orelse env) (fun r s' => match r with | .ok f => Q f s' | .error _ => False) s₂) E s₁) E s)
    (hs : ∀ x, foldedSetIterable iter env x = pure x := by intro _; rfl) : wpC M A (exec (.For target iter body orelse pos) env) Q E s := by
  rw [exec_For]
  refine wpC_then (wpAny_standAt (wpC_then (wpAny_mono h (fun x s₁ h₁ => ?_) fun _ _ x => x)))
  refine wpC_then (wpAny_of_eq (hs x) (wpC_then (wpAny_standAt (wpC_then (wpAny_holding (wpAny_mono h₁ (fun it s₂ h₂ => ?_) fun _ _ x => x))))))
  unfold runOwn
  exact wpC_onRaise (wpC_run (codeC_mono h₂ fun r s' hr => by cases r <;> exact hr))
theorem wpC_Try {env : Env} {body : List Stmt} {h₀ : ExceptHandler} {hs : List ExceptHandler} {pos : Pos} {Q : Flow → Shared → Prop}
    (h : wpC M A (execs body env) Q
      (fun e s₁ => wpAny M A (noteFrame e env) (fun _ s₂ => wpAny M A (setFlight e none) (fun _ s₃ => wpAny M A (handleBy e env (h₀ :: hs)) Q E s₃) E s₂) E s₁) s) :
    wpC M A (exec (.Try body (h₀ :: hs) [] [] pos) env) Q E s := by
  rw [arm_exec_Try]
  refine wpC_then (wpAny_standAt ?_)
  unfold tryStmt
  simp only [List.isEmpty_nil, if_true, List.isEmpty_cons, Bool.false_and, Bool.false_eq_true, if_false]
  refine wpC_bind (wpC_attempt (wpC_mono h (fun f s₁ h₁ => ?_) fun e s₁ h₁ => ?_))
  · cases f <;> first | exact wpC_pure h₁ | exact wpC_execs_nil h₁
  · exact wpC_any (wpAny_bind (wpAny_mono h₁ (fun _ _ h₂ => wpAny_bind h₂) fun _ _ x => x))
theorem wpC_ite {c : Prop} [Decidable c] {a b : Sem α} {Q : α → Shared → Prop} (h : if c then wpC M A a Q E s else wpC M A b Q E s) : wpC M A (if c then a else b) Q E s := by
  by_cases hc : c
  · rw [if_pos hc] at h ⊢; exact h
  · rw [if_neg hc] at h ⊢; exact h
theorem wpC_tail {t : Sem Value} {Q : Value → Shared → Prop} (ht : wpC M A t Q E s) : wpC M A (t >>= fun r => holding [r] point >>= fun _ => pure r) Q E s :=
  wpC_bind (wpC_mono ht (fun _ _ hr => wpC_then (wpAny_holding (wpAny_point (wpC_pure hr)))) fun _ _ x => x)
theorem wpC_keep {vs : List Value} {m : Sem α} {Q : α → Shared → Prop} (h : wpC M A m Q E s) : wpC M A (m.keep vs) Q E s := fun Γ p hΓ hC => by
  rw [Sem.wp_keep]; exact h Γ p hΓ hC
theorem wpC_callWith_type {pos : Pos} {T : String} {first : List Value} {args : List (Bool × Sem Value)} {Q : Value → Shared → Prop} (hplain : args.any (·.1) = false)
    (h : wpAny M A (evalArgs (.type T) true args []) (fun a s₁ => wpC M A (call (.type T) (first ++ a.pos) a.kw) Q E s₁) E s) : wpC M A (callWith pos (.type T) first args []) Q E s := by
  unfold callWith
  refine wpC_then (wpAny_holding (wpAny_mono h (fun a s₁ h₁ => wpC_then (wpAny_standAt ?_)) fun _ _ x => x))
  simp only [hplain, List.any_nil, Bool.or_false]
  exact wpC_then (wpAny_pure (wpC_tail h₁))
theorem wpC_callWith_ref {pos : Pos} {a : Addr} {o : Obj} {fd : FuncData} {first : List Value} {args : List (Bool × Sem Value)} {Q : Value → Shared → Prop} (hplain : args.any (·.1) = false)
    (h : wpAny M A (evalArgs (.ref a) true args []) (fun x s₁ => (s₁.heap.get? a = some o ∧ o.data = .func fd) ∧ wpC M A (call (.ref a) (first ++ x.pos) x.kw) Q E s₁) E s) : wpC M A (callWith pos (.ref a) first args []) Q E s := by
  unfold callWith
  refine wpC_then (wpAny_holding (wpAny_mono h (fun x s₁ h₁ => wpC_then (wpAny_standAt ?_)) fun _ _ x => x))
  simp only [hplain, List.any_nil, Bool.or_false]
  refine wpC_then (m := keeperOf (.ref a)) ?_
  unfold keeperOf
  refine wpAny_bind (wpAny_load h₁.1.1 ?_)
  rw [h₁.1.2]
  refine wpAny_pure ?_
  dsimp only
  refine wpC_ite ?_
  split
  · exact wpC_tail h₁.2
  · exact wpC_tail (by unfold callMarked; exact wpC_keep h₁.2)
theorem wpC_Call_Name {env : Env} {id : Str} {p pos : Pos} {args : List PySem.Expr} {keywords : List Keyword} {Q : Value → Shared → Prop}
    (h : wpAny M A (eval (.Name id p) env) (fun f s₁ => wpC M A (callWith pos f [] (backTo pos (starEach args env)) (backToKw pos (keywordEach keywords env))) Q E s₁) E s) : wpC M A (eval (.Call (.Name id p) args keywords pos) env) Q E s := by
  rw [arm_eval_Call_Name']
  exact wpC_then h
end

section
variable {prog : Program} {w : World} {A : Around} {E : Value → Shared → Prop} {R : Result → Shared → Prop} {s : Shared}
theorem codeC_func {body env} (h : wpC (model prog w) (A.deeper env) (execs body env) (fun f s' => R (.ok (.ret (match f with | .ret v => v | _ => .none))) s') noE s) : codeC (model prog w) A (.func body env) R s := by
  refine codeC_of_tree ?_
  show wpC _ (A.deeper env) (do point; match ← (execs body env).onRaise (leaving env) with | .ret v => ret v | _ => ret .none) _ _ s
  refine wpC_then (wpAny_point (wpC_bind (wpC_onRaise (wpC_mono h (fun f s' h' => ?_) fun _ _ h' => h'))))
  cases f <;> exact wpC_pure h'
theorem codeC_call_def {a : Addr} {o : Obj} {fd : FuncData} {body : List Stmt} {args : Args} {binds : List (Str × Value)}
    (hroom : A.depth < recursionLimit) (ho : s.heap.get? a = some o) (hdata : o.data = .func fd) (hlim : s.heap.NoLimit) (hcd : s.heap.CodeRec fd.code fd.qualname)
    (hbody : fd.body = .stmts body) (hbind : BindsTo s fd args binds) (hcell : ∀ x ∈ fd.scope.names, x.2 ≠ .cell) (hloc : ∀ x ∈ binds, fd.scope.names.lookup x.1 = some .local)
    (h : ∀ h₀, h₀.Ns s.heap.objs.size (fun x => binds.reverse.lookup x) → (∀ b o, s.heap.get? b = some o → h₀.get? b = some o) →
      wpC (model prog w) (A.deeper (callEnv fd s.heap.objs.size a)) (execs body (callEnv fd s.heap.objs.size a)) (fun f s' => R (.ok (.ret (match f with | .ret v => v | _ => .none))) s') noE
        { s with heap := h₀, toks := s.toks + binds.length })
    (hco : fd.scope.isCoroutine = false := by rfl) (hgen : fd.scope.isGenerator = false := by rfl) (hk : fd.scope.kind = .function := by rfl) :
    codeC (model prog w) A (.call (.ref a) args) R s := by
  refine codeC_of_tree ?_
  show wpC _ A.in1 (callAny (.ref a) args) _ _ s
  simp only [callAny]
  refine wpC_then (wpAny_load ho ?_)
  obtain ⟨c, oc, vs, tq, hc, hoc, hdc, hq⟩ := hcd
  simp only [hdata, callFunction, hco, hgen, hbody, hc]
  refine wpC_then (m := field (.ref c) 1) (wpAny_field hoc hdc hq (wpC_then (wpAny_pure ?_)))
  refine wpC_then (hbind _ _ _ _ (wpC_then ?_))
  rw [← hc]
  refine wpAny_newFunctionEnv hcell hloc (fun h₀ hns₀ hsb₀ => ?_) hk
  refine wpC_then (wpAny_enterFrame (hlim.fresh _ hsb₀) hroom (wpC_pure (And.intro rfl (codeC_func (h h₀ hns₀ fun b o e => ?_)))))
  exact hsb₀.extBut b o (Nat.ne_of_lt (Heap.lt_size e)) (Heap.get?_push_of_some _ e)

theorem codeC_forLoop {target it body env} (I : Nat → Shared → Prop)
    (turn : ∀ n s, I n s → wpAny (model prog w) A (pyNext it) (fun r s₁ => match r with
      | none => R (.ok .next) s₁
      | some v => wpAny (model prog w) A (assign target env v) (fun _ s₂ => wpC (model prog w) A (execs body env) (fun f s₃ => match f with
          | .next | .cont => ∃ m, m < n ∧ I m s₃
          | .brk => R (.ok .next) s₃
          | .ret v => R (.ok (.ret v)) s₃) noE s₂) noE s₁) noE s)
    (n : Nat) (h : I n s) (ht : ∀ v, letOwnedTupleGo target it v = pure () := by intro _; rfl) : codeC (model prog w) A (.forLoop target it body [] env) R s := by
  refine codeC_loop rfl I (fun n s hI => ?_) n h
  show wpC _ A ((forTurn target it body [] env).onRaise (fun x => do noteFrame x env; theTreesLotGoes x)) _ _ s
  refine wpC_onRaise ?_
  simp only [forTurn]
  refine wpC_then (wpAny_standAt (wpC_bind (wpC_onRaise (wpC_any (wpAny_mono (turn n s hI) (fun r s₁ h₁ => ?_) fun _ _ h' => h'.elim)))))
  cases r with
  | none => exact wpC_pure (.inr ⟨rfl, codeC_any (codeAny_block (wpAny_execs_nil h₁))⟩)
  | some v =>
    refine wpC_then (wpAny_of_eq (ht v) (wpC_then (wpAny_mono h₁ (fun _ s₂ h₂ => wpC_bind (wpC_mono h₂ (fun f s₃ h₃ => ?_) fun _ _ x => x)) fun _ _ x => x)))
    cases f with
    | next => exact wpC_pure (.inl ⟨rfl, h₃⟩)
    | cont => exact wpC_pure (.inl ⟨rfl, h₃⟩)
    | brk => exact wpC_pure h₃
    | ret v => exact wpC_pure h₃
end
end Mine
end

-- part W2
section
open PySem PySem.W PyProof.Rows PySem.Spec PySem.Calls
set_option maxRecDepth 100000
set_option maxHeartbeats 1000000
namespace Mine
open PyProof.Rows.LCg (NsObj NsObj.ns ns_obj lst lst_snoc)
open Sem (wp)

section
variable {M : Model} {A : Around} {E : Value → Shared → Prop} {s : Shared} {env : Env}
theorem wpC_standIf {α : Type} {c : Prop} [Decidable c] {pos : Pos} {k : PUnit → Sem α} {Q : α → Shared → Prop} (h : wpC M A (k ()) Q E s) :
    wpC M A (if c then (standAt pos >>= k) else k ()) Q E s := by
  split
  · exact wpC_then (wpAny_standAt h)
  · exact h

theorem wpC_comprehension {e : Expr} {scope : Scope} {pos : Pos} {newAcc first : Sem Value} {g : Comprehension} {gs : List Comprehension} {cl : List (Str × Addr)} {u : Value → Sem Unit}
    {Q : Value → Shared → Prop}
    (hcl : clausesOf e = g :: gs) (hs : ∀ x, foldedSetIterable g.iter env x = pure x) (hclos : closureFor scope env = pure cl)
    (hkind : scope.kind = .function) (hnames : ∀ x ∈ scope.names, x.2 = .local → scope.names.lookup x.1 = some .local)
    (h : wpAny M A first (fun x s₁ => wpAny M A (pyIter x) (fun it s₂ => wpAny M A newAcc (fun acc s₃ =>
      wpAny M A (newFunctionEnv scope env.globals cl [] env.qual none .none (some env)) (fun cenv s₄ =>
        codeC M A (.compStart e 0 it acc { cenv with scope := relabel scope env }) (fun r s' => match r with
          | .ok _ => wpAny M A (u acc) (fun _ s'' => ∃ m, s''.heap.Ns cenv.locals m ∧ ∀ h', Heap.SameBut cenv.locals s''.heap h' → Q .none { s'' with heap := h' }) E s'
          | .error _ => False) s₄) E s₃) E s₂) E s₁) E s) :
    wpC M A (comprehension e scope env pos newAcc false first (some u)) Q E s := by
  unfold comprehension
  rw [hclos, hcl]
  refine wpC_then (wpAny_mono h (fun x s₁ h₁ => wpC_then (wpAny_standAt (wpC_then (wpAny_of_eq (hs x) (wpC_then (wpAny_holding (wpAny_mono h₁ (fun it s₂ h₂ =>
    wpC_standIf (wpC_then (wpAny_mono h₂ (fun acc s₃ h₃ => wpC_then (wpAny_pure (wpC_then (wpAny_mono h₃ (fun cenv s₄ h₄ => ?_) fun _ _ h' => h')))) fun _ _ h' => h')))
      fun _ _ h' => h'))))))) fun _ _ h' => h')
  dsimp only
  have hv : ∀ x ∈ (scope.names.filter fun x => (x.2 == .local || x.2 == .cell) && x.1 != (".0" : Str)).reverse, x.2 = .local →
      Env.kindOf { cenv with scope := relabel scope env } x.1 = some .local := fun x hx hl => lookup_relabel_local (hnames x (List.mem_filter.mp (List.mem_reverse.mp hx)).1 hl)
  have hv' : ∀ x ∈ (scope.names.filter fun x => (x.2 == .local || x.2 == .cell) && x.1 != (".0" : Str)).reverse.drop 1 ++ (scope.names.filter fun x => (x.2 == .local || x.2 == .cell) && x.1 != (".0" : Str)).reverse.take 1,
      x.2 = .local → Env.kindOf { cenv with scope := relabel scope env } x.1 = some .local := fun x hx hl => by
    rcases List.mem_append.mp hx with h1 | h1
    · exact hv x (List.mem_of_mem_drop h1) hl
    · exact hv x (List.mem_of_mem_take h1) hl
  refine wpC_holding (wpC_bind (wpC_attempt (wpC_holding (wpC_run (codeC_mono h₄ fun r s' hr => ?_)))))
  cases r with
  | ok f =>
    refine wpC_then (wpAny_rule (wpC_then (wpAny_holding (wpAny_mono hr (fun _ s'' hr' => ?_) fun _ _ h' => h'))))
    obtain ⟨m, hn, hr'⟩ := hr'
    exact wpC_then (wpAny_comp_letGo (cenv := { cenv with scope := relabel scope env }) hkind _ s'' m hv' hn fun h' m' _ hs' => wpC_pure (hr' h' hs'))
  | error x => exact hr.elim
end

section
variable {prog : Program} {w : World} {A : Around} {E : Value → Shared → Prop} {R : Result → Shared → Prop} {s : Shared}
theorem codeC_compStart {elt target iter ifs rest scope pos it acc env}
    (h0 : codeC (model prog w) A (.compLoop (.ListComp elt (⟨target, iter, ifs, 0⟩ :: rest) scope pos) 0 it acc env) R s)
    (h : wpAny (model prog w) A (pyIter it) (fun it' s' => codeC (model prog w) A (.compLoop (.ListComp elt (⟨target, iter, ifs, 0⟩ :: rest) scope pos) 0 it' acc env) R s') noE s) :
    codeC (model prog w) A (.compStart (.ListComp elt (⟨target, iter, ifs, 0⟩ :: rest) scope pos) 0 it acc env) R s := by
  refine codeC_of_tree ?_
  show wpC _ A ((compStart (.ListComp elt (⟨target, iter, ifs, 0⟩ :: rest) scope pos) 0 it acc env).onRaise (fun x => do noteFrame x env; standAt theWindowsPlace)) _ _ s
  refine wpC_onRaise ?_
  unfold compStart
  show wpC _ _ (ask >>= _) _ _ s
  refine wpC_then (wpAny_askSetting (wpC_ite ?_))
  split
  · exact wpC_pure (And.intro rfl h0)
  · refine wpC_then (wpAny_rule ?_)
    show wpC _ _ (standAt iter.pos >>= _) _ _ s
    exact wpC_then (wpAny_standAt (wpC_then (wpAny_mono h (fun it' s' h' => wpC_pure (And.intro rfl h')) fun _ _ x => x)))

theorem codeC_compLoop {elt target iter : Expr} {scope : Scope} {pos : Pos} {it acc : Value} {env : Env} (I : Nat → Shared → Prop)
    (turn : ∀ n s, I n s → wpAny (model prog w) A (pyNext it) (fun r s₁ => match r with
      | none => R (.ok .next) s₁
      | some v => wpAny (model prog w) A (assign target env v) (fun _ s₂ => wpC (model prog w) A (eval elt env) (fun x s₃ =>
          wpAny (model prog w) A (call (.builtin "list.append") [acc, x]) (fun _ s₄ => ∃ m, m < n ∧ I m s₄) noE s₃) noE s₂) noE s₁) noE s)
    (n : Nat) (h : I n s) (ht : ∀ v, letOwnedTupleGo target it v = pure () := by intro _; rfl) :
    codeC (model prog w) A (.compLoop (.ListComp elt [⟨target, iter, [], 0⟩] scope pos) 0 it acc env) R s := by
  refine codeC_loop rfl I (fun n s hI => ?_) n h
  show wpC _ A ((compTurn (.ListComp elt [⟨target, iter, [], 0⟩] scope pos) 0 it acc env).onRaise (fun x => do noteFrame x env; theTreesLotGoes x)) _ _ s
  refine wpC_onRaise ?_
  rw [compTurn_list1]
  refine wpC_then (wpAny_standAt (wpC_then (wpAny_mono (turn n s hI) (fun r s₁ h₁ => ?_) fun _ _ h' => h')))
  cases r with
  | none => exact wpC_pure h₁
  | some v =>
    refine wpC_then (wpAny_of_eq (ht v) ?_)
    exact wpC_then (wpAny_mono h₁ (fun _ s₂ h₂ => wpC_bind (wpC_bind (wpC_mono h₂ (fun x s₃ h₃ => wpC_then (wpAny_mono h₃
      (fun _ s₄ h₄ => wpC_pure (wpC_pure (.inl ⟨rfl, h₄⟩))) fun _ _ h' => h')) fun _ _ h' => h'))) fun _ _ h' => h')
end

/-- entries apart from the three places of a comprehension: the iterator, the block's names, the list made -/
def Apart (I C D : Addr) (nw : List (Addr × Obj)) : Prop := ∀ p ∈ nw, p.1 ≠ I ∧ p.1 ≠ C ∧ p.1 ≠ D

/-- what the walk of one element leaves -/
def EltEnd (h₀ : Heap) (L : Addr) (m : Str → Option Value) (s₁ : Shared) (I : Addr) (oI : Obj) (C : Addr) (oC : Obj) (D : Addr) (oD : Obj) (J : Value → List (Addr × Obj) → Prop) (y : Value) (s₂ : Shared) : Prop :=
  ∃ h' tk nw, s₂ = { s₁ with heap := h', toks := tk } ∧ Fr h₀ L h' m ∧ News h₀ L h' ([(I, oI), (C, oC), (D, oD)] ++ nw) ∧ Apart I C D nw ∧ J y nw

theorem fr_other {h₀ h h' : Heap} {L a : Addr} {m : Str → Option Value} (F : Fr h₀ L h m) (hs : Heap.SameBut a h h') (hL : L ≠ a) (ha : h₀.get? a = none) : Fr h₀ L h' m :=
  ⟨F.ns.sameBut hs hL, fun b o e => hs.extBut b o (fun q => by rw [q, ha] at e; cases e) (F.keep b o e), F.above⟩
theorem news_other {h₀ h h' : Heap} {L a : Addr} {nw : List (Addr × Obj)} (N : News h₀ L h nw) (hs : Heap.SameBut a h h') (hn : ∀ p ∈ nw, p.1 ≠ a) : News h₀ L h' nw :=
  fun p hp => ⟨hs.extBut _ _ (hn p hp) (N p hp).1, (N p hp).2⟩

section
variable {prog : Program} {w : World} {A : Around} {E : Value → Shared → Prop} {s : Shared} {h₀ : Heap} {L : Addr} {m : Str → Option Value} {env : Env}

/-- the turns, by an invariant on how many are done, what is made, and the ledger -/
theorem comp_turns {elt iter : Expr} {x : Str} {px : Pos} {scope : Scope} {cl : List (Str × Addr)} {pos : Pos} {I ax C D : Addr} {its : List Value} {oA : Obj} {mC : Str → Option Value} {nw₀ : List (Addr × Obj)} {R : Result → Shared → Prop}
    (J : Nat → List Value → List (Addr × Obj) → Prop) (hh : A.handled = none) (hA : oA.cls = .type "list") (hAd : ∃ n, oA.data = .seq its.toArray n) (hsz : its.length ≤ sizeLine)
    (hkind : scope.kind = .function) (hx : scope.names.lookup x = some .local)
    (hIL : L ≠ I) (hCL : L ≠ C) (hDL : L ≠ D) (hIC : I ≠ C) (hID : I ≠ D) (hCD : C ≠ D) (hI₀ : h₀.get? I = none) (hC₀ : h₀.get? C = none) (hD₀ : h₀.get? D = none)
    (hit : s.heap.IsListIter I ax 0) (hC : s.heap.Ns C mC) (hD : s.heap.get? D = some (lst [])) (F : Fr h₀ L s.heap m) (N : News h₀ L s.heap nw₀) (ap : Apart I C D nw₀) (hJA : ∀ i ys nw, J i ys nw → (ax, oA) ∈ nw) (hj : J 0 [] nw₀)
    (turn : ∀ i v ys nw oI oC m₂ h tk, its[i]? = some v → J i ys nw → NsObj oC m₂ → m₂ x = some v → Fr h₀ L h m → News h₀ L h ([(I, oI), (C, oC), (D, lst ys)] ++ nw) → Apart I C D nw →
      wpC (model prog w) A (eval elt (compEnvC scope cl C env)) (EltEnd h₀ L m { s with heap := h, toks := tk } I oI C oC D (lst ys) (fun y nw' => J (i + 1) (ys ++ [y]) nw')) noE { s with heap := h, toks := tk })
    (done : ∀ h tk ys nw m', Fr h₀ L h m → News h₀ L h ((D, lst ys) :: nw) → Apart I C D nw → h.Ns C m' → J its.length ys nw → R (.ok .next) { s with heap := h, toks := tk }) :
    codeC (model prog w) A (.compLoop (.ListComp elt [⟨.Name x px, iter, [], 0⟩] scope pos) 0 (.ref I) (.ref D) (compEnvC scope cl C env)) R s := by
  refine codeC_compLoop (fun k s' => ∃ h tk i ys nw m', s' = { s with heap := h, toks := tk } ∧ i ≤ its.length ∧ k = its.length + 1 - i ∧ ys.length = i ∧ h.IsListIter I ax i ∧ h.Ns C m' ∧ h.get? D = some (lst ys) ∧
    Fr h₀ L h m ∧ News h₀ L h nw ∧ Apart I C D nw ∧ J i ys nw) ?_ _ ⟨s.heap, s.toks, 0, [], nw₀, mC, rfl, Nat.zero_le _, rfl, rfl, hit, hC, hD, F, N, ap, hj⟩
  rintro k s' ⟨h, tk, i, ys, nw, m', rfl, hi, rfl, hyl, hit, hC, hD, F, N, ap, hj⟩
  have hl : h.IsList ax its.toArray := ⟨oA, (N _ (hJA _ _ _ hj)).1, hA, hAd⟩
  have aI : ∀ p ∈ nw, p.1 ≠ I := fun p hp => (ap p hp).1
  have aC : ∀ p ∈ nw, p.1 ≠ C := fun p hp => (ap p hp).2.1
  have aD : ∀ p ∈ nw, p.1 ≠ D := fun p hp => (ap p hp).2.2
  cases hv : its[i]? with
  | none =>
    have hle : its.length ≤ i := by simpa using hv
    obtain rfl : i = its.length := Nat.le_antisymm hi hle
    refine wpAny_pyNext_list_end hh hit hl (by simpa using hv) fun h₁ he₁ => ?_
    refine done h₁ tk ys nw m' ⟨F.ns.extBut he₁ hIL, fun b o e => he₁ b o (fun q => by rw [q, hI₀] at e; cases e) (F.keep b o e), F.above⟩ (fun p hp => ?_) ap (hC.extBut he₁ (Ne.symm hIC)) hj
    rcases List.mem_cons.mp hp with rfl | hp
    · exact ⟨he₁ _ _ (Ne.symm hID) hD, Ne.symm hDL, hD₀⟩
    · exact ⟨he₁ _ _ (aI p hp) (N p hp).1, (N p hp).2⟩
  | some v =>
    have hlt : i < its.length := (List.getElem?_eq_some_iff.mp hv).1
    refine wpAny_pyNext_list_item hit hl (by simpa using hv) fun h₁ hit₁ hs₁ => ?_
    refine wpAny_assign_Name (wpAny_storeName_local (lookup_relabel_local hx) (hC.sameBut hs₁ (Ne.symm hIC)) (fun h₂ hn₂ hs₂ => ?_) (by simp [compEnvC, relabel, hkind]))
    have hs₂' : Heap.SameBut C h₁ h₂ := hs₂
    have F₂ : Fr h₀ L h₂ m := fr_other (fr_other F hs₁ hIL hI₀) hs₂' hCL hC₀
    have N₂ : News h₀ L h₂ nw := news_other (news_other N hs₁ aI) hs₂' aC
    obtain ⟨oC, heC, hoC⟩ := ns_obj hn₂
    obtain ⟨oI, heI, hoI⟩ := hit₁.extBut hs₂'.extBut hIC
    have heD : h₂.get? D = some (lst ys) := hs₂'.extBut _ _ (Ne.symm hCD) (hs₁.extBut _ _ (Ne.symm hID) hD)
    have N₃ : News h₀ L h₂ ([(I, oI), (C, oC), (D, lst ys)] ++ nw) := fun p hp => by
      simp only [List.cons_append, List.nil_append, List.mem_cons] at hp
      rcases hp with rfl | rfl | rfl | hp
      · exact ⟨heI, Ne.symm hIL, hI₀⟩
      · exact ⟨heC, Ne.symm hCL, hC₀⟩
      · exact ⟨heD, Ne.symm hDL, hD₀⟩
      · exact N₂ p hp
    refine wpC_mono (turn i v ys nw oI oC _ h₂ _ hv hj hoC (by simp) F₂ N₃ ap) (fun y s₄ h₄ => ?_) fun _ _ e => e
    obtain ⟨h₄, tk₄, nw₄, rfl, F₄, N₄, ap₄, hj₄⟩ := h₄
    have zI := (N₄ (I, oI) (by simp)).1
    have zC := (N₄ (C, oC) (by simp)).1
    have zD := (N₄ (D, lst ys) (by simp)).1
    refine append_at (hsz := by show ys.toArray.size ≤ sizeLine; rw [List.size_toArray, hyl]; exact Nat.le_trans hi hsz) zD fun h₅ hs₅ hD₅ => ?_
    refine ⟨its.length + 1 - (i + 1), by omega, h₅, tk₄, i + 1, ys ++ [y], nw₄, _, rfl, hlt, rfl, by simp [hyl], ?_, (hoC.ns zC).sameBut hs₅ hCD, hD₅.trans (congrArg some (lst_snoc ys y)), fr_other F₄ hs₅ hDL hD₀, ?_, ap₄, hj₄⟩
    · exact ⟨oI, hs₅.extBut _ _ hID zI, hoI⟩
    · exact news_other (fun p hp => N₄ p (List.mem_append_right _ hp)) hs₅ fun p hp => (ap₄ p hp).2.2

/-- y = [elt for x in (a list of the ledger)] -/
theorem Assign_ListComp_C {elt iter : Expr} {x y : Str} {px py : Pos} {scope : Scope} {cl : List (Str × Addr)} {pos spos : Pos} {Q : Flow → Shared → Prop} (hLe : env.locals = L)
    (hsw : swapsWith (.ListComp elt [⟨.Name x px, iter, [], 0⟩] scope pos) (some (.Name y py)) spos.line env = pure true)
    (hclos : closureFor scope env = pure cl) (hcell : ∀ z ∈ scope.names, z.2 ≠ .cell) (hkind : scope.kind = .function)
    (hnames : ∀ z ∈ scope.names, z.2 = .local → scope.names.lookup z.1 = some .local) (hx : scope.names.lookup x = some .local)
    (hy : env.kindOf y = some .local) (hp : (env.scope.kind == .class || (env.scope.kind == .module && env.locals != env.globals)) = false)
    (h : wpAny (model prog w) A (eval iter env) (fun xv s₁ => ∃ (ax : Addr) (its : List Value) (oA : Obj) (nw₀ : List (Addr × Obj)) (J : Nat → List Value → List (Addr × Obj) → Prop), xv = .ref ax ∧ A.handled = none ∧ Fr h₀ L s₁.heap m ∧ News h₀ L s₁.heap nw₀ ∧ oA.cls = .type "list" ∧ (∃ n, oA.data = .seq its.toArray n) ∧ its.length ≤ sizeLine ∧
      (∀ i ys nw, J i ys nw → (ax, oA) ∈ nw) ∧ J 0 [] nw₀ ∧
      (∀ i v ys nw I oI C oC D m₂ h tk, its[i]? = some v → J i ys nw → NsObj oC m₂ → m₂ x = some v → Fr h₀ L h m → News h₀ L h ([(I, oI), (C, oC), (D, lst ys)] ++ nw) → Apart I C D nw → I ≠ C → I ≠ D → C ≠ D →
        wpC (model prog w) A (eval elt (compEnvC scope cl C env)) (EltEnd h₀ L m { s₁ with heap := h, toks := tk } I oI C oC D (lst ys) (fun y nw' => J (i + 1) (ys ++ [y]) nw')) noE { s₁ with heap := h, toks := tk }) ∧
      ∀ D h tk ys nw, Fr h₀ L h (fun z => if z = y then some (.ref D) else m z) → News h₀ L h ((D, lst ys) :: nw) → (∀ p ∈ nw, p.1 ≠ D) → J its.length ys nw → Q .next { s₁ with heap := h, toks := tk }) E s)
    (hs : ∀ x, foldedSetIterable iter env x = pure x := by intro _; rfl) :
    wpC (model prog w) A (exec (.Assign [.Name y py] (.ListComp elt [⟨.Name x px, iter, [], 0⟩] scope pos) spos) env) Q E s := by
  subst hLe
  rw [exec_Assign_Name_used _ _ _ _ hsw]
  refine wpC_then (wpAny_standAt (wpC_bind ?_))
  show wpC _ A (do let _ ← comprehension (.ListComp elt [⟨.Name x px, iter, [], 0⟩] scope pos) scope env _ (newList []) false (eval iter env) (some (assign (.Name y py) env))) _ _ s
  refine wpC_bind (wpC_mono (wpC_comprehension (u := assign (.Name y py) env) (Q := fun _ s' => Q .next s') rfl hs hclos hkind hnames
    (wpAny_mono h (fun xv s₁ h₁ => ?_) fun _ _ e => e)) (fun _ s' hq => wpC_pure (wpC_pure hq)) fun _ _ e => e)
  obtain ⟨ax, its, oA, nw₀, J, rfl, hh, F, N, hA, hAd, hsz, hJA, hj, turn, fin⟩ := h₁
  have hL₀ : h₀.get? env.locals = none := Heap.get?_none_of_le F.above
  have hl : s₁.heap.IsList ax its.toArray := ⟨oA, (N _ (hJA _ _ _ hj)).1, hA, hAd⟩
  refine wpAny_pyIter_list hl (wpAny_newObj_type (wpAny_newFunctionEnv hcell (by intro y hy; simp at hy) (fun h₁ hns₁ hsb₁ => ?_) hkind))
  dsimp only at hns₁ hsb₁ ⊢
  generalize hH1 : s₁.heap.push { cls := .type "list_iterator", data := .fields #[.ref ax, .int 0 0] } = H1 at hns₁ hsb₁ ⊢
  generalize hH2 : H1.push { cls := .type "list", dict := none, data := .seq ([] : List Value).toArray } = H2 at hns₁ hsb₁ ⊢
  have z1 : H1.objs.size = s₁.heap.objs.size + 1 := by rw [← hH1, Heap.size_push]
  have z2 : H2.objs.size = s₁.heap.objs.size + 2 := by rw [← hH2, Heap.size_push, z1]
  have low : ∀ b o, s₁.heap.get? b = some o → b ≠ s₁.heap.objs.size ∧ b ≠ H2.objs.size ∧ b ≠ H1.objs.size := fun b o e => by
    have hb := Heap.lt_size e
    exact ⟨Nat.ne_of_lt hb, Nat.ne_of_lt (Nat.lt_of_lt_of_le hb (by rw [z2]; omega)), Nat.ne_of_lt (Nat.lt_of_lt_of_le hb (by rw [z1]; omega))⟩
  have old : ∀ b o, s₁.heap.get? b = some o → h₁.get? b = some o := fun b o e =>
    hsb₁.extBut b o (low b o e).2.1 (Heap.get?_push_of_some _ (hH2 ▸ Heap.get?_push_of_some _ (hH1 ▸ Heap.get?_push_of_some _ e)))
  have none_at : ∀ a, s₁.heap.objs.size ≤ a → h₀.get? a = none := fun a ha => by
    cases e : h₀.get? a with
    | none => rfl
    | some o' => exact absurd (Heap.lt_size (F.keep a o' e)) (Nat.not_lt.mpr ha)
  obtain ⟨oL, hoL⟩ : ∃ o, s₁.heap.get? env.locals = some o := by obtain ⟨o, _, _, e, _⟩ := F.ns; exact ⟨o, e⟩
  obtain ⟨n1, n2, n3⟩ := low _ _ hoL
  have hIC : s₁.heap.objs.size ≠ H2.objs.size := by rw [z2]; omega
  have hID : s₁.heap.objs.size ≠ H1.objs.size := by rw [z1]; omega
  have hCD : H2.objs.size ≠ H1.objs.size := by rw [z1, z2]; omega
  have hit : h₁.IsListIter s₁.heap.objs.size ax 0 :=
    ⟨_, hsb₁.extBut _ _ hIC (Heap.get?_push_of_some _ (hH2 ▸ Heap.get?_push_of_some _ (hH1 ▸ Heap.get?_push_size _ rfl))), rfl, rfl⟩
  have hacc : h₁.get? H1.objs.size = some (lst []) := hsb₁.extBut _ _ (Ne.symm hCD) (Heap.get?_push_of_some _ (hH2 ▸ Heap.get?_push_size _ rfl))
  have loop : ∀ s₃ : Shared, s₃ = { s₁ with heap := h₁, toks := s₁.toks + ([] : List (Str × Value)).length } →
      codeC (model prog w) A (.compLoop (.ListComp elt [⟨.Name x px, iter, [], 0⟩] scope pos) 0 (.ref s₁.heap.objs.size) (.ref H1.objs.size) (compEnvC scope cl H2.objs.size env)) (fun r s' => match r with
          | .ok _ => wpAny (model prog w) A (assign (.Name y py) env (.ref H1.objs.size)) (fun _ s'' => ∃ m, s''.heap.Ns H2.objs.size m ∧ ∀ h', Heap.SameBut H2.objs.size s''.heap h' → Q .next { s'' with heap := h' }) E s'
          | .error _ => False) s₃ := by
    rintro s₃ rfl
    refine comp_turns (nw₀ := nw₀) J hh hA hAd hsz hkind hx n1 n2 n3 hIC hID hCD (none_at _ (Nat.le_refl _)) (none_at _ (by rw [z2]; omega)) (none_at _ (by rw [z1]; omega)) hit hns₁ hacc (F.keeps old) (N.grown old)
      (fun p hp => low _ _ (N p hp).1) hJA hj (fun i v ys nw oI oC m₂ h tk hv hj' a b F' N' ap => turn i v ys nw _ oI _ oC _ m₂ h tk hv hj' a b F' N' ap hIC hID hCD) ?_
    intro h tk ys nw m' F' N' ap hn hj'
    refine wpAny_assign_Name (wpAny_storeName_local hy F'.ns (fun h₂ hn₂ hs₂ => ?_) hp)
    have F₂ : Fr h₀ env.locals h₂ (fun z => if z = y then some (.ref H1.objs.size) else m z) := ⟨hn₂, fun b o e => hs₂.extBut b o (fun q => by rw [q, hL₀] at e; cases e) (F'.keep b o e), F'.above⟩
    refine ⟨m', hn.sameBut hs₂ (Ne.symm n2), fun h'' hs'' => fin _ h'' _ ys nw (fr_other F₂ hs'' n2 (none_at _ (by rw [z2]; omega))) (news_other (news_other N' hs₂ fun p hp => (N' p hp).2.1) hs'' fun p hp => ?_) (fun p hp => (ap p hp).2.2) hj'⟩
    rcases List.mem_cons.mp hp with rfl | hp
    · exact Ne.symm hCD
    · exact (ap p hp).2.1
  exact codeC_compStart (loop _ rfl) (wpAny_pyIter_listiter hit (loop _ rfl))
end
end Mine
end

-- part W3
section
open PySem PySem.W PyProof.Rows PySem.Spec PySem.Calls
set_option maxRecDepth 100000
set_option maxHeartbeats 1000000
namespace Mine

/-- the claim's thread ends as a walk in wpC says -/
theorem thread_endsC {prog : Program} {w : World} {t : Sem Fin} {s : Shared} {R : Result → Shared → Prop} (hreg : s.asleep)
    (h : wpC (model prog w) callerA t (fun fin s' => ∃ f, fin = .done f ∧ (R (.ok f) s' ∧ leftWithCleanup s'.gens = false)) (fun e s' => R (.error e) s' ∧ leftWithCleanup s'.gens = false) s) :
    ∃ n r s' s'', runN (denote table) prog w n s ⟨t, .builtin "claim.caller" {}, default, []⟩ = .halted (outcomeOf r) s' ∧
      schedN (denote table) prog w n (.single s ⟨t, .builtin "claim.caller" {}, default, []⟩) = .halted (outcomeOf r) s' ∧ s'.forget = s''.forget ∧ R r s'' := by
  have h' := h ⟨.builtin "claim.caller" {}, none, none, [], none⟩ default caller_in (.inl rfl)
  have hw : Sem.wp (model prog w) ⟨.builtin "claim.caller" {}, none, none, [], none⟩ t (Sem.finPost (model prog w) ⟨.builtin "claim.caller" {}, none, none, [], none⟩ (fun r s' => R r s' ∧ leftWithCleanup s'.gens = false))
      (fun e _ s' => R (.error e) s' ∧ leftWithCleanup s'.gens = false) default s :=
    Sem.wp_mono _ _ _ (by rintro fin _ s' ⟨f, rfl, hf⟩; exact hf) (fun _ _ _ x => x) _ _ h'
  obtain ⟨n, r, s₁, s₂, a, b, c, d⟩ := wp_halts_full (M := model prog w) (R := R) hreg hw
  exact ⟨n, r, s₂, s₁, b, a, c, d⟩

/-- what the claim asks of one call, from a walk in wpC -/
theorem callFromC {r : RowW} {tree : List Value → Sem Fin} {w : World} {s : Shared} {free : Addr → Prop} {gens : Prop} {kept : Heap → Prop} (hz : s.asleep) (hgens : s.gens = #[])
    (spec : ∀ args, r.claim.pre args = true → WData.layableAll args = true → ∀ ord : List DictEntry → List DictEntry, (∀ l, (ord l).Perm l) →
      ∃ vs s₁, layAllW r.claim.records (classAt s.heap) w.params ord args s = some (vs, s₁) ∧
        wpC (model r.claim.prog w) callerA (tree vs) (fun fin s' => ∃ f, fin = .done f ∧ (r.claim.Ends s args vs s₁ (.ok f) s' ∧ s'.os = s.os ∧ AllBare s'.gens ∧ kept s'.heap))
          (fun e s' => r.claim.Ends s args vs s₁ (.error e) s' ∧ s'.os = s.os ∧ AllBare s'.gens ∧ kept s'.heap) s₁) :
    r.claim.CallFrom (fun vs => ⟨tree vs, .builtin "claim.caller" {}, default, []⟩) w free gens kept s := fun args hpre hlay ord hord => by
  obtain ⟨vs, s₁, hl, walk⟩ := spec args hpre hlay ord hord
  have lr := layAllW_rest _ _ _ hl
  have ends := thread_endsC (R := fun x s' => r.claim.Ends s args vs s₁ x s' ∧ s'.os = s.os ∧ kept s'.heap) (Shared.asleep_of_life lr.2.2.2 hz)
    (wpC_mono walk (by rintro fin s' ⟨f, e, a, b, c, d⟩; exact ⟨f, e, ⟨a, b, d⟩, leftWithCleanup_false_of_bare c⟩) (by rintro e s' ⟨a, b, c, d⟩; exact ⟨⟨a, b, d⟩, leftWithCleanup_false_of_bare c⟩))
  obtain ⟨k, x, s', s'', run, sched, same, E, os, kp⟩ := ends
  obtain ⟨eh, _, _, eo, _⟩ := Shared.forget_eq same
  have E' := E.congr eh
  have kp' : kept s'.heap := by rw [eh]; exact kp
  have life : s'.heap.life = s.heap.life := (runN_life _ _ _ run).trans lr.2.2.2
  refine ⟨vs, s₁, hl, k, _, s', sched, ?_, (fun _ i y hy => by rw [hgens] at hy; simp at hy), kp', by rw [life], Shared.rest_eq (eo.trans os)⟩
  rcases E' with ⟨v, rfl, a, b, c, d, f⟩ | ⟨e, ob, cls, rfl, a, b, c, d, f⟩
  · exact .inl ⟨v, rfl, a, b, c, fun z o y _ => d z o y, f⟩
  · exact .inr ⟨e, ob, cls, rfl, a, b, c, d, fun z o y _ => f z o y⟩

/-- the walk that the head asks for, in wpC -/
abbrev WalkC (q : Program) (loose : List Str) (XP : (Str → Option Value) → Heap → Prop) (YP : World → Heap → Prop) (r : RowW) (d : DefRec) (kwd : List (Str × Expr)) : Prop :=
  ∀ (w : World) (s₀ s₁ : Shared) (mg mb : Str → Option Value), Ground q loose r.records XP w s₀ mg mb s₁.heap → YP w s₁.heap → ∀ (a : Addr) (o : Obj) (pm cd doc dV kV : Value), s₁.heap.get? a = some o →
    o.data = .func { docDef d.name d.params d.body d.scope pm cd doc with defaults := dV, kwdefaults := kV } → s₁.heap.CodeRec cd d.name → Dflts mg s₁.heap d.params kwd dV kV → mg d.name = some (.ref a) → s₁.gens = #[] →
    ∀ (args : List WData) (vals : List Value) (as : List Addr), r.claim.pre args = true → WData.layableAll args = true → ReadsAllW r.records (classAt s₀.heap) s₁.heap vals args as → WellAll w.params s₁.heap vals args → (∀ a ∈ as, (a == sysModules) = false) →
      wpC (model r.prog w) callerA (PySem.call (.ref a) vals) (fun v s' => GoodWG r.claim (classAt s₀.heap) (ExcName.means s₀.heap) args s₁ (.ok (.ret v)) s')
        (fun e s' => GoodWG r.claim (classAt s₀.heap) (ExcName.means s₀.heap) args s₁ (.error e) s') s₁

/-- the head over wpC; it stands under this name so that the kit's line for the head takes it -/
theorem PySem.W.holds_open {r : OpenRow} {q : Program} {loose : List Str} {Xt : Shared → Bool} {XP : (Str → Option Value) → Heap → Prop} {α : Type} {Yf : Shared → α} {Ya : World → α} {YP : World → Heap → Prop} {d : DefRec} {kwd : List (Str × Expr)} {N : Nat}
    (left : LeftO r.prog q loose Xt Yf Ya N) (hY : ∀ w s, Yf s = Ya w → YP w s.heap) (hYk : ∀ w h h', YP w h → (∀ b o, h.get? b = some o → h'.get? b = some o) → YP w h')
    (hX : ∀ s, Xt s = true → XP (s.heap.nsMap mainGlobals) s.heap) (hXk : ∀ mg h h', XP mg h → (∀ b o, h.get? b = some o → h'.get? b = some o) → XP mg h')
    (hdef : defOf q r.name = some (d, kwd)) (hp : r.prog.theDef r.name = some (d.params, d.body, d.scope)) (hk : kwWritten? d.params.kwonlyargs d.params.kw_defaults = some kwd) (hRf : ∀ s, Xt s = true → RecFacts r.records s.heap) (hwr : (!r.writes || r.records.isEmpty) = true)
    (k1 : r.wellSaid = true) (ok : (chainsOk q && opensWell r.prog && (frees r.toRowW && r.within.isEmpty)) = true) (hb : r.prog.bare) (hw : r.toRowW.promised)
    (call : WalkC q loose XP YP r.toRowW d kwd) : r.Holds := by
  simp only [Bool.and_eq_true] at ok
  obtain ⟨⟨hch, o1⟩, hfr, hwi⟩ := ok
  obtain ⟨hsame, hu, ha, hap, hm⟩ := frees_parts hfr
  have hid := ident_freeW hu ha hap
  refine ⟨k1, hw, ⟨hb, o1, by show r.toRowW.makers.map _ = []; rw [hm]; rfl⟩, hw.witness, fun w => ⟨(left.behind hX hch w).1, fun s' hs' => ?_⟩⟩
  obtain ⟨s₀, hf, hg0, s, hT, hz, hgens, hg, G₂, y⟩ := (left.behind (XP := fun mg h => XP mg h ∧ RecFacts r.records h) (fun s hs => ⟨hX s hs, hRf s hs⟩) hch w).2 s' hs'
  have G0 : Ground q loose [] XP w s (s.heap.nsMap mainGlobals) (s.heap.nsMap builtinsNs) s.heap := ⟨G₂.T, G₂.B, G₂.D, G₂.TE, G₂.TD, G₂.W, G₂.X.1, G₂.cls, G₂.has, G₂.apart, G₂.once, G₂.K⟩
  have RF := G₂.X.2
  have hgens : s.gens = #[] := Array.eq_empty_of_size_eq_zero (beq_iff_eq.mp hgens)
  have hT' := hT
  refine ⟨s₀, hf, hg0, s, hT, fun n hn => ?_, RF.1, RF.2.1, ?_⟩
  · obtain rfl : n = r.name := by split at hn <;> simp_all
    exact pinned_of_view hg G0 hdef hp hk
  have G : Ground q loose r.records XP w s _ _ s.heap := RF.ground G0
  refine callFromC (r := r.toRowW) hz hgens fun args hpre hlay ord hord => ?_
  obtain ⟨⟨vs, s₁⟩, hlaid⟩ := Option.isSome_iff_exists.mp (layAllW_isSome (P := w.params) (ord := ord) G.has args r.args s (pre_splitW hpre).1)
  have keeps := layAllW_keeps _ _ _ hlaid
  have lr := layAllW_rest _ _ _ hlaid
  obtain ⟨as, hrd, hin, hold⟩ := reads_layAllW hord _ _ _ hlaid hlay s₁.heap (fun _ _ e => e)
  have L : Laid r.records w s s₁ args vs as := ⟨⟨ord, hord, hlaid⟩, hrd, hin, hold, keeps, lr.1.trans hgens, lr.2.2.1⟩
  have G₁ := G.keeps hXk keeps
  obtain ⟨a, o, pm, cd, doc, dV, kV, h1, h2, h3, h4, h5⟩ := G₁.fn hdef
  have walk := call w s s₁ _ _ G₁ (hYk _ _ _ (hY w s y) keeps) a o pm cd doc dV kV h2 h3 h4 h5 (defOf_name hdef ▸ h1) L.gens args vs as hpre hlay L.reads L.well (L.low G.low)
  refine ⟨vs, s₁, hlaid, wpC_then (wpAny_nsGet G₁.T.g ?_)⟩
  rw [h1]
  have fin : ∀ x s', GoodWG r.toRowW.claim (classAt s.heap) (ExcName.means s.heap) args s₁ x s' → r.toRowW.claim.Ends s args vs s₁ x s' ∧ s'.os = s.os ∧ AllBare s'.gens ∧ (r.writes = true → namesKept r.toRowW.claim.prog r.keeps s.heap s'.heap ∧ ∀ x ∈ r.toRowW.claim.records, ∀ a, classAt s.heap x.1 = some a → recordClass s'.heap a x.1 (x.2.map (·.1)) = true) := fun x s' g =>
    have z := g.laid (c := r.toRowW.claim) hsame (List.isEmpty_iff.mp hwi) hid L
    ⟨z.1, z.2.1, z.2.2, fun q => ⟨namesKept_of hT' hg r.keeps keeps g.2.1.old, noTable hwr q⟩⟩
  exact wpC_bind (wpC_mono walk (fun v s' g => wpC_pure ⟨_, rfl, fin _ _ g⟩) fun e s' g => fin _ _ g)
end Mine
end

-- part W5
section
open PySem PySem.W PyProof.Rows PySem.Spec PySem.Calls
set_option maxRecDepth 100000
set_option maxHeartbeats 1000000
namespace Mine
/-- what one turn of a loop leaves -/
def TurnEnd (h₀ : Heap) (L : Addr) (s : Shared) (I : Addr) (oI : Obj) (J : (Str → Option Value) → List (Addr × Obj) → Prop) (f : Flow) (s' : Shared) : Prop :=
  f = .next ∧ ∃ h' tk' m' nw', s' = { s with heap := h', toks := tk' } ∧ Fr h₀ L h' m' ∧ News h₀ L h' ((I, oI) :: nw') ∧ (∀ p ∈ nw', p.1 ≠ I) ∧ J m' nw'

/-- a for over a list of the ledger, its body walked in wpC -/
theorem for_list_C {prog : Program} {w : World} {A : Around} {E : Value → Shared → Prop} {R : Result → Shared → Prop} {s : Shared} {env : Env} {h₀ : Heap} {x : Str} {px : Pos} {body : List Stmt} {D : Addr} {vs : List Value} {kD : Nat} {m₀ : Str → Option Value} {nw₀ : List (Addr × Obj)}
    (J : Nat → (Str → Option Value) → List (Addr × Obj) → Prop) (hh : A.handled = none) (hx : env.kindOf x = some .local) (hp : (env.scope.kind == .class || (env.scope.kind == .module && env.locals != env.globals)) = false)
    (hJD : ∀ i m nw, J i m nw → (D, listOf vs.toArray kD) ∈ nw) (F : Fr h₀ env.locals s.heap m₀) (N : News h₀ env.locals s.heap nw₀) (hj : J 0 m₀ nw₀)
    (turn : ∀ i v m₁ nw I oI h tk, vs[i]? = some v → J i m₁ nw → Fr h₀ env.locals h (fun y => if y = x then some v else m₁ y) → News h₀ env.locals h ((I, oI) :: nw) → (∀ p ∈ nw, p.1 ≠ I) →
      wpC (model prog w) A (execs body env) (TurnEnd h₀ env.locals s I oI (J (i + 1))) noE { s with heap := h, toks := tk })
    (done : ∀ h tk m' nw, Fr h₀ env.locals h m' → News h₀ env.locals h nw → J vs.length m' nw → R (.ok .next) { s with heap := h, toks := tk }) :
    wpAny (model prog w) A (pyIter (.ref D)) (fun it s₂ => codeC (model prog w) A (.forLoop (.Name x px) it body [] env) R s₂) E s := by
  have hD := (N _ (hJD _ _ _ hj)).1
  refine wpAny_pyIter_list (items := vs.toArray) ⟨_, hD, rfl, _, rfl⟩ ?_
  have hI₀ : h₀.get? s.heap.objs.size = none := next_is_new F
  have hIL : env.locals ≠ s.heap.objs.size := Nat.ne_of_lt F.ns.lt
  refine codeC_forLoop (fun k s' => ∃ h tk i m' nw, s' = { s with heap := h, toks := tk } ∧ i ≤ vs.length ∧ k = vs.length + 1 - i ∧ h.IsListIter s.heap.objs.size D i ∧ Fr h₀ env.locals h m' ∧ News h₀ env.locals h nw ∧ (∀ p ∈ nw, p.1 ≠ s.heap.objs.size) ∧ J i m' nw)
    ?_ _ ⟨_, _, 0, m₀, nw₀, rfl, Nat.zero_le _, rfl, ⟨_, Heap.get?_push_size _ rfl, rfl, rfl⟩, F.push _, (fun p hp => ⟨Heap.get?_push_of_some _ (N p hp).1, (N p hp).2⟩), (fun p hp => Nat.ne_of_lt (Heap.lt_size (N p hp).1)), hj⟩
  rintro k s' ⟨h, tk, i, m', nw, rfl, hi, rfl, hit, F, N, ap, hj⟩
  have hl : h.IsList D vs.toArray := ⟨_, (N _ (hJD _ _ _ hj)).1, rfl, _, rfl⟩
  cases hv : vs[i]? with
  | none =>
    have hle : vs.length ≤ i := by simpa using hv
    obtain rfl : i = vs.length := Nat.le_antisymm hi hle
    refine wpAny_pyNext_list_end hh hit hl (by simp) fun h₁ he₁ => ?_
    exact done h₁ tk m' nw ⟨F.ns.extBut he₁ hIL, fun b o e => he₁ b o (fun q => by rw [q, hI₀] at e; cases e) (F.keep b o e), F.above⟩ (fun p hp => ⟨he₁ _ _ (ap p hp) (N p hp).1, (N p hp).2⟩) hj
  | some v =>
    have hlt : i < vs.length := (List.getElem?_eq_some_iff.mp hv).1
    refine wpAny_pyNext_list_item hit hl (by simpa using hv) fun h₁ hit₁ hs₁ => ?_
    have F₁ : Fr h₀ env.locals h₁ m' := fr_other F hs₁ hIL hI₀
    refine wpAny_assign_Name (wpAny_storeName_local hx F₁.ns (fun h₂ hn₂ hs₂ => ?_) hp)
    have hL₀ : h₀.get? env.locals = none := Heap.get?_none_of_le F.above
    have F₂ : Fr h₀ env.locals h₂ (fun y => if y = x then some v else m' y) := ⟨hn₂, fun b o e => hs₂.extBut b o (fun q => by rw [q, hL₀] at e; cases e) (F₁.keep b o e), F.above⟩
    have N₂ : News h₀ env.locals h₂ nw := news_other (news_other N hs₁ ap) hs₂ fun p hp => (N p hp).2.1
    obtain ⟨oI, heI, hoI⟩ := hit₁.extBut hs₂.extBut (Ne.symm hIL)
    refine wpC_mono (turn i v m' nw s.heap.objs.size oI h₂ _ hv hj F₂ (fun p hp => ?_) ap) (fun f s₃ h₃ => ?_) fun _ _ e => e
    · rcases List.mem_cons.mp hp with rfl | hp
      · exact ⟨heI, Ne.symm hIL, hI₀⟩
      · exact N₂ p hp
    · obtain ⟨rfl, h₃, tk₃, m₃, nw₃, rfl, F₃, N₃, ap₃, hj₃⟩ := h₃
      exact ⟨vs.length + 1 - (i + 1), by omega, h₃, tk₃, i + 1, m₃, nw₃, rfl, hlt, rfl, ⟨oI, (N₃ _ List.mem_cons_self).1, hoI⟩, F₃, fun p hp => N₃ p (List.mem_cons_of_mem _ hp), ap₃, hj₃⟩
end Mine
end

-- part W4
section
open PySem PySem.W PyProof.Rows PySem.Spec PySem.Calls PySem.NumText PySem.W.KIN
set_option maxRecDepth 100000
set_option maxHeartbeats 2000000
namespace Mine
theorem tc2 (a b : Value) : checkTypeCall "int" ⟨[a, b], []⟩ = pure () := by kernel_rfl
theorem nc2 (a b : Value) : checkBuiltinCall "int.__new__" ⟨[.type "int", a, b], []⟩ = pure () := by kernel_rfl
theorem oi3 (o a b : Value) : argsOk "object.__init__" ⟨[o, a, b], []⟩ := by kernel_rfl

structure Hid (p : Prop) : Prop where
  out : p
theorem gives_text2 {x : PySem.Str} {u tb : Tok} {n : Int} (hl : x.length ≤ 640) (hn : PySem.intText? x = some n) : Gives (Builtin.«int.__new__» ⟨[.type "int", .str x u, .int 10 tb], []⟩) (.int n) :=
  .of_wp fun M A E s Q h => by
    obtain ⟨hp, g, d, tk, os⟩ := s
    have f1 := F.conv_sub_int
    have f2 := F.madeHere_int
    have f6 : typeOf (.str x u) = pure (.type "str") := rfl
    have hs : (numSeenOf x).length ≤ 640 := Nat.le_trans (seen_length x) hl
    have hr : (int_private% "readNumeral") 0 10 (numSeenOf x) = (int_private% "Numeral.value") n ∧ ((numSeenOf x).length == (numTextOf x).length) = true := by
      rcases read0 x hs with ⟨m, h1, h2, h3⟩ | ⟨h1, _⟩
      · rw [hn] at h1
        injection h1 with h1
        subst h1
        exact ⟨h3, h2⟩
      · rw [hn] at h1
        cases h1
    have hk := Hid.mk (And.intro hs hr)
    clear hs hr hl hn
    repeat (any_goals (first
      | assumption
      | ((with_reducible show wpAny _ _ ((int_private% "intFromText") _ _ _) _ _ _); refine wp_text hk.out.1 hk.out.2.1 hk.out.2.2 ?_)
      | wp_step))
    all_goals first | exact ⟨_, rfl, h⟩ | skip
end Mine
end

-- part W4b
section
open PySem PySem.W PyProof.Rows PySem.Spec PySem.Calls PySem.NumText PySem.W.KIN
set_option maxRecDepth 100000
set_option maxHeartbeats 1000000
namespace Mine
open Sem (wp)
section
variable {M : Model} {A : Around} {E : Value → Shared → Prop} {s : Shared}
theorem hasC.any {Γ : PySem.Ctx} {p : Pos} (hC : hasC Γ) : (((Γ.code, p) :: Γ.below).map (·.1)).any Code.isCaller = true := by
  rw [List.any_eq_true]
  rcases hC with h | ⟨x, hx, h⟩
  · exact ⟨Γ.code, by simp, h⟩
  · exact ⟨x.1, List.mem_map.mpr ⟨x, List.mem_cons_of_mem _ hx, rfl⟩, h⟩
theorem wpC_mark {own : List String} {e : Value} {Q : Unit → Shared → Prop} (h : Q () s) : wpC M A (markTheRefusal own e) Q E s := fun Γ p hΓ hC => by
  have hany : pythonCodeMadeTheCall own (((Γ.code, p) :: Γ.below).map (·.1)) = false := by
    show (!((((Γ.code, p) :: Γ.below).map (·.1)).any Code.isCaller) && _ && _) = false
    rw [hC.any]; rfl
  unfold markTheRefusal
  rw [Sem.wp_bind']
  show wp M Γ (if pythonCodeMadeTheCall own (((Γ.code, p) :: Γ.below).map (·.1)) = true then _ else _) _ _ p s
  rw [if_neg (by rw [hany]; exact Bool.false_ne_true)]
  exact h
end

section
variable {prog : Program} {w : World} {A : Around} {E : Value → Shared → Prop} {s : Shared}
theorem refusal_len (x : Str) : (Str.ofString (toString "invalid literal for int() with base " ++ toString 10 ++ toString ": ") ++ (⟨(reprText x).cps.extract 0 200⟩ : Str)).cps.size ≤ sizeLine := by
  have e : (Str.ofString (toString "invalid literal for int() with base " ++ toString 10 ++ toString ": ")).cps.size = 40 := by decide +kernel
  have e2 : (Str.ofString (toString "invalid literal for int() with base " ++ toString 10 ++ toString ": ") ++ (⟨(reprText x).cps.extract 0 200⟩ : Str)).cps.size = 40 + ((reprText x).cps.extract 0 200).size := by
    rw [← e]; exact Array.size_append
  rw [e2, Array.size_extract, sizeLine_eq]
  omega
theorem wpC_refuse {x : PySem.Str} {u : Tok} {Q : Value → Shared → Prop} (hh : A.handled = none) (hl : x.length ≤ 640) (hrep : (reprText x).length ≤ sizeLine) (hn : PySem.intText? x = none)
    (h : ∀ h' e tk, Heap.NewExc s.heap h' e "ValueError" → E (.ref e) { s with heap := h', toks := tk }) :
    wpC (model prog w) A ((int_private% "intFromText") (.str x u) (numTextOf x) 10) Q E s := by
  have hs : (numSeenOf x).length ≤ 640 := Nat.le_trans (seen_length x) hl
  rcases read0 x hs with ⟨m, h1, h2, h3⟩ | ⟨_, h1 | ⟨i, h1, h2⟩⟩
  · rw [hn] at h1; cases h1
  · refine wpC_ite (c := (numSeenOf x).length ≤ 640) ?_
    rw [if_pos hs]
    refine wpC_then (wpAny_pure ?_)
    dsimp only
    rw [h1]
    refine wpC_then (m := rule "int.__new__.invalid-literal") (wpAny_rule ?_)
    refine wpC_then (m := pyRepr (.str x u)) (wpAny_pyRepr_str ?_ hrep)
    refine wpC_then (wpAny_mkStr ?_ (refusal_len x))
    refine wpC_then (wpAny_newExc_plain plainExc_ValueError (fun h' e he => ?_) (by show 1 ≤ sizeLine; decide))
    exact wpC_bind (wpC_mark (wpC_any (wpAny_raiseNew_none hh (h _ _ _ he.newExc))))
  · refine wpC_ite (c := (numSeenOf x).length ≤ 640) ?_
    rw [if_pos hs]
    refine wpC_then (wpAny_pure ?_)
    dsimp only
    rw [h1]
    dsimp only
    rw [if_neg h2]
    refine wpC_then (m := rule "int.__new__.invalid-literal") (wpAny_rule ?_)
    refine wpC_then (m := pyRepr (.str x u)) (wpAny_pyRepr_str ?_ hrep)
    refine wpC_then (wpAny_mkStr ?_ (refusal_len x))
    refine wpC_then (wpAny_newExc_plain plainExc_ValueError (fun h' e he => ?_) (by show 1 ≤ sizeLine; decide))
    exact wpC_bind (wpC_mark (wpC_any (wpAny_raiseNew_none hh (h _ _ _ he.newExc))))

theorem wpC_int_new {x : PySem.Str} {u tb : Tok} {Q : Fin → Shared → Prop} (hh : A.handled = none) (hl : x.length ≤ 640) (hrep : (reprText x).length ≤ sizeLine) (hn : PySem.intText? x = none)
    (h : ∀ h' e tk, Heap.NewExc s.heap h' e "ValueError" → E (.ref e) { s with heap := h', toks := tk }) :
    wpC (model prog w) A (Builtin.«int.__new__» ⟨[.type "int", .str x u, .int 10 tb], []⟩) Q E s := by
  have f1 := F.conv_sub_int
  have f2 := F.madeHere_int
  have e : Builtin.«int.__new__» ⟨[.type "int", .str x u, .int 10 tb], []⟩ = ((int_private% "intFromText") (.str x u) (numTextOf x) 10 >>= fun v => ret v) := by
    unfold Builtin.«int.__new__»
    dsimp only
    simp only [f1, f2, pure_bind]
    rfl
  rw [e]
  exact wpC_bind (wpC_mono (wpC_refuse (Q := fun _ _ => False) hh hl hrep hn h) (fun _ _ f => f.elim) fun _ _ x => x)

theorem type_call_eq (a b : Value) : ∃ k : Value → Sem Fin, Builtin.«type.__call__» ⟨[.type "int", a, b], []⟩ = (holding [.builtin "int.__new__"] (call (.builtin "int.__new__") [.type "int", a, b] []) >>= k) := by
  obtain ⟨c, tl, hmro⟩ := F.called_int.mro
  have hmade := F.called_int.made
  have h1 := F.called_int.notType
  have h2 := F.called_int.canCreate
  unfold Builtin.«type.__call__»
  dsimp only
  rw [h1, if_neg Bool.false_ne_true, h2, if_neg Bool.false_ne_true]
  simp only [tc2, hmro, hmade, pure_bind, List.isEmpty_cons, Bool.false_eq_true, if_false]
  exact ⟨_, rfl⟩

theorem codeC_builtin {id : String} {args : Args} {b : Builtin} {R : Result → Shared → Prop} (hb : entryFor table id = some b)
    (h : wpC (model prog w) (A.under (.builtin id args)) (b args)
      (fun fin s' => match fin with | .done f => R (.ok f) s' | .again c' => c'.quiet = true ∧ codeC (model prog w) A c' R s') (fun e s' => R (.error e) s') s) :
    codeC (model prog w) A (.builtin id args) R s := by
  refine codeC_of_tree ?_
  show wpC _ _ (match entryFor table id with | some b => b args | none => unsupported ((withoutEnding? id "#data").getD id)) _ _ s
  rw [hb]; exact h

/-- int(y, 10) refuses, under the caller: nothing but a new ValueError -/
theorem call_int_bad {x : PySem.Str} {u tb : Tok} {Q : Value → Shared → Prop} (hh : A.handled = none) (hl : x.length ≤ 640) (hrep : (reprText x).length ≤ sizeLine) (hn : PySem.intText? x = none)
    (h : ∀ h' e tk, Heap.NewExc s.heap h' e "ValueError" → E (.ref e) { s with heap := h', toks := tk }) :
    wpC (model prog w) A (call (.type "int") [.str x u, .int 10 tb]) Q E s := by
  refine wpC_call (codeC_of_tree ?_)
  show wpC _ _ (callAny (.type "int") _) _ _ _
  refine wpC_pure ⟨Code.quiet_builtin _ (by decide +kernel), codeC_builtin F.entry_type_call ?_⟩
  dsimp only
  rw [Around.under_plain (weight_type_call_type "int" [.str x u, .int 10 tb] []) (units_type_call_type "int" [.str x u, .int 10 tb] [])]
  obtain ⟨k, hk⟩ := type_call_eq (.str x u) (.int 10 tb)
  rw [hk]
  refine wpC_bind (wpC_holding (wpC_call (codeC_of_tree ?_)))
  show wpC _ A.in1.in1 (do checkBuiltinCall "int.__new__" ⟨[.type "int", .str x u, .int 10 tb], []⟩; again (.builtin "int.__new__" ⟨[.type "int", .str x u, .int 10 tb], []⟩)) _ _ s
  refine wpC_then (wpAny_of_eq (nc2 _ _) (wpC_pure ⟨Code.quiet_builtin _ (by decide +kernel), codeC_builtin F.entry_int_new ?_⟩))
  rw [Around.under_plainId F.called_int.plain]
  exact wpC_int_new hh hl hrep hn h

/-- int(y, 10) of a numeral -/
theorem call_int_good {x : PySem.Str} {u tb : Tok} {n : Int} {Q : Value → Shared → Prop} (hl : x.length ≤ 640) (hn : PySem.intText? x = some n)
    (h : Q (.int n s.toks) { s with toks := s.toks + 1 }) : wpAny (model prog w) A (call (.type "int") [.str x u, .int 10 tb]) Q E s :=
  callType_new F.called_int F.newNe_int (tc2 _ _) (nc2 _ _) (fun obj => oi3 obj _ _) F.entry_int_new (gives_text2 hl hn).meets (show (Made.int n).post _ s from ⟨rfl, h⟩)
end
end Mine
end

-- part S1
section
open PySem
set_option maxRecDepth 100000
set_option maxHeartbeats 1000000
set_option linter.unusedVariables false
namespace Mine
open PySem.Sre

def rcode : Array Nat := #[14, 4, 0, 1, 4294967295, 17, 0, 7, 14, 24, 10, 1, 4294967295, 13, 5, 22, 48, 57, 0, 1, 15, 17, 15, 13, 11, 9, 0, 26624, 2147483648, 0, 0, 0, 0, 0, 0, 15, 2, 0, 17, 1, 1]
def isDig (c : Nat) : Bool := decide (48 ≤ c) && decide (c ≤ 57)
def isSepC (c : Nat) : Bool := c == 43 || c == 45 || c == 46 || c == 95

theorem acc_dig (c : Nat) (seen : Seen) : ∃ seen', accepts rcode 13 c seen = .ok (isDig c, seen') := by
  by_cases h : isDig c = true
  · refine ⟨(seen.add 22), ?_⟩
    rw [h]
    show (if (decide (48 ≤ c) && decide (c ≤ 57)) = true then (Except.ok (true, seen.add 22) : Except String (Bool × Seen)) else _) = _
    exact if_pos h
  · have h' : isDig c = false := by simpa using h
    refine ⟨(seen.add 22).add 0, ?_⟩
    rw [h']
    show (if (decide (48 ≤ c) && decide (c ≤ 57)) = true then (Except.ok (true, seen.add 22) : Except String (Bool × Seen)) else Except.ok (false, (seen.add 22).add 0)) = _
    exact if_neg h
def setC (c : Nat) : Bool := decide (c < 256) && (rcode.getD (26 + c / 32) 0).testBit (c % 32)
theorem acc_sep0 (c : Nat) (seen : Seen) : ∃ seen', accepts rcode 23 c seen = .ok (setC c, seen') := by
  by_cases h : setC c = true
  · refine ⟨(seen.add 9), ?_⟩
    rw [h]
    show (if (decide (c < 256) && (rcode.getD (25 + (1 + c / 32)) 0).testBit (c % 32)) = true then (Except.ok (true, seen.add 9) : Except String (Bool × Seen)) else _) = _
    rw [← Nat.add_assoc]
    exact if_pos h
  · have h' : setC c = false := by simpa using h
    refine ⟨(seen.add 9).add 0, ?_⟩
    rw [h']
    show (if (decide (c < 256) && (rcode.getD (25 + (1 + c / 32)) 0).testBit (c % 32)) = true then (Except.ok (true, seen.add 9) : Except String (Bool × Seen)) else Except.ok (false, (seen.add 9).add 0)) = _
    rw [← Nat.add_assoc]
    exact if_neg h
theorem setC_small : ∀ c, c < 256 → setC c = isSepC c := by decide +kernel
theorem setC_eq (c : Nat) : setC c = isSepC c := by
  by_cases h : c < 256
  · exact setC_small c h
  · unfold setC isSepC
    rw [decide_eq_false h, Bool.false_and]
    have e1 : (c == 43) = false := by simp; omega
    have e2 : (c == 45) = false := by simp; omega
    have e3 : (c == 46) = false := by simp; omega
    have e4 : (c == 95) = false := by simp; omega
    rw [e1, e2, e3, e4]
    rfl
theorem acc_sep (c : Nat) (seen : Seen) : ∃ seen', accepts rcode 23 c seen = .ok (isSepC c, seen') := by
  rw [← setC_eq]
  exact acc_sep0 c seen

/-- one attempt's first state -/
def at0 (text : Array Nat) (lim s : Nat) (first : Bool) (mk : Array (Option Nat)) (seen : Seen) : M :=
  { code := rcode, text, lim, start := s, lastStart := lim, wholeText := false, mustAdvance := false, pc := 5, pos := s, handed := s, outermost := first, marks := mk, lastmark := -1, lastindex := -1, loops := #[], inner := none,
    frames := [{ wait := .nextStart, pc := 5, pos := s, outermost := first }], weight := 1, answer := none, seen := seen, outcome := none }
def it : Nat → M → M
  | 0, m => m
  | k + 1, m => it k m.step
theorem it_add : ∀ (a b : Nat) (m : M), it (a + b) m = it b (it a m)
  | 0, b, m => by rw [Nat.zero_add]; rfl
  | a + 1, b, m => by
    rw [Nat.add_right_comm]
    exact it_add a b m.step
abbrev kp0 : Sre.Kept := { lastmark := 0, lastindex := -1, whole := false, marks := #[] }
abbrev fStart (s : Nat) (first : Bool) : Sre.Frame := { wait := .nextStart, pc := 5, pos := s, outermost := first }
abbrev fBranch (s : Nat) (first : Bool) (pc : Nat) : Sre.Frame := { wait := .nextBranch, pc := pc, pos := s, outermost := first, kept := kp0 }
def at2 (text : Array Nat) (lim s : Nat) (first : Bool) (mk : Array (Option Nat)) (seen : Seen) : M :=
  { code := rcode, text, lim, start := s, lastStart := lim, wholeText := false, mustAdvance := false, pc := 9, pos := s, handed := s, outermost := first, marks := mk, lastmark := 0, lastindex := -1, loops := #[], inner := none,
    frames := [fBranch s first 8, fStart s first], weight := 2, answer := none, seen := seen, outcome := none }
theorem it2 (text : Array Nat) (lim s : Nat) (first : Bool) (mk : Array (Option Nat)) (seen : Seen) :
    ∃ seen', it 2 (at0 text lim s first mk seen) = at2 text lim s first (mk.setIfInBounds 0 (some s)) seen' := ⟨_, rfl⟩
/-- behind the digits -/
def at3 (text : Array Nat) (lim s n : Nat) (first : Bool) (mk : Array (Option Nat)) (seen : Seen) : M :=
  { code := rcode, text, lim, start := s, lastStart := lim, wholeText := false, mustAdvance := false, pc := 20, pos := s + n, handed := s + n, outermost := first, marks := mk, lastmark := 0, lastindex := -1, loops := #[], inner := none,
    frames := [{ wait := .giveBack, pc := 9, pos := s + n, outermost := first, count := n, kept := kp0 }, fBranch s first 8, fStart s first], weight := 3, answer := none, seen := seen, outcome := none }
/-- the first arm has fallen -/
def at3' (text : Array Nat) (lim s : Nat) (first : Bool) (mk : Array (Option Nat)) (seen : Seen) : M :=
  { at2 text lim s first mk seen with answer := some false }
theorem step_at2 (text : Array Nat) (lim s : Nat) (first : Bool) (mk : Array (Option Nat)) (seen : Seen) :
    (at2 text lim s first mk seen).step = (if ((1 : Nat) : Int) > (lim : Int) - (s : Int) then at3' text lim s first mk (seen.add 24) else
      match run rcode text 13 (min 4294967295 ((lim : Int) - (s : Int)).toNat) s 0 ((seen.add 24).add 13) with
      | .error why => (at2 text lim s first mk (seen.add 24)).stick why
      | .ok (n, seen') => if n < 1 then at3' text lim s first mk seen' else at3 text lim s n first mk seen') := rfl
/-- the end -/
def atE (text : Array Nat) (lim s e : Nat) (first : Bool) (mk : Array (Option Nat)) (seen : Seen) : M :=
  { code := rcode, text, lim, start := s, lastStart := lim, wholeText := false, mustAdvance := false, pc := 5, pos := s, handed := e, outermost := first, marks := mk, lastmark := 1, lastindex := 1, loops := #[], inner := none,
    frames := [], weight := 0, answer := some true, seen := seen, outcome := some .matched }
/-- any state of one attempt -/
def st (text : Array Nat) (lim s pc pos handed : Nat) (first : Bool) (mk : Array (Option Nat)) (lm li : Int) (fs : List Sre.Frame) (wt : Nat) (ans : Option Bool) (seen : Seen) : M :=
  { code := rcode, text, lim, start := s, lastStart := lim, wholeText := false, mustAdvance := false, pc, pos, handed, outermost := first, marks := mk, lastmark := lm, lastindex := li, loops := #[], inner := none,
    frames := fs, weight := wt, answer := ans, seen := seen, outcome := none }
section
variable (text : Array Nat) (lim s e h : Nat) (first : Bool) (mk : Array (Option Nat)) (fs : List Sre.Frame) (wt : Nat) (seen : Seen)
theorem st_jump1 : (st text lim s 20 e h first mk 0 (-1) fs wt none seen).step = st text lim s 38 e h first mk 0 (-1) fs wt none (seen.add 15) := rfl
theorem st_jump2 : (st text lim s 35 e h first mk 0 (-1) fs wt none seen).step = st text lim s 38 e h first mk 0 (-1) fs wt none (seen.add 15) := rfl
theorem st_mark : (st text lim s 38 e h first mk 0 (-1) fs wt none seen).step = st text lim s 40 e h first (mk.setIfInBounds 1 (some e)) 1 1 fs wt none (seen.add 17) := by
  show M.mark { st text lim s 38 e h first mk 0 (-1) fs wt none seen with seen := seen.add 17 } 1 = _
  unfold M.mark
  rw [if_pos (by show ((1 : Nat) : Int) ≤ 0 + 1; decide)]
  rfl
theorem st_succ : (st text lim s 40 e h first mk 1 1 fs wt none seen).step = st text lim s 40 e e first mk 1 1 fs wt (some true) (seen.add 1) := by
  cases first <;> rfl
theorem st_popG (s' c : Nat) (pc pos : Nat) : (st text lim s pc pos h first mk 1 1 ({ wait := .giveBack, pc := 9, pos := s', outermost := first, count := c, kept := kp0 } :: fs) (wt + 1) (some true) seen).step = st text lim s 9 s' h first mk 1 1 fs wt (some true) seen := rfl
theorem st_popB (pc pos k : Nat) : (st text lim s pc pos h first mk 1 1 (fBranch s first k :: fs) (wt + 1) (some true) seen).step = st text lim s k s h first mk 1 1 fs wt (some true) seen := rfl
theorem st_popS (pc pos : Nat) : (st text lim s pc pos h first mk 1 1 (fStart s first :: fs) (wt + 1) (some true) seen).step = st text lim s 5 s h first mk 1 1 fs wt (some true) seen := rfl
theorem st_end : (st text lim s 5 s e first mk 1 1 [] 0 (some true) seen).step = atE text lim s e first mk seen := rfl
end
theorem it3 (text : Array Nat) (lim s n : Nat) (first : Bool) (mk : Array (Option Nat)) (seen : Seen) :
    ∃ seen', it 7 (at3 text lim s n first mk seen) = atE text lim s (s + n) first (mk.setIfInBounds 1 (some (s + n))) seen' := by
  have e : at3 text lim s n first mk seen = st text lim s 20 (s + n) (s + n) first mk 0 (-1) [{ wait := .giveBack, pc := 9, pos := s + n, outermost := first, count := n, kept := kp0 }, fBranch s first 8, fStart s first] 3 none seen := rfl
  rw [e]
  refine ⟨((seen.add 15).add 17).add 1, ?_⟩
  show it 6 (M.step _) = _
  rw [st_jump1]
  show it 5 (M.step _) = _
  rw [st_mark]
  show it 4 (M.step _) = _
  rw [st_succ]
  show it 3 (M.step _) = _
  rw [st_popG]
  show it 2 (M.step _) = _
  rw [st_popB]
  show it 1 (M.step _) = _
  rw [st_popS]
  show it 0 (M.step _) = _
  rw [st_end]
  rfl
/-- at the second arm -/
def at5 (text : Array Nat) (lim s : Nat) (first : Bool) (mk : Array (Option Nat)) (seen : Seen) : M :=
  { code := rcode, text, lim, start := s, lastStart := lim, wholeText := false, mustAdvance := false, pc := 23, pos := s, handed := s, outermost := first, marks := mk, lastmark := 0, lastindex := -1, loops := #[], inner := none,
    frames := [fBranch s first 22, fStart s first], weight := 2, answer := none, seen := seen, outcome := none }
theorem step_at3' (text : Array Nat) (lim s : Nat) (first : Bool) (mk : Array (Option Nat)) (seen : Seen) :
    (at3' text lim s first mk seen).step = at5 text lim s first mk seen := rfl
def at6 (text : Array Nat) (lim s : Nat) (first : Bool) (mk : Array (Option Nat)) (seen : Seen) : M :=
  { at5 text lim s first mk seen with pc := 35, pos := s + 1 }
def at6' (text : Array Nat) (lim s : Nat) (first : Bool) (mk : Array (Option Nat)) (seen : Seen) : M :=
  { at5 text lim s first mk seen with answer := some false }
theorem step_at5 (text : Array Nat) (lim s : Nat) (first : Bool) (mk : Array (Option Nat)) (seen : Seen) :
    (at5 text lim s first mk seen).step = (if s ≥ lim then at6' text lim s first mk (seen.add 13) else
      match accepts rcode 23 (text.getD s 0) (seen.add 13) with
      | .error why => (at5 text lim s first mk (seen.add 13)).stick why
      | .ok (false, seen') => at6' text lim s first mk seen'
      | .ok (true, seen') => at6 text lim s first mk seen') := rfl
theorem it6 (text : Array Nat) (lim s : Nat) (first : Bool) (mk : Array (Option Nat)) (seen : Seen) :
    ∃ seen', it 6 (at6 text lim s first mk seen) = atE text lim s (s + 1) first (mk.setIfInBounds 1 (some (s + 1))) seen' := by
  have e : at6 text lim s first mk seen = st text lim s 35 (s + 1) s first mk 0 (-1) [fBranch s first 22, fStart s first] 2 none seen := rfl
  rw [e]
  refine ⟨((seen.add 15).add 17).add 1, ?_⟩
  show it 5 (M.step _) = _
  rw [st_jump2]
  show it 4 (M.step _) = _
  rw [st_mark]
  show it 3 (M.step _) = _
  rw [st_succ]
  show it 2 (M.step _) = _
  rw [st_popB]
  show it 1 (M.step _) = _
  rw [st_popS]
  show it 0 (M.step _) = _
  rw [st_end]
  rfl
def at8 (text : Array Nat) (lim s : Nat) (first : Bool) (mk : Array (Option Nat)) (seen : Seen) : M :=
  { code := rcode, text, lim, start := s, lastStart := lim, wholeText := false, mustAdvance := false, pc := 22, pos := s, handed := s, outermost := first, marks := mk, lastmark := 0, lastindex := -1, loops := #[], inner := none,
    frames := [fStart s first], weight := 1, answer := some false, seen := seen, outcome := none }
theorem it6' (text : Array Nat) (lim s : Nat) (first : Bool) (mk : Array (Option Nat)) (seen : Seen) :
    it 1 (at6' text lim s first mk seen) = at8 text lim s first mk seen := rfl
def atF (text : Array Nat) (lim s : Nat) (first : Bool) (mk : Array (Option Nat)) (seen : Seen) : M :=
  { code := rcode, text, lim, start := s, lastStart := lim, wholeText := false, mustAdvance := false, pc := 5, pos := s, handed := s, outermost := first, marks := mk, lastmark := 0, lastindex := -1, loops := #[], inner := none,
    frames := [], weight := 0, answer := some false, seen := seen, outcome := none }
theorem step_at8 (text : Array Nat) (lim s : Nat) (first : Bool) (mk : Array (Option Nat)) (seen : Seen) :
    (at8 text lim s first mk seen).step = (if s < lim then at0 text lim (s + 1) false mk seen else atF text lim s first mk seen) := rfl
theorem step_atF (text : Array Nat) (lim s : Nat) (first : Bool) (mk : Array (Option Nat)) (seen : Seen) :
    (atF text lim s first mk seen).step = { atF text lim s first mk seen with outcome := some .failed } := rfl
end Mine
end

-- part S2
section
open PySem PySem.Calls PyProof.Rows
set_option maxRecDepth 100000
set_option maxHeartbeats 1000000
set_option linter.unusedVariables false
namespace Mine
theorem plainAttrs_re : PlainAttrs "re.Pattern" :=
  ⟨⟨"object.__getattribute__", by rw [typeLookup_type, builtinLookup_eq_fast]; kernel_rfl, by decide +kernel⟩, by rw [typeLookup_type, builtinLookup_eq_fast]; kernel_rfl⟩
theorem slot_re_split : Slot "re.Pattern" "split" "re.Pattern.split" :=
  .of (owner := "re.Pattern") (n := "split") (by rw [typeLookup_type, builtinLookup_eq_fast]; kernel_rfl) (by decide +kernel) (by decide +kernel) (by decide +kernel)
    (by first | exact .inl (by decide +kernel) | exact .inr (by decide +kernel)) (by rw [isSubtype_type]; kernel_rfl)
theorem type_re_split : typeOf (.builtin "re.Pattern.split") = pure (.type "method_descriptor") := by show builtinType _ = _; rw [builtinType_eq_fast]; kernel_rfl
theorem entry_re_split : entryFor table "re.Pattern.split" = some Builtin.«re.Pattern.split» := entryFor_of_tree (by kernel_rfl)
theorem args_re_split_2 (a b : Value) : argsOk "re.Pattern.split" ⟨[a, b], []⟩ := by
  unfold argsOk
  kernel_rfl
end Mine
namespace Mine
open PySem.Sre PySem.Builtin.Re

def digs (text : Array Nat) : Nat → Nat → Nat
  | 0, _ => 0
  | n + 1, p => if isDig (text.getD p 0) then digs text n (p + 1) + 1 else 0
theorem run_digs (text : Array Nat) : ∀ (n p found : Nat) (seen : Sre.Seen), ∃ seen', Sre.run rcode text 13 n p found seen = .ok (found + digs text n p, seen')
  | 0, p, found, seen => ⟨seen, rfl⟩
  | n + 1, p, found, seen => by
    obtain ⟨seen1, e1⟩ := acc_dig (text.getD p 0) seen
    unfold Sre.run digs
    rw [e1]
    cases h : isDig (text.getD p 0) with
    | false => exact ⟨seen1, rfl⟩
    | true =>
      obtain ⟨seen2, e2⟩ := run_digs text n (p + 1) (found + 1) seen1
      refine ⟨seen2, ?_⟩
      show Sre.run rcode text 13 n (p + 1) (found + 1) seen1 = _
      rw [e2, if_pos rfl]
      have : found + 1 + digs text n (p + 1) = found + (digs text n (p + 1) + 1) := by omega
      rw [this]
theorem digs_le (text : Array Nat) : ∀ (n p : Nat), digs text n p ≤ n
  | 0, _ => Nat.le_refl _
  | n + 1, p => by
    unfold digs
    split
    · have := digs_le text n (p + 1); omega
    · omega

/-- the next match at or behind s: its start and its end -/
def nextM (text : Array Nat) (lim : Nat) : Nat → Nat → Option (Nat × Nat)
  | 0, _ => none
  | f + 1, s => if lim ≤ s then none else if 1 ≤ digs text (lim - s) s then some (s, s + digs text (lim - s) s) else if isSepC (text.getD s 0) then some (s, s + 1) else nextM text lim f (s + 1)

theorem marks2 {mk : Array (Option Nat)} (h : mk.size = 2) (a b : Nat) : (mk.setIfInBounds 0 (some a)).setIfInBounds 1 (some b) = #[some a, some b] := by
  obtain ⟨l⟩ := mk
  match l, h with
  | [x, y], _ => rfl

theorem nextM_none {text : Array Nat} {lim s : Nat} (h : lim ≤ s) (f : Nat) : nextM text lim f s = none := by
  cases f with
  | zero => rfl
  | succ f => unfold nextM; rw [if_pos h]

theorem search_at (text : Array Nat) (lim : Nat) (hl : lim ≤ 16777216) : ∀ (f s : Nat) (first : Bool) (mk : Array (Option Nat)) (seen : Sre.Seen), lim + 1 - s ≤ f → s ≤ lim → mk.size = 2 →
    ∃ k ≤ 16 * f, match nextM text lim f s with
      | some (j, e) => ∃ first' seen', it k (at0 text lim s first mk seen) = atE text lim j e first' #[some j, some e] seen'
      | none => (it k (at0 text lim s first mk seen)).outcome = some .failed
  | 0, s, first, mk, seen, hf, hs, hm => by omega
  | f + 1, s, first, mk, seen, hf, hs, hm => by
    obtain ⟨seen1, e1⟩ := it2 text lim s first mk seen
    have hm1 : (mk.setIfInBounds 0 (some s)).size = 2 := by simp [hm]
    obtain ⟨seen2, e2⟩ := run_digs text (lim - s) s 0 ((seen1.add 24).add 13)
    rw [Nat.zero_add] at e2
    have hmin : min 4294967295 ((lim : Int) - (s : Int)).toNat = lim - s := by omega
    -- the first arm
    have step2 := step_at2 text lim s first (mk.setIfInBounds 0 (some s)) seen1
    by_cases hlt : s < lim
    · rw [if_neg (by omega), hmin, e2] at step2
      dsimp only at step2
      by_cases hd : 1 ≤ digs text (lim - s) s
      · rw [if_neg (by omega)] at step2
        obtain ⟨seen3, e3⟩ := it3 text lim s (digs text (lim - s) s) first (mk.setIfInBounds 0 (some s)) seen2
        refine ⟨2 + (1 + 7), by omega, ?_⟩
        have hn : nextM text lim (f + 1) s = some (s, s + digs text (lim - s) s) := by
          unfold nextM
          rw [if_neg (by omega), if_pos hd]
        rw [hn]
        refine ⟨first, seen3, ?_⟩
        rw [it_add, e1, it_add]
        show it 7 (M.step _) = _
        rw [step2, e3, marks2 hm]
      · rw [if_pos (by omega)] at step2
        have step5 := step_at5 text lim s first (mk.setIfInBounds 0 (some s)) seen2
        rw [if_neg (by omega)] at step5
        obtain ⟨seen4, e4⟩ := acc_sep (text.getD s 0) (seen2.add 13)
        rw [e4] at step5
        cases hc : isSepC (text.getD s 0) with
        | true =>
          rw [hc] at step5
          dsimp only at step5
          obtain ⟨seen5, e5⟩ := it6 text lim s first (mk.setIfInBounds 0 (some s)) seen4
          refine ⟨2 + (3 + 6), by omega, ?_⟩
          have hn : nextM text lim (f + 1) s = some (s, s + 1) := by
            unfold nextM
            rw [if_neg (by omega), if_neg hd, hc, if_pos rfl]
          rw [hn]
          refine ⟨first, seen5, ?_⟩
          rw [it_add, e1, it_add]
          show it 6 (M.step (M.step (M.step _))) = _
          rw [step2, step_at3', step5, e5, marks2 hm]
        | false =>
          rw [hc] at step5
          dsimp only at step5
          have step8 := step_at8 text lim s first (mk.setIfInBounds 0 (some s)) seen4
          rw [if_pos hlt] at step8
          obtain ⟨k, hk, ih⟩ := search_at text lim hl f (s + 1) false (mk.setIfInBounds 0 (some s)) seen4 (by omega) (by omega) hm1
          refine ⟨2 + (5 + k), by omega, ?_⟩
          have hn : nextM text lim (f + 1) s = nextM text lim f (s + 1) := by
            conv => lhs; unfold nextM
            rw [if_neg (by omega), if_neg hd, hc]
            rfl
          have e : it (2 + (5 + k)) (at0 text lim s first mk seen) = it k (at0 text lim (s + 1) false (mk.setIfInBounds 0 (some s)) seen4) := by
            rw [it_add, e1, it_add]
            show it k (M.step (M.step (M.step (M.step (M.step _))))) = _
            rw [step2, step_at3', step5]
            have q := it6' text lim s first (mk.setIfInBounds 0 (some s)) seen4
            have q' : (at6' text lim s first (mk.setIfInBounds 0 (some s)) seen4).step = at8 text lim s first (mk.setIfInBounds 0 (some s)) seen4 := q
            rw [q', step8]
          rw [hn, e]
          exact ih
    · rw [if_pos (by omega)] at step2
      have step5 := step_at5 text lim s first (mk.setIfInBounds 0 (some s)) (seen1.add 24)
      rw [if_pos (by omega)] at step5
      have step8 := step_at8 text lim s first (mk.setIfInBounds 0 (some s)) ((seen1.add 24).add 13)
      rw [if_neg hlt] at step8
      refine ⟨2 + 6, by omega, ?_⟩
      rw [nextM_none (by omega)]
      show (it (2 + 6) (at0 text lim s first mk seen)).outcome = some .failed
      rw [it_add, e1]
      show (M.step (M.step (M.step (M.step (M.step (M.step _)))))).outcome = _
      have q' : (at6' text lim s first (mk.setIfInBounds 0 (some s)) ((seen1.add 24).add 13)).step = at8 text lim s first (mk.setIfInBounds 0 (some s)) ((seen1.add 24).add 13) := it6' text lim s first (mk.setIfInBounds 0 (some s)) _
      rw [step2, step_at3', step5, q', step8, step_atF]
end Mine
end

-- part S3
section
open PySem PySem.Calls PyProof.Rows
set_option maxRecDepth 100000
set_option maxHeartbeats 1000000
set_option linter.unusedVariables false
namespace Mine
open PySem.Sre PySem.Builtin.Re

theorem step_stable {m : Sre.M} (h : m.outcome.isSome = true) : m.step = m := by
  unfold Sre.M.step
  rw [if_pos h]
theorem it_stable {m : Sre.M} (h : m.outcome.isSome = true) : ∀ k, it k m = m
  | 0 => rfl
  | k + 1 => by
    show it k m.step = m
    rw [step_stable h]
    exact it_stable h k
theorem runFor_it : ∀ (n : Nat) (m : Sre.M), m.runFor n = it n m
  | 0, m => rfl
  | n + 1, m => by
    unfold Sre.M.runFor
    by_cases h : m.outcome.isSome = true
    · rw [if_pos h, it_stable h]
    · rw [if_neg h]
      exact runFor_it n m.step
section
variable {prog : Program} {w : World} {A : Around} {E : Value → Shared → Prop} {s : Shared}
theorem wp_drive {Mo : Model} {Q : Sre.M → Shared → Prop} : ∀ (t k : Nat) (m : Sre.M), k ≤ 4 * t → (it k m).outcome.isSome = true → Q (it k m) s → wpAny Mo A (reDrive (t + 1) m) Q E s
  | t, k, m, hk, ho, hq => by
    unfold reDrive
    show wpAny Mo A (if (m.runFor reTurnSteps).outcome.isSome then pure (m.runFor reTurnSteps) else do rule "sre.turn"; reDrive t (m.runFor reTurnSteps)) Q E s
    rw [runFor_it]
    by_cases h : (it reTurnSteps m).outcome.isSome = true
    · rw [if_pos h]
      have e : it k m = it reTurnSteps m := by
        by_cases hk4 : k ≤ 4
        · have e1 : it reTurnSteps m = it (4 - k) (it k m) := by
            rw [← it_add]
            show it 4 m = _
            congr 1
            omega
          rw [e1, it_stable ho]
        · have e1 : it k m = it (k - 4) (it 4 m) := by
            rw [← it_add]
            congr 1
            omega
          rw [e1]
          exact it_stable h _
      rw [e] at hq
      exact wpAny_pure hq
    · rw [if_neg h]
      have hk4 : 4 < k := by
        apply Nat.lt_of_not_le
        intro hle
        have e1 : it reTurnSteps m = it (4 - k) (it k m) := by
          rw [← it_add]
          show it 4 m = _
          congr 1
          omega
        rw [e1, it_stable ho] at h
        exact h ho
      have e1 : it k m = it (k - 4) (it 4 m) := by
        rw [← it_add]
        congr 1
        omega
      rw [e1] at ho hq
      cases t with
      | zero => omega
      | succ t => exact wpAny_bind (wpAny_rule (wp_drive t (k - 4) (it 4 m) (by omega) ho hq))
theorem wp_rules {Mo : Model} {Q : PUnit → Shared → Prop} {p : Nat → Bool} {f : Nat → String} (h : Q ⟨⟩ s) : ∀ l : List Nat, wpAny Mo A (forIn l PUnit.unit fun i __s => if p i = true then do
        rule (f i)
        pure (ForInStep.yield PUnit.unit)
      else pure (ForInStep.yield PUnit.unit)) Q E s
  | [] => by rw [List.forIn_nil]; exact wpAny_pure h
  | i :: l => by
    rw [List.forIn_cons]
    refine wpAny_bind ?_
    by_cases hp : p i = true
    · rw [if_pos hp]
      exact wpAny_bind (wpAny_rule (wpAny_pure (wp_rules h l)))
    · rw [if_neg hp]
      exact wpAny_pure (wp_rules h l)
theorem wp_toEnd_yes {Mo : Model} {Q : Option Sre.M → Shared → Prop} {m : Sre.M} {k : Nat} (hk : k ≤ 1000000000) (ho : (it k m).outcome = some .matched) (h : Q (some (it k m)) s) : wpAny Mo A (reRunToEnd m) Q E s := by
  unfold reRunToEnd
  refine wpAny_bind ?_
  rw [show (2 ^ 64 : Nat) = 18446744073709551615 + 1 from rfl]
  refine wp_drive _ k m (by omega) (by rw [ho]; rfl) ?_
  refine wpAny_bind (wp_rules ?_ _)
  rw [ho]
  exact wpAny_pure h
theorem wp_toEnd_no {Mo : Model} {Q : Option Sre.M → Shared → Prop} {m : Sre.M} {k : Nat} (hk : k ≤ 1000000000) (ho : (it k m).outcome = some .failed) (h : Q none s) : wpAny Mo A (reRunToEnd m) Q E s := by
  unfold reRunToEnd
  refine wpAny_bind ?_
  rw [show (2 ^ 64 : Nat) = 18446744073709551615 + 1 from rfl]
  refine wp_drive _ k m (by omega) (by rw [ho]; rfl) ?_
  refine wpAny_bind (wp_rules ?_ _)
  rw [ho]
  exact wpAny_pure h

def seen0 : Sre.Seen := ({} : Sre.Seen).add 14
def mk0 : Array (Option Nat) := Array.replicate 2 none
def no0 (text : Array Nat) (s : Nat) : Sre.M := { code := rcode, text, lim := text.size, start := s, pc := 5, pos := s, handed := s, marks := mk0, mustAdvance := false, seen := seen0, answer := some false : Sre.M }
def yes0 (text : Array Nat) (s : Nat) : Sre.M := at0 text text.size s true mk0 seen0
theorem forSearch_eq (text : Array Nat) (s : Nat) : forSearch rcode text 1 s text.size false = (if (decide (s > text.size) || decide (text.size - s < 1)) = true then no0 text s else yes0 text s) := rfl

abbrev tgt (pat str : Value) (text : Array Nat) : ReTarget := { pattern := pat, string := str, code := rcode, text := text, kind := 0, groups := 1, pos := 0, lim := text.size }

theorem wp_next {Mo : Model} {Q : Option Sre.M → Shared → Prop} {pat str : Value} {text : Array Nat} (hz : text.size ≤ 16777216) (start : Nat) (hs : start ≤ text.size)
    (h : match nextM text text.size (text.size + 1 - start) start with
      | some (j, e) => ∀ m : Sre.M, m.start = j → m.handed = e → m.lastmark = 1 → m.marks = #[some j, some e] → Q (some m) s
      | none => Q none s) : wpAny Mo A (reNextFound (tgt pat str text) start false) Q E s := by
  show wpAny Mo A (reRunToEnd (forSearch rcode text 1 start text.size false)) Q E s
  rw [forSearch_eq]
  by_cases he : start = text.size
  · rw [if_pos (by simp; omega)]
    rw [nextM_none (by omega)] at h
    have q : (it 1 (no0 text start)).outcome = some .failed := rfl
    generalize no0 text start = m0 at q ⊢
    exact wp_toEnd_no (k := 1) (by omega) q h
  · rw [if_neg (by simp; omega)]
    have q := search_at text text.size hz (text.size + 1 - start) start true mk0 seen0 (by omega) hs rfl
    rw [show at0 text text.size start true mk0 seen0 = yes0 text start from rfl] at q
    generalize yes0 text start = m0 at q ⊢
    obtain ⟨k, hk, q⟩ := q
    have hk9 : k ≤ 1000000000 := by omega
    cases hn : nextM text text.size (text.size + 1 - start) start with
    | none =>
      rw [hn] at q h
      exact wp_toEnd_no hk9 q h
    | some je =>
      obtain ⟨j, e⟩ := je
      rw [hn] at q h
      obtain ⟨first', seen', q⟩ := q
      have h1 := h (atE text text.size j e first' #[some j, some e] seen') rfl rfl rfl rfl
      have h2 : (atE text text.size j e first' #[some j, some e] seen').outcome = some .matched := rfl
      rw [← q] at h1 h2
      exact wp_toEnd_yes hk9 h2 h1
end
end Mine
end

-- part S4
section
open PySem PySem.Calls PyProof.Rows PySem.W
set_option maxRecDepth 100000
set_option maxHeartbeats 1000000
set_option linter.unusedVariables false
namespace Mine
open PySem.Builtin.Re

theorem nextM_spec {text : Array Nat} {lim : Nat} : ∀ {f s j e : Nat}, nextM text lim f s = some (j, e) → s ≤ j ∧ j < e ∧ e ≤ lim
  | 0, _, _, _, h => by cases h
  | f + 1, s, j, e, h => by
    unfold nextM at h
    split at h
    · cases h
    · rename_i hs
      split at h
      · rename_i hd
        cases h
        have := digs_le text (lim - s) s
        omega
      · split at h
        · cases h
          omega
        · have := nextM_spec h
          omega
/-- what split cuts off, and where its last piece begins -/
def cuts (text : Array Nat) : Nat → Nat → List Str × Nat
  | 0, last => ([], last)
  | f + 1, last => match nextM text text.size (text.size + 1 - last) last with
    | none => ([], last)
    | some (j, e) => (⟨text.extract last j⟩ :: ⟨text.extract j e⟩ :: (cuts text f e).1, (cuts text f e).2)
def splitP (x : Str) : List Str := (cuts x.cps (2 * x.cps.size + 3) 0).1 ++ [⟨x.cps.extract (cuts x.cps (2 * x.cps.size + 3) 0).2 x.cps.size⟩]
section
variable {prog : Program} {w : World} {A : Around} {E : Value → Shared → Prop}
theorem wp_slice {Mo : Model} {s : Shared} {text : Array Nat} {b e : Nat} (hz : text.size ≤ 16777216) {Q : Value → Shared → Prop} (h : Q (.str ⟨text.extract b e⟩ s.toks) { s with toks := s.toks + 1 }) : wpAny Mo A (reSlice text 0 b e) Q E s := by
  show wpAny Mo A (mkStr ⟨text.extract b e⟩) Q E s
  refine wpAny_mkStr h ?_
  show (text.extract b e).size ≤ sizeLine
  rw [sizeLine_eq, Array.size_extract]
  omega
abbrev LSt := Array Value × Nat × Nat × Bool × Int × Bool
theorem wp_over {Mo : Model} {s : Shared} {Q : LSt → Shared → Prop} {body : Nat → LSt → Sem (ForInStep LSt)} (hb : ∀ x out st la mu n, body x (out, st, la, mu, n, true) = pure (.yield (out, st, la, mu, n, true))) {out : Array Value} {st la : Nat} {mu : Bool} {n : Int} (h : Q (out, st, la, mu, n, true) s) :
    ∀ l : List Nat, wpAny Mo A (forIn l (out, st, la, mu, n, true) body) Q E s
  | [] => by rw [List.forIn_nil]; exact wpAny_pure h
  | x :: l => by
    rw [List.forIn_cons, hb]
    exact wpAny_bind (wpAny_pure (wp_over hb h l))
theorem wp_loop {Mo : Model} {Q : LSt → Shared → Prop} {body : Nat → LSt → Sem (ForInStep LSt)} {pat str : Value} {text : Array Nat} (hz : text.size ≤ 16777216)
    (hb : ∀ x out st la mu n, body x (out, st, la, mu, n, true) = pure (.yield (out, st, la, mu, n, true)))
    (hg : ∀ x (out : Array Value) last n, body x (out, last, last, false, n, false) = (do
      let r ← reNextFound (tgt pat str text) last false
      match r with
      | none => pure (.yield (out, last, last, false, n, true))
      | some m => do
        let v ← reSlice text 0 last m.start
        let o ← forIn (List.range 1) (out.push v) fun g o => do
          let u ← reMachineGroup (tgt pat str text) m (g + 1) (pure Value.none)
          pure (ForInStep.yield (o.push u))
        pure (.yield (o, m.handed, m.handed, m.handed == m.start, n + 1, false)))) :
    ∀ (l : List Nat) (last : Nat) (out : Array Value) (n : Int) (s : Shared), last ≤ text.size → text.size - last < l.length →
      (∀ vs tk n', DatAll [] vs ((cuts text l.length last).1.map Dat.str) → Q (out ++ vs.toArray, (cuts text l.length last).2, (cuts text l.length last).2, false, n', true) { s with toks := tk }) →
      wpAny Mo A (forIn l (out, last, last, false, n, false) body) Q E s
  | [], last, out, n, s, hl, hf, h => by simp at hf
  | x :: l, last, out, n, s, hl, hf, h => by
    rw [List.forIn_cons, hg]
    refine wpAny_bind (wpAny_bind (wp_next hz last hl ?_))
    cases hn : nextM text text.size (text.size + 1 - last) last with
    | none =>
      have e : cuts text (x :: l).length last = ([], last) := by
        show cuts text (l.length + 1) last = _
        unfold cuts
        rw [hn]
      rw [e] at h
      refine wpAny_pure (wp_over hb ?_ l)
      have := h [] s.toks n .nil
      simpa using this
    | some je =>
      obtain ⟨j, ee⟩ := je
      have sp := nextM_spec hn
      have e : cuts text (x :: l).length last = (⟨text.extract last j⟩ :: ⟨text.extract j ee⟩ :: (cuts text l.length ee).1, (cuts text l.length ee).2) := by
        show cuts text (l.length + 1) last = _
        conv => lhs; unfold cuts
        rw [hn]
      rw [e] at h
      intro m hs hh hlm hmk
      dsimp only
      rw [hs, hh]
      refine wpAny_bind (wp_slice hz ?_)
      refine wpAny_bind ?_
      show wpAny Mo A (forIn [0] _ _) _ _ _
      rw [List.forIn_cons]
      refine wpAny_bind (wpAny_bind ?_)
      unfold reMachineGroup
      rw [if_neg (by rw [hlm]; decide), hmk]
      show wpAny Mo A (if ee < j then reWrongSpan else reSlice text 0 j ee) _ _ _
      rw [if_neg (by omega)]
      refine wp_slice hz ?_
      refine wpAny_pure ?_
      show wpAny Mo A (forIn [] _ _) _ _ _
      rw [List.forIn_nil]
      refine wpAny_pure (wpAny_pure ?_)
      have hne : (ee == j) = false := by simp; omega
      rw [hne]
      refine wp_loop hz hb hg l ee _ (n + 1) _ (by omega) (by simp at hf; omega) ?_
      intro vs tk n' hD
      have := h (.str ⟨text.extract last j⟩ s.toks :: .str ⟨text.extract j ee⟩ (s.toks + 1) :: vs) tk n' (.cons (.str _ _) (.cons (.str _ _) hD))
      have e2 : (out.push (.str ⟨text.extract last j⟩ s.toks)).push (.str ⟨text.extract j ee⟩ (s.toks + 1)) ++ vs.toArray = out ++ (Value.str ⟨text.extract last j⟩ s.toks :: .str ⟨text.extract j ee⟩ (s.toks + 1) :: vs).toArray := by
        apply Array.toList_inj.mp
        simp
      rw [← e2] at this
      exact this

theorem re_named (v : Value) : reNamed "re.Pattern.split" "split" ["string", "maxsplit"] 1 [v] [] = pure [some v, none] := rfl
theorem re_target {Mo : Model} {s : Shared} {a c : Addr} {x : Str} {t : Tok} {oa oc : Obj} {fl : Array Value} {Q : ReTarget → Shared → Prop} {its : Array Value} {n : Nat}
    (ha : s.heap.get? a = some oa) (hd : oa.data = .fields fl) (h6 : fl.getD 6 .none = .int 0 0) (h5 : fl.getD 5 .none = .ref c) (h2 : fl.getD 2 .none = .int 1 0)
    (hc : s.heap.get? c = some oc) (hcd : oc.data = .seq its n) (hcode : (its.map reRawOf).map (·.toNat) = rcode) (h : Q (tgt (.ref a) (.str x t) x.cps) s) :
    wpAny Mo A (reWholeTarget (.ref a) (.str x t)) Q E s := by
  unfold reWholeTarget fieldsOf
  refine wpAny_bind (wpAny_bind (wpAny_load ha ?_))
  rw [hd]
  refine wpAny_pure ?_
  show wpAny Mo A (do let __x ← reTextOf (.str x t); _) _ _ _
  refine wpAny_bind ?_
  show wpAny Mo A (pure (x.cps, 0)) _ _ _
  refine wpAny_pure ?_
  dsimp only
  rw [h6, h5, h2]
  show wpAny Mo A (do reNoCollectionInside (.str x t) 0; _) _ _ _
  refine wpAny_bind ?_
  show wpAny Mo A (pure ()) _ _ _
  refine wpAny_pure ?_
  refine wpAny_bind ?_
  unfold reRawItems seqItems?
  refine wpAny_bind (wpAny_bind (wpAny_load hc ?_))
  rw [hcd]
  refine wpAny_pure (wpAny_pure (wpAny_pure ?_))
  rw [Option.getD_some, hcode]
  exact h
end
end Mine
end

-- part S5
section
open PySem PySem.Calls PyProof.Rows PySem.W
set_option maxRecDepth 100000
set_option maxHeartbeats 1000000
set_option linter.unusedVariables false
namespace Mine
open PySem.Builtin.Re
section
variable {prog : Program} {w : World} {A : Around} {E : Value → Shared → Prop}
theorem cuts_le (text : Array Nat) : ∀ (f last : Nat), (cuts text f last).1.length ≤ 2 * f
  | 0, _ => Nat.le_refl _
  | f + 1, last => by
    unfold cuts
    split
    · simp
    · rename_i j e _
      have := cuts_le text f e
      simp only [List.length_cons]
      omega
theorem split_builtin {Mo : Model} {s : Shared} {a c : Addr} {x : Str} {t : Tok} {oa oc : Obj} {fl : Array Value} {its : Array Value} {n : Nat} {P : PySem.Fin → Shared → Prop} (hx : x.length ≤ 1000)
    (ha : s.heap.get? a = some oa) (hd : oa.data = .fields fl) (h6 : fl.getD 6 .none = .int 0 0) (h5 : fl.getD 5 .none = .ref c) (h2 : fl.getD 2 .none = .int 1 0)
    (hc : s.heap.get? c = some oc) (hcd : oc.data = .seq its n) (hcode : (its.map reRawOf).map (·.toNat) = rcode)
    (h : ∀ vs tk, DatAll [] vs ((splitP x).map Dat.str) → wpAny Mo A (newList vs) (fun v s' => P (.done (.ret v)) s') E { s with toks := tk }) :
    wpAny Mo A (Builtin.«re.Pattern.split» ⟨[.ref a, .str x t], []⟩) P E s := by
  have hz : x.cps.size ≤ 16777216 := by
    have : x.cps.size ≤ 1000 := hx
    omega
  unfold Builtin.«re.Pattern.split»
  dsimp only
  rw [re_named]
  refine wpAny_bind (wpAny_pure ?_)
  dsimp only
  refine wpAny_bind (wpAny_pure ?_)
  refine wpAny_bind (re_target ha hd h6 h5 h2 hc hcd hcode ?_)
  dsimp only
  refine wpAny_bind (wp_loop (pat := .ref a) (str := .str x t) (text := x.cps) hz (fun _ _ _ _ _ _ => rfl) (fun _ _ _ _ => rfl) _ 0 #[] 0 s (Nat.zero_le _) ?_ ?_)
  · rw [List.length_range]
    show x.cps.size - 0 < 2 * x.cps.size + 3
    omega
  · intro vs tk n' hD
    rw [List.length_range] at hD ⊢
    have hD' : DatAll [] vs ((cuts x.cps (2 * x.cps.size + 3) 0).1.map Dat.str) := hD
    show wpAny Mo A (do
            let __do_lift ← reSlice x.cps 0 (cuts x.cps (2 * x.cps.size + 3) 0).2 x.cps.size
            let __do_lift ← newList (Array.push (#[] ++ vs.toArray) __do_lift).toList
            ret __do_lift) _ _ _
    refine wpAny_bind (wp_slice hz ?_)
    have e : (Array.push (#[] ++ vs.toArray) (Value.str ⟨x.cps.extract (cuts x.cps (2 * x.cps.size + 3) 0).2 x.cps.size⟩ ({ s with toks := tk } : Shared).toks)).toList = vs ++ [Value.str ⟨x.cps.extract (cuts x.cps (2 * x.cps.size + 3) 0).2 x.cps.size⟩ tk] := by simp
    rw [e]
    refine wpAny_bind (wpAny_mono (h _ (tk + 1) ?_) (fun v s' hv => wpAny_pure hv) fun _ _ e => e)
    unfold splitP
    rw [List.map_append]
    exact hD'.append (.cons (.str _ _) .nil)
theorem splitP_len (x : Str) (hx : x.length ≤ 1000) : (splitP x).length ≤ 5000 := by
  unfold splitP
  rw [List.length_append]
  have := cuts_le x.cps (2 * x.cps.size + 3) 0
  have h : x.cps.size ≤ 1000 := hx
  simp only [List.length_cons, List.length_nil]
  omega
theorem split_call {s : Shared} {h₀ : Heap} {L a c : Addr} {m : Str → Option Value} {news : List (Addr × Obj)} {x : Str} {t : Tok} {oa oc : Obj} {fl : Array Value} {its : Array Value} {n : Nat} {Q : Value → Shared → Prop} (F : Fr h₀ L s.heap m) (N : News h₀ L s.heap news) (hx : x.length ≤ 1000)
    (ha : s.heap.get? a = some oa) (hcl : oa.cls = .type "re.Pattern") (hd : oa.data = .fields fl) (h6 : fl.getD 6 .none = .int 0 0) (h5 : fl.getD 5 .none = .ref c) (h2 : fl.getD 2 .none = .int 1 0)
    (hc : s.heap.get? c = some oc) (hcd : oc.data = .seq its n) (hcode : (its.map reRawOf).map (·.toNat) = rcode)
    (h : ∀ D vs h' tk, Fr h₀ L h' m → News h₀ L h' ((D, listOf vs.toArray 0) :: news) → (∀ p ∈ news, p.1 < D) → DatAll [] vs ((splitP x).map Dat.str) → Q (.ref D) { s with heap := h', toks := tk }) :
    wpAny (model prog w) A (call (.builtin "re.Pattern.split") [.ref a, .str x t]) Q E s := by
  refine wpAny_call_entry slot_re_split ⟨_, ha, hcl⟩ entry_re_split (split_builtin hx ha hd h6 h5 h2 hc hcd hcode fun vs tk hD => ?_) (args_re_split_2 _ _)
  have hl : vs.length ≤ 5000 := by rw [hD.length, List.length_map]; exact splitP_len x hx
  exact newList_N (s := { s with toks := tk }) F N (fun h' F' N' => ⟨_, rfl, h _ vs h' tk F' N' (fun p hp => Heap.lt_size (N p hp).1) hD⟩) (by rw [sizeLine_eq]; omega)
theorem split_method {s : Shared} {a : Addr} {oa : Obj} {pl : Sem Bool} {Q : Value × List Value → Shared → Prop} (ha : s.heap.get? a = some oa) (hcl : oa.cls = .type "re.Pattern") (hdi : oa.dict = none)
    (h : Q (.builtin "re.Pattern.split", [.ref a]) s) : wpAny (model prog w) A (getMethod (.ref a) (Str.ofString "split") pl) Q E s :=
  getMethod_builtin ⟨_, ha, hcl⟩ plainAttrs_re slot_re_split type_re_split (fun a e => by cases e; exact ⟨_, ha, hdi⟩) h
end
end Mine
end

-- part Z1
section
open PySem PySem.W PyProof.Rows
set_option maxHeartbeats 1000000
namespace Mine
/-- the tree answered by a plain order -/
def runK {α : Type} (lt : Nat → Nat → Bool) : KasT α → α
  | .ret a => a
  | .ask i j k => runK lt (k (lt i j))
theorem runK_bind {α β : Type} (lt : Nat → Nat → Bool) (f : α → KasT β) : ∀ t : KasT α, runK lt (t.bind f) = runK lt (f (runK lt t))
  | .ret _ => rfl
  | .ask i j k => runK_bind lt f (k (lt i j))

section
variable (key : Nat → Nat)
def ltK (i j : Nat) : Bool := decide (key i < key j)
def kk (p : Array Nat) (i : Nat) : Nat := key ((p[i]?).getD 0)
theorem kk_getD (p : Array Nat) (i : Nat) : key (p.getD i 0) = kk key p i := by rw [Array.getD_eq_getD_getElem?]; rfl
def Up (p : Array Nat) (n : Nat) : Prop := ∀ i j, i ≤ j → j < n → kk key p i ≤ kk key p j
def Dn (p : Array Nat) (n : Nat) : Prop := ∀ i j, i ≤ j → j < n → kk key p j ≤ kk key p i

theorem Up.step {p : Array Nat} {n : Nat} (h : Up key p n) (hl : n = 0 ∨ kk key p (n - 1) ≤ kk key p n) : Up key p (n + 1) := fun i j hij hj => by
  by_cases hjn : j < n
  · exact h i j hij hjn
  · obtain rfl : j = n := by omega
    by_cases hin : i = j
    · subst hin; exact Nat.le_refl _
    · rcases hl with h0 | hl
      · omega
      · exact Nat.le_trans (h i (j - 1) (by omega) (by omega)) hl
theorem Dn.step {p : Array Nat} {n : Nat} (h : Dn key p n) (hl : n = 0 ∨ kk key p n ≤ kk key p (n - 1)) : Dn key p (n + 1) := fun i j hij hj => by
  by_cases hjn : j < n
  · exact h i j hij hjn
  · obtain rfl : j = n := by omega
    by_cases hin : i = j
    · subst hin; exact Nat.le_refl _
    · rcases hl with h0 | hl
      · omega
      · exact Nat.le_trans hl (h i (j - 1) (by omega) (by omega))

theorem asc_ok (p : Array Nat) : ∀ (f n : Nat), 1 ≤ n → Up key p n → n ≤ runK (ltK key) (kas_asc p f n) ∧ runK (ltK key) (kas_asc p f n) ≤ n + f ∧ Up key p (runK (ltK key) (kas_asc p f n)) ∧
    (runK (ltK key) (kas_asc p f n) < n + f → kk key p (runK (ltK key) (kas_asc p f n)) < kk key p (runK (ltK key) (kas_asc p f n) - 1))
  | 0, n, _, h => ⟨Nat.le_refl _, Nat.le_refl _, h, fun q => absurd q (Nat.lt_irrefl _)⟩
  | f + 1, n, h1, h => by
    unfold kas_asc
    simp only [runK, ltK, kk_getD]
    by_cases hc : kk key p n < kk key p (n - 1)
    · simp only [decide_eq_true hc, if_true, runK]
      exact ⟨Nat.le_refl _, by omega, h, fun _ => hc⟩
    · simp only [decide_eq_false hc, Bool.false_eq_true, if_false]
      obtain ⟨a, b, c, d⟩ := asc_ok p f (n + 1) (by omega) (h.step key (.inr (by omega)))
      exact ⟨by omega, by omega, c, fun q => d (by omega)⟩

theorem rev_kk {p : Array Nat} {i j : Nat} (hj : j ≤ p.size) (k : Nat) : kk key (kas_rev p i j) k = if i ≤ k ∧ k < j then kk key p (i + j - 1 - k) else kk key p k := by
  unfold kk kas_rev
  rw [getElem?_mirror_all hj]
  split <;> rfl
theorem rev_size (p : Array Nat) (i j : Nat) : (kas_rev p i j).size = p.size := mirror_size _ _ _ _
theorem rev_perm (p : Array Nat) (i j : Nat) : (kas_rev p i j).Perm p := mirror_perm _ _ _ _

/-- the last q + 1 before n have one key -/
def Eqs (p : Array Nat) (n q : Nat) : Prop := ∀ i, n - 1 - q ≤ i → i < n → kk key p i = kk key p (n - 1)
theorem rev_same {p : Array Nat} {n q : Nat} (hn : n ≤ p.size) (hq : q + 1 ≤ n) (h : Eqs key p n q) (k : Nat) : kk key (kas_rev p (n - (q + 1)) n) k = kk key p k := by
  rw [rev_kk key hn]
  split
  · rename_i hk
    rw [h _ (by omega) (by omega), h k (by omega) (by omega)]
  · rfl

theorem desc_ok : ∀ (f : Nat) (p : Array Nat) (n q : Nat), q + 1 ≤ n → n + f ≤ p.size → Dn key p n → Eqs key p n q →
    ∀ r, runK (ltK key) (kas_desc f p n q) = r → n ≤ r.2.1 ∧ r.2.1 ≤ n + f ∧ r.1.size = p.size ∧ r.1.Perm p ∧ Dn key r.1 r.2.1 ∧ Eqs key r.1 r.2.1 r.2.2 ∧ r.2.2 + 1 ≤ r.2.1
  | 0, p, n, q, hq, hs, hd, he, r, hr => by
    obtain rfl : (p, n, q) = r := hr
    exact ⟨Nat.le_refl _, Nat.le_refl _, rfl, .rfl, hd, he, hq⟩
  | f + 1, p, n, q, hq, hs, hd, he, r, hr => by
    unfold kas_desc at hr
    simp only [runK, ltK, kk_getD] at hr
    by_cases hc : kk key p n < kk key p (n - 1)
    · simp only [decide_eq_true hc, if_true] at hr
      split at hr
      · have hsame := rev_same key (p := p) (n := n) (q := q) (by omega) hq he
        have hd' : Dn key (kas_rev p (n - (q + 1)) n) (n + 1) := fun i j hij hj => by rw [hsame, hsame]; exact hd.step key (.inr (by omega)) i j hij hj
        obtain ⟨a, b, c, d, e, g, i⟩ := desc_ok f _ (n + 1) 0 (by omega) (by rw [rev_size]; omega) hd' (fun i h1 h2 => by rw [show i = n by omega]; rfl) r hr
        exact ⟨by omega, by omega, c.trans (rev_size _ _ _), d.trans (rev_perm _ _ _), e, g, i⟩
      · obtain ⟨a, b, c, d, e, g, i⟩ := desc_ok f p (n + 1) 0 (by omega) (by omega) (hd.step key (.inr (by omega))) (fun i h1 h2 => by rw [show i = n by omega]; rfl) r hr
        exact ⟨by omega, by omega, c, d, e, g, i⟩
    · simp only [decide_eq_false hc, Bool.false_eq_true, if_false, runK] at hr
      by_cases hd2 : kk key p (n - 1) < kk key p n
      · simp only [ltK, kk_getD, decide_eq_true hd2, if_true, runK] at hr
        obtain rfl : (p, n, q) = r := hr
        exact ⟨Nat.le_refl _, Nat.le_add_right _ _, rfl, .rfl, hd, he, hq⟩
      · simp only [ltK, kk_getD, decide_eq_false hd2, Bool.false_eq_true, if_false] at hr
        have heq : kk key p n = kk key p (n - 1) := by omega
        obtain ⟨a, b, c, d, e, g, i⟩ := desc_ok f p (n + 1) (q + 1) (by omega) (by omega) (hd.step key (.inr (by omega))) (fun i h1 h2 => by
          by_cases hin : i = n
          · subst hin; rfl
          · show kk key p i = kk key p n
            rw [heq]; exact he i (by omega) (by omega)) r hr
        exact ⟨by omega, by omega, c, d, e, g, i⟩

theorem rev_up {p : Array Nat} {n : Nat} (hn : n ≤ p.size) (h : Dn key p n) : Up key (kas_rev p 0 n) n := fun i j hij hj => by
  rw [rev_kk key hn, rev_kk key hn, if_pos ⟨Nat.zero_le _, by omega⟩, if_pos ⟨Nat.zero_le _, hj⟩]
  exact h _ _ (by omega) (by omega)

def Good (nrem : Nat) (p : Array Nat) (r : Nat × Array Nat) : Prop := 1 ≤ r.1 ∧ r.1 ≤ nrem ∧ r.2.size = p.size ∧ r.2.Perm p ∧ Up key r.2 r.1
theorem tail3_ok {n nrem : Nat} {p : Array Nat} (h1 : 1 ≤ n) (hn : n ≤ nrem) (hs : nrem ≤ p.size) (h : Dn key p n) : Good key nrem p (runK (ltK key) (kas_tail3 n nrem p)) := by
  unfold kas_tail3
  rw [runK_bind]
  obtain ⟨a, b, c, _⟩ := asc_ok key (kas_rev p 0 n) (nrem - n) n h1 (rev_up key (by omega) h)
  refine ⟨?_, ?_, rev_size _ _ _, rev_perm _ _ _, c⟩
  · show 1 ≤ runK _ _; omega
  · show runK _ _ ≤ nrem; omega
theorem descPart_ok {n nrem : Nat} {p : Array Nat} (h1 : 1 ≤ n) (hn : n < nrem) (hs : nrem ≤ p.size) (h : Dn key p (n + 1)) : Good key nrem p (runK (ltK key) (kas_descPart n nrem p)) := by
  unfold kas_descPart
  rw [runK_bind]
  obtain ⟨a, b, c, d, e, g, i⟩ := desc_ok key (nrem - (n + 1)) p (n + 1) 0 (by omega) (by omega) h (fun i h1 h2 => by rw [show i = n by omega]; rfl) _ rfl
  generalize runK (ltK key) (kas_desc (nrem - (n + 1)) p (n + 1) 0) = r at *
  split
  · have hsame := rev_same key (p := r.1) (n := r.2.1) (q := r.2.2) (by omega) i g
    have hd' : Dn key (kas_rev r.1 (r.2.1 - (r.2.2 + 1)) r.2.1) r.2.1 := fun x y hxy hy => by rw [hsame, hsame]; exact e x y hxy hy
    obtain ⟨x1, x2, x3, x4, x5⟩ := tail3_ok key (n := r.2.1) (nrem := nrem) (by omega) (by omega) (by rw [rev_size]; omega) hd'
    exact ⟨x1, x2, x3.trans ((rev_size _ _ _).trans c), x4.trans ((rev_perm _ _ _).trans d), x5⟩
  · obtain ⟨x1, x2, x3, x4, x5⟩ := tail3_ok key (n := r.2.1) (nrem := nrem) (by omega) (by omega) (by omega) e
    exact ⟨x1, x2, x3.trans c, x4.trans d, x5⟩
theorem count_ok {nrem : Nat} {p : Array Nat} (h1 : 1 ≤ nrem) (hs : nrem ≤ p.size) : Good key nrem p (runK (ltK key) (kas_count nrem p)) := by
  unfold kas_count
  rw [runK_bind]
  obtain ⟨a, b, c, d⟩ := asc_ok key p (nrem - 1) 1 (Nat.le_refl _) (fun i j h1 h2 => by rw [show i = j by omega]; exact Nat.le_refl _)
  generalize runK (ltK key) (kas_asc p (nrem - 1) 1) = n at *
  split
  · exact ⟨a, by show n ≤ nrem; omega, rfl, .rfl, c⟩
  · rename_i hne
    have hne' : n ≠ nrem := by simpa using hne
    have hlt := d (by omega)
    split
    · rename_i hn1
      simp only [runK, ltK, kk_getD]
      by_cases hc : kk key p 0 < kk key p (n - 1)
      · simp only [decide_eq_true hc, if_true, runK]
        exact ⟨a, by show n ≤ nrem; omega, rfl, .rfl, c⟩
      · simp only [decide_eq_false hc, Bool.false_eq_true, if_false]
        have hall : ∀ i, i < n → kk key p i = kk key p (n - 1) := fun i hi => Nat.le_antisymm (c i (n - 1) (by omega) (by omega)) (Nat.le_trans (by omega) (c 0 i (by omega) hi))
        have hk : ∀ i, kk key (kas_rev p 0 n) i = kk key p i := fun i => by
          rw [rev_kk key (by omega)]
          split
          · rw [hall i (by omega), hall _ (by omega)]
          · rfl
        have hd' : Dn key (kas_rev p 0 n) (n + 1) := fun i j hij hj => by
          rw [hk, hk]
          by_cases hjn : j < n
          · rw [hall i (by omega), hall j hjn]; exact Nat.le_refl _
          · obtain rfl : j = n := by omega
            by_cases hin : i = j
            · subst hin; exact Nat.le_refl _
            · rw [hall i (by omega)]; omega
        obtain ⟨x1, x2, x3, x4, x5⟩ := descPart_ok key (n := n) (nrem := nrem) (by omega) (by omega) (by rw [rev_size]; omega) hd'
        exact ⟨x1, x2, x3.trans (rev_size _ _ _), x4.trans (rev_perm _ _ _), x5⟩
    · obtain rfl : n = 1 := by omega
      refine descPart_ok key (by omega) (by omega) hs (Dn.step key (fun i j hij hj => ?_) (.inr (by omega)))
      rw [show i = j by omega]; exact Nat.le_refl _
theorem place_ok (p : Array Nat) (k : Nat) : ∀ (f l r : Nat), l ≤ r → r ≤ k → r - l ≤ f → (∀ i, i < l → kk key p i ≤ kk key p k) → (∀ i, r ≤ i → i < k → kk key p k ≤ kk key p i) → Up key p k →
    runK (ltK key) (kas_place p k f l r) ≤ k ∧ (∀ i, i < runK (ltK key) (kas_place p k f l r) → kk key p i ≤ kk key p k) ∧ (∀ i, runK (ltK key) (kas_place p k f l r) ≤ i → i < k → kk key p k ≤ kk key p i)
  | 0, l, r, hlr, hr, hf, h1, h2, _ => by
    obtain rfl : l = r := by omega
    exact ⟨hr, h1, h2⟩
  | f + 1, l, r, hlr, hr, hf, h1, h2, hu => by
    unfold kas_place
    split
    · obtain rfl : l = r := by omega
      exact ⟨hr, h1, h2⟩
    · simp only [runK, ltK, kk_getD]
      by_cases hc : kk key p k < kk key p ((l + r) / 2)
      · simp only [decide_eq_true hc, if_true]
        exact place_ok p k f l ((l + r) / 2) (by omega) (by omega) (by omega) h1 (fun i hi hik => Nat.le_trans (Nat.le_of_lt hc) (hu _ _ hi hik)) hu
      · simp only [decide_eq_false hc, Bool.false_eq_true, if_false]
        exact place_ok p k f ((l + r) / 2 + 1) r (by omega) hr (by omega) (fun i hi => Nat.le_trans (hu i ((l + r) / 2) (by omega) (by omega)) (by omega)) h2 hu
theorem bubble_kk {p : Array Nat} {k d : Nat} (hk : k < p.size) (hd : d ≤ k) (i : Nat) : kk key (bubble p k d) i = if i = k - d then kk key p k else if k - d < i ∧ i ≤ k then kk key p (i - 1) else kk key p i := by
  unfold kk
  rw [getElem?_bubble hk d hd]
  repeat' split
  all_goals rfl
theorem bin_ok : ∀ (f : Nat) (p : Array Nat) (k : Nat), k + f ≤ p.size → Up key p k → (runK (ltK key) (kas_bin f p k)).size = p.size ∧ (runK (ltK key) (kas_bin f p k)).Perm p ∧ Up key (runK (ltK key) (kas_bin f p k)) (k + f)
  | 0, p, k, _, h => ⟨rfl, .rfl, h⟩
  | f + 1, p, k, hs, h => by
    unfold kas_bin
    rw [runK_bind]
    obtain ⟨a, b, c⟩ := place_ok key p k k 0 k (Nat.zero_le _) (Nat.le_refl _) (by omega) (fun i hi => absurd hi (Nat.not_lt_zero _)) (fun i h1 h2 => absurd h2 (by omega)) h
    generalize runK (ltK key) (kas_place p k k 0 k) = l at *
    have hkk := bubble_kk key (p := p) (k := k) (d := k - l) (by omega) (by omega)
    have hu : Up key (bubble p k (k - l)) (k + 1) := fun i j hij hj => by
      rw [hkk, hkk]
      have e : k - (k - l) = l := by omega
      rw [e]
      by_cases hi1 : i = l
      · rw [if_pos hi1]
        by_cases hj1 : j = l
        · rw [if_pos hj1]; exact Nat.le_refl _
        · rw [if_neg hj1, if_pos ⟨by omega, by omega⟩]; exact c _ (by omega) (by omega)
      · rw [if_neg hi1]
        by_cases hi2 : l < i ∧ i ≤ k
        · rw [if_pos hi2, if_neg (by omega), if_pos ⟨by omega, by omega⟩]; exact h _ _ (by omega) (by omega)
        · rw [if_neg hi2]
          by_cases hj1 : j = l
          · rw [if_pos hj1]; exact b i (by omega)
          · rw [if_neg hj1]
            by_cases hj2 : l < j ∧ j ≤ k
            · rw [if_pos hj2]; exact h _ _ (by omega) (by omega)
            · rw [if_neg hj2]; exact h _ _ hij (by omega)
    obtain ⟨x, y, z⟩ := bin_ok f (bubble p k (k - l)) (k + 1) (by rw [bubble_size]; omega) hu
    exact ⟨x.trans (bubble_size _ _ _), y.trans (bubble_perm _ _ _), by rw [show k + (f + 1) = k + 1 + f by omega]; exact z⟩
/-- the sort sorts -/
theorem sort_ok {n : Nat} (hn : 1 ≤ n) : (runK (ltK key) (kas_sort n)).Perm (List.range n).toArray ∧ (runK (ltK key) (kas_sort n)).size = n ∧ Up key (runK (ltK key) (kas_sort n)) n := by
  have hsz : (List.range n).toArray.size = n := by simp
  unfold kas_sort
  rw [runK_bind]
  obtain ⟨a, b, c, d, e⟩ := count_ok key (nrem := n) (p := (List.range n).toArray) hn (by omega)
  generalize runK (ltK key) (kas_count n (List.range n).toArray) = r at *
  split
  · rename_i hlt
    have hm : max r.1 1 = r.1 := by omega
    rw [hm]
    obtain ⟨x, y, z⟩ := bin_ok key (n - r.1) r.2 r.1 (by omega) e
    exact ⟨y.trans d, by rw [x]; omega, by rw [show r.1 + (n - r.1) = n by omega] at z; exact z⟩
  · have : r.1 = n := by omega
    exact ⟨d, c.trans hsz, by show Up key r.2 n; rw [← this]; exact e⟩
end
end Mine
end

-- part Z2
section
open PySem PySem.W PyProof.Rows
set_option maxHeartbeats 1000000
namespace Mine
/-- all asks upon the way are below N -/
def askIn (lt : Nat → Nat → Bool) (N : Nat) {α : Type} : KasT α → Prop
  | .ret _ => True
  | .ask i j k => i < N ∧ j < N ∧ askIn lt N (k (lt i j))
theorem askIn_bind {α β : Type} {lt : Nat → Nat → Bool} {N : Nat} {f : α → KasT β} : ∀ {t : KasT α}, askIn lt N t → askIn lt N (f (runK lt t)) → askIn lt N (t.bind f)
  | .ret _, _, h => h
  | .ask i j k, h, h2 => ⟨h.1, h.2.1, askIn_bind h.2.2 h2⟩
/-- a tree walked by an order that answers in this state -/
theorem kasWp_run {α : Type} {cmp : Nat → Nat → (Bool → Shared → Prop) → Shared → Prop} {lt : Nat → Nat → Bool} {N : Nat} {s : Shared} (hc : ∀ i j C, i < N → j < N → C (lt i j) s → cmp i j C s) {Q : α → Shared → Prop} :
    ∀ (t : KasT α), askIn lt N t → Q (runK lt t) s → t.kasWp cmp Q s
  | .ret _, _, h => h
  | .ask i j k, h, h2 => hc i j _ h.1 h.2.1 (kasWp_run hc (k (lt i j)) h.2.2 h2)

def AllB (N : Nat) (p : Array Nat) : Prop := ∀ x ∈ p, x < N
theorem AllB.get {N : Nat} {p : Array Nat} (h : AllB N p) (hN : 0 < N) (k : Nat) : p.getD k 0 < N := by
  rw [Array.getD_eq_getD_getElem?]
  cases hk : p[k]? with
  | none => exact hN
  | some x => exact h x (Array.mem_of_getElem? hk)
theorem AllB.perm {N : Nat} {p q : Array Nat} (h : AllB N p) (hp : q.Perm p) : AllB N q := fun x hx => h x (hp.mem_iff.mp hx)
section
variable (lt : Nat → Nat → Bool) {N : Nat} (hN : 0 < N)
include hN
theorem asc_in {p : Array Nat} (h : AllB N p) : ∀ (f n : Nat), askIn lt N (kas_asc p f n)
  | 0, _ => trivial
  | f + 1, n => by
    unfold kas_asc
    refine ⟨h.get hN _, h.get hN _, ?_⟩
    dsimp only
    split
    · trivial
    · exact asc_in h f (n + 1)
theorem desc_in : ∀ (f : Nat) {p : Array Nat} (n q : Nat), AllB N p → askIn lt N (kas_desc f p n q) ∧ AllB N (runK lt (kas_desc f p n q)).1
  | 0, _, _, _, h => ⟨trivial, h⟩
  | f + 1, p, n, q, h => by
    unfold kas_desc
    simp only [askIn, runK]
    refine ⟨⟨h.get hN _, h.get hN _, ?_⟩, ?_⟩
    · split
      · split
        · exact (desc_in f (n + 1) 0 (h.perm (rev_perm _ _ _))).1
        · exact (desc_in f (n + 1) 0 h).1
      · refine ⟨h.get hN _, h.get hN _, ?_⟩
        dsimp only
        split
        · trivial
        · exact (desc_in f (n + 1) (q + 1) h).1
    · split
      · split
        · exact (desc_in f (n + 1) 0 (h.perm (rev_perm _ _ _))).2
        · exact (desc_in f (n + 1) 0 h).2
      · simp only [runK]
        split
        · exact h
        · exact (desc_in f (n + 1) (q + 1) h).2
theorem tail3_in {n nrem : Nat} {p : Array Nat} (h : AllB N p) : askIn lt N (kas_tail3 n nrem p) ∧ AllB N (runK lt (kas_tail3 n nrem p)).2 := by
  unfold kas_tail3
  have h' := h.perm (rev_perm p 0 n)
  rw [runK_bind]
  exact ⟨askIn_bind (asc_in lt hN h' _ _) trivial, h'⟩
theorem descPart_in {n nrem : Nat} {p : Array Nat} (h : AllB N p) : askIn lt N (kas_descPart n nrem p) ∧ AllB N (runK lt (kas_descPart n nrem p)).2 := by
  unfold kas_descPart
  obtain ⟨a, b⟩ := desc_in lt hN (nrem - (n + 1)) (n + 1) 0 h
  rw [runK_bind]
  constructor
  · refine askIn_bind a ?_
    split
    · exact (tail3_in lt hN (b.perm (rev_perm _ _ _))).1
    · exact (tail3_in lt hN b).1
  · split
    · exact (tail3_in lt hN (b.perm (rev_perm _ _ _))).2
    · exact (tail3_in lt hN b).2
theorem count_in {nrem : Nat} {p : Array Nat} (h : AllB N p) : askIn lt N (kas_count nrem p) ∧ AllB N (runK lt (kas_count nrem p)).2 := by
  unfold kas_count
  have h' := fun n => h.perm (rev_perm p 0 n)
  rw [runK_bind]
  constructor
  · refine askIn_bind (asc_in lt hN h _ _) ?_
    split
    · trivial
    · split
      · refine ⟨h.get hN _, h.get hN _, ?_⟩
        dsimp only
        split
        · trivial
        · exact (descPart_in lt hN (h' _)).1
      · exact (descPart_in lt hN h).1
  · split
    · exact h
    · split
      · simp only [runK]
        split
        · exact h
        · exact (descPart_in lt hN (h' _)).2
      · exact (descPart_in lt hN h).2
theorem place_in {p : Array Nat} (h : AllB N p) (k : Nat) : ∀ (f l r : Nat), askIn lt N (kas_place p k f l r)
  | 0, _, _ => trivial
  | f + 1, l, r => by
    unfold kas_place
    split
    · trivial
    · refine ⟨h.get hN _, h.get hN _, ?_⟩
      dsimp only
      split
      · exact place_in h k f _ _
      · exact place_in h k f _ _
theorem bin_in : ∀ (f : Nat) {p : Array Nat} (k : Nat), AllB N p → askIn lt N (kas_bin f p k)
  | 0, _, _, _ => trivial
  | f + 1, p, k, h => by
    unfold kas_bin
    exact askIn_bind (place_in lt hN h k k 0 k) (bin_in f (k + 1) (h.perm (bubble_perm _ _ _)))
end
theorem sort_in (lt : Nat → Nat → Bool) {n : Nat} (hn : 0 < n) : askIn lt n (kas_sort n) := by
  have h : AllB n (List.range n).toArray := fun x hx => by simpa using hx
  unfold kas_sort
  obtain ⟨a, b⟩ := count_in lt hn (nrem := n) h
  refine askIn_bind a ?_
  split
  · exact bin_in lt hn _ _ b
  · trivial
end Mine
end

-- part L1
section
open PySem PySem.W PyProof.Rows PySem.Calls PySem.MeetsSeq3 PySem.SeqAt
open AutoSeq1 (wpAny_loadPart')
set_option maxRecDepth 100000
set_option maxHeartbeats 1000000
namespace Mine
def sameD : Dat → Dat → Bool
  | .int a, .int b => a == b
  | .str a, .str b => a == b
  | _, _ => false
def lessD : Dat → Dat → Option Bool
  | .int a, .int b => some (decide (a < b))
  | .str a, .str b => some (decide (a.cps.toList < b.cps.toList))
  | _, _ => none
/-- list < list, where it does not refuse -/
def ltD : List Dat → List Dat → Option Bool
  | [], [] => some false
  | [], _ :: _ => some true
  | _ :: _, [] => some false
  | d :: ds, e :: es => if sameD d e then ltD ds es else lessD d e
def flatD : Dat → Bool
  | .int _ => true
  | .str _ => true
  | _ => false
theorem eq_flat {x y : Value} {d e : Dat} (hx : DatIn [] x d) (hy : DatIn [] y e) (fd : flatD d = true) (fe : flatD e = true) (A : Around) (s : Shared) : EqAt A s x y (sameD d e) := by
  cases hx <;> first | cases fd | skip
  all_goals (cases hy <;> first | cases fe | skip)
  · exact EqAt.int_int _ _ _ _
  · exact EqAt.int_str _ _ _ _
  · exact EqAt.str_int _ _ _ _
  · exact EqAt.str_str _ _ _ _
theorem lt_flat {prog : Program} {w : World} {A : Around} {E : Value → Shared → Prop} {s : Shared} {x y : Value} {d e : Dat} {c : Bool} {Q : Value → Shared → Prop} (hx : DatIn [] x d) (hy : DatIn [] y e) (hc : lessD d e = some c) (h : Q (.bool c) s) :
    wpAny (model prog w) A (richCompare .Lt x y) Q E s := by
  cases hx <;> cases hy <;> simp only [lessD, Option.some.injEq, reduceCtorEq] at hc
  · subst hc; exact PySem.P.lt_int h
  · subst hc; exact PySem.P.lt_str h

theorem lt_loop (l b : Addr) (xs ys : List Value) (ds es : List Dat) (n n2 : Nat) (hx : DatAll [] xs ds) (hy : DatAll [] ys es) (fx : ∀ d ∈ ds, flatD d = true) (fy : ∀ d ∈ es, flatD d = true) (k : Nat) :
    ∀ (i : Nat) (c : Bool), xs.length - i = k → i ≤ xs.length → i ≤ ys.length → ltD (ds.drop i) (es.drop i) = some c → Meets (Builtin.«list.__eq__.loop» ⟨[.ref l, .ref b, rawInt i, rawInt 0], []⟩)
      (fun _ R s => s.heap.get? l = some (listOf xs.toArray n) ∧ s.heap.get? b = some (listOf ys.toArray n2) ∧ R (.ok (.ret (.bool c))) s) := by
  have lx := hx.length
  have ly := hy.length
  induction k with
  | zero =>
    intro i c hk hix hiy hc prog w A R s h
    obtain ⟨hp, g, d, tk, os⟩ := s; obtain ⟨hl, hb, h⟩ := h
    wp_walk using wpAny_loadPart' hl, wpAny_loadPart' hb
    have hi1 : xs.toArray[((i : Nat) : Int).toNat]? = none := by simp; omega
    rw [hi1]
    wp_walk using wpAny_loadPart' hl, wpAny_loadPart' hb
    show R (.ok (.ret (.bool (decide (xs.toArray.size < ys.toArray.size))))) _
    have e : decide (xs.toArray.size < ys.toArray.size) = c := by
      rw [List.drop_eq_nil_of_le (by omega)] at hc
      rw [List.size_toArray, List.size_toArray]
      cases hq : es.drop i with
      | nil =>
        rw [hq] at hc
        have := List.drop_eq_nil_iff.mp hq
        simp only [ltD, Option.some.injEq] at hc
        rw [← hc]; exact decide_eq_false (by omega)
      | cons e r =>
        rw [hq] at hc
        have : i < es.length := by
          by_cases hlt : i < es.length
          · exact hlt
          · rw [List.drop_eq_nil_of_le (by omega)] at hq; cases hq
        simp only [ltD, Option.some.injEq] at hc
        rw [← hc]; exact decide_eq_true (by omega)
    rw [e]; exact h
  | succ k ih =>
    intro i c hk hix hiy hc prog w A R s h
    obtain ⟨hp, g, d, tk, os⟩ := s; obtain ⟨hl, hb, h⟩ := h
    wp_walk using wpAny_loadPart' hl, wpAny_loadPart' hb
    have hlt : i < ds.length := by omega
    obtain ⟨v, hv, dv⟩ := hx.get hlt
    have hi1 : xs.toArray[((i : Nat) : Int).toNat]? = some v := by simpa using hv
    rw [List.drop_eq_getElem_cons hlt] at hc
    by_cases hlt2 : i < es.length
    · obtain ⟨u, hu, du⟩ := hy.get hlt2
      have hi2 : ys.toArray[((i : Nat) : Int).toNat]? = some u := by simpa using hu
      have hcc : ((i : Int) + 1) = ((i + 1 : Nat) : Int) := by push_cast; rfl
      rw [List.drop_eq_getElem_cons hlt2] at hc
      simp only [ltD] at hc
      rw [hi1, hi2]
      refine wpAny_bind (eq_flat dv du (fx _ (List.getElem_mem _)) (fy _ (List.getElem_mem _)) _ _ prog w _ _ ?_)
      cases hb' : sameD ds[i] es[i] with
      | true =>
        rw [hb', if_pos rfl] at hc
        wp_walk
        rw [hcc]
        exact ⟨plainId_quiet plain_eq_loop _, codeAny_builtin entry_eq_loop (by
          rw [Around.under_plainId plain_eq_loop _]
          exact ih (i + 1) c (by omega) (by omega) (by omega) hc prog w A R _ ⟨hl, hb, h⟩)⟩
      | false =>
        rw [hb', if_neg Bool.false_ne_true] at hc
        wp_walk using wpAny_loadPart' hl, wpAny_loadPart' hb
        rw [hi1, hi2]
        dsimp only
        exact wpAny_bind (lt_flat dv du hc (wpAny_pure h))
    · have hi2 : ys.toArray[((i : Nat) : Int).toNat]? = none := by simp; omega
      rw [hi1, hi2]
      wp_walk using wpAny_loadPart' hl, wpAny_loadPart' hb
      show R (.ok (.ret (.bool (decide (xs.toArray.size < ys.toArray.size))))) _
      have e : decide (xs.toArray.size < ys.toArray.size) = c := by
        rw [List.drop_eq_nil_of_le (show es.length ≤ i by omega)] at hc
        simp only [ltD, Option.some.injEq] at hc
        rw [← hc, List.size_toArray, List.size_toArray]; exact decide_eq_false (by omega)
      rw [e]; exact h
end Mine
end

-- part L2
section
open PySem PySem.W PyProof.Rows PySem.Calls PySem.MeetsSeq3 PySem.SeqAt
open AutoSeq1 (wpAny_loadPart')
set_option maxRecDepth 100000
set_option maxHeartbeats 1000000
namespace Mine
theorem list_lt (l b : Addr) (xs ys : List Value) (ds es : List Dat) (n n2 : Nat) (hx : DatAll [] xs ds) (hy : DatAll [] ys es) (fx : ∀ d ∈ ds, flatD d = true) (fy : ∀ d ∈ es, flatD d = true) (c : Bool) (hc : ltD ds es = some c) :
    Meets (Builtin.«list.__lt__» ⟨[.ref l, .ref b], []⟩)
      (fun _ R s => s.heap.get? l = some (listOf xs.toArray n) ∧ s.heap.get? b = some (listOf ys.toArray n2) ∧ R (.ok (.ret (.bool c))) s) := by
  intro prog w A R s h
  obtain ⟨hp, g, d, tk, os⟩ := s; obtain ⟨hl, hb, h⟩ := h
  have f3 := AutoSeq1.sub_list_list
  wp_walk using wpAny_loadPart' hl, wpAny_loadPart' hb
  exact ⟨plainId_quiet plain_eq_loop _, codeAny_builtin entry_eq_loop (by
    rw [Around.under_plainId plain_eq_loop _]
    exact lt_loop l b xs ys ds es n n2 hx hy fx fy _ 0 c rfl (Nat.zero_le _) (Nat.zero_le _) hc prog w A R _ ⟨hl, hb, h⟩)⟩
section
variable {prog : Program} {w : World} {A : Around} {E : Value → Shared → Prop} {s : Shared} {l b : Addr} {xs ys : List Value} {ds es : List Dat} {n n2 : Nat} {c : Bool}
theorem call_list_lt {Q : Value → Shared → Prop} (hl : s.heap.get? l = some (listOf xs.toArray n)) (hb : s.heap.get? b = some (listOf ys.toArray n2)) (hx : DatAll [] xs ds) (hy : DatAll [] ys es) (fx : ∀ d ∈ ds, flatD d = true) (fy : ∀ d ∈ es, flatD d = true)
    (hc : ltD ds es = some c) (h : Q (.bool c) s) : wpAny (model prog w) A (call (.builtin "list.__lt__") [.ref l, .ref b]) Q E s :=
  call_meets PySem.F.slot_list_lt ⟨_, hl, rfl⟩ PySem.F.entry_list_lt (PySem.F.args_list_lt_2 _ _) (list_lt l b xs ys ds es n n2 hx hy fx fy c hc) ⟨hl, hb, h⟩
theorem ask_list {Q : Bool → Shared → Prop} (hl : s.heap.get? l = some (listOf xs.toArray n)) (hb : s.heap.get? b = some (listOf ys.toArray n2)) (hx : DatAll [] xs ds) (hy : DatAll [] ys es) (fx : ∀ d ∈ ds, flatD d = true) (fy : ∀ d ∈ es, flatD d = true)
    (hc : ltD ds es = some c) (hu : A.units < cLine) (h : Q c s) : wpAny (model prog w) A (keyLt' oneType' (.ref l) (.ref b)) Q E s := by
  rw [keyLt'_oneType, oneLt'_eq]
  simp only [if_true]
  refine wpAny_bind (wpAny_cRoomFor hu ?_)
  refine wpAny_bind (wpAny_callSpecialIfBound?_slot ⟨_, hl, rfl⟩ PySem.F.slot_list_lt (call_list_lt hl hb hx hy fx fy hc ?_))
  exact wpAny_truthy_bool h
theorem cmp_list {Q : Value → Shared → Prop} (hl : s.heap.get? l = some (listOf xs.toArray n)) (hb : s.heap.get? b = some (listOf ys.toArray n2)) (hx : DatAll [] xs ds) (hy : DatAll [] ys es) (fx : ∀ d ∈ ds, flatD d = true) (fy : ∀ d ∈ es, flatD d = true)
    (hc : ltD ds es = some c) (hu : A.units < cLine) (h : Q (.bool c) s) : wpAny (model prog w) A (compareOp .Lt (.ref l) (.ref b)) Q E s := by
  show wpAny _ _ (richCompare .Lt (.ref l) (.ref b)) Q E s
  exact wpAny_richCompare_same_room (op := .Lt) (T := "list") ⟨_, hl, rfl⟩ ⟨_, hb, rfl⟩ PySem.F.slot_list_lt (call_list_lt hl hb hx hy fx fy hc ⟨by simp, h⟩) hu
end
end Mine
end

-- part Top83
section
open PySem PySem.W PyProof.Rows
set_option maxRecDepth 100000
set_option maxHeartbeats 8000000
namespace Mine
open_top hd for PySem.Challenge.rw_mr0083_01
end Mine
end

-- part C0
section
open PySem PySem.W PyProof.Rows PySem.Spec PySem.Calls
set_option maxRecDepth 100000
set_option maxHeartbeats 8000000
namespace Mine

noncomputable abbrev loos : List Str := looseW hd.view_39 [Str.ofString "_twin_re_1", Str.ofString "_ver_stages"]

/-- what a call of the def at f upon args does, whoever calls it (with so much room left): Out of the new entries and the value -/
def Con (k : Nat) (w : World) (mean : ExcName → Option Value) (mg mb : Str → Option Value) (f : Addr) (args : List Value) (news : List (Addr × Obj)) (Out : List (Addr × Obj) → Value → Prop) : Prop :=
  ∀ (dp un : Nat) (gd : Option (List Code)) (cn : Str) (cs : Scope) (a : Addr) (ccd : Value) (cl : List (Str × Addr)) (outer : List Env) (A₀ : Around) (base h₀ : Heap) (L : Addr) (m : Str → Option Value) (s : Shared) (Q E : Value → Shared → Prop),
    Below A₀ base outer h₀ → Fr h₀ L s.heap m → (hd.heap_39 w.params).In h₀ → News h₀ L s.heap news → Top hd.view_39 loos mean mg mb h₀ → cs.kind = .function →
    dp + k < 900 → un + 100 * k < 9000 →
    (∀ r tl h' tk', Fr h₀ L h' m → News h₀ L h' (tl ++ news) → (∀ q ∈ news, ∀ p ∈ tl, q.1 < p.1) → Out tl r → Q r { s with heap := h', toks := tk' }) →
    wpAny (model PySem.Challenge.pw_mr0083_01 w) (ktrTop dp un gd cn cs L a ccd cl outer) (call (.ref f) args) Q E s

theorem con_use {k : Nat} {w : World} {mean : ExcName → Option Value} {mg mb : Str → Option Value} {f : Addr} {args : List Value} {news : List (Addr × Obj)} {Out : List (Addr × Obj) → Value → Prop}
    (C : Con k w mean mg mb f args news Out)
    {dp un : Nat} {gd : Option (List Code)} {cn : Str} {cs : Scope} {a : Addr} {ccd : Value} {cl : List (Str × Addr)} {outer : List Env} {A₀ : Around} {base h₀ : Heap} {L : Addr} {m : Str → Option Value} {s : Shared} {Q E : Value → Shared → Prop}
    (B : Below A₀ base outer h₀) (F : Fr h₀ L s.heap m) (X : (hd.heap_39 w.params).In h₀) (N : News h₀ L s.heap news) (T : Top hd.view_39 loos mean mg mb h₀) (hk : cs.kind = .function)
    (hdp : dp + k < 900) (hun : un + 100 * k < 9000)
    (ret : ∀ r tl h' tk', Fr h₀ L h' m → News h₀ L h' (tl ++ news) → (∀ q ∈ news, ∀ p ∈ tl, q.1 < p.1) → Out tl r → Q r { s with heap := h', toks := tk' }) :
    wpAny (model PySem.Challenge.pw_mr0083_01 w) (ktrTop dp un gd cn cs L a ccd cl outer) (call (.ref f) args) Q E s :=
  C dp un gd cn cs a ccd cl outer A₀ base h₀ L m s Q E B F X N T hk hdp hun ret

/-- a return of one new list -/
theorem hret_one {h₀ h' : Heap} {L : Addr} {m : Str → Option Value} {news big : List (Addr × Obj)} {s : Shared} {Q : Value → Shared → Prop} {Out : List (Addr × Obj) → Value → Prop} {a : Addr} {vs : List Value} {k : Nat} {tk : Nat}
    (hret : ∀ r tl h' tk', Fr h₀ L h' m → News h₀ L h' (tl ++ news) → (∀ q ∈ news, ∀ p ∈ tl, q.1 < p.1) → Out tl r → Q r { s with heap := h', toks := tk' })
    (kF : Fr h₀ L h' m) (kN : News h₀ L h' big) (hm : (a, listOf vs.toArray k) ∈ big) (hs : ∀ p ∈ news, p ∈ big) (hl : ∀ q ∈ news, q.1 < a) (ho : Out [(a, listOf vs.toArray k)] (.ref a)) :
    Q (.ref a) { s with heap := h', toks := tk } :=
  hret _ [(a, listOf vs.toArray k)] h' tk kF (fun p hp => by
    rcases List.mem_cons.mp hp with rfl | hp
    · exact kN _ hm
    · exact kN _ (hs p hp)) (fun q hq p hp => by rw [List.mem_singleton.mp hp]; exact hl q hq) ho

/-- a halt for the walk -/
def Hold (P : Prop) : Prop := P
theorem Hold.out {P : Prop} (h : Hold P) : P := h
theorem Hold.in' {P : Prop} (h : P) : Hold P := h
theorem fill : (fun (_ : OpenLaw) (_ : Params → Frag) => True) PySem.Challenge.rw_mr0083_01 hd.heap_39 := by
  k_fill
  w_top off
  trivial
end Mine
end

-- part C1
section
open PySem PySem.W PyProof.Rows PySem.Spec PySem.Calls
set_option maxRecDepth 100000
set_option maxHeartbeats 8000000
set_option linter.unusedVariables false
namespace Mine
def wordsD : List Dat := [.str "rc", .str "RC", .str "a", .str "alpha", .str "dev", .str "pl", .str "x", .int 7]
def wIdx (n : Int) : Int := (n.fdiv 3).fmod 8
def partsOf (n : Int) : List Dat := ([.int (n.fmod 3), wordsD.getD (wIdx n).toNat (.int 7), .int ((n.fdiv 24).fmod 3)] : List Dat).take (2 + ((n.fdiv 72).fmod 2).toNat)

theorem fmod_bnd (x : Int) {k : Int} (hk : 0 < k) : 0 ≤ x.fmod k ∧ x.fmod k < k := ⟨Int.fmod_nonneg_of_pos x hk, Int.fmod_lt_of_pos x hk⟩
theorem datAll_take {news : List (Addr × Obj)} : ∀ {vs : List Value} {ds : List Dat} (k : Nat), DatAll news vs ds → DatAll news (vs.take k) (ds.take k)
  | _, _, 0, _ => by simp; exact .nil
  | _, _, k + 1, .nil => by simp; exact .nil
  | _, _, k + 1, .cons h r => by simp only [List.take_succ_cons]; exact .cons h (datAll_take k r)

section
local macro_rules | `(tactic| walk_at "subscriptTail") => `(tactic| ((with_reducible show wpAny _ _ (subscriptTail _ _ (Value.ref _) (Value.int (Int.fmod _ 8) _)) _ _ _); (rename News _ _ _ _ => nN); refine kd_item (L9 := []) (ds := wordsD) nN (List.Mem.head _) (by kqd_all) (by omega) (show _ < (8 : Int) by omega) (by omega) ?_ (by with_unfolding_all rfl); intro v d hv hm hD))
theorem parts_con (w : World) (mean : ExcName → Option Value) (mg mb : Str → Option Value) (n : Int) (t : Tok) (news : List (Addr × Obj)) :
    Con 1 w mean mg mb 78 [.int n t] news (fun tl r => ∃ a vs k, r = .ref a ∧ tl = [(a, listOf vs.toArray k)] ∧ DatAll [] vs (partsOf n)) := by
  unfold Con
  intro dp un gd cn cs a ccd cl outer A₀ base h₀ L m s Q E B F X N T hk hdp hun hret
  refine wpAny_call ?_
  refine code_def (binds := [(Str.ofString "n", .int n t)]) B F X N T rfl rfl hk (by k_is) (by k_is) (by show dp < 1000; omega) (BindsTo.of_eq rfl) (locs rfl) ?_ rfl rfl rfl (by decide)
  intro g' L' h' FG' F' N' B' X' T'
  dsimp only
  k_fold
  have e8 := fmod_bnd (n.fdiv 3) (k := 8) (by decide)
  have e2 := fmod_bnd (n.fdiv 72) (k := 2) (by decide)
  k_steps
  (try dsimp only at *)
  rename wordsD[_]? = some _ => hv
  rename DatIn [] _ _ => hD
  rename Fr h₀ L _ m => kF
  rename News h₀ L _ (_ :: _) => kN
  rename News g' L' _ (_ :: _ :: news) => kM
  have e : 2 + (n.fdiv 72).fmod 2 = ((2 + ((n.fdiv 72).fmod 2).toNat : Nat) : Int) := by omega
  rw [e, slicePick_upto'] at kN
  refine hret_one hret kF kN List.mem_cons_self (fun p hp => List.mem_cons_of_mem _ (List.mem_cons_of_mem _ (List.mem_cons_of_mem _ hp))) (fun q hq => ?_) ⟨_, _, _, rfl, rfl, ?_⟩
  · exact Nat.lt_succ_of_lt (Heap.lt_size (kM q (List.mem_cons_of_mem _ (List.mem_cons_of_mem _ hq))).1)
  · unfold partsOf wIdx
    rw [List.getD_eq_getElem?_getD, hv]
    exact datAll_take _ (.cons (.int _ _) (.cons hD (.cons (.int _ _) .nil)))
end
end Mine
end

-- part C2
section
open PySem PySem.W PyProof.Rows PySem.Spec PySem.Calls
set_option maxRecDepth 100000
set_option maxHeartbeats 600000
set_option linter.unusedVariables false
namespace Mine
def wordRank (x : Str) : Int := if Str.ofString "rc" == x then 50 else if Str.ofString "RC" == x then 50 else if Str.ofString "a" == x then 20 else if Str.ofString "alpha" == x then 20 else if Str.ofString "dev" == x then 10 else if Str.ofString "pl" == x then 200 else 0
def rankD : Dat → List Dat
  | .int i => [.int 100, .int i]
  | .str x => [.int (wordRank x), .str x]
  | _ => []
def ranksOf (n : Int) : List Dat := (partsOf n).flatMap rankD

theorem fr_know {h₀ h : Heap} {L : Addr} {m : Str → Option Value} {x : Str} {v : Value} (F : Fr h₀ L h m) (hx : m x = some v) : Fr h₀ L h (fun y => if y = x then some v else m y) := by
  have e : (fun y => if y = x then some v else m y) = m := by
    funext y
    by_cases hy : y = x
    · rw [if_pos hy, hy, hx]
    · rw [if_neg hy]
  rw [e]
  exact F

theorem news_swap {h₀ h : Heap} {L : Addr} {p q : Addr × Obj} {news : List (Addr × Obj)} (N : News h₀ L h (p :: q :: news)) : News h₀ L h (q :: p :: news) := fun r hr => N r (by
  rcases List.mem_cons.mp hr with rfl | hr
  · exact List.mem_cons_of_mem _ List.mem_cons_self
  · rcases List.mem_cons.mp hr with rfl | hr
    · exact List.mem_cons_self
    · exact List.mem_cons_of_mem _ (List.mem_cons_of_mem _ hr))
theorem not_long {its its2 : Array Value} (h : its.size + its2.size ≤ 100) : ¬(!its.isEmpty && Builtin.List.listTooLong (its.size + its2.size)) = true := by
  have : Builtin.List.listTooLong (its.size + its2.size) = false := by
    unfold Builtin.List.listTooLong
    rw [sizeLine_eq]
    exact decide_eq_false (by omega)
  rw [this, Bool.and_false]
  exact Bool.false_ne_true
theorem flat_rank {v : Value} {x : Str} {t0 t1 t2 t3 t4 t5 t6 t7 t8 t9 ta tb : Tok} (h : PyProof.V.Flat v ((Spec.lookup (PyData.str x) (strData [(Value.str (Str.ofString "rc") t0, Value.int 50 t1), (Value.str (Str.ofString "RC") t2, Value.int 50 t3), (Value.str (Str.ofString "a") t4, Value.int 20 t5),
    (Value.str (Str.ofString "alpha") t6, Value.int 20 t7), (Value.str (Str.ofString "dev") t8, Value.int 10 t9), (Value.str (Str.ofString "pl") ta, Value.int 200 tb)])).getD (PyData.int 0))) : ∃ t, v = .int (wordRank x) t := by
  have e : ((Spec.lookup (PyData.str x) (strData [(Value.str (Str.ofString "rc") t0, Value.int 50 t1), (Value.str (Str.ofString "RC") t2, Value.int 50 t3), (Value.str (Str.ofString "a") t4, Value.int 20 t5),
    (Value.str (Str.ofString "alpha") t6, Value.int 20 t7), (Value.str (Str.ofString "dev") t8, Value.int 10 t9), (Value.str (Str.ofString "pl") ta, Value.int 200 tb)])).getD (PyData.int 0)) = .int (wordRank x) := by
    simp only [strData, datumOf, Spec.lookup, Option.getD_some, wordRank, Spec.same]
    by_cases h0 : (Str.ofString "rc" == x) = true
    · simp only [h0, if_true, if_false, Bool.false_eq_true]; rfl
    by_cases h1 : (Str.ofString "RC" == x) = true
    · simp only [h0, h1, if_true, if_false, Bool.false_eq_true]; rfl
    by_cases h2 : (Str.ofString "a" == x) = true
    · simp only [h0, h1, h2, if_true, if_false, Bool.false_eq_true]; rfl
    by_cases h3 : (Str.ofString "alpha" == x) = true
    · simp only [h0, h1, h2, h3, if_true, if_false, Bool.false_eq_true]; rfl
    by_cases h4 : (Str.ofString "dev" == x) = true
    · simp only [h0, h1, h2, h3, h4, if_true, if_false, Bool.false_eq_true]; rfl
    by_cases h5 : (Str.ofString "pl" == x) = true
    · simp only [h0, h1, h2, h3, h4, h5, if_true, if_false, Bool.false_eq_true]; rfl
    simp only [h0, h1, h2, h3, h4, h5, if_true, if_false, Bool.false_eq_true]; rfl
  rw [e] at h
  exact PyProof.V.Flat.int_inv h
theorem rankD_len (d : Dat) : (rankD d).length ≤ 2 := by cases d <;> simp [rankD]
theorem flatRank_len : ∀ (l : List Dat), (l.flatMap rankD).length ≤ 2 * l.length
  | [] => by simp
  | d :: l => by
    have h1 := rankD_len d
    have h2 := flatRank_len l
    simp only [List.flatMap_cons, List.length_append, List.length_cons]
    omega
theorem parts_len (n : Int) : (partsOf n).length ≤ 3 := by
  unfold partsOf
  rw [List.length_take]
  exact Nat.min_le_right _ _
theorem ranks_len (n : Int) (i : Nat) : (((partsOf n).take i).flatMap rankD).length ≤ 6 := by
  have h1 := flatRank_len ((partsOf n).take i)
  have h2 := parts_len n
  rw [List.length_take] at h1
  omega
/-- every part is an int or one of the words -/
theorem parts_mem (n : Int) (d : Dat) (h : d ∈ partsOf n) : (∃ i, d = .int i) ∨ (∃ x, d = .str x ∧ d ∈ wordsD) := by
  have h' := List.mem_of_mem_take h
  simp only [List.mem_cons, List.not_mem_nil, or_false] at h'
  rcases h' with rfl | h' | rfl
  · exact .inl ⟨_, rfl⟩
  · rw [List.getD_eq_getElem?_getD] at h'
    cases e : wordsD[(wIdx n).toNat]? with
    | none => rw [e] at h'; exact .inl ⟨_, h'⟩
    | some y =>
      rw [e] at h'
      have hm := List.mem_of_getElem? e
      rw [Option.getD_some] at h'
      subst h'
      have hm2 := hm
      simp only [wordsD, List.mem_cons, List.not_mem_nil, or_false] at hm
      rcases hm with rfl | rfl | rfl | rfl | rfl | rfl | rfl | rfl
      all_goals first | exact .inl ⟨_, rfl⟩ | exact .inr ⟨_, rfl, hm2⟩
  · exact .inl ⟨_, rfl⟩
theorem star_List (a b rest env) : starEach (.List a b :: rest) env = (false, eval (.List a b) env) :: starEach rest env := rfl
theorem star_Call (a b c d rest env) : starEach (.Call a b c d :: rest) env = (false, eval (.Call a b c d) env) :: starEach rest env := rfl
theorem star_nil (pos env) : (backTo pos (starEach [] env)).any (·.1) = false := rfl
section
local macro_rules | `(tactic| walk_at "callWith") => `(tactic| ((with_reducible show wpAny _ _ (callWith _ (Value.builtin "list.extend") [_] (backTo _ (starEach [Expr.List _ _] _)) []) _ _ _); with_reducible refine callWith_method1 ?_ (star_List _ _ _ _) (star_nil _ _)))
local macro_rules | `(tactic| walk_at "spliced") => `(tactic| first | ((with_reducible show wpAny _ _ (spliced (backTo _ (starEach (Expr.List _ _ :: _) _))) _ _ _); with_reducible refine args_cons ?_ (star_List _ _ _ _)) | ((with_reducible show wpAny _ _ (spliced (backTo _ (starEach (Expr.Call _ _ _ _ :: _) _))) _ _ _); with_reducible refine args_cons ?_ (star_Call _ _ _ _ _ _)))
set_option hygiene false in
local macro_rules | `(tactic| walk_at "call ref") => `(tactic| ((with_reducible show wpAny _ _ (call (Value.ref 78) [Value.int _ _]) _ _ _); k_dflt (refine' con_use (parts_con _ _ _ _ _ _ _) ?k1 ?k2 ?k3 ?k4 ?k5 ?kK ?kd ?ku ?_); (case k1 => k_asm); (case k2 => k_asm); (case k3 => k_asm); (case k4 => k_asm); (case k5 => k_asm); (case kK => exact rfl); (case kd => (dsimp only; omega)); (case ku => (dsimp only; omega)); rintro r9 tl9 h9 tk9 F9 N9 hl9 ⟨lp, vs, kp, hr9, ht9, hD⟩; subst hr9 ht9; (try dsimp only)))
theorem ranks_con (w : World) (mean : ExcName → Option Value) (mg mb : Str → Option Value) (n : Int) (t : Tok) (news : List (Addr × Obj)) :
    Con 2 w mean mg mb 92 [.int n t] news (fun tl r => ∃ a vs k, r = .ref a ∧ tl = [(a, listOf vs.toArray k)] ∧ DatAll [] vs (ranksOf n)) := by
  unfold Con
  intro dp un gd cn cs a ccd cl outer A₀ base h₀ L m s Q E B F X N T hk hdp hun hret
  refine wpAny_call ?_
  refine code_def (binds := [(Str.ofString "n", .int n t)]) B F X N T rfl rfl hk (by k_is) (by k_is) (by show dp < 1000; omega) (BindsTo.of_eq rfl) (locs rfl) ?_ rfl rfl rfl (by decide)
  intro g' L' h' FG' F' N' B' X' T'
  dsimp only
  k_fold
  k_steps
  (try dsimp only at *)
  rename_i lr _ l1 _ _ _
  have hlp : lr < lp := hl9 _ List.mem_cons_self _ List.mem_cons_self
  refine kdl_iter (fun i m₁ nx => ∃ rs c, nx = (lr, listOf rs.toArray c) :: (lp, listOf vs.toArray kp) :: news ∧ DatAll [] rs (((partsOf n).take i).flatMap rankD) ∧ m₁ (Str.ofString "ranks") = some (.ref lr)) rfl
    (List.mem_cons_of_mem _ List.mem_cons_self) F9 (news_swap N9) ⟨[], 0, rfl, DatAll.nil, rfl⟩ ?_ ?_
  · rintro i v m₁ news₁ h tk own hv hoff hl ⟨rs, c, rfl, hR, hm⟩ F N
    have hi : i < (partsOf n).length := by rw [← hD.length]; exact (List.getElem?_eq_some_iff.mp hv).1
    obtain ⟨v', hv', hd⟩ := hD.get hi
    rw [hv] at hv'
    cases hv'
    generalize hdd : (partsOf n)[i] = d at hd
    have htake : (partsOf n).take (i + 1) = (partsOf n).take i ++ [d] := by rw [List.take_add_one, List.getElem?_eq_getElem hi, hdd]; rfl
    have F2 := fr_know (x := Str.ofString "ranks") F (v := .ref lr) (by rw [if_neg (by decide)]; exact hm)
    clear F
    have hrl : rs.length ≤ 6 := by rw [hR.length]; exact ranks_len n i
    have hrest : ∀ p ∈ (lp, listOf vs.toArray kp) :: (news ++ own), p.1 ≠ lr := by
      intro p hp
      rcases List.mem_cons.mp hp with rfl | hp
      · exact Nat.ne_of_gt hlp
      · rcases List.mem_append.mp hp with hp | hp
        · exact Nat.ne_of_lt (l1 p hp)
        · exact hoff p hp lr List.mem_cons_self
    have hoff' : OwnOff own (lr :: lp :: news.map (·.1)) := hoff
    clear hoff
    cases hd with
    | int j u =>
      k_steps
      (try dsimp only at *)
      rename Fr g' _ _ (fun y => if y = _ then _ else _) => F'
      rename News g' _ _ (_ :: _) => N'
      rename_i l' _ l1'
      refine kl_extend (l := rs ++ [_, _]) F' N' List.mem_cons_self rfl (by simp) (Upd.tail (Nat.ne_of_gt (l1' _ List.mem_cons_self)) (Upd.head hrest)) (not_long (by simp; omega)) (by simp [sizeLine_eq]; omega) (by simp [sizeLine_eq]; omega) ?_
      intro h2 F2 N2
      k_steps
      refine InvEndG.intro F2 N2 (nx := (lr, listOf (rs ++ [_, _]).toArray (c + 1)) :: (lp, listOf vs.toArray kp) :: news) ⟨List.mem_cons_of_mem _ List.mem_cons_self, _, _, rfl, ?_, rfl⟩ hoff' (fun p hp => List.mem_cons_of_mem _ (List.mem_append_left _ hp)) (fun p hp => List.mem_cons_of_mem _ (List.mem_cons_of_mem _ (List.mem_append_right ((lp, listOf vs.toArray kp) :: news) hp)))
      rw [htake, List.flatMap_append]
      exact hR.append (.cons (.int _ _) (.cons (.int _ _) .nil))
    | str x u => 
      k_steps
      (try dsimp only at *)
      rename PyProof.V.Flat _ _ => hfl
      obtain ⟨t1, rfl⟩ := flat_rank hfl
      rename Fr g' _ _ (fun y => if y = _ then _ else _) => F'
      rename News g' _ _ (_ :: _) => N'
      rename_i o9 l1'' _ _ _ _ l' _ l1'
      refine kl_extend (l := rs ++ [_, _]) F' N' List.mem_cons_self rfl (by simp) (Upd.tail (Nat.ne_of_gt (l1'.2.1)) (Upd.tail (Nat.ne_of_gt (l1'' _ List.mem_cons_self)) (Upd.head hrest))) (not_long (by simp; omega)) (by simp [sizeLine_eq]; omega) (by simp [sizeLine_eq]; omega) ?_
      intro h2 F2 N2
      k_steps
      refine InvEndG.intro F2 N2 (nx := (lr, listOf (rs ++ [_, _]).toArray (c + 1)) :: (lp, listOf vs.toArray kp) :: news) ⟨List.mem_cons_of_mem _ List.mem_cons_self, _, _, rfl, ?_, rfl⟩ hoff' (fun p hp => List.mem_cons_of_mem _ (List.mem_cons_of_mem _ (List.mem_append_left _ hp))) (fun p hp => List.mem_cons_of_mem _ (List.mem_cons_of_mem _ (List.mem_cons_of_mem _ (List.mem_append_right ((lp, listOf vs.toArray kp) :: news) hp))))
      rw [htake, List.flatMap_append]
      exact hR.append (.cons (.int _ _) (.cons (.str _ _) .nil))
    | _ => 
      rcases parts_mem n _ (List.getElem_mem hi) with ⟨_, e⟩ | ⟨_, e, _⟩
      all_goals (rw [hdd] at e; cases e)
  · intro m₁ news₁ h tk ⟨rs, c, hnx, hR, hm⟩ F N
    subst hnx
    have F2 := fr_know (x := Str.ofString "ranks") F (v := .ref lr) hm
    clear F
    k_steps
    rename Fr h₀ L _ m => kF
    rename News h₀ L _ (_ :: _) => kN
    refine hret_one hret kF kN List.mem_cons_self (fun p hp => List.mem_cons_of_mem _ (List.mem_cons_of_mem _ hp)) l1 ⟨_, _, _, rfl, rfl, ?_⟩
    rw [hD.length, List.take_length] at hR
    exact hR
end
end Mine
end

-- part C3
section
open PySem PySem.W PyProof.Rows PySem.Spec PySem.Calls
set_option maxRecDepth 100000
set_option maxHeartbeats 1000000
set_option linter.unusedVariables false
namespace Mine
section
variable {prog : Program} {w : World} {A : Around} {E : Value → Shared → Prop} {s : Shared} {env : Env} {h₀ : Heap} {x : Str} {body : List Stmt} {Q : Flow → Shared → Prop}
/-- a loop over range(0, b) by a word over the turn's number, the frame and the ledger -/
theorem rng_iter {r : Addr} {b₀ : Int} {t₀ u₀ v₀ : Tok} {n : Nat} {m₀ : Str → Option Value} {news : List (Addr × Obj)} (J : Nat → (Str → Option Value) → List (Addr × Obj) → Prop)
    (hh : A.handled = none) (hr : IsRange s.heap r 0 b₀ 1 t₀ u₀ v₀) (hsmall : Builtin.Range.small 0 b₀ 1 = true) (hsz : Builtin.Range.rangeSize 0 b₀ 1 = (n : Int)) (F : Fr h₀ env.locals s.heap m₀) (N : News h₀ env.locals s.heap news) (hj : J 0 m₀ news)
    (turn : ∀ (i : Nat) t m₁ nx h tk own, i < n → OwnOff own (nx.map (·.1)) → J i m₁ nx → Fr h₀ env.locals h (fun y => if y = x then some (.int (i : Int) t) else m₁ y) → News h₀ env.locals h (nx ++ own) →
      wpAny (model prog w) A (execs body env) (InvPostG h₀ env.locals (J (i + 1)) own { s with heap := h, toks := tk } Q) E { s with heap := h, toks := tk })
    (done : ∀ m₁ nx h tk, J n m₁ nx → Fr h₀ env.locals h m₁ → News h₀ env.locals h nx → Q .next { s with heap := h, toks := tk }) :
    wpAny (model prog w) A (pyIter (.ref r)) (fun it s₂ => LoopAtV prog w A h₀ env x body Q E it s₂) E s := by
  refine wpAny_pyIter_range hr hsmall ?_
  have W : Walks prog w A s.heap.objs.size [s.heap.objs.size] [s.heap.objs.size] n (fun i v => i < n ∧ ∃ t, v = .int (0 + i * 1) t)
      (fun i h => IsRangeIter h s.heap.objs.size (0 + (i : Nat) * 1) ((n : Int) - (i : Nat)) 1) := (Walks.range hh _ 0 1 n).bound
  refine kdr_loop J W (fun _ h => h) (fun _ h => h) ?_ ?_ ?_ ?_ (by show IsRangeIter _ _ _ _ _; rw [hsz]; simpa using Heap.get?_push_size _ rfl) (F.push _) (fun p hp => ⟨Heap.get?_push_of_some _ (N p hp).1, (N p hp).2⟩) hj ?_ ?_
  · intro i h hi b hb
    rw [List.mem_singleton.mp hb]
    exact ⟨_, hi⟩
  · intro hm
    exact absurd F.ns.lt ((List.mem_singleton.mp hm) ▸ Nat.lt_irrefl _)
  · intro b hb
    rw [List.mem_singleton.mp hb]
    exact next_is_new F
  · intro p hp hI
    exact absurd (Heap.lt_size (N p hp).1) ((List.mem_singleton.mp hI) ▸ Nat.lt_irrefl _)
  · rintro i v m₁ nx h tk own hi ⟨_, t, rfl⟩ hoff hJ F₁ N₁
    have e1 : (0 : Int) + (i : Int) * 1 = (i : Int) := by omega
    rw [e1] at F₁
    exact turn i t m₁ nx h tk own hi hoff hJ F₁ N₁
  · exact done
end
def marksD : List Dat := [.str ".", .str "-", .str "", .str "_", .str "+", .str ".."]
def markS (n : Int) (i : Nat) : Str := match marksD[((n + (i : Int)).fmod 6).toNat]? with | some (.str y) => y | _ => ""
def isSeven : Dat → Bool
  | .int j => decide (j = 7)
  | _ => false
def sepS (mk : Str) (d : Dat) : Str := if (mk == Str.ofString "") && isSeven d then "." else mk
def pieceS (n : Int) : Dat → Str
  | .int j => Txt.mul "0" (n.fmod 2) ++ Str.ofString (toString j)
  | .str x => x
  | _ => ""
def textStep (n : Int) (i : Nat) (t : Str) : Str := if i = 0 then t ++ pieceS n ((partsOf n).getD i .none) else (t ++ sepS (markS n i) ((partsOf n).getD 1 .none)) ++ pieceS n ((partsOf n).getD i .none)
def textUpto (n : Int) : Nat → Str
  | 0 => ""
  | i + 1 => textStep n i (textUpto n i)
def textOf (n : Int) : Str := textUpto n (partsOf n).length
theorem parts_int (n : Int) (j : Int) (h : Dat.int j ∈ partsOf n) : 0 ≤ j ∧ j ≤ 7 := by
  have e3 := fmod_bnd n (k := 3) (by decide)
  have e4 := fmod_bnd (n.fdiv 24) (k := 3) (by decide)
  have h' := List.mem_of_mem_take h
  simp only [List.mem_cons, List.not_mem_nil, or_false, Dat.int.injEq] at h'
  rcases h' with rfl | h' | rfl
  · omega
  · rw [List.getD_eq_getElem?_getD] at h'
    cases e : wordsD[(wIdx n).toNat]? with
    | none => rw [e] at h'; simp at h'; omega
    | some y =>
      rw [e] at h'
      have hm := List.mem_of_getElem? e
      simp only [Option.getD_some] at h'
      subst h'
      simp [wordsD] at hm
      omega
  · omega
theorem parts_len2 (n : Int) : 2 ≤ (partsOf n).length := by
  unfold partsOf
  rw [List.length_take]
  simp only [List.length_cons, List.length_nil]
  omega
theorem markS_len (n : Int) (i : Nat) : (markS n i).length ≤ 2 := by
  unfold markS
  split
  · rename_i y e
    have hm := List.mem_of_getElem? e
    simp only [marksD, List.mem_cons, List.not_mem_nil, or_false, Dat.str.injEq] at hm
    rcases hm with rfl | rfl | rfl | rfl | rfl | rfl <;> decide
  · decide
theorem sepS_len {mk : Str} (h : mk.length ≤ 2) (d : Dat) : (sepS mk d).length ≤ 2 := by
  unfold sepS
  split
  · decide
  · exact h
theorem zeros_len (n : Int) : (Txt.mul "0" (n.fmod 2)).length ≤ 1 := by
  have e := fmod_bnd n (k := 2) (by decide)
  have h : n.fmod 2 = 0 ∨ n.fmod 2 = 1 := by omega
  rcases h with h | h <;> rw [h] <;> decide
theorem word_len {x : Str} (h : Dat.str x ∈ wordsD) : x.length ≤ 5 := by
  simp only [wordsD, List.mem_cons, List.not_mem_nil, or_false, Dat.str.injEq, reduceCtorEq] at h
  rcases h with rfl | rfl | rfl | rfl | rfl | rfl | rfl <;> decide
theorem parts_word (n : Int) (x : Str) (h : Dat.str x ∈ partsOf n) : Dat.str x ∈ wordsD := by
  rcases parts_mem n _ h with ⟨_, e⟩ | ⟨_, e, h⟩
  · cases e
  · exact h
theorem pieceS_len (n : Int) (d : Dat) (h : d ∈ partsOf n) : (pieceS n d).length ≤ 11 := by
  cases d with
  | int j =>
    have hj := parts_int n j h
    have h1 := KT.len_num (n := j) hj.1 (by omega)
    have h2 := zeros_len n
    show (Txt.mul "0" (n.fmod 2) ++ Str.ofString (toString j)).length ≤ 11
    rw [Str.length_append]
    omega
  | str x =>
    have := word_len (parts_word n x h)
    show x.length ≤ 11
    omega
  | _ =>
    rcases parts_mem n _ h with ⟨_, e⟩ | ⟨_, e, _⟩
    all_goals cases e
theorem textUpto_len (n : Int) : ∀ i, i ≤ (partsOf n).length → (textUpto n i).length ≤ 15 * i
  | 0, _ => by show Str.length (Str.ofString "") ≤ 0; decide
  | i + 1, hi => by
    have ih := textUpto_len n i (by omega)
    have hg : (partsOf n).getD i .none ∈ partsOf n := by
      rw [List.getD_eq_getElem?_getD, List.getElem?_eq_getElem (by omega)]
      exact List.getElem_mem _
    have hp := pieceS_len n _ hg
    have hs := sepS_len (markS_len n i) ((partsOf n).getD 1 .none)
    show (textStep n i (textUpto n i)).length ≤ _
    unfold textStep
    split
    · rw [Str.length_append]; omega
    · rw [Str.length_append, Str.length_append]; omega
theorem item_at {prog : Program} {w : World} {A : Around} {E : Value → Shared → Prop} {s : Shared} {h₀ : Heap} {L l : Addr} {value slice : PySem.Expr} {news : List (Addr × Obj)} {us : List Value} {n : Nat} {k : Int} {u : Tok} {v : Value} {Q : Value → Shared → Prop} (N : News h₀ L s.heap news) (hm : (l, listOf us.toArray n) ∈ news) (hx : us[k.toNat]? = some v)
    (h0 : 0 ≤ k) (hfit : k < 2 ^ 63) (h : Q v s)
    (hs : subscripted slice false (.ref l) (.int k u) = operate [.ref l, .int k u] (getItem (.ref l) (.int k u)) := by with_unfolding_all rfl) :
    wpAny (model prog w) A (subscriptTail value slice (.ref l) (.int k u)) Q E s := by
  have hl : s.heap.IsList l us.toArray := ⟨_, (N _ hm).1, rfl, n, rfl⟩
  exact tail_any hl.typeIs slot_list_getitem.lookup (wpAny_getItem_list hl h0 hfit (by simpa using hx) h) hs
theorem mark_str {n : Int} {i : Nat} {v : Value} {d : Dat} (hv : marksD[((n + (i : Int)).fmod 6).toNat]? = some d) (hm : d ∈ marksD) (hD : DatIn [] v d) : ∃ u, v = .str (markS n i) u := by
  unfold markS
  rw [hv]
  simp only [marksD, List.mem_cons, List.not_mem_nil, or_false] at hm
  rcases hm with rfl | rfl | rfl | rfl | rfl | rfl
  all_goals (cases hD; exact ⟨_, rfl⟩)
theorem some_str {x y : Str} {t : Tok} (h : x = y) : some (Value.str x t) = some (Value.str y t) := by rw [h]
theorem sep_dot {T T' P mk : Str} {j : Int} (h : T' = (T ++ sepS mk (.int j)) ++ P) (h1 : (mk == Str.ofString "") = true) (h2 : j = 7) : T' = (T ++ Str.ofString ".") ++ P := by
  rw [h]; unfold sepS; rw [h1, h2]; rfl
theorem sep_not {T T' P mk : Str} {j : Int} (h : T' = (T ++ sepS mk (.int j)) ++ P) (h2 : j ≠ 7) : T' = (T ++ mk) ++ P := by
  rw [h]
  have e : isSeven (.int j) = false := decide_eq_false h2
  unfold sepS
  rw [e, Bool.and_false]
  rfl
theorem sep_no {T T' P mk : Str} {d : Dat} (h : T' = (T ++ sepS mk d) ++ P) (h1 : (mk == Str.ofString "") = false) : T' = (T ++ mk) ++ P := by
  rw [h]; unfold sepS; rw [h1]; rfl
theorem sep_str {T T' P mk y : Str} (h : T' = (T ++ sepS mk (.str y)) ++ P) : T' = (T ++ mk) ++ P := by
  rw [h]; unfold sepS isSeven; rw [Bool.and_false]; rfl
section
local macro_rules | `(tactic| walk_at "pyIter ref") => `(tactic| refine Hold.out ?_)
set_option hygiene false in
local macro_rules | `(tactic| walk_at "end of turn") => `(tactic| (refine Hold.in' ?_; (rename Fr g' _ _ (fun y => if y = _ then _ else _) => F'); (rename News g' _ _ (_ :: _) => N'); refine InvEndG.intro F' N' (nx := (lp, listOf vs.toArray kp) :: news) ⟨rfl, ?_, rfl, rfl⟩ hoff (fun p hp => List.mem_cons_of_mem _ (List.mem_append_left _ hp)) (fun p hp => List.mem_cons_of_mem _ (List.mem_append_right ((lp, listOf vs.toArray kp) :: news) hp))))
local macro_rules | `(tactic| walk_at "InvPostG") => `(tactic| refine Hold.out ?_)
local macro_rules | `(tactic| walk_at "InvPostG next") => `(tactic| refine Hold.out ?_)
set_option hygiene false in
local macro_rules | `(tactic| walk_at "subscriptTail List cons BinOp ref int") => `(tactic| ((rename News _ _ _ _ => nN); refine kd_item (L9 := []) (ds := marksD) nN (List.Mem.head _) (by kqd_all) (by omega) (show _ < (6 : Int) by omega) (by omega) ?_ (by with_unfolding_all rfl); intro v d hv hm hD'; obtain ⟨um, e1⟩ := mark_str hv hm hD'; subst e1; clear hv hm hD'))
set_option hygiene false in
local macro_rules | `(tactic| walk_at "subscriptTail Name Name ref int") => `(tactic| ((rename News _ _ _ _ => nN); refine item_at (us := vs) (n := kp) nN (List.mem_cons_of_mem _ List.mem_cons_self) (by assumption) (by omega) (by omega) ?_ (by with_unfolding_all rfl)))
set_option hygiene false in
local macro_rules | `(tactic| walk_at "subscriptTail Name Constant ref int") => `(tactic| ((rename News _ _ _ _ => nN); refine item_at (us := vs) (n := kp) nN (List.mem_cons_of_mem _ List.mem_cons_self) (by assumption) (by omega) (by omega) ?_ (by with_unfolding_all rfl)))
set_option hygiene false in
local macro_rules | `(tactic| walk_at "call ref") => `(tactic| ((with_reducible show wpAny _ _ (call (Value.ref 78) [Value.int _ _]) _ _ _); k_dflt (refine' con_use (parts_con _ _ _ _ _ _ _) ?k1 ?k2 ?k3 ?k4 ?k5 ?kK ?kd ?ku ?_); (case k1 => k_asm); (case k2 => k_asm); (case k3 => k_asm); (case k4 => k_asm); (case k5 => k_asm); (case kK => exact rfl); (case kd => (dsimp only; omega)); (case ku => (dsimp only; omega)); rintro r9 tl9 h9 tk9 F9 N9 hl9 ⟨lp, vs, kp, hr9, ht9, hD⟩; subst hr9 ht9; simp only [List.cons_append, List.nil_append] at N9; (try dsimp only)))
theorem release_con (w : World) (mean : ExcName → Option Value) (mg mb : Str → Option Value) (n : Int) (t : Tok) (news : List (Addr × Obj)) :
    Con 2 w mean mg mb 85 [.int n t] news (fun tl r => ∃ u, r = .str (textOf n) u ∧ tl = []) := by
  unfold Con
  intro dp un gd cn cs a ccd cl outer A₀ base h₀ L m s Q E B F X N T hk hdp hun hret
  refine wpAny_call ?_
  refine code_def (binds := [(Str.ofString "n", .int n t)]) B F X N T rfl rfl hk (by k_is) (by k_is) (by show dp < 1000; omega) (BindsTo.of_eq rfl) (locs rfl) ?_ rfl rfl rfl (by decide)
  intro g' L' h' FG' F' N' B' X' T'
  dsimp only
  k_fold
  have hpl := parts_len n
  have hpl2 := parts_len2 n
  k_steps
  (try dsimp only at *)
  refine Hold.in' ?_
  rename IsRange _ _ _ _ _ _ _ _ => hr
  rename Fr g' L' _ _ => F9
  rename News g' L' _ _ => N9
  refine rng_iter (n := (partsOf n).length) (fun i m₁ nx => nx = (lp, listOf vs.toArray kp) :: news ∧ (∃ u, m₁ (Str.ofString "text") = some (.str (textUpto n i) u)) ∧ m₁ (Str.ofString "parts") = some (.ref lp) ∧ m₁ (Str.ofString "n") = some (.int n t)) rfl hr
    (small_one (by omega) (by omega) (by omega) (by omega)) (rangeSize_nat _ _) F9 N9 ⟨rfl, ⟨_, rfl⟩, rfl, rfl⟩ ?_ ?_
  · rintro i ti m₁ nx h tk own hi hoff ⟨rfl, ⟨u, h1⟩, h2, h3⟩ F N
    have F2 := fr_know (fr_know (fr_know F (x := Str.ofString "text") (by rw [if_neg (by decide)]; exact h1)) (x := Str.ofString "parts") (by rw [if_neg (by decide), if_neg (by decide)]; exact h2)) (x := Str.ofString "n") (by rw [if_neg (by decide), if_neg (by decide), if_neg (by decide)]; exact h3)
    clear F hr F9 N9
    have e6 := fmod_bnd (n + (i : Int)) (k := 6) (by decide)
    have e2 := fmod_bnd n (k := 2) (by decide)
    obtain ⟨vk, hvk, dk⟩ := hD.get hi
    obtain ⟨v1, hv1, d1⟩ := hD.get (k := 1) (by omega)
    have hvk' : vs[((i : Nat) : Int).toNat]? = some vk := by simpa using hvk
    have hv1' : vs[(1 : Int).toNat]? = some v1 := hv1
    have htl := textUpto_len n i (by omega)
    have hml := markS_len n i
    have hgk : (partsOf n)[i]'hi = (partsOf n).getD i .none := by rw [List.getD_eq_getElem?_getD, List.getElem?_eq_getElem hi]; rfl
    have hg1 : (partsOf n)[1]'(by omega) = (partsOf n).getD 1 .none := by rw [List.getD_eq_getElem?_getD, List.getElem?_eq_getElem (by omega)]; rfl
    have hmem : (partsOf n)[i]'hi ∈ partsOf n := List.getElem_mem _
    have hmem1 : (partsOf n)[1]'(by omega) ∈ partsOf n := List.getElem_mem _
    generalize hdk : (partsOf n)[i] = xk at dk hgk hmem
    generalize hd1 : (partsOf n)[1] = x1 at d1 hg1 hmem1
    have hstep : textUpto n (i + 1) = if i = 0 then textUpto n i ++ pieceS n xk else (textUpto n i ++ sepS (markS n i) x1) ++ pieceS n xk := by rw [hgk, hg1]; rfl
    clear hgk hg1 hdk hd1 hvk hv1
    by_cases hi0 : i = 0
    · subst hi0
      rw [if_pos rfl] at hstep
      cases dk with
      | int j uj =>
        have hj := parts_int n j hmem
        k_steps
        all_goals (walk_at "end of turn")
        all_goals exact ⟨_, some_str hstep.symm⟩
      | str y uy =>
        have hy := word_len (parts_word n y hmem)
        k_steps
        all_goals (walk_at "end of turn")
        all_goals exact ⟨_, some_str hstep.symm⟩
      | _ =>
        rcases parts_mem n _ hmem with ⟨_, e⟩ | ⟨_, e, _⟩
        all_goals cases e
    · have hi1 : (0 : Int) < (i : Int) := by omega
      rw [if_neg hi0] at hstep
      cases dk with
      | int j uj =>
        have hj := parts_int n j hmem
        cases d1 with
        | int j1 u1 =>
          k_steps
          all_goals (walk_at "end of turn")
          · exact ⟨_, some_str ((sep_dot hstep (by assumption) (by assumption)).symm)⟩
          · exact ⟨_, some_str ((sep_not hstep (by assumption)).symm)⟩
          · exact ⟨_, some_str ((sep_no hstep (by assumption)).symm)⟩
        | str y1 u1 =>
          k_steps
          all_goals (walk_at "end of turn")
          · exact ⟨_, some_str ((sep_str hstep).symm)⟩
          · exact ⟨_, some_str ((sep_str hstep).symm)⟩
        | _ =>
          rcases parts_mem n _ hmem1 with ⟨_, e⟩ | ⟨_, e, _⟩
          all_goals cases e
      | str y uy =>
        have hy := word_len (parts_word n y hmem)
        cases d1 with
        | int j1 u1 =>
          k_steps
          all_goals (walk_at "end of turn")
          · exact ⟨_, some_str ((sep_dot hstep (by assumption) (by assumption)).symm)⟩
          · exact ⟨_, some_str ((sep_not hstep (by assumption)).symm)⟩
          · exact ⟨_, some_str ((sep_no hstep (by assumption)).symm)⟩
        | str y1 u1 =>
          k_steps
          all_goals (walk_at "end of turn")
          · exact ⟨_, some_str ((sep_str hstep).symm)⟩
          · exact ⟨_, some_str ((sep_str hstep).symm)⟩
        | _ =>
          rcases parts_mem n _ hmem1 with ⟨_, e⟩ | ⟨_, e, _⟩
          all_goals cases e
      | _ =>
        rcases parts_mem n _ hmem with ⟨_, e⟩ | ⟨_, e, _⟩
        all_goals cases e
  · intro m₁ news₁ h tk ⟨hnx, ⟨u, hT⟩, hm, _⟩ F N
    subst hnx
    have F2 := fr_know F hT
    clear F
    k_steps
    rename Fr h₀ L _ m => kF
    rename News h₀ L _ (_ :: _) => kN
    exact hret _ [] _ _ kF (fun p hp => kN p (List.mem_cons_of_mem _ hp)) (fun _ _ _ h => nomatch h) ⟨_, rfl, rfl⟩
end
end Mine
end

-- part V1
section
open PySem PySem.W PyProof.Rows PySem.Spec PySem.Calls
set_option maxRecDepth 100000
set_option maxHeartbeats 1000000
set_option linter.unusedVariables false
namespace Mine

/-- the call of a def from a frame with nothing beneath; the caller's frame goes into the ledger -/
theorem code_defI {prog : Program} {w : World} {A : Around} {s : Shared} {h₀ : Heap} {L a : Addr} {m : Str → Option Value} {cn : Str} {cs : Scope} {ccd : Value} {news : List (Addr × Obj)} {K : Frag} {p : Program} {loose : List Str} {mean : ExcName → Option Value} {mg mb : Str → Option Value}
    {R : Result → Shared → Prop} {name qual : Str} {params : Arguments} {body : List Stmt} {scope : Scope} {dV kV doc pm cdv ct oc : Value} {an od : Option Addr} {osl : Array (Option Value)} {f : Addr} {args : Args} {binds : List (Str × Value)}
    (F : Fr h₀ L s.heap m) (X₀ : K.In h₀) (N : News h₀ L s.heap news) (T : Top p loose mean mg mb h₀)
    (ho : K.lookup f = some ⟨oc, od, .func (fnOf name qual params body scope dV kV doc pm an cdv ct), osl⟩) (hcd : codeIn K cdv qual = true) (hroom : A.depth < recursionLimit)
    (hbind : BindsTo s (fnOf name qual params body scope dV kV doc pm an cdv ct) args binds) (hloc : ∀ y ∈ binds, scope.names.lookup y.1 = some .local)
    (h : ∀ oL L' h₁, TI.Caller h₀ L m oL → TI.Frs [envOf cn cs L a ccd] [(L, oL)] → TLg.AllNe L news → (∀ p ∈ news, p.1 < L') → Fr h₀ L' h₁ (fun y => binds.reverse.lookup y) → News h₀ L' h₁ (news ++ [(L, oL)]) →
      wpC (model prog w) (A.deeper (envOf qual scope L' f cdv)) (execs body (envOf qual scope L' f cdv))
        (fun fl s' => R (.ok (.ret (match fl with | .ret v => v | _ => .none))) s') noE { s with heap := h₁, toks := s.toks + binds.length })
    (hck : cs.kind = .function) (hco : scope.isCoroutine = false) (hgen : scope.isGenerator = false) (hk : scope.kind = .function)
    (hcell : ∀ x ∈ scope.names, x.2 ≠ .cell) : codeC (model prog w) A (.call (.ref f) args) R s := by
  have X := X₀.keeps F.keep
  obtain ⟨oL, es, ep, hL, hLd, hLk, hLf⟩ := F.ns
  have hLt := Heap.lt_size hL
  have hkind : (envOf cn cs L a ccd).scope.kind ≠ .module := by
    show cs.kind ≠ .module
    rw [hck]; decide
  refine codeC_call_def (fd := fnOf name qual params body scope dV kV doc pm an cdv ct) (body := body) (binds := binds) hroom (X _ _ ho) rfl (T.nolimit.keeps F.keep) (codeRec_of X hcd) rfl hbind hcell hloc (fun h₁ hns up => ?_) hco hgen hk
  refine h oL s.heap.objs.size h₁ ⟨fun h' sl e => ⟨_, es, ep, e, hLd, hLk, hLf⟩, ⟨es, ep, hLd⟩, F.above⟩ ⟨hkind, rfl, ⟨es, ep, hLd⟩, trivial⟩ (TLgL.allNe_of fun p hp => (N p hp).2.1)
    (fun p hp => Heap.lt_size (N p hp).1) ⟨hns, fun b o e => up b o (F.keep b o e), Nat.le_trans F.above (Nat.le_of_lt hLt)⟩ fun p hp => ?_
  rcases List.mem_append.mp hp with hp | hp
  · exact ⟨up _ _ (N p hp).1, Nat.ne_of_lt (Heap.lt_size (N p hp).1), (N p hp).2.2⟩
  · obtain rfl := List.mem_singleton.mp hp
    exact ⟨up _ _ hL, Nat.ne_of_lt hLt, Heap.get?_none_of_le F.above⟩

end Mine
end

-- part V2
section
open PySem PySem.W PyProof.Rows PySem.Spec PySem.Calls
set_option maxRecDepth 100000
set_option maxHeartbeats 1000000
set_option linter.unusedVariables false
namespace Mine
def stTab : List (PyData × PyData) := [(.str ⟨#[100, 101, 118]⟩, .int 10), (.str ⟨#[97, 108, 112, 104, 97]⟩, .int 20), (.str ⟨#[97]⟩, .int 20), (.str ⟨#[98, 101, 116, 97]⟩, .int 30), (.str ⟨#[98]⟩, .int 30), (.str ⟨#[99]⟩, .int 40),
  (.str ⟨#[82, 67]⟩, .int 50), (.str ⟨#[114, 99]⟩, .int 50), (.str ⟨#[112, 108]⟩, .int 200), (.str ⟨#[112]⟩, .int 200)]
def intIn : PyData → Int
  | .int k => k
  | _ => 0
def stageOf (y : Str) : Int := intIn ((Spec.lookup (.str y) stTab).getD (.int 0))
theorem lookup_int (q : PyData) : ∀ (l : List (PyData × PyData)), (∀ p ∈ l, ∃ k, p.2 = .int k) → ∀ d, Spec.lookup q l = some d → ∃ k, d = .int k
  | [], _, _, h => by cases h
  | (a, b) :: r, hl, d, h => by
    unfold Spec.lookup at h
    split at h
    · cases h; exact hl (a, _) List.mem_cons_self
    · exact lookup_int q r (fun p hp => hl p (List.mem_cons_of_mem _ hp)) d h
theorem look_int (y : Str) : (Spec.lookup (.str y) stTab).getD (.int 0) = .int (stageOf y) := by
  unfold stageOf
  cases hd : Spec.lookup (.str y) stTab with
  | none => rfl
  | some d =>
    obtain ⟨k, rfl⟩ := lookup_int _ _ (by simp [stTab]) d hd
    rfl
theorem flat_stage {v : Value} {y : Str} (h : PyProof.V.Flat v ((Spec.lookup (.str y) stTab).getD (.int 0))) : ∃ t, v = .int (stageOf y) t := by
  rw [look_int] at h
  exact h.int_inv
theorem tup_other {h₀ h : Heap} {L T lR : Addr} {its : Array Value} {n : Nat} {vr : List Value} {kr : Nat} {nw : List (Addr × Obj)} (N : News h₀ L h ((T, ({ cls := .type "tuple", data := .seq its n } : Obj)) :: nw)) (hm : (lR, listOf vr.toArray kr) ∈ nw) : T ≠ lR :=
  News.twoPlaces N (p := (T, _)) (q := (lR, listOf vr.toArray kr)) List.mem_cons_self (List.mem_cons_of_mem _ hm) fun e => by
    have e' : Value.type "tuple" = Value.type "list" := congrArg Obj.cls e
    injection e' with e''
    exact absurd e'' (by decide)
def compP (y : Str) : List Dat := if (Builtin.Str.occurrences "._+-" y 0 (Str.length "._+-") 1).isEmpty = false then [] else match PySem.intText? y with | some k => [.int 100, .int k] | none => [.int (stageOf y), .str y]
theorem compP_len (y : Str) : (compP y).length ≤ 2 := by
  unfold compP
  (repeat' split) <;> simp
theorem flat_len : ∀ l : List Str, (l.flatMap compP).length ≤ 2 * l.length
  | [] => by simp
  | y :: r => by
    have h1 := compP_len y
    have h2 := flat_len r
    rw [List.flatMap_cons, List.length_append, List.length_cons]
    omega
theorem not_long2 {its its2 : Array Value} (h : its.size + its2.size ≤ 20000) : ¬(!its.isEmpty && Builtin.List.listTooLong (its.size + its2.size)) = true := by
  have : Builtin.List.listTooLong (its.size + its2.size) = false := by
    unfold Builtin.List.listTooLong
    rw [sizeLine_eq]
    exact decide_eq_false (by omega)
  rw [this, Bool.and_false]
  exact Bool.false_ne_true
theorem splice2 (pos p1 p2 : Pos) (n : Str) (c : Const) (k : Nat) (env : Env) : backTo pos (starEach [.Name n p1, .Constant c k p2] env) = [(false, eval (.Name n p1) env), (false, eval (.Constant c k p2) env)] := rfl

theorem frs_sl {env : Env} {L : Addr} {oL : Obj} {sl : Array (Option Value)} (h : TI.Frs [env] [(L, oL)]) : TI.Frs [env] [(L, { oL with slots := sl })] := by
  obtain ⟨a, b, c, d⟩ := h
  exact ⟨a, b, c, d⟩
/-- the word of the loop -/
def cvJ (x : Str) (vs : List Value) (D lR L : Addr) (oL : Obj) (news : List (Addr × Obj)) (i : Nat) (m' : Str → Option Value) (nw : List (Addr × Obj)) : Prop :=
  ∃ (vr : List Value) (kr : Nat) (sl : Array (Option Value)), nw = (D, listOf vs.toArray 0) :: (lR, listOf vr.toArray kr) :: (news ++ [(L, { oL with slots := sl })]) ∧ m' (Str.ofString "result") = some (.ref lR) ∧ DatAll [] vr (((splitP x).take i).flatMap compP)

theorem cv_len {x : Str} {vr : List Value} {i : Nat} (hx : x.length ≤ 600) (hvr : DatAll [] vr (((splitP x).take i).flatMap compP)) : vr.length ≤ 10000 := by
  have h1 := flat_len ((splitP x).take i)
  have h2 := splitP_len x (by omega)
  rw [hvr.length]
  rw [List.length_take] at h1
  omega

theorem cv_end {x : Str} {vs vr : List Value} {D lR L L' I T : Addr} {oL oI oT : Obj} {news : List (Addr × Obj)} {i kr : Nat} {h₀ h9 : Heap} {m9 : Str → Option Value} {sl : Array (Option Value)} {s : Shared} {tk9 : Nat} {a b : Value}
    (hi : i < (splitP x).length) (F : Fr h₀ L' h9 m9) (N : News h₀ L' h9 ((T, oT) :: (I, oI) :: (D, listOf vs.toArray 0) :: (lR, listOf (vr ++ [a, b]).toArray kr) :: (news ++ [(L, { oL with slots := sl })])))
    (hI : ∀ p ∈ (D, listOf vs.toArray 0) :: (lR, listOf vr.toArray kr) :: (news ++ [(L, oL)]), p.1 ≠ I) (hm : m9 (Str.ofString "result") = some (.ref lR))
    (hvr : DatAll [] vr (((splitP x).take i).flatMap compP)) (hab : DatAll [] [a, b] (compP (splitP x)[i])) :
    TurnEnd h₀ L' s I oI (cvJ x vs D lR L oL news (i + 1)) .next { s with heap := h9, toks := tk9 } := by
  refine ⟨rfl, h9, tk9, m9, _, rfl, F, fun p hp => N p (List.mem_cons_of_mem _ hp), ?_, vr ++ [a, b], kr, sl, rfl, hm, ?_⟩
  · intro p hp
    rcases List.mem_cons.mp hp with rfl | hp
    · exact hI _ List.mem_cons_self
    · rcases List.mem_cons.mp hp with rfl | hp
      · exact hI (lR, listOf vr.toArray kr) (List.mem_cons_of_mem _ List.mem_cons_self)
      · rcases List.mem_append.mp hp with hp | hp
        · exact hI p (List.mem_cons_of_mem _ (List.mem_cons_of_mem _ (List.mem_append_left _ hp)))
        · obtain rfl := List.mem_singleton.mp hp
          exact hI (L, oL) (List.mem_cons_of_mem _ (List.mem_cons_of_mem _ (List.mem_append_right _ List.mem_cons_self)))
  · rw [List.take_add_one, List.getElem?_eq_getElem hi, List.flatMap_append]
    refine hvr.append ?_
    simpa using hab

theorem cv_con (w : World) (mean : ExcName → Option Value) (mg mb : Str → Option Value) (x : Str) (t : Tok) (hx : x.length ≤ 600) (hpc : ∀ y ∈ splitP x, y.length ≤ 640 ∧ (reprText y).length ≤ sizeLine) (news : List (Addr × Obj))
    (dp un : Nat) (gd : Option (List Code)) (cn : Str) (cs : Scope) (a : Addr) (ccd : Value) (h₀ : Heap) (L : Addr) (m : Str → Option Value) (s : Shared) (Q : Value → Shared → Prop)
    (F : Fr h₀ L s.heap m) (X : (hd.heap_39 w.params).In h₀) (N : News h₀ L s.heap news) (T : Top hd.view_39 loos mean mg mb h₀) (hk : cs.kind = .function) (hdp : dp + 3 < 900) (hun : un + 300 < 9000)
    (hret : ∀ D (vs : List Value) k h' tk', Fr h₀ L h' m → News h₀ L h' ((D, listOf vs.toArray k) :: news) → (∀ q ∈ news, q.1 < D) → DatAll [] vs ((splitP x).flatMap compP) → Q (.ref D) { s with heap := h', toks := tk' }) :
    wpC (model PySem.Challenge.pw_mr0083_01 w) (ktrTop dp un gd cn cs L a ccd [] []) (call (.ref 44) [.str x t]) Q noE s := by
  refine wpC_call ?_
  refine code_defI (cn := cn) (cs := cs) (a := a) (ccd := ccd) (binds := [(Str.ofString "version", .str x t)]) F X N T (by k_is) (by k_is) (by show dp < 1000; omega) (BindsTo.of_eq rfl) (locs rfl) ?_ hk rfl rfl rfl (by decide)
  intro oL L' h' tiC' tiF' tiE' hlt F' N'
  dsimp only
  refine wpC_execs_cons (wpC_any ?_)
  k_fold
  k_steps
  refine wpC_execs_cons (wpC_any ?_)
  k_steps
  refine wpC_execs_cons (wpC_For ?_)
  k_steps
  rename Fr h₀ L' _ _ => F2
  rename News h₀ L' _ _ => N2
  refine split_method ((X.keeps F2.keep) 36 _ (by k_is)) rfl rfl ?_
  k_steps
  refine split_call F2 N2 (by omega) ((X.keeps F2.keep) 36 _ (by k_is)) rfl rfl rfl rfl rfl ((X.keeps F2.keep) 35 _ (by k_is)) rfl (by decide +kernel) ?_
  intro D vs h2 tk2 F3 N3 hD hdat
  clear F2 N2
  rename_i lR _ lRlt _
  have hRD : D ≠ lR := Nat.ne_of_gt (hD _ List.mem_cons_self)
  have hrest : ∀ sl : Array (Option Value), ∀ p ∈ news ++ [(L, { oL with slots := sl })], p.1 ≠ lR := fun sl p hp => by
    rcases List.mem_append.mp hp with hp | hp
    · exact Nat.ne_of_lt (lRlt p (List.mem_append_left _ hp))
    · obtain rfl := List.mem_singleton.mp hp
      exact Nat.ne_of_lt (lRlt (L, oL) (List.mem_append_right _ List.mem_cons_self))
  refine for_list_C (vs := vs) (kD := 0) (cvJ x vs D lR L oL news) rfl rfl rfl ?_ F3 N3 ⟨[], 0, oL.slots, rfl, rfl, .nil⟩ ?_ ?_
  · rintro i m nw ⟨vr, kr, sl, rfl, _⟩
    exact List.mem_cons_self
  · rintro i v m₁ nw I oI h tk hv ⟨vr, kr, sl, rfl, hm, hvr⟩ F N off
    clear F3 N3
    have hi : i < (splitP x).length := by
      have h1 := (List.getElem?_eq_some_iff.mp hv).1
      rw [hdat.length, List.length_map] at h1
      exact h1
    have hvl := cv_len hx hvr
    obtain ⟨hyl, hrep⟩ := hpc _ (List.getElem_mem hi)
    obtain ⟨v', hv', dv'⟩ := hdat.get (k := i) (by rw [List.length_map]; exact hi)
    obtain rfl : v' = v := by rw [hv] at hv'; exact (Option.some.inj hv').symm
    rw [List.getElem_map] at dv'
    have hIR : I ≠ lR := Ne.symm (off (lR, listOf vr.toArray kr) (List.mem_cons_of_mem _ List.mem_cons_self))
    have hL2 : ∀ sl' : Array (Option Value), ∀ kk, ∀ p ∈ (D, listOf vs.toArray 0) :: (lR, listOf vr.toArray kk) :: (news ++ [(L, ({ oL with slots := sl' } : Obj))]), p.1 ≠ I := fun sl' kk p hp => by
      rcases List.mem_cons.mp hp with rfl | hp
      · exact off _ List.mem_cons_self
      · rcases List.mem_cons.mp hp with rfl | hp
        · exact Ne.symm hIR
        · rcases List.mem_append.mp hp with hp | hp
          · exact off p (List.mem_cons_of_mem _ (List.mem_cons_of_mem _ (List.mem_append_left _ hp)))
          · obtain rfl := List.mem_singleton.mp hp
            exact off (L, { oL with slots := sl }) (List.mem_cons_of_mem _ (List.mem_cons_of_mem _ (List.mem_append_right _ List.mem_cons_self)))
    have hcp' : (Builtin.Str.occurrences "._+-" (splitP x)[i] 0 (Str.length "._+-") 1).isEmpty = true → compP (splitP x)[i] = match PySem.intText? (splitP x)[i] with | some k => [.int 100, .int k] | none => [.int (stageOf (splitP x)[i]), .str (splitP x)[i]] := fun hemp => by
      unfold compP; rw [if_neg (by rw [hemp]; decide)]
    have hcp0 : (Builtin.Str.occurrences "._+-" (splitP x)[i] 0 (Str.length "._+-") 1).isEmpty = false → compP (splitP x)[i] = [] := fun hemp => by
      unfold compP; rw [if_pos hemp]
    have hend := @cv_end x vs vr D lR L L' I
    have hne : TLg.AllNe L ((I, oI) :: (D, listOf vs.toArray 0) :: (lR, listOf vr.toArray kr) :: news) := TLgL.allNe_of fun p hp => by
      rcases List.mem_cons.mp hp with rfl | hp
      · exact Ne.symm (off (L, { oL with slots := sl }) (List.mem_cons_of_mem _ (List.mem_cons_of_mem _ (List.mem_append_right _ List.mem_cons_self))))
      · rcases List.mem_cons.mp hp with rfl | hp
        · exact Nat.ne_of_gt (hD (L, oL) (List.mem_cons_of_mem _ (List.mem_append_right _ List.mem_cons_self)))
        · rcases List.mem_cons.mp hp with rfl | hp
          · exact Nat.ne_of_gt (lRlt (L, oL) (List.mem_append_right _ List.mem_cons_self))
          · exact tiE'.mem p hp
    clear hdat hv hv'
    generalize hgy : (splitP x)[i] = y at *
    cases dv' with
    | str _ u =>
      have F2 := fr_know F (x := Str.ofString "result") (by rw [if_neg (by decide)]; exact hm)
      clear F
      refine wpC_execs_cons (wpC_If ?_)
      k_steps
      · rename_i hemp
        have hcp := hcp' hemp
        refine wpC_execs_cons (wpC_Try ?_)
        cases hn : PySem.intText? y with
        | some k =>
          rw [hn] at hcp
          refine wpC_execs_cons (wpC_any ?_)
          k_steps
          refine call_int_good hyl hn ?_
          k_steps
          refine wpC_execs_cons (wpC_any ?_)
          k_steps
          refine wpC_execs_nil ?_
          (try dsimp only)
          refine wpC_execs_cons (wpC_any ?_)
          k_steps
          rename Fr h₀ _ _ _ => F8
          rename News h₀ _ _ _ => N8
          have tup_ne := tup_other N8 (lR := lR) (vr := vr) (kr := kr) (List.mem_cons_of_mem _ (List.mem_cons_of_mem _ List.mem_cons_self))
          refine kup_extend (l := vr ++ [_, _]) (its2 := #[_, _]) F8 N8 List.mem_cons_self rfl (by simp) (Upd.tail ?_ (Upd.tail hIR (Upd.tail hRD (Upd.head (hrest _))))) (not_long2 (by simp; omega)) (by simp [sizeLine_eq]; omega) (by simp [sizeLine_eq]; omega) ?_
          · exact tup_ne
          · intro h9 F9 N9
            refine wpC_execs_nil ?_
            (try dsimp only)
            refine wpC_execs_nil ?_
            exact hend hi F9 N9 (hL2 _ _) rfl hvr (by rw [hgy, hcp]; exact .cons (.int _ _) (.cons (.int _ _) .nil))
        | none =>
          rw [hn] at hcp
          refine wpC_execs_cons (wpC_Assign (wpC_Call_Name ?_))
          k_steps
          rw [splice2]
          refine wpC_callWith_type rfl (evalArgs_plain ?_)
          dsimp only [List.nil_append]
          refine spliced_cons ?_
          k_steps
          refine spliced_cons ?_
          k_steps
          refine spliced_nil ?_
          dsimp only
          refine call_int_bad rfl hyl hrep hn ?_
          intro h6 e tk6 hxe
          refine TLg.noted_new1 (new := (I, oI) :: (D, listOf vs.toArray 0) :: (lR, listOf vr.toArray kr) :: news) rfl (frs_sl tiF') hxe F2 N hne ?_
          intro h7 sl' tiF7 tiH7
          refine TT.HeldNA.land tiH7 ?_
          intro h8 tiH8
          refine TT.clause_hitTN tiH8 T (k := ?_) (hE := fun _ _ x => x.elim)
          intro h9 F9 N9
          clear tiH7 tiH8 hxe F2 N
          k_steps
          rename PyProof.V.Flat _ _ => hflat
          obtain ⟨tv, rfl⟩ := flat_stage hflat
          clear hflat
          dsimp only at *
          refine wpC_execs_cons (wpC_any ?_)
          k_steps
          rename Fr h₀ _ _ _ => F8
          rename News h₀ _ _ _ => N8
          have tup_ne := tup_other N8 (lR := lR) (vr := vr) (kr := kr) (List.mem_cons_of_mem _ (List.mem_cons_of_mem _ List.mem_cons_self))
          refine kup_extend (l := vr ++ [_, _]) (its2 := #[_, _]) F8 N8 List.mem_cons_self rfl (by simp) (Upd.tail tup_ne (Upd.tail hIR (Upd.tail hRD (Upd.head (hrest _))))) (not_long2 (by simp; omega)) (by simp [sizeLine_eq]; omega) (by simp [sizeLine_eq]; omega) ?_
          intro h9 F9 N9
          refine wpC_execs_nil ?_
          (try dsimp only)
          refine wpC_execs_nil ?_
          exact hend hi F9 N9 (hL2 _ _) rfl hvr (by rw [hgy, hcp]; exact .cons (.int _ _) (.cons (.str _ _) .nil))
      · rename_i hemp
        refine wpC_execs_nil ?_
        (try dsimp only)
        refine wpC_execs_nil ?_
        refine ⟨rfl, _, _, _, _, rfl, F2, N, off, vr, kr, sl, rfl, rfl, ?_⟩
        rw [List.take_add_one, List.getElem?_eq_getElem hi, List.flatMap_append]
        have e : List.flatMap compP (some (splitP x)[i]).toList = [] := by
          show compP (splitP x)[i] ++ [] = []
          rw [hgy, hcp0 hemp]; rfl
        rw [e, List.append_nil]
        exact hvr
  · rintro h tk m' nw F9 N9 ⟨vr, kr, sl, rfl, hm, hvr⟩
    clear F3 N3
    have F2 := fr_know F9 (x := Str.ofString "result") hm
    clear F9
    dsimp only
    refine wpC_execs_cons (wpC_any ?_)
    k_steps
    dsimp only
    rw [List.take_of_length_le (by rw [hdat.length, List.length_map]; exact Nat.le_refl _)] at hvr
    refine TLg.leave_back (s' := { s with heap := h, toks := tk }) (new := (D, listOf vs.toArray 0) :: (lR, listOf vr.toArray kr) :: news) tiC' F2 N9 (TLgL.allNe_of fun p hp => ?_) fun FL NL => hret lR vr kr h tk FL (fun p hp => NL p (List.mem_cons_of_mem _ hp)) (fun q hq => lRlt q (List.mem_append_left _ hq)) hvr
    rcases List.mem_cons.mp hp with rfl | hp
    · exact Nat.ne_of_gt (hD (L, oL) (List.mem_cons_of_mem _ (List.mem_append_right _ List.mem_cons_self)))
    · rcases List.mem_cons.mp hp with rfl | hp
      · exact Nat.ne_of_gt (lRlt (L, oL) (List.mem_append_right _ List.mem_cons_self))
      · exact tiE'.mem p hp
end Mine
end

-- part P1
section
open PySem PySem.W PyProof.Rows PySem.Spec PySem.Calls
set_option maxRecDepth 100000
set_option maxHeartbeats 1000000
namespace Mine
theorem fm (n k : Int) (hk : 0 ≤ k) : n.fmod k = n % k := Int.fmod_eq_emod_of_nonneg n hk
theorem fd (n k : Int) (hk : 0 ≤ k) : n.fdiv k = n / k := Int.fdiv_eq_ediv_of_nonneg n hk
theorem r3 (n : Int) : n.fmod 3 = (n % 144).fmod 3 := by rw [fm _ _ (by decide), fm _ _ (by decide)]; omega
theorem r8 (n : Int) : (n.fdiv 3).fmod 8 = ((n % 144).fdiv 3).fmod 8 := by rw [fm _ _ (by decide), fm _ _ (by decide), fd _ _ (by decide), fd _ _ (by decide)]; omega
theorem r24 (n : Int) : (n.fdiv 24).fmod 3 = ((n % 144).fdiv 24).fmod 3 := by rw [fm _ _ (by decide), fm _ _ (by decide), fd _ _ (by decide), fd _ _ (by decide)]; omega
theorem r72 (n : Int) : (n.fdiv 72).fmod 2 = ((n % 144).fdiv 72).fmod 2 := by rw [fm _ _ (by decide), fm _ _ (by decide), fd _ _ (by decide), fd _ _ (by decide)]; omega
theorem r2 (n : Int) : n.fmod 2 = (n % 144).fmod 2 := by rw [fm _ _ (by decide), fm _ _ (by decide)]; omega
theorem r6 (n : Int) (i : Nat) : (n + (i : Int)).fmod 6 = (n % 144 + (i : Int)).fmod 6 := by rw [fm _ _ (by decide), fm _ _ (by decide)]; omega
theorem parts_mod (n : Int) : partsOf n = partsOf (n % 144) := by
  unfold partsOf wIdx
  rw [← r3, ← r8, ← r24, ← r72]
theorem mark_mod (n : Int) (i : Nat) : markS n i = markS (n % 144) i := by
  unfold markS
  rw [← r6]
theorem piece_mod (n : Int) (d : Dat) : pieceS n d = pieceS (n % 144) d := by
  unfold pieceS
  rw [← r2]
theorem upto_mod (n : Int) : ∀ i, textUpto n i = textUpto (n % 144) i
  | 0 => rfl
  | i + 1 => by
    unfold textUpto textStep
    rw [upto_mod n i, parts_mod n, mark_mod n i, piece_mod n]
theorem text_mod (n : Int) : textOf n = textOf (n % 144) := by
  unfold textOf
  rw [upto_mod, ← parts_mod]
theorem ranks_mod (n : Int) : ranksOf n = ranksOf (n % 144) := by
  unfold ranksOf
  rw [← parts_mod]
def dEq : Dat → Dat → Bool
  | .int a, .int b => a == b
  | .str a, .str b => a == b
  | _, _ => false
def lEq : List Dat → List Dat → Bool
  | [], [] => true
  | a :: r, b :: t => dEq a b && lEq r t
  | _, _ => false
theorem dEq_eq {a b : Dat} (h : dEq a b = true) : a = b := by
  cases a <;> cases b <;> simp_all [dEq]
theorem lEq_eq : ∀ {l t : List Dat}, lEq l t = true → l = t
  | [], [], _ => rfl
  | [], _ :: _, h => by cases h
  | _ :: _, [], h => by cases h
  | a :: r, b :: t, h => by
    simp only [lEq, Bool.and_eq_true] at h
    rw [dEq_eq h.1, lEq_eq h.2]
/-- what _comparable_version makes of the few pieces that come -/
def tabP : List (List Nat × List Dat) := [([], []), ([46], []), ([45], []), ([95], []), ([43], []), ([48], [.int 100, .int 0]), ([49], [.int 100, .int 1]), ([50], [.int 100, .int 2]), ([55], [.int 100, .int 7]),
  ([48, 48], [.int 100, .int 0]), ([48, 49], [.int 100, .int 1]), ([48, 50], [.int 100, .int 2]), ([48, 55], [.int 100, .int 7]), ([114, 99], [.int 50, .str ⟨#[114, 99]⟩]), ([82, 67], [.int 50, .str ⟨#[82, 67]⟩]), ([97], [.int 20, .str ⟨#[97]⟩]),
  ([97, 108, 112, 104, 97], [.int 20, .str ⟨#[97, 108, 112, 104, 97]⟩]), ([100, 101, 118], [.int 10, .str ⟨#[100, 101, 118]⟩]), ([112, 108], [.int 200, .str ⟨#[112, 108]⟩]), ([120], [.int 0, .str ⟨#[120]⟩])]
def lookP (l : List Nat) : List (List Nat × List Dat) → Option (List Dat)
  | [] => none
  | (k, d) :: r => if k = l then some d else lookP l r
theorem lookP_mem {l : List Nat} {d : List Dat} : ∀ {t : List (List Nat × List Dat)}, lookP l t = some d → (l, d) ∈ t
  | [], h => by cases h
  | (k, e) :: r, h => by
    unfold lookP at h
    split at h
    · rename_i q
      cases h
      rw [q]
      exact List.mem_cons_self
    · exact List.mem_cons_of_mem _ (lookP_mem h)
theorem tab_ok : (tabP.all fun e => lEq (compP ⟨e.1.toArray⟩) e.2 && decide (e.1.length ≤ 640) && decide ((reprText ⟨e.1.toArray⟩).length ≤ 100000)) = true := by decide +kernel
def stripD : List Dat → List Dat → Option (List Dat)
  | [], ds => some ds
  | _ :: _, [] => none
  | d :: r, e :: ds => if dEq d e then stripD r ds else none
theorem strip_eq : ∀ {r ds t : List Dat}, stripD r ds = some t → ds = r ++ t
  | [], _, _, h => by cases h; rfl
  | _ :: _, [], _, h => by cases h
  | d :: r, e :: ds, t, h => by
    unfold stripD at h
    split at h
    · rename_i q
      rw [← dEq_eq q, strip_eq h]; rfl
    · cases h
def goP : List Str → List Dat → Bool
  | [], [] => true
  | [], _ :: _ => false
  | y :: ps, ds => match lookP y.cps.toList tabP with
    | none => false
    | some d => match stripD d ds with
      | none => false
      | some t => goP ps t
theorem goP_ok : ∀ {ps : List Str} {ds : List Dat}, goP ps ds = true → ps.flatMap compP = ds ∧ ∀ y ∈ ps, y.length ≤ 640 ∧ (reprText y).length ≤ sizeLine
  | [], [], _ => ⟨rfl, fun _ h => by cases h⟩
  | [], _ :: _, h => by cases h
  | y :: ps, ds, h => by
    unfold goP at h
    split at h
    · cases h
    · rename_i d hl
      split at h
      · cases h
      · rename_i t ht
        obtain ⟨h1, h2⟩ := goP_ok h
        have hm := List.all_eq_true.mp tab_ok _ (lookP_mem hl)
        simp only [Bool.and_eq_true, decide_eq_true_eq] at hm
        obtain ⟨⟨h3, h4⟩, h5⟩ := hm
        have ey : (⟨y.cps.toList.toArray⟩ : Str) = y := rfl
        rw [ey] at h3 h5
        refine ⟨?_, fun z hz => ?_⟩
        · rw [List.flatMap_cons, h1, lEq_eq h3, strip_eq ht]
        · rcases List.mem_cons.mp hz with rfl | hz
          · refine ⟨?_, ?_⟩
            · show z.cps.size ≤ 640
              rw [Array.length_toList] at h4
              exact h4
            · rw [sizeLine_eq]; omega
          · exact h2 z hz
def okAt (r : Nat) : Bool := goP (splitP (textOf r)) (ranksOf r)
theorem okAll0 : (List.range 36).all okAt = true := by decide +kernel
theorem okAll1 : (List.range 36).all (fun r => okAt (r + 36)) = true := by decide +kernel
theorem okAll2 : (List.range 36).all (fun r => okAt (r + 72)) = true := by decide +kernel
theorem okAll3 : (List.range 36).all (fun r => okAt (r + 108)) = true := by decide +kernel
theorem ok_at {r : Nat} (h : r < 144) : okAt r = true := by
  by_cases h0 : r < 36
  · exact List.all_eq_true.mp okAll0 r (List.mem_range.mpr h0)
  by_cases h1 : r < 72
  · have := List.all_eq_true.mp okAll1 (r - 36) (List.mem_range.mpr (by omega))
    rwa [show r - 36 + 36 = r by omega] at this
  by_cases h2 : r < 108
  · have := List.all_eq_true.mp okAll2 (r - 72) (List.mem_range.mpr (by omega))
    rwa [show r - 72 + 72 = r by omega] at this
  · have := List.all_eq_true.mp okAll3 (r - 108) (List.mem_range.mpr (by omega))
    rwa [show r - 108 + 108 = r by omega] at this
theorem ok_of (n : Int) : okAt (n % 144).toNat = true ∧ (((n % 144).toNat : Nat) : Int) = n % 144 := by
  have h0 : 0 ≤ n % 144 := Int.emod_nonneg _ (by decide)
  have h1 : n % 144 < 144 := Int.emod_lt_of_pos _ (by decide)
  exact ⟨ok_at (by omega), Int.toNat_of_nonneg h0⟩
/-- what _comparable_version makes of the release text is what _law_ranks says -/
theorem made_ranks (n : Int) : (splitP (textOf n)).flatMap compP = ranksOf n := by
  obtain ⟨h, e⟩ := ok_of n
  rw [text_mod, ranks_mod, ← e]
  exact (goP_ok h).1
theorem text_len (n : Int) : (textOf n).length ≤ 600 := by
  have h := textUpto_len n (partsOf n).length (Nat.le_refl _)
  have h2 := parts_len n
  unfold textOf
  omega
theorem text_pieces (n : Int) : ∀ y ∈ splitP (textOf n), y.length ≤ 640 ∧ (reprText y).length ≤ sizeLine := by
  obtain ⟨h, e⟩ := ok_of n
  rw [text_mod, ← e]
  exact (goP_ok h).2
end Mine
end

-- part P2
section
open PySem PySem.W PyProof.Rows PySem.Spec PySem.Calls
set_option maxRecDepth 100000
set_option maxHeartbeats 1000000
namespace Mine
def tailX (r : Nat) : Nat := if r / 72 % 2 = 1 then 1 + r / 24 % 3 else 0
def keyX (i t : Nat) : Nat := ([5, 4, 2, 3, 1, 7, 0, 6].getD i 0) * 4 + t
def keyN (r : Nat) : Nat := (r % 3) * 32 + keyX (r / 3 % 8) (tailX r)
/-- a row behind its first number -/
def restX (i t : Nat) : List Dat := rankD (wordsD.getD i (.int 7)) ++ (if t = 0 then [] else [.int 100, .int ((t - 1 : Nat) : Int)])
def pairX (i t i' t' : Nat) : Bool := (ltD (restX i t) (restX i' t') == some (decide (keyX i t < keyX i' t'))) && (lEq (restX i t) (restX i' t') == (keyX i t == keyX i' t'))
def rowX (i t : Nat) : Bool := ((List.range 8).all fun i' => (List.range 4).all fun t' => pairX i t i' t') && (restX i t).all flatD
theorem rowsX : ((List.range 8).all fun i => (List.range 4).all fun t => rowX i t) = true := by decide +kernel
theorem rowX_ok {i t : Nat} (hi : i < 8) (ht : t < 4) : rowX i t = true :=
  List.all_eq_true.mp (List.all_eq_true.mp rowsX i (List.mem_range.mpr hi)) t (List.mem_range.mpr ht)
theorem tailX_lt (r : Nat) : tailX r < 4 := by unfold tailX; split <;> omega
theorem keyX_lt {i t : Nat} (hi : i < 8) (ht : t < 4) : keyX i t < 32 := by
  unfold keyX
  have : i = 0 ∨ i = 1 ∨ i = 2 ∨ i = 3 ∨ i = 4 ∨ i = 5 ∨ i = 6 ∨ i = 7 := by omega
  rcases this with rfl | rfl | rfl | rfl | rfl | rfl | rfl | rfl <;> simp <;> omega
theorem ranks_form (r : Nat) : ranksOf (r : Int) = .int 100 :: .int ((r % 3 : Nat) : Int) :: restX (r / 3 % 8) (tailX r) := by
  have e1 : ((r : Int).fmod 3) = ((r % 3 : Nat) : Int) := by rw [fm _ _ (by decide)]; omega
  have e2 : (((r : Int).fdiv 3).fmod 8).toNat = r / 3 % 8 := by rw [fm _ _ (by decide), fd _ _ (by decide)]; omega
  have e3 : (((r : Int).fdiv 24).fmod 3) = ((r / 24 % 3 : Nat) : Int) := by rw [fm _ _ (by decide), fd _ _ (by decide)]; omega
  have e4 : (((r : Int).fdiv 72).fmod 2).toNat = r / 72 % 2 := by rw [fm _ _ (by decide), fd _ _ (by decide)]; omega
  unfold ranksOf partsOf wIdx restX tailX
  rw [e1, e2, e3, e4]
  have h : r / 72 % 2 = 0 ∨ r / 72 % 2 = 1 := by omega
  rcases h with h | h
  · rw [h]
    simp [rankD]
  · rw [h]
    have h1 : 1 + r / 24 % 3 - 1 = r / 24 % 3 := by omega
    simp [rankD, h1]
def keyR (n : Int) : Nat := keyN (n % 144).toNat
theorem flat_ranks (n : Int) : ∀ d ∈ ranksOf n, flatD d = true := by
  obtain ⟨_, e⟩ := ok_of n
  have h := rowX_ok (i := (n % 144).toNat / 3 % 8) (t := tailX (n % 144).toNat) (by omega) (tailX_lt _)
  simp only [rowX, Bool.and_eq_true] at h
  rw [ranks_mod, ← e, ranks_form]
  intro d hd
  rcases List.mem_cons.mp hd with rfl | hd
  · rfl
  · rcases List.mem_cons.mp hd with rfl | hd
    · rfl
    · exact List.all_eq_true.mp h.2 d hd
theorem dEq_refl (d : Dat) (h : flatD d = true) : dEq d d = true := by
  cases d <;> simp_all [dEq, flatD]
theorem lEq_refl : ∀ l : List Dat, (∀ d ∈ l, flatD d = true) → lEq l l = true
  | [], _ => rfl
  | d :: r, hl => by
    simp only [lEq, Bool.and_eq_true]
    exact ⟨dEq_refl d (hl d List.mem_cons_self), lEq_refl r fun x hx => hl x (List.mem_cons_of_mem _ hx)⟩
theorem pair_nat (a b : Nat) : ltD (ranksOf (a : Int)) (ranksOf (b : Int)) = some (decide (keyN a < keyN b)) ∧ (ranksOf (a : Int) = ranksOf (b : Int) ↔ keyN a = keyN b) := by
  have hi : a / 3 % 8 < 8 := by omega
  have hj : b / 3 % 8 < 8 := by omega
  have h := rowX_ok hi (tailX_lt a)
  simp only [rowX, Bool.and_eq_true] at h
  have hf := h.2
  have h2 := List.all_eq_true.mp (List.all_eq_true.mp h.1 _ (List.mem_range.mpr hj)) _ (List.mem_range.mpr (tailX_lt b))
  simp only [pairX, Bool.and_eq_true, beq_iff_eq] at h2
  have ka := keyX_lt hi (tailX_lt a)
  have kb := keyX_lt hj (tailX_lt b)
  have hx : restX (a / 3 % 8) (tailX a) = restX (b / 3 % 8) (tailX b) ↔ keyX (a / 3 % 8) (tailX a) = keyX (b / 3 % 8) (tailX b) := by
    constructor
    · intro q
      have h3 := h2.2
      rw [← q, lEq_refl _ (fun d hd => List.all_eq_true.mp hf d hd)] at h3
      exact beq_iff_eq.mp h3.symm
    · intro q
      have h3 := h2.2
      rw [q, beq_self_eq_true] at h3
      exact lEq_eq h3
  rw [ranks_form, ranks_form]
  unfold keyN
  refine ⟨?_, ?_⟩
  · have e : ltD (.int 100 :: .int ((a % 3 : Nat) : Int) :: restX (a / 3 % 8) (tailX a)) (.int 100 :: .int ((b % 3 : Nat) : Int) :: restX (b / 3 % 8) (tailX b)) =
        if (((a % 3 : Nat) : Int) == ((b % 3 : Nat) : Int)) = true then ltD (restX (a / 3 % 8) (tailX a)) (restX (b / 3 % 8) (tailX b)) else some (decide (((a % 3 : Nat) : Int) < ((b % 3 : Nat) : Int))) := by
      simp only [ltD, sameD, lessD, beq_self_eq_true, if_true]
      rfl
    rw [e, h2.1]
    by_cases hab : a % 3 = b % 3
    · rw [if_pos (by rw [hab]; exact beq_self_eq_true _)]
      congr 1
      rw [decide_eq_decide]
      omega
    · rw [if_neg (by rw [beq_iff_eq]; omega)]
      congr 1
      rw [decide_eq_decide]
      omega
  · simp only [List.cons.injEq, Dat.int.injEq, true_and, hx]
    omega
theorem pair_ok (a b : Int) : ltD (ranksOf a) (ranksOf b) = some (decide (keyR a < keyR b)) ∧ (ranksOf a = ranksOf b ↔ keyR a = keyR b) := by
  obtain ⟨_, ea⟩ := ok_of a
  obtain ⟨_, eb⟩ := ok_of b
  rw [ranks_mod a, ranks_mod b, ← ea, ← eb]
  exact pair_nat _ _
end Mine
end

-- part M1
section
open PySem PySem.W PyProof.Rows PySem.Spec PySem.Calls
set_option maxRecDepth 100000
set_option maxHeartbeats 1000000
namespace Mine
/-- the rows of the numbers ns -/
def rowsD (ns : List Int) : List Dat := ns.map fun n => .list (ranksOf n)
def keyAt (ns : List Int) (i : Nat) : Nat := keyR (ns.getD i 0)
/-- places of the sorted list -/
def sortP (ns : List Int) : Array Nat := runK (ltK (keyAt ns)) (kas_sort ns.length)
theorem row_get {news : List (Addr × Obj)} {vs : List Value} {ns : List Int} (hd : DatAll news vs (rowsD ns)) {i : Nat} (hi : i < ns.length) :
    ∃ a us k, vs.getD i Value.none = .ref a ∧ (a, listOf us.toArray k) ∈ news ∧ DatAll news us (ranksOf (ns.getD i 0)) := by
  obtain ⟨v, hv, dv⟩ := hd.get (k := i) (by unfold rowsD; rw [List.length_map]; exact hi)
  have e : (rowsD ns)[i]'(by unfold rowsD; rw [List.length_map]; exact hi) = .list (ranksOf (ns.getD i 0)) := by
    unfold rowsD
    rw [List.getElem_map, List.getD_eq_getElem?_getD, List.getElem?_eq_getElem hi]; rfl
  rw [e] at dv
  cases dv with
  | list hm hr => exact ⟨_, _, _, by rw [List.getD_eq_getElem?_getD, hv]; rfl, hm, hr⟩
theorem flat_nil {news : List (Addr × Obj)} : ∀ {vs : List Value} {ds : List Dat}, DatAll news vs ds → (∀ d ∈ ds, flatD d = true) → DatAll [] vs ds
  | _, _, .nil, _ => .nil
  | _, _, .cons (d := d) h r, hf => by
    refine .cons ?_ (flat_nil r fun x hx => hf x (List.mem_cons_of_mem _ hx))
    have hd := hf d List.mem_cons_self
    cases h with
    | int i t => exact .int i t
    | str x t => exact .str x t
    | _ => simp [flatD] at hd
section
variable {prog : Program} {w : World} {A : Around} {E : Value → Shared → Prop} {s : Shared} {h₀ : Heap} {L : Addr} {m : Str → Option Value} {news : List (Addr × Obj)} {vs : List Value} {ns : List Int}
theorem sorted_rows {l : Addr} {k : Nat} {Q : Value → Shared → Prop} (F : Fr h₀ L s.heap m) (N : News h₀ L s.heap news) (hm : (l, listOf vs.toArray k) ∈ news) (hd : DatAll news vs (rowsD ns)) (h2 : 2 ≤ ns.length) (h64 : ns.length < 64) (hu : A.units + 10 < cLine)
    (h : ∀ D c h', Fr h₀ L h' m → News h₀ L h' ((D, listOf ((sortP ns).toList.map fun i => vs.getD i Value.none).toArray c) :: news) → (∀ q ∈ news, q.1 < D) → Q (.ref D) { s with heap := h' }) :
    wpAny (model prog w) A (call (.builtin "sorted") [.ref l]) Q E s := by
  have hlen : vs.length = ns.length := by rw [hd.length]; unfold rowsD; rw [List.length_map]
  refine kas_sorted (T := .type "list") F N ⟨_, (N _ hm).1, rfl, _, rfl⟩ (by omega) (by omega) ?_ (by decide) ?_
  · intro h' F' N' v hv
    obtain ⟨i, hi, rfl⟩ := List.mem_iff_getElem.mp hv
    obtain ⟨a, us, k', e, hma, _⟩ := row_get hd (i := i) (by omega)
    have e' : vs[i] = .ref a := by rw [List.getD_eq_getElem?_getD, List.getElem?_eq_getElem hi] at e; exact e
    rw [e']
    exact fun A' Q' E' s' hk q => wpAny_typeOf ⟨_, hk _ _ (N' _ hma).1, rfl⟩ q
  · intro D e1 h' F' N' hlt
    rw [hlen]
    refine kasWp_run (lt := ltK (keyAt ns)) (N := ns.length) (fun i j C hi hj hC => ?_) _ (sort_in _ (by omega)) ?_
    · obtain ⟨a, us, ka, ea, ma, da⟩ := row_get hd hi
      obtain ⟨b, ws, kb, eb, mb, db⟩ := row_get hd hj
      unfold kas_ask
      rw [ea, eb]
      have fa := flat_ranks (ns.getD i 0)
      have fb := flat_ranks (ns.getD j 0)
      refine ask_list (N' _ (List.mem_cons_of_mem _ ma)).1 (N' _ (List.mem_cons_of_mem _ mb)).1 (flat_nil da fa) (flat_nil db fb) fa fb (pair_ok _ _).1 ?_ hC
      show A.units + 1 + 1 < cLine
      omega
    · exact KasFin.intro F' N' (.head fun p hp => Nat.ne_of_lt (hlt p hp)) fun h9 c F9 N9 => h D c h9 F9 N9 hlt
end
end Mine
end

-- part M2
section
open PySem PySem.W PyProof.Rows PySem.Spec PySem.Calls
set_option maxRecDepth 100000
set_option maxHeartbeats 1000000
namespace Mine
section
variable {prog : Program} {w : World} {A : Around} {E : Value → Shared → Prop} {s : Shared} {h₀ : Heap} {L : Addr} {m : Str → Option Value} {news : List (Addr × Obj)} {vs : List Value} {ns : List Int}
/-- list.sort of a list with fewer than two items -/
theorem lsort_few {a : Addr} {n : Nat} {P : PySem.Fin → Shared → Prop} (F : Fr h₀ L s.heap m) (N : News h₀ L s.heap news) (ho : s.heap.get? a = some (seqObj "list" vs.toArray n)) (haL : a ≠ L) (ha0 : h₀.get? a = none) (hna : ∀ p ∈ news, p.1 ≠ a)
    (h2 : vs.length < 2)
    (h : ∀ c h', Fr h₀ L h' m → News h₀ L h' ((a, listOf vs.toArray c) :: news) → P (.done (.ret .none)) { s with heap := h' }) :
    wpAny (model prog w) A (Builtin.«list.sort» ⟨[.ref a], []⟩) P E s := by
  have s1 := Heap.SameBut.update s.heap a (Obj.mapSeq fun _ => (#[] : Array Value))
  obtain ⟨e1, ho1⟩ : ∃ e1, (s.heap.update a (Obj.mapSeq fun _ => (#[] : Array Value))).get? a = some (seqObj "list" #[] e1) := ⟨_, get?_update_seq ho fun _ => #[]⟩
  have F3 : Fr h₀ L (((s.heap.update a (Obj.mapSeq fun _ => (#[] : Array Value))).push (seqObj "tuple" vs.toArray 0)).push (seqObj "list" #[] 0)) m := ((kas_fr F s1 haL ha0).push _).push _
  have ho3 : (((s.heap.update a (Obj.mapSeq fun _ => (#[] : Array Value))).push (seqObj "tuple" vs.toArray 0)).push (seqObj "list" #[] 0)).get? a = some (seqObj "list" #[] e1) := Heap.get?_push_of_some _ (Heap.get?_push_of_some _ ho1)
  have N2 : News h₀ L (((s.heap.update a (Obj.mapSeq fun _ => (#[] : Array Value))).push (seqObj "tuple" vs.toArray 0)).push (seqObj "list" #[] 0)) news :=
    (kas_news N s1 hna).grown fun b x e => Heap.get?_push_of_some _ (Heap.get?_push_of_some _ e)
  rw [list_sort_plain]
  refine wpAny_bind (listItems_at ho rfl ?_)
  refine wpAny_bind (listUpdate_at ho rfl ?_ (by rw [List.size_toArray, sizeLine_eq]; omega) (Nat.zero_le _))
  refine wpAny_bind (seqEpoch_at ho1 rfl ?_)
  refine wpAny_bind (wpAny_newTuple ?_ (by show vs.length ≤ _; rw [sizeLine_eq]; omega))
  refine wpAny_bind (wpAny_newList ?_ (Nat.zero_le _))
  refine wpAny_holding ?_
  show wpAny (model prog w) A _ P E { s with heap := ((s.heap.update a (Obj.mapSeq fun _ => (#[] : Array Value))).push (seqObj "tuple" vs.toArray 0)).push (seqObj "list" #[] 0) }
  generalize hH : ((s.heap.update a (Obj.mapSeq fun _ => (#[] : Array Value))).push (seqObj "tuple" vs.toArray 0)).push (seqObj "list" #[] 0) = H at *
  have hn2 : vs.toArray.size < 2 := by rw [List.size_toArray]; omega
  dsimp only
  rw [if_pos hn2, if_pos hn2]
  refine wpAny_bind (wpAny_pure ?_)
  refine wpAny_bind (m := StateT.run (pure ()) _) (wpAny_pure ?_)
  have e3 : Array.map (fun x => x.2) (arrOf (SortSt.mk' general' (vs.toArray.zip vs.toArray) #[] 7 none)) = vs.toArray := by
    show Array.map (fun x => x.2) (vs.toArray.zip vs.toArray) = vs.toArray
    apply Array.toList_inj.mp
    simp [List.map_snd_zip]
  have s2 := Heap.SameBut.update H a (Obj.mapSeq fun _ => vs.toArray)
  obtain ⟨c2, hc2⟩ : ∃ c2, (H.update a (Obj.mapSeq fun _ => vs.toArray)).get? a = some (seqObj "list" vs.toArray c2) := ⟨_, get?_update_seq ho3 fun _ => vs.toArray⟩
  refine wpAny_bind (seqEpoch_at ho3 rfl ?_)
  dsimp only
  rw [e3]
  refine wpAny_bind (listUpdate_at ho3 rfl ?_ (Nat.zero_le _) (by rw [List.size_toArray, sizeLine_eq]; omega))
  simp only [bne_self_eq_false, Bool.false_eq_true, if_false]
  refine wpAny_pure (h c2 _ (kas_fr F3 s2 haL ha0) fun p hp => ?_)
  rcases List.mem_cons.mp hp with rfl | hp
  · exact ⟨hc2, haL, ha0⟩
  · exact (kas_news N2 s2 hna) p hp
theorem sorted_few {l : Addr} {Q : Value → Shared → Prop} (F : Fr h₀ L s.heap m) (N : News h₀ L s.heap news) (hl : s.heap.IsList l vs.toArray) (h2 : vs.length < 2)
    (h : ∀ D c h', Fr h₀ L h' m → News h₀ L h' ((D, listOf vs.toArray c) :: news) → (∀ q ∈ news, q.1 < D) → Q (.ref D) { s with heap := h' }) :
    wpAny (model prog w) A (call (.builtin "sorted") [.ref l]) Q E s := by
  refine Calls.call_function_entry kind_sorted plain_sorted entry_sorted (args_sorted1 _) ?_
  unfold Builtin.«sorted»
  refine wpAny_bind (m := checkCount "sorted" 1 1 _) (wpAny_pure ?_)
  refine wpAny_bind (collect_list hl ?_ (by rw [sizeLine_eq]; omega))
  refine wpAny_bind (wpAny_newList ?_ (by rw [sizeLine_eq]; omega))
  have hsz : ((s.heap.push (seqObj "list" #[] 0)).update s.heap.objs.size (Obj.mapSeq (· ++ vs.toArray))).objs.size = s.heap.objs.size + 1 := by
    rw [Heap.size_update, size_push']
  have hoL : (((s.heap.push (seqObj "list" #[] 0)).update s.heap.objs.size (Obj.mapSeq (· ++ vs.toArray))).push (seqObj "list" vs.toArray 0)).get? (s.heap.objs.size + 1) = some (seqObj "list" vs.toArray 0) := by
    rw [← hsz]; exact Heap.get?_push_size _ rfl
  have keep : ∀ b o, s.heap.get? b = some o → (((s.heap.push (seqObj "list" #[] 0)).update s.heap.objs.size (Obj.mapSeq (· ++ vs.toArray))).push (seqObj "list" vs.toArray 0)).get? b = some o := fun b o q => by
    have hlt : b < s.heap.objs.size := Heap.lt_size q
    rw [Heap.get?_push_ne _ _ _ (by rw [hsz]; exact Nat.ne_of_lt (Nat.lt_succ_of_lt hlt)), Heap.get?_update_ne _ _ _ _ (Nat.ne_of_lt hlt), Heap.get?_push_ne _ _ _ (Nat.ne_of_lt hlt)]
    exact q
  have hL : L < s.heap.objs.size := F.ns.lt
  show wpAny _ _ _ _ _ { s with heap := ((s.heap.push (seqObj "list" #[] 0)).update s.heap.objs.size (Obj.mapSeq (· ++ vs.toArray))).push (seqObj "list" vs.toArray 0) }
  rw [hsz]
  refine wpAny_bind (wpAny_holding (wpAny_call_entry slot_list_sort ⟨_, hoL, rfl⟩ entry_list_sort ?body (args_list_sort _)))
  case body =>
    refine lsort_few (s := { s with heap := ((s.heap.push (seqObj "list" #[] 0)).update s.heap.objs.size (Obj.mapSeq (· ++ vs.toArray))).push (seqObj "list" vs.toArray 0) })
      (F.kept keep) (N.grown keep) hoL (Nat.ne_of_gt (Nat.lt_succ_of_lt hL)) (Heap.get?_none_of_le (Nat.le_trans F.above (Nat.le_succ_of_le (Nat.le_of_lt hL))))
      (fun p hp => Nat.ne_of_lt (Nat.lt_succ_of_lt (Heap.lt_size (N p hp).1))) h2 fun c h' F' N' => ?_
    exact ⟨_, rfl, wpAny_pure ⟨_, rfl, h _ c h' F' N' fun q hq => Nat.lt_succ_of_lt (Heap.lt_size (N q hq).1)⟩⟩
/-- sorted() of one row or more -/
theorem sorted_rows1 {l : Addr} {k : Nat} {Q : Value → Shared → Prop} (F : Fr h₀ L s.heap m) (N : News h₀ L s.heap news) (hm : (l, listOf vs.toArray k) ∈ news) (hd : DatAll news vs (rowsD ns)) (h1 : 1 ≤ ns.length) (h64 : ns.length < 64) (hu : A.units + 10 < cLine)
    (h : ∀ D c h', Fr h₀ L h' m → News h₀ L h' ((D, listOf ((sortP ns).toList.map fun i => vs.getD i Value.none).toArray c) :: news) → (∀ q ∈ news, q.1 < D) → Q (.ref D) { s with heap := h' }) :
    wpAny (model prog w) A (call (.builtin "sorted") [.ref l]) Q E s := by
  by_cases h2 : 2 ≤ ns.length
  · exact sorted_rows F N hm hd h2 h64 hu h
  · have hlen : vs.length = ns.length := by rw [hd.length]; unfold rowsD; rw [List.length_map]
    have e1 : ns.length = 1 := by omega
    obtain ⟨v, rfl⟩ : ∃ v, vs = [v] := List.length_eq_one_iff.mp (by omega)
    obtain ⟨hp, hsz, _⟩ := sort_ok (keyAt ns) (n := ns.length) h1
    have e : (sortP ns).toList = [0] := by
      have hp' : (sortP ns).toList.Perm [0] := by
        have := hp.toList
        rw [e1] at this
        unfold sortP
        rw [e1]
        exact this
      exact List.perm_singleton.mp hp'
    rw [e] at h
    exact sorted_few F N ⟨_, (N _ hm).1, rfl, _, rfl⟩ (by simp) h
end
end Mine
end

-- part D1
section
open PySem PySem.W PyProof.Rows PySem.Spec PySem.Calls
set_option maxRecDepth 100000
set_option maxHeartbeats 1000000
set_option linter.unusedVariables false
namespace Mine
theorem len_at {prog : Program} {w : World} {A : Around} {E : Value → Shared → Prop} {s : Shared} {h₀ : Heap} {L l : Addr} {news : List (Addr × Obj)} {us : List Value} {n k : Nat} {Q : Value → Shared → Prop} (N : News h₀ L s.heap news) (hm : (l, listOf us.toArray k) ∈ news) (hn : us.length = n) (h64 : n < 64)
    (h : Q (.int (n : Int) (s.toks + 1)) { s with toks := s.toks + 1 + 1 }) : wpAny (model prog w) A (call (.builtin "len") [.ref l]) Q E s := by
  have hl : s.heap.IsList l us.toArray := ⟨_, (N _ hm).1, rfl, k, rfl⟩
  refine len_list hl ?_ ?_
  · rw [List.size_toArray, hn]; omega
  · rw [List.size_toArray, hn]; exact h
theorem sort_facts (ns : List Int) (vs : List Value) (h1 : 1 ≤ ns.length) : ((sortP ns).toList.map fun i => vs.getD i Value.none).length = ns.length ∧
    ∀ j, j < ns.length → ((sortP ns).toList.map fun i => vs.getD i Value.none)[j]? = some (vs.getD ((sortP ns).getD j 0) Value.none) := by
  obtain ⟨_, hsz, _⟩ := sort_ok (keyAt ns) (n := ns.length) h1
  have hsz' : (sortP ns).size = ns.length := hsz
  refine ⟨by rw [List.length_map, Array.length_toList]; exact hsz', fun j hj => ?_⟩
  have hj' : j < (sortP ns).size := by omega
  rw [List.getElem?_map, Array.getElem?_toList, Array.getElem?_eq_getElem hj', Array.getD_eq_getD_getElem?, Array.getElem?_eq_getElem hj']; rfl
section
set_option hygiene false in
local macro_rules | `(tactic| walk_at "call builtin:len") => `(tactic| ((rename News _ _ _ _ => nN); refine len_at (us := out) (n := ns.length) nN List.mem_cons_self hlo h64 ?_))
local macro_rules | `(tactic| walk_at "exec Raise") => `(tactic| (exfalso; omega))
set_option hygiene false in
local macro_rules | `(tactic| walk_at "subscriptTail Name BinOp ref int") => `(tactic| ((rename News _ _ _ _ => nN); (have e2 := fd (ns.length : Int) 2 (by decide)); (have e3 := fm (ns.length : Int) 2 (by decide)); refine item_at (us := out) (n := c) nN List.mem_cons_self (hitE _ (by omega)) (by omega) (by omega) ?_ (by with_unfolding_all rfl)))
local macro_rules | `(tactic| walk_at "call builtin:sorted") => `(tactic| refine Hold.out ?_)
theorem mlow_con (w : World) (mean : ExcName → Option Value) (mg mb : Str → Option Value) (l : Addr) (vs : List Value) (kl : Nat) (ns : List Int) (news : List (Addr × Obj)) (hm : (l, listOf vs.toArray kl) ∈ news) (hdd : DatAll news vs (rowsD ns)) (h1 : 1 ≤ ns.length) (h64 : ns.length < 64) :
    Con 2 w mean mg mb 64 [.ref l] news (fun tl r => tl = [] ∧ r = vs.getD ((sortP ns).getD ((ns.length - 1) / 2) 0) Value.none) := by
  unfold Con
  intro dp un gd cn cs a ccd cl outer A₀ base h₀ L m s Q E B F X N T hk hdp hun hret
  refine wpAny_call ?_
  refine code_def (binds := [(Str.ofString "data", .ref l)]) B F X N T rfl rfl hk (by k_is) (by k_is) (by show dp < 1000; omega) (BindsTo.of_eq rfl) (locs rfl) ?_ rfl rfl rfl (by decide)
  intro g' L' h' FG' F' N' B' X' T'
  dsimp only
  k_fold
  k_steps
  refine Hold.in' ?_
  refine sorted_rows1 (by assumption) (by assumption) hm hdd h1 h64 (by show un + 3 + 10 < 9900; omega) ?_
  intro D c h2 F2 N2 hlt
  obtain ⟨hlo, hit⟩ := sort_facts ns vs h1
  generalize ((sortP ns).toList.map fun i => vs.getD i Value.none) = out at *
  have hitE : ∀ k : Int, k.toNat = (ns.length - 1) / 2 → out[k.toNat]? = some (vs.getD ((sortP ns).getD ((ns.length - 1) / 2) 0) Value.none) := fun k e => by rw [e]; exact hit _ (by omega)
  k_steps
  · exfalso; omega
  all_goals
    (try dsimp only at *)
    (rename Fr h₀ L _ m => kF)
    (rename News h₀ L _ (_ :: _) => kN)
    exact hret _ [] _ _ kF (fun p hp => kN p (List.mem_cons_of_mem _ hp)) (fun _ _ _ h => nomatch h) ⟨rfl, rfl⟩
theorem mhigh_con (w : World) (mean : ExcName → Option Value) (mg mb : Str → Option Value) (l : Addr) (vs : List Value) (kl : Nat) (ns : List Int) (news : List (Addr × Obj)) (hm : (l, listOf vs.toArray kl) ∈ news) (hdd : DatAll news vs (rowsD ns)) (h1 : 1 ≤ ns.length) (h64 : ns.length < 64) :
    Con 2 w mean mg mb 71 [.ref l] news (fun tl r => tl = [] ∧ r = vs.getD ((sortP ns).getD (ns.length / 2) 0) Value.none) := by
  unfold Con
  intro dp un gd cn cs a ccd cl outer A₀ base h₀ L m s Q E B F X N T hk hdp hun hret
  refine wpAny_call ?_
  refine code_def (binds := [(Str.ofString "data", .ref l)]) B F X N T rfl rfl hk (by k_is) (by k_is) (by show dp < 1000; omega) (BindsTo.of_eq rfl) (locs rfl) ?_ rfl rfl rfl (by decide)
  intro g' L' h' FG' F' N' B' X' T'
  dsimp only
  k_fold
  k_steps
  refine Hold.in' ?_
  refine sorted_rows1 (by assumption) (by assumption) hm hdd h1 h64 (by show un + 3 + 10 < 9900; omega) ?_
  intro D c h2 F2 N2 hlt
  obtain ⟨hlo, hit⟩ := sort_facts ns vs h1
  generalize ((sortP ns).toList.map fun i => vs.getD i Value.none) = out at *
  have hitE : ∀ k : Int, k.toNat = ns.length / 2 → out[k.toNat]? = some (vs.getD ((sortP ns).getD (ns.length / 2) 0) Value.none) := fun k e => by rw [e]; exact hit _ (by omega)
  k_steps
  · exfalso; omega
  all_goals
    (try dsimp only at *)
    (rename Fr h₀ L _ m => kF)
    (rename News h₀ L _ (_ :: _) => kN)
    exact hret _ [] _ _ kF (fun p hp => kN p (List.mem_cons_of_mem _ hp)) (fun _ _ _ h => nomatch h) ⟨rfl, rfl⟩
end
end Mine
end

-- part D2
section
open PySem PySem.W PyProof.Rows PySem.Spec PySem.Calls
set_option maxRecDepth 100000
set_option maxHeartbeats 1000000
set_option linter.unusedVariables false
namespace Mine
def lowV (ns : List Int) (vs : List Value) : Value := vs.getD ((sortP ns).getD ((ns.length - 1) / 2) 0) Value.none
def highV (ns : List Int) (vs : List Value) : Value := vs.getD ((sortP ns).getD (ns.length / 2) 0) Value.none
theorem app_L {prog : Program} {w : World} {A : Around} {E : Value → Shared → Prop} {s : Shared} {h₀ : Heap} {L D : Addr} {m : Str → Option Value} {news news' : List (Addr × Obj)} {ys : List Value} {n : Nat} {x : Value} {Q : Value → Shared → Prop} (F : Fr h₀ L s.heap m) (N : News h₀ L s.heap news)
    (U : Upd D (listOf ys.toArray n) (listOf (ys ++ [x]).toArray (n + 1)) news news') (hsz : ys.length ≤ 100)
    (h : ∀ h', Fr h₀ L h' m → News h₀ L h' news' → Q .none { s with heap := h' }) : wpAny (model prog w) A (call (.builtin "list.append") [.ref D, x]) Q E s :=
  append_K F N (by rw [List.push_toArray]; exact U) h (by rw [List.size_toArray, sizeLine_eq]; omega)
section
set_option hygiene false in
local macro_rules | `(tactic| walk_at "call ref") => `(tactic| first
  | ((with_reducible show wpAny _ _ (call (Value.ref 64) [Value.ref _]) _ _ _); k_dflt (refine' con_use (mlow_con _ _ _ _ l vs kl ns _ ?km ?kd2 h1 h64) ?k1 ?k2 ?k3 ?k4 ?k5 ?kK ?kd ?ku ?_); (case k1 => k_asm); (case k2 => k_asm); (case k3 => k_asm); (case k4 => k_asm); (case k5 => k_asm); (case kK => exact rfl); (case kd => (dsimp only; omega)); (case ku => (dsimp only; omega)); (case km => exact hsub _ hm); (case kd2 => exact hdd.mono hsub); rintro r9 tl9 h9 tk9 F9 N9 hl9 ⟨ht9, hr9⟩; subst hr9 ht9; simp only [List.nil_append] at N9; (try dsimp only))
  | ((with_reducible show wpAny _ _ (call (Value.ref 71) [Value.ref _]) _ _ _); k_dflt (refine' con_use (mhigh_con _ _ _ _ l vs kl ns _ ?km ?kd2 h1 h64) ?k1 ?k2 ?k3 ?k4 ?k5 ?kK ?kd ?ku ?_); (case k1 => k_asm); (case k2 => k_asm); (case k3 => k_asm); (case k4 => k_asm); (case k5 => k_asm); (case kK => exact rfl); (case kd => (dsimp only; omega)); (case ku => (dsimp only; omega)); (case km => exact hsub _ hm); (case kd2 => exact hdd.mono hsub); rintro r9 tl9 h9 tk9 F9 N9 hl9 ⟨ht9, hr9⟩; subst hr9 ht9; simp only [List.nil_append] at N9; (try dsimp only)))
local macro_rules | `(tactic| walk_at "pyIter ref") => `(tactic| refine Hold.out ?_)
theorem told_con (w : World) (mean : ExcName → Option Value) (mg mb : Str → Option Value) (l : Addr) (vs : List Value) (kl : Nat) (ns : List Int) (news : List (Addr × Obj)) (hm : (l, listOf vs.toArray kl) ∈ news) (hdd : DatAll news vs (rowsD ns)) (h1 : 1 ≤ ns.length) (h64 : ns.length < 64) :
    Con 3 w mean mg mb 104 [.ref l] news (fun tl r => ∃ a k, r = .ref a ∧ tl = [(a, listOf [lowV ns vs, highV ns vs].toArray k)]) := by
  unfold Con
  intro dp un gd cn cs a ccd cl outer A₀ base h₀ L m s Q E B F X N T hk hdp hun hret
  refine wpAny_call ?_
  refine code_def (binds := [(Str.ofString "rows", .ref l)]) B F X N T rfl rfl hk (by k_is) (by k_is) (by show dp < 1000; omega) (BindsTo.of_eq rfl) (locs rfl) ?_ rfl rfl rfl (by decide)
  intro g' L' h' FG' F' N' B' X' T'
  dsimp only
  k_fold
  k_steps
  refine Hold.in' ?_
  (try dsimp only at *)
  rename Fr g' L' _ _ => F9
  rename News g' L' _ _ => N9
  rename_i lt _ llt _ ld _ ltd
  refine kdl_iter (vs := [.ref 64, .ref 71]) (nn := 0) (fun i m₁ nx => ∃ c, nx = (lt, listOf ([lowV ns vs, highV ns vs].take i).toArray c) :: (ld, listOf [Value.ref 64, Value.ref 71].toArray 0) :: news ∧ m₁ (Str.ofString "told") = some (.ref lt) ∧ m₁ (Str.ofString "rows") = some (.ref l)) rfl
    (List.mem_cons_of_mem _ List.mem_cons_self) F9 (news_swap N9) ⟨0, rfl, rfl, rfl⟩ ?_ ?_
  · rintro i v m₁ news₁ h tk own hv hoff hl ⟨c, rfl, hm1, hm2⟩ F N
    have F2 := fr_know (fr_know F (x := Str.ofString "told") (by rw [if_neg (by decide)]; exact hm1)) (x := Str.ofString "rows") (by rw [if_neg (by decide), if_neg (by decide)]; exact hm2)
    clear F F9 N9
    have hsub : ∀ p ∈ news, p ∈ (lt, listOf ([lowV ns vs, highV ns vs].take i).toArray c) :: (ld, listOf [Value.ref 64, Value.ref 71].toArray 0) :: news ++ own := fun p hp => List.mem_append_left _ (List.mem_cons_of_mem _ (List.mem_cons_of_mem _ hp))
    have hrest : ∀ p ∈ (ld, listOf [Value.ref 64, Value.ref 71].toArray 0) :: (news ++ own), p.1 ≠ lt := by
      intro p hp
      rcases List.mem_cons.mp hp with rfl | hp
      · exact Nat.ne_of_gt ltd.1
      · rcases List.mem_append.mp hp with hp | hp
        · exact Nat.ne_of_lt (llt p hp)
        · exact hoff p hp lt List.mem_cons_self
    have hi : i = 0 ∨ i = 1 := by
      have := (List.getElem?_eq_some_iff.mp hv).1
      simp at this
      omega
    rcases hi with rfl | rfl
    · cases hv
      k_steps
      have N9' : News g' L' h9 ((lt, listOf ([] : List Value).toArray c) :: ((ld, listOf [Value.ref 64, Value.ref 71].toArray 0) :: (news ++ own))) := N9
      refine app_L (ys := []) F9 N9' (Upd.head hrest) (by simp) ?_
      intro h3 F3 N3
      k_steps
      have N4 : News g' L' h3 (((lt, listOf ([lowV ns vs] : List Value).toArray (c + 1)) :: (ld, listOf [Value.ref 64, Value.ref 71].toArray 0) :: news) ++ own) := N3
      exact InvEndG.intro F3 N4 ⟨List.mem_cons_of_mem _ List.mem_cons_self, _, rfl, rfl, rfl⟩ hoff (fun p hp => List.mem_append_left _ hp) (fun p hp => List.mem_append_right _ hp)
    · cases hv
      k_steps
      have N9' : News g' L' h9 ((lt, listOf ([lowV ns vs] : List Value).toArray c) :: ((ld, listOf [Value.ref 64, Value.ref 71].toArray 0) :: (news ++ own))) := N9
      refine app_L (ys := [lowV ns vs]) F9 N9' (Upd.head hrest) (by simp) ?_
      intro h3 F3 N3
      k_steps
      have N4 : News g' L' h3 (((lt, listOf ([lowV ns vs, highV ns vs] : List Value).toArray (c + 1)) :: (ld, listOf [Value.ref 64, Value.ref 71].toArray 0) :: news) ++ own) := N3
      exact InvEndG.intro F3 N4 ⟨List.mem_cons_of_mem _ List.mem_cons_self, _, rfl, rfl, rfl⟩ hoff (fun p hp => List.mem_append_left _ hp) (fun p hp => List.mem_append_right _ hp)
  · intro m₁ news₁ h tk ⟨c, hnx, hm1, hm2⟩ F N
    subst hnx
    have F2 := fr_know F hm1
    clear F F9 N9
    k_steps
    rename Fr h₀ L _ m => kF
    rename News h₀ L _ (_ :: _) => kN
    refine hret_one hret kF kN List.mem_cons_self (fun p hp => List.mem_cons_of_mem _ (List.mem_cons_of_mem _ hp)) llt ⟨_, _, rfl, rfl⟩
end
end Mine
end

-- part D3a
section
open PySem PySem.W PyProof.Rows PySem.Spec PySem.Calls
set_option maxRecDepth 100000
set_option maxHeartbeats 1000000
set_option linter.unusedVariables false
namespace Mine
/-- what one turn leaves -/
def CellEnd (h₀ : Heap) (L : Addr) (s : Shared) (nw : List (Addr × Obj)) (J : (Str → Option Value) → Prop) (s' : Shared) : Prop :=
  ∃ h' tk' m', s' = { s with heap := h', toks := tk' } ∧ Fr h₀ L h' m' ∧ News h₀ L h' nw ∧ J m'
/-- a for over a list of the ledger, its target a cell -/
theorem for_cell {prog : Program} {w : World} {A : Around} {E : Value → Shared → Prop} {Q : Flow → Shared → Prop} {s : Shared} {env : Env} {h₀ : Heap} {x : Str} {px pos : Pos} {iter : PySem.Expr} {body : List Stmt} {c D : Addr} {o₀ : Obj} {v₀ : Option Value} {vs : List Value} {kD : Nat} {m₀ : Str → Option Value} {news : List (Addr × Obj)}
    (J : Nat → (Str → Option Value) → Prop) (F₀ : Fr h₀ env.locals s.heap m₀) (hh : A.handled = none) (hk : env.scope.kind = .function) (hx : env.kindOf x = some .cell) (hc : env.cells.lookup x = some c)
    (hm : (D, listOf vs.toArray kD) ∈ news) (hcn : ∀ p ∈ news, p.1 ≠ c) (ho : o₀.data = .cell v₀)
    (hi : wpAny (model prog w) A (eval iter env) (fun xv s₁ => ∃ h₁ tk₁, xv = .ref D ∧ s₁ = { s with heap := h₁, toks := tk₁ } ∧ Fr h₀ env.locals h₁ m₀ ∧ News h₀ env.locals h₁ ((c, o₀) :: news)) E s) (hj : J 0 m₀)
    (turn : ∀ i v m₁ I oI o h tk (E' : Value → Shared → Prop), vs[i]? = some v → J i m₁ → o.data = .cell (some v) → Fr h₀ env.locals h m₁ → News h₀ env.locals h ((I, oI) :: (c, o) :: news) → (∀ p ∈ news, p.1 ≠ I) → c ≠ I →
      wpAny (model prog w) A (execs body env) (fun f s' => match f with
        | .next => CellEnd h₀ env.locals s ((I, oI) :: (c, o) :: news) (J (i + 1)) s'
        | .ret v => Q (.ret v) s'
        | _ => False) E' { s with heap := h, toks := tk })
    (done : ∀ h tk m' o, Fr h₀ env.locals h m' → News h₀ env.locals h ((c, o) :: news) → J vs.length m' → Q .next { s with heap := h, toks := tk })
    (hs : ∀ x, foldedSetIterable iter env x = pure x := by intro _; rfl) :
    wpAny (model prog w) A (exec (.For (.Name x px) iter body [] pos) env) Q E s := by
  refine wpAny_For (wpAny_mono hi (fun xv s₁ h₁ => ?_) fun _ _ e => e) hs
  obtain ⟨h₁, tk₁, rfl, rfl, F, N⟩ := h₁
  have hD := (N (D, listOf vs.toArray kD) (List.mem_cons_of_mem _ hm)).1
  refine wpAny_pyIter_list (items := vs.toArray) ⟨_, hD, rfl, _, rfl⟩ ?_
  have hI₀ : h₀.get? h₁.objs.size = none := next_is_new F
  have hIL : env.locals ≠ h₁.objs.size := Nat.ne_of_lt F.ns.lt
  have hIn : ∀ p ∈ news, p.1 ≠ h₁.objs.size := fun p hp => Nat.ne_of_lt (Heap.lt_size (N p (List.mem_cons_of_mem _ hp)).1)
  have hcI : c ≠ h₁.objs.size := Nat.ne_of_lt (Heap.lt_size (N (c, o₀) List.mem_cons_self).1)
  have hcL : c ≠ env.locals := (N (c, o₀) List.mem_cons_self).2.1
  have hc₀ : h₀.get? c = none := (N (c, o₀) List.mem_cons_self).2.2
  refine codeAny_forLoop (fun k s' => ∃ h tk i m' o v', s' = { s with heap := h, toks := tk } ∧ i ≤ vs.length ∧ k = vs.length + 1 - i ∧ h.IsListIter h₁.objs.size D i ∧ Fr h₀ env.locals h m' ∧ News h₀ env.locals h ((c, o) :: news) ∧ o.data = .cell v' ∧ J i m')
    ?_ (vs.length + 1) ⟨_, _, 0, m₀, o₀, v₀, rfl, Nat.zero_le _, rfl, ⟨_, Heap.get?_push_size _ rfl, rfl, rfl⟩, F.push _, (fun p hp => ⟨Heap.get?_push_of_some _ (N p hp).1, (N p hp).2⟩), ho, hj⟩
  rintro k s' ⟨h, tk, i, m', o, v', rfl, hi', rfl, hit, F, N, hov, hj⟩
  have hl : h.IsList D vs.toArray := ⟨_, (N (D, listOf vs.toArray kD) (List.mem_cons_of_mem _ hm)).1, rfl, _, rfl⟩
  have ap : ∀ p ∈ (c, o) :: news, p.1 ≠ h₁.objs.size := fun p hp => by
    rcases List.mem_cons.mp hp with rfl | hp
    · exact hcI
    · exact hIn p hp
  cases hv : vs[i]? with
  | none =>
    have hle : vs.length ≤ i := by simpa using hv
    obtain rfl : i = vs.length := Nat.le_antisymm hi' hle
    refine wpAny_pyNext_list_end hh hit hl (by simp) fun h₂ he₂ => ?_
    exact wpAny_execs_nil (done h₂ tk m' o ⟨F.ns.extBut he₂ hIL, fun b o e => he₂ b o (fun q => by rw [q, hI₀] at e; cases e) (F.keep b o e), F.above⟩ (fun p hp => ⟨he₂ _ _ (ap p hp) (N p hp).1, (N p hp).2⟩) hj)
  | some v =>
    have hlt : i < vs.length := (List.getElem?_eq_some_iff.mp hv).1
    refine wpAny_pyNext_list_item hit hl (by simpa using hv) fun h₂ hit₂ hs₂ => ?_
    have F₂ : Fr h₀ env.locals h₂ m' := fr_other F hs₂ hIL hI₀
    have N₂ : News h₀ env.locals h₂ ((c, o) :: news) := news_other N hs₂ ap
    refine wpAny_assign_Name (wpAny_storeName_cell hk hx hc ⟨o, (N₂ _ List.mem_cons_self).1, hov⟩ fun h₃ hcl hs₃ => ?_)
    obtain ⟨o₃, ho₃, hd₃⟩ := hcl
    have hs₃' : Heap.SameBut c h₂ h₃ := hs₃
    have F₃ : Fr h₀ env.locals h₃ m' := fr_other F₂ hs₃' (Ne.symm hcL) hc₀
    obtain ⟨oI, heI, hoI⟩ := hit₂.extBut hs₃'.extBut (Ne.symm hcI)
    have N₃ : News h₀ env.locals h₃ ((h₁.objs.size, oI) :: (c, o₃) :: news) := fun p hp => by
      rcases List.mem_cons.mp hp with rfl | hp
      · exact ⟨heI, Ne.symm hIL, hI₀⟩
      · rcases List.mem_cons.mp hp with rfl | hp
        · exact ⟨ho₃, hcL, hc₀⟩
        · exact ⟨hs₃'.extBut _ _ (hcn p hp) (N₂ p (List.mem_cons_of_mem _ hp)).1, (N₂ p (List.mem_cons_of_mem _ hp)).2⟩
    refine wpAny_mono (turn i v m' h₁.objs.size oI o₃ h₃ _ _ hv hj hd₃ F₃ N₃ hIn hcI) (fun f s₄ h₄ => ?_) fun _ _ e => e
    cases f with
    | next =>
      obtain ⟨h₄, tk₄, m₄, rfl, F₄, N₄, hj₄⟩ := h₄
      exact ⟨vs.length + 1 - (i + 1), by omega, h₄, tk₄, i + 1, m₄, o₃, some v, rfl, hlt, rfl, ⟨oI, (N₄ _ List.mem_cons_self).1, hoI⟩, F₄, fun p hp => N₄ p (List.mem_cons_of_mem _ hp), hd₃, hj₄⟩
    | ret v => exact h₄
    | brk => exact h₄.elim
    | cont => exact h₄.elim
end Mine
end

-- part D3
section
open PySem PySem.W PyProof.Rows PySem.Spec PySem.Calls
set_option maxRecDepth 100000
set_option maxHeartbeats 1000000
set_option linter.unusedVariables false
namespace Mine
open PyProof.Rows.LCg (NsObj Off3 SrcAt CompEnd lst) in
open PyProof.Rows.LCt in
/-- the turns of a comprehension [x for x in rows if ct] whose test is P of the turn's number -/
theorem rest_count {prog : Program} {w : World} {A : Around} {h₀ : Heap} {L : Addr} {m : Str → Option Value} {env : Env} {ct elt : PySem.Expr} {x : Str} {scope : Scope} {cl : List (Str × Addr)} {s : Shared} {S : List (Addr × Obj) → Prop} {its : Array Value} {Fin : List Value → List (Addr × Obj) → Prop} {news : List (Addr × Obj)} (P : Nat → Bool) (hS : S news)
    (hct : ∀ (i : Nat) v I oI C oC D ys m₂ h tk (E' : Value → Shared → Prop) (Q : Bool → Shared → Prop), its[i]? = some v → NsObj oC m₂ → m₂ x = some v → Fr h₀ L h m → News h₀ L h ((I, oI) :: (C, oC) :: (D, lst ys) :: news) → Off3 I C D news → ((@Ne Nat I C) ∧ (@Ne Nat I D) ∧ (@Ne Nat C D)) →
      (∀ tk', Q (P i) { s with heap := h, toks := tk' }) → wpAny (model prog w) A (isTrue ct (compEnvC scope cl C env) (eval ct (compEnvC scope cl C env))) Q E' { s with heap := h, toks := tk })
    (helt : ∀ (i : Nat) v I oI C oC D ys m₂ h tk (E' : Value → Shared → Prop) (Q : Value → Shared → Prop), its[i]? = some v → NsObj oC m₂ → m₂ x = some v → Fr h₀ L h m → News h₀ L h ((I, oI) :: (C, oC) :: (D, lst ys) :: news) → Off3 I C D news → ((@Ne Nat I C) ∧ (@Ne Nat I D) ∧ (@Ne Nat C D)) →
      (∀ tk', Q v { s with heap := h, toks := tk' }) → wpAny (model prog w) A (eval elt (compEnvC scope cl C env)) Q E' { s with heap := h, toks := tk })
    (fin : ∀ ys, ys.length = ((List.range its.size).filter P).length → Fin ys news) :
    ∀ (k i : Nat) (ys : List Value), i + k = its.size → ys.length = ((List.range i).filter P).length → CompRestT prog w A h₀ L m env ct elt x scope cl s S (fun i v => its[i]? = some v) Fin k i ys news
  | 0, i, ys, hk, hy => CompRestT.zero (fin ys (by rw [hy, show i = its.size by omega]))
  | k + 1, i, ys, hk, hy => by
    refine CompRestT.succ ?_
    intro v I oI C oC D m₂ h tk E' hv hC hx F N off ne
    have e : (List.range (i + 1)).filter P = (List.range i).filter P ++ (if P i then [i] else []) := by
      rw [List.range_succ, List.filter_append]
      congr 1
      simp [List.filter_cons]
    refine hct i v I oI C oC D ys m₂ h tk E' _ hv hC hx F N off ne fun tk' => ?_
    cases hP : P i with
    | true =>
      rw [if_pos rfl]
      refine helt i v I oI C oC D ys m₂ h tk' E' _ hv hC hx F N off ne fun tk'' => ?_
      refine CompEnd.intro F N news (fun p hp => hp) off hS ?_
      exact rest_count P hS hct helt fin k (i + 1) (ys ++ [v]) (by omega) (by rw [e, hP, if_pos rfl, List.length_append, List.length_append, hy]; rfl)
    | false =>
      rw [if_neg Bool.false_ne_true]
      refine CompEnd.intro F N news (fun p hp => hp) off hS ?_
      exact rest_count P hS hct helt fin k (i + 1) ys (by omega) (by rw [e, hP, if_neg Bool.false_ne_true, List.append_nil, hy])

def lessN (ns : List Int) (c : Nat) : Nat := ((List.range ns.length).filter fun i => decide (keyAt ns i < c)).length
def eqN (ns : List Int) (c : Nat) : Nat := ((List.range ns.length).filter fun i => decide (keyAt ns i = c)).length
def hitAt (ns : List Int) (p : Int) (j : Nat) : Prop := (lessN ns (keyAt ns j) : Int) ≤ p ∧ p < (lessN ns (keyAt ns j) : Int) + (eqN ns (keyAt ns j) : Int)
theorem row_at {news : List (Addr × Obj)} {vs : List Value} {ns : List Int} (hd : DatAll news vs (rowsD ns)) {i : Nat} {v : Value} (hv : vs[i]? = some v) :
    ∃ a us k, v = .ref a ∧ (a, listOf us.toArray k) ∈ news ∧ DatAll [] us (ranksOf (ns.getD i 0)) := by
  have hlen : vs.length = ns.length := by rw [hd.length]; unfold rowsD; rw [List.length_map]
  have hi : i < vs.length := (List.getElem?_eq_some_iff.mp hv).1
  obtain ⟨a, us, k, e, hm, hr⟩ := row_get hd (i := i) (by omega)
  rw [List.getD_eq_getElem?_getD, hv] at e
  exact ⟨a, us, k, e, hm, flat_nil hr (flat_ranks _)⟩
def okD : Dat → Bool
  | .int _ => true
  | .str x => PyData.strOk x
  | _ => false
theorem okD_ok {d : Dat} (k : Nat) (h : okD d = true) : kqdOk k d = true := by
  cases d <;> first | (cases k <;> rfl) | (cases k <;> exact h) | simp [okD] at h
theorem okDs : (List.range 144).all (fun r => (ranksOf (r : Nat)).all okD) = true := by decide +kernel
theorem ranks_okD (k : Nat) (n : Int) : ∀ d ∈ ranksOf n, kqdOk k d = true := by
  obtain ⟨_, e⟩ := ok_of n
  have h0 : 0 ≤ n % 144 := Int.emod_nonneg _ (by decide)
  have h1 : n % 144 < 144 := Int.emod_lt_of_pos _ (by decide)
  have h := List.all_eq_true.mp okDs (n % 144).toNat (List.mem_range.mpr (by omega))
  rw [ranks_mod, ← e]
  exact fun d hd => okD_ok k (List.all_eq_true.mp h d hd)
theorem lessN_le (ns : List Int) (c : Nat) : lessN ns c ≤ ns.length := by
  have := List.length_filter_le (fun i => decide (keyAt ns i < c)) (List.range ns.length)
  rw [List.length_range] at this
  exact this
theorem eqN_le (ns : List Int) (c : Nat) : eqN ns c ≤ ns.length := by
  have := List.length_filter_le (fun i => decide (keyAt ns i = c)) (List.range ns.length)
  rw [List.length_range] at this
  exact this
section
variable {prog : Program} {w : World} {A : Around} {E : Value → Shared → Prop} {s : Shared} {h₀ : Heap} {L a b : Addr} {news : List (Addr × Obj)} {us ws : List Value} {x y : Int} {ka kb : Nat} {Q : Value → Shared → Prop}
theorem row_lt (N : News h₀ L s.heap news) (ma : (a, listOf us.toArray ka) ∈ news) (mb : (b, listOf ws.toArray kb) ∈ news) (da : DatAll [] us (ranksOf x)) (db : DatAll [] ws (ranksOf y)) (hu : A.units + 64 < cLine) (h : Q (.bool (decide (keyR x < keyR y))) s) :
    wpAny (model prog w) A (compareOp .Lt (.ref a) (.ref b)) Q E s :=
  cmp_list (N _ ma).1 (N _ mb).1 da db (flat_ranks x) (flat_ranks y) (pair_ok x y).1 (by omega) h
theorem row_eq (N : News h₀ L s.heap news) (ma : (a, listOf us.toArray ka) ∈ news) (mb : (b, listOf ws.toArray kb) ∈ news) (da : DatAll [] us (ranksOf x)) (db : DatAll [] ws (ranksOf y)) (hu : A.units + 64 < cLine) (h : Q (.bool (decide (keyR x = keyR y))) s) :
    wpAny (model prog w) A (compareOp .Eq (.ref a) (.ref b)) Q E s := by
  refine kqd_eq N ma rfl rfl da (fun _ h => nomatch h) mb rfl rfl db (fun _ h => nomatch h) (ranks_okD 8 x) (ranks_okD 8 y) hu ?_
  rw [decide_eq_decide.mpr (pair_ok x y).2]
  exact h
end
section
local macro_rules | `(tactic| walk_at "eval ListComp") => `(tactic| refine Hold.out ?_)
local macro_rules | `(tactic| walk_at "call builtin:len") => `(tactic| refine Hold.out ?_)
local macro_rules | `(tactic| walk_at "CompSrcT") => `(tactic| refine Hold.out ?_)
local macro_rules | `(tactic| walk_at "compareOp Lt ref ref") => `(tactic| refine Hold.out ?_)
local macro_rules | `(tactic| walk_at "compareOp Eq ref ref") => `(tactic| refine Hold.out ?_)
theorem at_con (w : World) (mean : ExcName → Option Value) (mg mb : Str → Option Value) (l : Addr) (vs : List Value) (kl : Nat) (ns : List Int) (p : Int) (t : Tok) (news : List (Addr × Obj)) (hm : (l, listOf vs.toArray kl) ∈ news) (hdd : DatAll news vs (rowsD ns)) (h64 : ns.length < 64) :
    Con 3 w mean mg mb 97 [.ref l, .int p t] news (fun tl r => tl = [] ∧ ((∃ j, j < ns.length ∧ hitAt ns p j ∧ r = vs.getD j Value.none) ∨ ((∀ j, j < ns.length → ¬ hitAt ns p j) ∧ ∃ u, r = .str "StatisticsError" u))) := by
  unfold Con
  intro dp un gd cn cs a ccd cl outer A₀ base h₀ L m s Q E B F X N T hk hdp hun hret
  refine wpAny_call ?_
  refine code_defC (binds := [(Str.ofString "rows", .ref l), (Str.ofString "place", .int p t)]) B F X N T rfl rfl hk (by k_is) (by k_is) (by show dp < 1000; omega) (BindsTo.of_eq rfl) rfl (by decide +kernel) ?_ rfl rfl rfl
  intro g' L' h' tk' cells' FG' F' N' Y' B' X' T' l1
  obtain ⟨oc, rfl, hoc⟩ := CellsAre.one Y'
  simp only [List.cons_append, List.nil_append] at N'
  dsimp only
  have hlen : vs.length = ns.length := by rw [hdd.length]; unfold rowsD; rw [List.length_map]
  k_lift B'
  refine wpAny_execs_cons ?_
  refine for_cell (c := L' + 1) (o₀ := oc) (D := l) (vs := vs) (kD := kl) (news := news) (fun i m₁ => (∀ j, j < i → ¬ hitAt ns p j) ∧ m₁ (Str.ofString "rows") = some (.ref l) ∧ m₁ (Str.ofString "place") = some (.int p t)) F' rfl rfl rfl rfl hm (fun q hq => Nat.ne_of_lt (Nat.lt_succ_of_lt (l1 q hq))) hoc ?_ ⟨fun j hj => absurd hj (Nat.not_lt_zero _), rfl, rfl⟩ ?_ ?_
  · k_steps
    · exact F'
    · exact N'
  · intro i v m₁ I oI o h tk E' hv ⟨hno, hm1, hm2⟩ ho F2 N2 hIn hcI
    have F3 := fr_know (fr_know F2 hm2) (x := Str.ofString "rows") (by rw [if_neg (by decide)]; exact hm1)
    clear F2 F' N'
    obtain ⟨b, ws, kb, rfl, mb, db⟩ := row_at hdd hv
    k_steps
    refine Hold.in' ?_
    refine LCt.ListComp_T (F₀ := F3) (by with_unfolding_all rfl) (by decide) (by rfl) (by decide) (by rfl) ?_
    k_steps
    refine Hold.in' ?_
    refine LCt.CompSrcT.ledger (its := vs.toArray) rfl F3 N2 (List.mem_cons_of_mem _ (List.mem_cons_of_mem _ hm)) (by rw [List.size_toArray, sizeLine_eq]; omega) ?_
    intro g
    have hup : ∀ {I2 C2 D2 : Addr} {oI2 oC2 oD2 : Obj}, ∀ q ∈ news, q ∈ (I2, oI2) :: (C2, oC2) :: (D2, oD2) :: (I, oI) :: (L' + 1, o) :: news := fun q hq => List.mem_cons_of_mem _ (List.mem_cons_of_mem _ (List.mem_cons_of_mem _ (List.mem_cons_of_mem _ (List.mem_cons_of_mem _ hq))))
    refine rest_count (fun j => decide (keyAt ns j < keyAt ns i)) (.inr ⟨_, List.mem_cons_of_mem _ (List.mem_cons_of_mem _ hm), rfl, _, rfl⟩) ?_ ?_ ?_ _ 0 [] (Nat.zero_add _) rfl
    · intro i2 v2 I2 oI2 C2 oC2 D2 ys2 m2 h2 tk2 E2 Q2 hv2 hC2 hx2 F4 N4 off4 ne4 hQ2
      obtain ⟨a2, us, ka, rfl, ma, da⟩ := row_at hdd (by simpa using hv2)
      k_steps
      refine Hold.in' ?_
      refine row_lt N4 (x := ns.getD i2 0) (y := ns.getD i 0) (hup _ ma) (hup _ mb) da db (by show un + 3 + 64 < 9900; omega) ?_
      k_steps
      exact hQ2 _
    · intro i2 v2 I2 oI2 C2 oC2 D2 ys2 m2 h2 tk2 E2 Q2 hv2 hC2 hx2 F4 N4 off4 ne4 hQ2
      k_steps
      exact hQ2 _
    · intro ys hys
      unfold LCg.FinE
      intro D2 h2 tk2 F4 N4 off4
      have hy' : ys.length = lessN ns (keyAt ns i) := by rw [hys, List.size_toArray, hlen]; rfl
      have hle := lessN_le ns (keyAt ns i)
      clear F3 N2
      k_steps
      refine Hold.in' ?_
      refine len_at N4 List.mem_cons_self hy' (by omega) ?_
      k_steps
      · rename_i hge
        refine Hold.in' ?_
        rename Fr g' _ _ _ => F5
        rename News g' _ _ _ => N5
        refine LCt.ListComp_T (F₀ := F5) (by with_unfolding_all rfl) (by decide) (by rfl) (by decide) (by rfl) ?_
        k_steps
        refine Hold.in' ?_
        refine LCt.CompSrcT.ledger (its := vs.toArray) rfl F5 N5 (List.mem_cons_of_mem _ (List.mem_cons_of_mem _ (List.mem_cons_of_mem _ hm))) (by rw [List.size_toArray, sizeLine_eq]; omega) ?_
        intro g5
        have hup5 : ∀ {I3 C3 D3 : Addr} {oI3 oC3 oD3 : Obj}, ∀ q ∈ news, q ∈ (I3, oI3) :: (C3, oC3) :: (D3, oD3) :: (D2, LCg.lst ys) :: (I, oI) :: (L' + 1, o) :: news := fun q hq => List.mem_cons_of_mem _ (List.mem_cons_of_mem _ (List.mem_cons_of_mem _ (List.mem_cons_of_mem _ (List.mem_cons_of_mem _ (List.mem_cons_of_mem _ hq)))))
        refine rest_count (fun j => decide (keyAt ns j = keyAt ns i)) (.inr ⟨_, List.mem_cons_of_mem _ (List.mem_cons_of_mem _ (List.mem_cons_of_mem _ hm)), rfl, _, rfl⟩) ?_ ?_ ?_ _ 0 [] (Nat.zero_add _) rfl
        · intro i2 v2 I2 oI2 C2 oC2 D3 ys2 m2 h3 tk3 E2 Q2 hv2 hC2 hx2 F6 N6 off4 ne4 hQ2
          obtain ⟨a2, us, ka, rfl, ma, da⟩ := row_at hdd (by simpa using hv2)
          k_steps
          refine Hold.in' ?_
          refine row_eq N6 (x := ns.getD i2 0) (y := ns.getD i 0) (hup5 _ ma) (hup5 _ mb) da db (by show un + 3 + 64 < 9900; omega) ?_
          k_steps
          exact hQ2 _
        · intro i2 v2 I2 oI2 C2 oC2 D3 ys2 m2 h3 tk3 E2 Q2 hv2 hC2 hx2 F6 N6 off4 ne4 hQ2
          k_steps
          exact hQ2 _
        · intro ys3 hys3
          unfold LCg.FinE
          intro D3 h3 tk3 F6 N6 off6
          have hy3 : ys3.length = eqN ns (keyAt ns i) := by rw [hys3, List.size_toArray, hlen]; rfl
          have hle3 := eqN_le ns (keyAt ns i)
          clear F4 N4 F5 N5
          k_steps
          refine Hold.in' ?_
          refine len_at N6 List.mem_cons_self hy3 (by omega) ?_
          k_steps
          · rename Fr h₀ L _ m => kF
            rename News h₀ L _ (_ :: _) => kN
            refine hret _ [] _ _ kF (fun q hq => kN q (List.mem_cons_of_mem _ (List.mem_cons_of_mem _ (List.mem_cons_of_mem _ (List.mem_cons_of_mem _ hq))))) (fun _ _ _ h => nomatch h) ⟨rfl, .inl ⟨i, ?_, ⟨hge, by assumption⟩, ?_⟩⟩
            · rw [← hlen]; exact (List.getElem?_eq_some_iff.mp hv).1
            · rw [List.getD_eq_getElem?_getD, hv]; rfl
          · refine ⟨_, _, _, rfl, F6, fun q hq => N6 q (List.mem_cons_of_mem _ (List.mem_cons_of_mem _ hq)), fun j hj hh => ?_, rfl, rfl⟩
            rcases Nat.lt_or_ge j i with hji | hji
            · exact hno j hji hh
            · obtain rfl : j = i := by omega
              exact absurd hh.2 (by assumption)
      · rename Fr g' L' _ _ => F5
        rename News g' L' _ _ => N5
        refine ⟨_, _, _, rfl, F5, fun q hq => N5 q (List.mem_cons_of_mem _ hq), fun j hj hh => ?_, rfl, rfl⟩
        rcases Nat.lt_or_ge j i with hji | hji
        · exact hno j hji hh
        · obtain rfl : j = i := by omega
          exact absurd hh.1 (by assumption)
  · intro h tk m' o F2 N2 ⟨hno, hm1, hm2⟩
    dsimp only
    k_steps
    rename Fr h₀ L _ m => kF
    rename News h₀ L _ (_ :: _) => kN
    rw [hlen] at hno
    exact hret _ [] _ _ kF (fun p hp => kN p (List.mem_cons_of_mem _ hp)) (fun _ _ _ h => nomatch h) ⟨rfl, .inr ⟨hno, _, rfl⟩⟩
end
end Mine
end

-- part P3
section
open PySem PySem.W PyProof.Rows
set_option maxHeartbeats 1000000
namespace Mine
theorem filter_two {α : Type} {p q r : α → Bool} (h : ∀ x, p x = true → r x = true ∧ q x = false) (h' : ∀ x, q x = true → r x = true) : ∀ l : List α, (l.filter p).length + (l.filter q).length ≤ (l.filter r).length
  | [] => by simp
  | x :: l => by
    have ih := filter_two h h' l
    simp only [List.filter_cons]
    cases hp : p x <;> cases hq : q x <;> cases hr : r x
    all_goals first
      | (have := (h x hp); simp_all; done)
      | (have := (h' x hq); simp_all; done)
      | (simp only [if_true, if_false, Bool.false_eq_true, List.length_cons]; omega)
theorem filter_sub {α : Type} {p q r : α → Bool} (h : ∀ x, r x = true → p x = true ∨ q x = true) : ∀ l : List α, (l.filter r).length ≤ (l.filter p).length + (l.filter q).length
  | [] => by simp
  | x :: l => by
    have ih := filter_sub h l
    simp only [List.filter_cons]
    cases hp : p x <;> cases hq : q x <;> cases hr : r x
    all_goals first
      | (have := (h x hr); simp_all; done)
      | (simp only [if_true, if_false, Bool.false_eq_true, List.length_cons]; omega)
theorem less_mono (ns : List Int) {c c' : Nat} (h : c < c') : lessN ns c + eqN ns c ≤ lessN ns c' := by
  unfold lessN eqN
  refine filter_two (fun x hx => ?_) (fun x hx => ?_) _
  · simp only [decide_eq_true_eq, decide_eq_false_iff_not] at hx ⊢
    omega
  · simp only [decide_eq_true_eq] at hx ⊢
    omega
theorem hit_one {ns : List Int} {p : Int} {i j : Nat} (hi : hitAt ns p i) (hj : hitAt ns p j) : keyAt ns i = keyAt ns j := by
  rcases Nat.lt_trichotomy (keyAt ns i) (keyAt ns j) with h | h | h
  · have := less_mono ns h
    have a := hi.2
    have b := hj.1
    omega
  · exact h
  · have := less_mono ns h
    have a := hj.2
    have b := hi.1
    omega
theorem sort_lt {ns : List Int} {q : Nat} (hq : q < ns.length) : (sortP ns).getD q 0 < ns.length := by
  obtain ⟨hp, hsz, _⟩ := sort_ok (keyAt ns) (n := ns.length) (by omega)
  have hq' : q < (sortP ns).size := by show q < Array.size (runK _ _); rw [hsz]; exact hq
  have hm : (sortP ns).getD q 0 ∈ sortP ns := by
    rw [Array.getD_eq_getD_getElem?, Array.getElem?_eq_getElem hq']
    exact Array.getElem_mem _
  have := hp.mem_iff.mp hm
  simpa using this
theorem sort_hit {ns : List Int} {q : Nat} (hq : q < ns.length) : hitAt ns q ((sortP ns).getD q 0) := by
  obtain ⟨hp, hsz, hup⟩ := sort_ok (keyAt ns) (n := ns.length) (by omega)
  have hsz' : (sortP ns).size = ns.length := hsz
  have hl : (sortP ns).toList.length = ns.length := by rw [Array.length_toList]; exact hsz'
  have hperm : (sortP ns).toList.Perm (List.range ns.length) := by
    have := hp.toList
    simp only [List.toList_toArray] at this
    exact this
  have hkk : ∀ i, kk (keyAt ns) (sortP ns) i = keyAt ns ((sortP ns).getD i 0) := fun i => (kk_getD _ _ _).symm
  have hup' : ∀ i j, i ≤ j → j < ns.length → keyAt ns ((sortP ns).getD i 0) ≤ keyAt ns ((sortP ns).getD j 0) := fun i j hij hj => by
    rw [← hkk, ← hkk]; exact hup i j hij hj
  have hget : ∀ i (hi : i < (sortP ns).toList.length), (sortP ns).toList[i] = (sortP ns).getD i 0 := fun i hi => by
    rw [Array.getD_eq_getD_getElem?, Array.getElem?_eq_getElem (by rw [hsz', ← hl]; exact hi)]
    simp
  have hc : ∀ P : Nat → Bool, ((List.range ns.length).filter P).length = ((sortP ns).toList.filter P).length := fun P => ((hperm.filter P).length_eq).symm
  have hsplit : (sortP ns).toList = (sortP ns).toList.take q ++ (sortP ns).toList.drop q := (List.take_append_drop _ _).symm
  have hsplit1 : (sortP ns).toList = (sortP ns).toList.take (q + 1) ++ (sortP ns).toList.drop (q + 1) := (List.take_append_drop _ _).symm
  have h1 : lessN ns (keyAt ns ((sortP ns).getD q 0)) ≤ q := by
    unfold lessN
    rw [hc, hsplit, List.filter_append, List.length_append]
    have e2 : ((sortP ns).toList.drop q).filter (fun i => decide (keyAt ns i < keyAt ns ((sortP ns).getD q 0))) = [] := by
      rw [List.filter_eq_nil_iff]
      intro x hx
      obtain ⟨i, hi, rfl⟩ := List.mem_iff_getElem.mp hx
      rw [List.length_drop] at hi
      rw [List.getElem_drop, hget]
      have := hup' q (q + i) (by omega) (by omega)
      simp only [decide_eq_true_eq]
      omega
    have e3 := List.length_filter_le (fun i => decide (keyAt ns i < keyAt ns ((sortP ns).getD q 0))) ((sortP ns).toList.take q)
    rw [List.length_take] at e3
    rw [e2]
    simp only [List.length_nil, Nat.add_zero]
    omega
  have h2 : q < lessN ns (keyAt ns ((sortP ns).getD q 0)) + eqN ns (keyAt ns ((sortP ns).getD q 0)) := by
    have hs := filter_sub (p := fun i => decide (keyAt ns i < keyAt ns ((sortP ns).getD q 0))) (q := fun i => decide (keyAt ns i = keyAt ns ((sortP ns).getD q 0))) (r := fun i => decide (keyAt ns i ≤ keyAt ns ((sortP ns).getD q 0))) (fun x hx => by
      simp only [decide_eq_true_eq] at hx ⊢; omega) (List.range ns.length)
    refine Nat.lt_of_lt_of_le ?_ hs
    rw [hc, hsplit1, List.filter_append, List.length_append]
    have e2 : ((sortP ns).toList.take (q + 1)).filter (fun i => decide (keyAt ns i ≤ keyAt ns ((sortP ns).getD q 0))) = (sortP ns).toList.take (q + 1) := by
      rw [List.filter_eq_self]
      intro x hx
      obtain ⟨i, hi, rfl⟩ := List.mem_iff_getElem.mp hx
      rw [List.length_take] at hi
      rw [List.getElem_take, hget]
      have := hup' i q (by omega) (by omega)
      simp only [decide_eq_true_eq]
      omega
    rw [e2, List.length_take]
    omega
  exact ⟨by exact_mod_cast h1, by exact_mod_cast h2⟩
theorem keyR_ranks {a b : Int} (h : keyR a = keyR b) : ranksOf a = ranksOf b := (pair_ok a b).2.mpr h
/-- the row found by counting is the row at that place of the sorted rows -/
theorem mid_row {ns : List Int} {q j : Nat} (hq : q < ns.length) (hj : hitAt ns q j) : ranksOf (ns.getD j 0) = ranksOf (ns.getD ((sortP ns).getD q 0) 0) :=
  keyR_ranks (hit_one hj (sort_hit hq))
theorem mid_some {ns : List Int} {q : Nat} (hq : q < ns.length) (h : ∀ j, j < ns.length → ¬ hitAt ns q j) : False := h _ (sort_lt hq) (sort_hit hq)
end Mine
end

-- part D4a
section
open PySem PySem.W PyProof.Rows PySem.Spec PySem.Calls
set_option maxRecDepth 100000
set_option maxHeartbeats 1000000
set_option linter.unusedVariables false
namespace Mine
/-- what one turn leaves, the ground turned -/
def TurnS (G : Heap → Prop) (L : Addr) (s : Shared) (I : Addr) (oI : Obj) (J : (Str → Option Value) → List (Addr × Obj) → Prop) (s' : Shared) : Prop :=
  ∃ g' h' tk' m' nw', s' = { s with heap := h', toks := tk' } ∧ G g' ∧ Fr g' L h' m' ∧ News g' L h' ((I, oI) :: nw') ∧ (∀ p ∈ nw', p.1 ≠ I) ∧ J m' nw'
/-- the loop's start -/
def SrcS (prog : Program) (w : World) (A : Around) (env : Env) (x : Str) (body : List Stmt) (Q : Flow → Shared → Prop) (G : Heap → Prop) (s : Shared) (xv : Value) (s₁ : Shared) : Prop :=
  ∃ g h₁ tk₁ m₀ nw₀ D vs kD, ∃ J : Nat → (Str → Option Value) → List (Addr × Obj) → Prop, xv = .ref D ∧ s₁ = { s with heap := h₁, toks := tk₁ } ∧ G g ∧ Fr g env.locals h₁ m₀ ∧ News g env.locals h₁ nw₀ ∧ J 0 m₀ nw₀ ∧
      (∀ i m nw, J i m nw → (D, listOf (vs : List Value).toArray kD) ∈ nw) ∧
      (∀ i v g m₁ nw I oI h tk, vs[i]? = some v → G g → J i m₁ nw → Fr g env.locals h (fun y => if y = x then some v else m₁ y) → News g env.locals h ((I, oI) :: nw) → (∀ p ∈ nw, p.1 ≠ I) →
        wpAny (model prog w) A (execs body env) (fun f s' => match f with
          | .next => TurnS G env.locals s I oI (J (i + 1)) s'
          | _ => False) noE { s with heap := h, toks := tk }) ∧
      ∀ g h tk m' nw, G g → Fr g env.locals h m' → News g env.locals h nw → J vs.length m' nw → Q .next { s with heap := h, toks := tk }
/-- a for over a list of the ledger whose turns may turn the ground -/
theorem for_list_S {prog : Program} {w : World} {A : Around} {E : Value → Shared → Prop} {Q : Flow → Shared → Prop} {s : Shared} {env : Env} {x : Str} {px pos : Pos} {iter : PySem.Expr} {body : List Stmt}
    (G : Heap → Prop) (hh : A.handled = none) (hx : env.kindOf x = some .local) (hp : (env.scope.kind == .class || (env.scope.kind == .module && env.locals != env.globals)) = false)
    (hi : wpAny (model prog w) A (eval iter env) (SrcS prog w A env x body Q G s) E s)
    (hs : ∀ x, foldedSetIterable iter env x = pure x := by intro _; rfl) :
    wpAny (model prog w) A (exec (.For (.Name x px) iter body [] pos) env) Q E s := by
  refine wpAny_For (wpAny_mono hi (fun xv s₁ h₁ => ?_) fun _ _ e => e) hs
  obtain ⟨g, h₁, tk₁, m₀, nw₀, D, vs, kD, J, rfl, rfl, hG, F, N, hj, hJD, turn, done⟩ := h₁
  have hD := (N _ (hJD _ _ _ hj)).1
  refine wpAny_pyIter_list (items := vs.toArray) ⟨_, hD, rfl, _, rfl⟩ ?_
  have hI₀ : ∀ b, h₁.objs.size ≤ b → g.get? b = none := fun b hb => by
    cases e : g.get? b with
    | none => rfl
    | some o => exact absurd (Heap.lt_size (F.keep _ _ e)) (Nat.not_lt.mpr hb)
  have hIL : env.locals ≠ h₁.objs.size := Nat.ne_of_lt F.ns.lt
  refine codeAny_forLoop (fun k s' => ∃ g h tk i m' nw oI, s' = { s with heap := h, toks := tk } ∧ i ≤ vs.length ∧ k = vs.length + 1 - i ∧ G g ∧ oI.cls = .type "list_iterator" ∧ oI.data = .fields #[.ref D, .int i 0] ∧ Fr g env.locals h m' ∧ News g env.locals h ((h₁.objs.size, oI) :: nw) ∧ (∀ p ∈ nw, p.1 ≠ h₁.objs.size) ∧ J i m' nw)
    ?_ (vs.length + 1) ⟨g, _, _, 0, m₀, nw₀, { cls := .type "list_iterator", data := .fields #[.ref D, .int 0 0] }, rfl, Nat.zero_le _, rfl, hG, rfl, rfl, F.push _, (fun p hp => ?_), (fun p hp => Nat.ne_of_lt (Heap.lt_size (N p hp).1)), hj⟩
  rotate_left
  · rcases List.mem_cons.mp hp with rfl | hp
    · exact ⟨Heap.get?_push_size _ rfl, Ne.symm hIL, hI₀ _ (Nat.le_refl _)⟩
    · exact ⟨Heap.get?_push_of_some _ (N p hp).1, (N p hp).2⟩
  rintro k s' ⟨g, h, tk, i, m', nw, oI, rfl, hi', rfl, hG, hoc, hod, F, N, ap, hj⟩
  have hIg : g.get? h₁.objs.size = none := (N _ List.mem_cons_self).2.2
  have N' : News g env.locals h nw := fun p hp => N p (List.mem_cons_of_mem _ hp)
  have hit : h.IsListIter h₁.objs.size D i := ⟨oI, (N _ List.mem_cons_self).1, hoc, hod⟩
  have hl : h.IsList D vs.toArray := ⟨_, (N' _ (hJD _ _ _ hj)).1, rfl, _, rfl⟩
  cases hv : vs[i]? with
  | none =>
    have hle : vs.length ≤ i := by simpa using hv
    obtain rfl : i = vs.length := Nat.le_antisymm hi' hle
    refine wpAny_pyNext_list_end hh hit hl (by simp) fun h₂ he₂ => ?_
    exact wpAny_execs_nil (done g h₂ tk m' nw hG ⟨F.ns.extBut he₂ hIL, fun b o e => he₂ b o (fun q => by rw [q, hIg] at e; cases e) (F.keep b o e), F.above⟩ (fun p hp => ⟨he₂ _ _ (ap p hp) (N' p hp).1, (N' p hp).2⟩) hj)
  | some v =>
    have hlt : i < vs.length := (List.getElem?_eq_some_iff.mp hv).1
    refine wpAny_pyNext_list_item hit hl (by simpa using hv) fun h₂ hit₂ hs₂ => ?_
    have F₂ : Fr g env.locals h₂ m' := fr_other F hs₂ hIL hIg
    refine wpAny_assign_Name (wpAny_storeName_local hx F₂.ns (fun h₃ hn₃ hs₃ => ?_) hp)
    have hL₀ : g.get? env.locals = none := Heap.get?_none_of_le F.above
    have F₃ : Fr g env.locals h₃ (fun y => if y = x then some v else m' y) := ⟨hn₃, fun b o e => hs₃.extBut b o (fun q => by rw [q, hL₀] at e; cases e) (F₂.keep b o e), F.above⟩
    have N₃ : News g env.locals h₃ nw := news_other (news_other N' hs₂ ap) hs₃ fun p hp => (N' p hp).2.1
    obtain ⟨oI₃, heI, hoI, hoI2⟩ := hit₂.extBut hs₃.extBut (Ne.symm hIL)
    refine wpAny_mono (turn i v g m' nw h₁.objs.size oI₃ h₃ _ hv hG hj F₃ (fun p hp => ?_) ap) (fun f s₄ h₄ => ?_) fun _ _ e => e.elim
    · rcases List.mem_cons.mp hp with rfl | hp
      · exact ⟨heI, Ne.symm hIL, hIg⟩
      · exact N₃ p hp
    · cases f with
      | next =>
        obtain ⟨g₄, h₄, tk₄, m₄, nw₄, rfl, hG₄, F₄, N₄, ap₄, hj₄⟩ := h₄
        exact ⟨vs.length + 1 - (i + 1), by omega, g₄, h₄, tk₄, i + 1, m₄, nw₄, oI₃, rfl, hlt, rfl, hG₄, hoI, hoI2, F₄, N₄, ap₄, hj₄⟩
      | ret v => exact h₄.elim
      | brk => exact h₄.elim
      | cont => exact h₄.elim
end Mine
end

-- part D4
section
open PySem PySem.W PyProof.Rows PySem.Spec PySem.Calls
set_option maxRecDepth 100000
set_option maxHeartbeats 1000000
set_option linter.unusedVariables false
namespace Mine
def errS (t u : Tok) : List Value := [.str "StatisticsError" t, .str "StatisticsError" u]
section
local macro_rules | `(tactic| walk_at "call builtin:sorted") => `(tactic| refine Hold.out ?_)
local macro_rules | `(tactic| walk_at "pyIter ref") => `(tactic| refine Hold.out ?_)
local macro_rules | `(tactic| walk_at "exec For Name List cons nil") => `(tactic| refine Hold.out ?_)
theorem told0_con (w : World) (mean : ExcName → Option Value) (mg mb : Str → Option Value) (l : Addr) (kl : Nat) (news : List (Addr × Obj)) (hm : (l, listOf ([] : List Value).toArray kl) ∈ news)
    (dp un : Nat) (gd : Option (List Code)) (cn : Str) (cs : Scope) (a : Addr) (ccd : Value) (A₀ : Around) (base h₀ : Heap) (L : Addr) (m : Str → Option Value) (s : Shared) (Q E : Value → Shared → Prop)
    (B : Below A₀ base [] h₀) (XB : (hd.heap_39 w.params).In base) (TB : Top hd.view_39 loos mean mg mb base) (F : Fr h₀ L s.heap m) (X : (hd.heap_39 w.params).In h₀) (N : News h₀ L s.heap news) (T : Top hd.view_39 loos mean mg mb h₀) (hk : cs.kind = .function) (hdp : dp + 3 < 900) (hun : un + 300 < 9000)
    (hret : ∀ D k t u h' tk', Fr h₀ L h' m → News h₀ L h' ((D, listOf (errS t u).toArray k) :: news) → (∀ q ∈ news, q.1 < D) → Q (.ref D) { s with heap := h', toks := tk' }) :
    wpAny (model PySem.Challenge.pw_mr0083_01 w) (ktrTop dp un gd cn cs L a ccd [] []) (call (.ref 104) [.ref l]) Q E s := by
  refine wpAny_call ?_
  refine code_defS0 (binds := [(Str.ofString "rows", .ref l)]) B F X N T rfl (by k_is) (by k_is) (by show dp < 1000; omega) (BindsTo.of_eq rfl) (locs rfl) ?_ hk rfl rfl rfl (by decide)
  intro g' L' h' FG' F' N' B' X' T' D'
  dsimp only
  k_fold
  k_steps
  refine Hold.in' ?_
  (try dsimp only at *)
  rename Fr g' L' _ _ => F9
  rename News g' L' _ _ => N9
  rename_i lt _ llt _
  refine for_list_S (fun g => KtsTurn ([envOf cn cs L a ccd].filterMap (·.frame)) g' g ∧ Below (ktrTop dp un gd cn cs L a ccd [] []) base [envOf cn cs L a ccd] g ∧ (hd.heap_39 w.params).In g ∧ Top hd.view_39 loos mean mg mb g ∧ KtsDicts ([envOf cn cs L a ccd].filterMap (·.frame)) g) rfl rfl rfl ?_
  k_steps
  rename Fr g' L' _ _ => F9
  rename News g' L' _ _ => N9
  rename_i ld _ ltd
  refine ⟨g', _, _, _, _, ld, [.ref 64, .ref 71], 0, fun i m₁ nx => ∃ c t u, nx = (lt, listOf ((errS t u).take i).toArray c) :: (ld, listOf [Value.ref 64, Value.ref 71].toArray 0) :: news ∧ m₁ (Str.ofString "told") = some (.ref lt) ∧ m₁ (Str.ofString "rows") = some (.ref l), rfl, rfl, ⟨KtsTurn.refl, B', X', T', D'⟩, F9, news_swap N9, ⟨0, 0, 0, rfl, rfl, rfl⟩, ?_, ?_, ?_⟩
  · rintro i m₁ nx ⟨c, t, u, rfl, _⟩
    exact List.mem_cons_of_mem _ List.mem_cons_self
  · rintro i v g m₁ nw I oI h tk hv ⟨g1, g2, g3, g4, g5⟩ ⟨c, t, u, rfl, hm1, hm2⟩ F N off
    clear F9 N9
    have F2 := fr_know (fr_know F (x := Str.ofString "told") (by rw [if_neg (by decide)]; exact hm1)) (x := Str.ofString "rows") (by rw [if_neg (by decide), if_neg (by decide)]; exact hm2)
    clear F
    have hi : i = 0 ∨ i = 1 := by
      have := (List.getElem?_eq_some_iff.mp hv).1
      simp at this
      omega
    have hrest : ∀ p ∈ (ld, listOf [Value.ref 64, Value.ref 71].toArray 0) :: news, p.1 ≠ lt := by
      intro p hp
      rcases List.mem_cons.mp hp with rfl | hp
      · exact Nat.ne_of_gt ltd.1
      · exact Nat.ne_of_lt (llt p hp)
    have hltI : lt ≠ I := off (lt, listOf ((errS t u).take i).toArray c) List.mem_cons_self
    rcases hi with rfl | rfl
    · cases hv
      k_steps
      refine wpAny_call ?_
      refine code_def (binds := [(Str.ofString "data", .ref l)]) g2 F2 g3 N g4 rfl rfl rfl (by k_is) (by k_is) (by show dp + 1 < 1000; omega) (BindsTo.of_eq rfl) (locs rfl) ?_ rfl rfl rfl (by decide)
      intro G5 L5 h5 FG5 F5 N5 B5 X5 T5
      dsimp only
      k_fold
      k_steps
      refine Hold.in' ?_
      refine sorted_few (vs := []) F5 N5 ⟨_, (N5 _ (List.mem_cons_of_mem _ (List.mem_cons_of_mem _ (List.mem_cons_of_mem _ hm)))).1, rfl, _, rfl⟩ (by simp) ?_
      intro D6 c6 h6 F6 N6 hlt6
      clear F5 N5
      k_steps
      rename KtsTurn _ _ _ => kT
      rename Fr _ L' _ _ => kF
      rename Got _ _ _ _ _ => kG
      rename News _ L' _ (_ :: _) => kN
      rename Below _ _ _ _ => kB
      rename (hd.heap_39 w.params).In _ => kX
      rename Top _ _ _ _ _ _ => kTT
      rename KtsDicts _ _ => kD
      rename_i tk9
      have kN' : News _ L' _ ((D6, listOf ([] : List Value).toArray c6) :: (I, oI) :: (lt, listOf ([] : List Value).toArray c) :: (ld, listOf [Value.ref 64, Value.ref 71].toArray 0) :: news) := kN
      refine app_L (ys := []) kF kN' (Upd.tail (Nat.ne_of_gt (hlt6 (lt, _) (List.mem_cons_of_mem _ List.mem_cons_self))) (Upd.tail (Ne.symm hltI) (Upd.head hrest))) (by simp) ?_
      intro h7 F7 N7
      k_steps
      refine ⟨_, _, _, _, _, rfl, ⟨kT, kB, kX, kTT, kD⟩, F7, fun p hp => N7 p (List.mem_cons_of_mem _ hp), ?_, c + 1, _, u, rfl, rfl, rfl⟩
      intro p hp
      rcases List.mem_cons.mp hp with rfl | hp
      · exact hltI
      · exact off p (List.mem_cons_of_mem _ hp)
    · cases hv
      k_steps
      refine wpAny_call ?_
      refine code_def (binds := [(Str.ofString "data", .ref l)]) g2 F2 g3 N g4 rfl rfl rfl (by k_is) (by k_is) (by show dp + 1 < 1000; omega) (BindsTo.of_eq rfl) (locs rfl) ?_ rfl rfl rfl (by decide)
      intro G5 L5 h5 FG5 F5 N5 B5 X5 T5
      dsimp only
      k_fold
      k_steps
      refine Hold.in' ?_
      refine sorted_few (vs := []) F5 N5 ⟨_, (N5 _ (List.mem_cons_of_mem _ (List.mem_cons_of_mem _ (List.mem_cons_of_mem _ hm)))).1, rfl, _, rfl⟩ (by simp) ?_
      intro D6 c6 h6 F6 N6 hlt6
      clear F5 N5
      k_steps
      rename KtsTurn _ _ _ => kT
      rename Fr _ L' _ _ => kF
      rename Got _ _ _ _ _ => kG
      rename News _ L' _ (_ :: _) => kN
      rename Below _ _ _ _ => kB
      rename (hd.heap_39 w.params).In _ => kX
      rename Top _ _ _ _ _ _ => kTT
      rename KtsDicts _ _ => kD
      rename_i tk9
      have kN' : News _ L' _ ((D6, listOf ([] : List Value).toArray c6) :: (I, oI) :: (lt, listOf ([.str "StatisticsError" t] : List Value).toArray c) :: (ld, listOf [Value.ref 64, Value.ref 71].toArray 0) :: news) := kN
      refine app_L (ys := [.str "StatisticsError" t]) kF kN' (Upd.tail (Nat.ne_of_gt (hlt6 (lt, _) (List.mem_cons_of_mem _ List.mem_cons_self))) (Upd.tail (Ne.symm hltI) (Upd.head hrest))) (by simp) ?_
      intro h7 F7 N7
      k_steps
      refine ⟨_, _, _, _, _, rfl, ⟨kT, kB, kX, kTT, kD⟩, F7, fun p hp => N7 p (List.mem_cons_of_mem _ hp), ?_, c + 1, t, _, rfl, rfl, rfl⟩
      intro p hp
      rcases List.mem_cons.mp hp with rfl | hp
      · exact hltI
      · exact off p (List.mem_cons_of_mem _ hp)
  · rintro g h tk m' nw ⟨g1, g2, g3, g4, g5⟩ F N ⟨c, t, u, rfl, hm1, hm2⟩
    clear F9 N9
    have F2 := fr_know F hm1
    clear F
    k_steps
    rename Fr h₀ L _ m => kF
    rename News h₀ L _ (_ :: _) => kN
    refine hret _ c t u _ _ kF (fun p hp => kN p ?_) llt
    rcases List.mem_cons.mp hp with rfl | hp
    · exact List.mem_cons_self
    · exact List.mem_cons_of_mem _ (List.mem_cons_of_mem _ hp)
end
end Mine
end

-- part E1
section
open PySem PySem.W PyProof.Rows PySem.Spec PySem.Calls
set_option maxRecDepth 100000
set_option maxHeartbeats 1000000
set_option linter.unusedVariables false
namespace Mine
/-- what stands at place q of the sorted rows, or the word for none -/
def midD (ns : List Int) (q : Nat) : Dat := if ns.length = 0 then .str "StatisticsError" else .list (ranksOf (ns.getD ((sortP ns).getD q 0) 0))
theorem midD_ok (ns : List Int) (q : Nat) : kqdOk 8 (midD ns q) = true := by
  unfold midD
  split
  · decide +kernel
  · show List.all _ (kqdOk 7) = true
    rw [List.all_eq_true]
    exact ranks_okD 7 _
theorem row_in {news : List (Addr × Obj)} {vs : List Value} {ns : List Int} (hd : DatAll news vs (rowsD ns)) {j : Nat} (hj : j < ns.length) : DatIn news (vs.getD j Value.none) (.list (ranksOf (ns.getD j 0))) := by
  obtain ⟨v, hv, dv⟩ := hd.get (k := j) (by unfold rowsD; rw [List.length_map]; exact hj)
  have e : (rowsD ns)[j]'(by unfold rowsD; rw [List.length_map]; exact hj) = .list (ranksOf (ns.getD j 0)) := by
    unfold rowsD
    rw [List.getElem_map, List.getD_eq_getElem?_getD, List.getElem?_eq_getElem hj]; rfl
  rw [e] at dv
  rw [List.getD_eq_getElem?_getD, hv]
  exact dv
theorem mid_in {news : List (Addr × Obj)} {vs : List Value} {ns : List Int} (hd : DatAll news vs (rowsD ns)) {q : Nat} (hq : q < ns.length) : DatIn news (vs.getD ((sortP ns).getD q 0) Value.none) (midD ns q) := by
  unfold midD
  rw [if_neg (by omega)]
  exact row_in hd (sort_lt hq)
theorem at_any (w : World) (mean : ExcName → Option Value) (mg mb : Str → Option Value) (l : Addr) (vs : List Value) (kl : Nat) (ns : List Int) (p : Int) (t : Tok) (q : Nat) (news : List (Addr × Obj)) (hm : (l, listOf vs.toArray kl) ∈ news) (hdd : DatAll news vs (rowsD ns)) (h64 : ns.length < 64)
    (hp : ns.length = 0 ∨ (p = (q : Int) ∧ q < ns.length)) : Con 3 w mean mg mb 97 [.ref l, .int p t] news (fun tl r => tl = [] ∧ DatIn news r (midD ns q)) := by
  unfold Con
  intro dp un gd cn cs a ccd cl outer A₀ base h₀ L m s Q E B F X N T hk hdp hun hret
  refine con_use (at_con w mean mg mb l vs kl ns p t news hm hdd h64) B F X N T hk hdp hun ?_
  rintro r tl h' tk' F' N' hlt ⟨rfl, hr⟩
  refine hret r [] h' tk' F' N' hlt ⟨rfl, ?_⟩
  rcases hr with ⟨j, hj, hh, rfl⟩ | ⟨hno, u, rfl⟩
  · rcases hp with h0 | ⟨rfl, hq⟩
    · omega
    · have e : midD ns q = .list (ranksOf (ns.getD j 0)) := by
        unfold midD
        rw [if_neg (by omega), mid_row hq hh]
      rw [e]
      exact row_in hdd hj
  · rcases hp with h0 | ⟨rfl, hq⟩
    · unfold midD
      rw [if_pos h0]
      exact .str _ _
    · exact (mid_some hq hno).elim
theorem told_any (w : World) (mean : ExcName → Option Value) (mg mb : Str → Option Value) (l : Addr) (vs : List Value) (kl : Nat) (ns : List Int) (news : List (Addr × Obj)) (hm : (l, listOf vs.toArray kl) ∈ news) (hdd : DatAll news vs (rowsD ns)) (h64 : ns.length < 64)
    {dp un : Nat} {gd : Option (List Code)} {cn : Str} {cs : Scope} {a : Addr} {ccd : Value} {A₀ : Around} {base h₀ : Heap} {L : Addr} {m : Str → Option Value} {s : Shared} {Q E : Value → Shared → Prop}
    (B : Below A₀ base [] h₀) (XB : (hd.heap_39 w.params).In base) (TB : Top hd.view_39 loos mean mg mb base) (F : Fr h₀ L s.heap m) (X : (hd.heap_39 w.params).In h₀) (N : News h₀ L s.heap news) (T : Top hd.view_39 loos mean mg mb h₀) (hk : cs.kind = .function) (hdp : dp + 3 < 900) (hun : un + 300 < 9000)
    (hret : ∀ D vs2 k h' tk', Fr h₀ L h' m → News h₀ L h' ((D, listOf (vs2 : List Value).toArray k) :: news) → (∀ q ∈ news, q.1 < D) → DatAll news vs2 [midD ns ((ns.length - 1) / 2), midD ns (ns.length / 2)] → Q (.ref D) { s with heap := h', toks := tk' }) :
    wpAny (model PySem.Challenge.pw_mr0083_01 w) (ktrTop dp un gd cn cs L a ccd [] []) (call (.ref 104) [.ref l]) Q E s := by
  by_cases h0 : ns.length = 0
  · have hv : vs = [] := by
      have := hdd.length
      unfold rowsD at this
      rw [List.length_map, h0] at this
      exact List.length_eq_zero_iff.mp this
    subst hv
    refine told0_con w mean mg mb l kl news hm dp un gd cn cs a ccd A₀ base h₀ L m s Q E B XB TB F X N T hk hdp hun ?_
    intro D k t u h' tk' F' N' hlt
    refine hret D _ k h' tk' F' N' hlt ?_
    unfold midD
    rw [if_pos h0, if_pos h0]
    exact .cons (.str _ _) (.cons (.str _ _) .nil)
  · refine con_use (told_con w mean mg mb l vs kl ns news hm hdd (by omega) h64) B F X N T hk hdp hun ?_
    rintro r tl h' tk' F' N' hlt ⟨D, k, rfl, rfl⟩
    refine hret D _ k h' tk' F' N' (fun q hq => hlt q hq _ List.mem_cons_self) ?_
    exact .cons (mid_in hdd (by omega)) (.cons (mid_in hdd (by omega)) .nil)
theorem rows_take {news : List (Addr × Obj)} {vs : List Value} {ns : List Int} (i : Nat) (h : DatAll news vs (rowsD ns)) : DatAll news (vs.take i) (rowsD (ns.take i)) := by
  unfold rowsD at *
  rw [List.map_take]
  exact datAll_take i h
end Mine
end

-- part F1
section
open PySem PySem.W PyProof.Rows PySem.Spec PySem.Calls
set_option maxRecDepth 100000
set_option maxHeartbeats 1000000
set_option linter.unusedVariables false
namespace Mine
/-- the call of a def from the claim's caller -/
theorem code_first {prog : Program} {w : World} {A : Around} {s : Shared} {K : Frag} {p : Program} {loose : List Str} {mean : ExcName → Option Value} {mg mb : Str → Option Value}
    {R : Result → Shared → Prop} {name qual : Str} {params : Arguments} {body : List Stmt} {scope : Scope} {dV kV doc pm cdv ct oc : Value} {an od : Option Addr} {osl : Array (Option Value)} {f : Addr} {args : Args} {binds : List (Str × Value)}
    (X : K.In s.heap) (T : Top p loose mean mg mb s.heap)
    (ho : K.lookup f = some ⟨oc, od, .func (fnOf name qual params body scope dV kV doc pm an cdv ct), osl⟩) (hcd : codeIn K cdv qual = true) (hroom : A.depth < recursionLimit)
    (hbind : BindsTo s (fnOf name qual params body scope dV kV doc pm an cdv ct) args binds) (hloc : ∀ y ∈ binds, scope.names.lookup y.1 = some .local)
    (h : ∀ L h₁, Fr s.heap L h₁ (fun y => binds.reverse.lookup y) → News s.heap L h₁ [] →
      wpC (model prog w) (A.deeper (envOf qual scope L f cdv)) (execs body (envOf qual scope L f cdv))
        (fun fl s' => R (.ok (.ret (match fl with | .ret v => v | _ => .none))) s') noE { s with heap := h₁, toks := s.toks + binds.length })
    (hco : scope.isCoroutine = false) (hgen : scope.isGenerator = false) (hk : scope.kind = .function)
    (hcell : ∀ x ∈ scope.names, x.2 ≠ .cell) : codeC (model prog w) A (.call (.ref f) args) R s :=
  codeC_call_def (fd := fnOf name qual params body scope dV kV doc pm an cdv ct) (body := body) (binds := binds) hroom (X _ _ ho) rfl T.nolimit (codeRec_of X hcd) rfl hbind hcell hloc
    (fun h₁ hns up => h s.heap.objs.size h₁ ⟨hns, up, Nat.le_refl _⟩ fun p hp => nomatch hp) hco hgen hk
def drawnOf (ns : List Int) : List Int := [0, 27, 93, 20, 1] ++ ns.take 5
theorem rows_step {nw : List (Addr × Obj)} {ys : List Value} {dn : List Int} {i : Nat} {lp : Addr} {vp : List Value} {kp : Nat} (hi : i < dn.length) (hdat : DatAll nw ys (rowsD (dn.take i))) (hD : DatAll [] vp (ranksOf (dn.getD i 0))) :
    DatAll ((lp, listOf vp.toArray kp) :: nw) (ys ++ [.ref lp]) (rowsD (dn.take (i + 1))) := by
  have e : rowsD (dn.take (i + 1)) = rowsD (dn.take i) ++ [.list (ranksOf (dn.getD i 0))] := by
    unfold rowsD
    rw [List.take_add_one, List.getElem?_eq_getElem hi, List.map_append, List.getD_eq_getElem?_getD, List.getElem?_eq_getElem hi]; rfl
  rw [e]
  exact (hdat.mono fun p hp => List.mem_cons_of_mem _ hp).append (.one (.list List.mem_cons_self (hD.mono fun p hp => (List.not_mem_nil hp).elim)))
theorem apart_step {I C D lp : Addr} {o : Obj} {nw : List (Addr × Obj)} {oI oC oD : Obj} (ap : Apart I C D nw) (hl : ∀ q ∈ (I, oI) :: (C, oC) :: (D, oD) :: nw, q.1 < lp) : Apart I C D ((lp, o) :: nw) := fun p hp => by
  rcases List.mem_cons.mp hp with rfl | hp
  · exact ⟨Nat.ne_of_gt (hl (I, oI) List.mem_cons_self), Nat.ne_of_gt (hl (C, oC) (List.mem_cons_of_mem _ List.mem_cons_self)), Nat.ne_of_gt (hl (D, oD) (List.mem_cons_of_mem _ (List.mem_cons_of_mem _ List.mem_cons_self)))⟩
  · exact ap p hp
theorem news_step {h₀ h : Heap} {L I C D lp : Addr} {o oI oC oD : Obj} {nw : List (Addr × Obj)} (N : News h₀ L h ((lp, o) :: (I, oI) :: (C, oC) :: (D, oD) :: nw)) : News h₀ L h ([(I, oI), (C, oC), (D, oD)] ++ ((lp, o) :: nw)) := fun p hp => N p (by
  simp only [List.cons_append, List.nil_append, List.mem_cons] at hp ⊢
  rcases hp with hp | hp | hp | hp | hp
  · exact .inr (.inl hp)
  · exact .inr (.inr (.inl hp))
  · exact .inr (.inr (.inr (.inl hp)))
  · exact .inl hp
  · exact .inr (.inr (.inr (.inr hp))))
theorem cut_at {prog : Program} {w : World} {A : Around} {E : Value → Shared → Prop} {s : Shared} {h₀ : Heap} {L l : Addr} {m : Str → Option Value} {news : List (Addr × Obj)} {value slice : PySem.Expr} {us : List Value} {k i : Nat} {u : Tok} {Q : Value → Shared → Prop} (F : Fr h₀ L s.heap m) (N : News h₀ L s.heap news) (hm : (l, listOf us.toArray k) ∈ news) (hz : us.length ≤ 100)
    (h : ∀ D h', Fr h₀ L h' m → News h₀ L h' ((D, listOf (us.take i).toArray 0) :: news) → (∀ p ∈ news, p.1 < D) → Q (.ref D) { s with heap := h' })
    (hs : subscripted slice false (.ref l) (.ref s.heap.objs.size) = operate [.ref s.heap.objs.size, .ref l] (getItem (.ref l) (.ref s.heap.objs.size)) := by with_unfolding_all rfl) (ht : ∀ r, letTemporaryGo value (.ref l) r = pure () := by intro _; with_unfolding_all rfl) :
    wpAny (model prog w) A (subscriptTail value slice (.ref l) (.ref s.heap.objs.size)) Q E { s with heap := s.heap.push { cls := .type "slice", data := .fields #[.none, .int (i : Int) u, .none] } } := by
  refine kmk_slice F N ⟨_, (N _ hm).1, rfl, k, rfl⟩ .none (.int _ _) (fun D h' F' N' l1 => h D h' F' ?_ l1) hs ht (by rw [List.size_toArray, sizeLine_eq]; omega)
  rw [slicePick_upto'] at N'
  exact N'
theorem mid_oks (ns : List Int) {a b : Nat} : ∀ d ∈ [midD ns a, midD ns b], kqdOk 8 d = true := fun d hd => by
  rcases List.mem_cons.mp hd with rfl | hd
  · exact midD_ok _ _
  · rw [List.mem_singleton.mp hd]; exact midD_ok _ _
theorem splice1 (pos p1 : Pos) (f : PySem.Expr) (a : List PySem.Expr) (k : List Keyword) (env : Env) : backTo pos (starEach [.Call f a k p1] env) = [(false, eval (.Call f a k p1) env)] := rfl
section
local macro_rules | `(tactic| walk_at "call ref") => `(tactic| refine Hold.out ?_)
local macro_rules | `(tactic| walk_at "call builtin:len") => `(tactic| refine Hold.out ?_)
local macro_rules | `(tactic| walk_at "subscriptTail Name Slice ref ref") => `(tactic| ((with_reducible show wpAny _ _ (subscriptTail _ (PySem.Expr.Slice none (some (PySem.Expr.Name _ _)) none _) _ _) _ _ _); refine Hold.out ?_))
local macro_rules | `(tactic| walk_at "pyIter ref") => `(tactic| refine Hold.out ?_)
local macro_rules | `(tactic| walk_at "compareOp NotEq ref ref") => `(tactic| refine Hold.out ?_)
theorem law_con (w : World) (mean : ExcName → Option Value) (mg mb : Str → Option Value) (s : Shared) (l : Addr) (vs : List Value) (ns : List Int) (hl : s.heap.IsList l vs.toArray) (hI : IntsAre vs ns) (hlay : PyData.layable0 (.list (ns.map .int)) = true) (hn : ns.length ≤ 63)
    (X : (hd.heap_39 w.params).In s.heap) (T : Top hd.view_39 loos mean mg mb s.heap) (Q : Value → Shared → Prop)
    (hQ : ∀ L m h' tk', Fr s.heap L h' m → Q (.bool true) { s with heap := h', toks := tk' }) :
    wpC (model PySem.Challenge.pw_mr0083_01 w) callerA (call (.ref 109) [.ref l]) Q noE s := by
  refine wpC_call ?_
  refine code_first (binds := [(Str.ofString "script", .ref l)]) X T (by k_is) (by k_is) (by show 1 + 300 < 1000; omega) (BindsTo.of_eq rfl) (locs rfl) ?_ rfl rfl rfl (by decide)
  intro L h₁ F N
  dsimp only
  have B := below_caller s.heap
  refine wpC_execs_cons (wpC_any ?_)
  k_fold
  k_steps
  rename News s.heap L _ _ => N1
  rename Fr s.heap L _ _ => F1
  rename_i D0 ws0 _ hI0 _ _ _ aD wsD _ hID _ _
  change IntsAre wsD (drawnOf ns) at hID
  have hdl : (drawnOf ns).length ≤ 10 := by
    unfold drawnOf
    rw [List.length_append, List.length_take]
    simp only [List.length_cons, List.length_nil]
    omega
  generalize drawnOf ns = dn at hID hdl
  have N2 : News s.heap L _ [(aD, listOf wsD.toArray 0)] := fun p hp => N1 p (by
    rw [List.mem_singleton.mp hp]; exact List.mem_cons_self)
  clear N1 hI0
  have hwl : wsD.length = dn.length := hID.length
  obtain ⟨m1, hm1, F2⟩ : ∃ m1 : Str → Option Value, m1 (Str.ofString "drawn") = some (.ref aD) ∧ Fr s.heap L _ m1 := ⟨_, rfl, F1⟩
  clear F1
  refine wpC_execs_cons (Assign_ListComp_C (h₀ := s.heap) (L := L) (m := m1) rfl (by with_unfolding_all rfl) (by with_unfolding_all rfl) (by decide) rfl (by decide) rfl rfl rfl ?_)
  refine nameX_L (cl := []) F2 hm1 ?_
  refine ⟨aD, wsD, listOf wsD.toArray 0, [(aD, listOf wsD.toArray 0)], fun i ys nw => (aD, listOf wsD.toArray 0) ∈ nw ∧ DatAll nw ys (rowsD (dn.take i)), rfl, rfl, F2, N2, rfl, ⟨0, rfl⟩, by rw [sizeLine_eq]; omega, fun i ys nw h => h.1, ⟨List.mem_cons_self, .nil⟩, ?_, ?_⟩
  · rintro i v ys nw I oI C oC D m₂ h tk hv ⟨hmA, hdat⟩ hC hx F3 N3 ap hIC hIDn hCD
    have hi : i < dn.length := by rw [← hwl]; exact (List.getElem?_eq_some_iff.mp hv).1
    obtain ⟨t, rfl⟩ : ∃ t, v = .int (dn.getD i 0) t := by
      obtain ⟨n, t, rfl, hn'⟩ := hID.at i v hv
      exact ⟨t, by rw [List.getD_eq_getElem?_getD, hn']; rfl⟩
    simp only [List.cons_append, List.nil_append] at N3
    refine wpC_any ?_
    k_steps
    refine Hold.in' ?_
    refine con_use (dp := 302) (un := 7) (cl := []) (outer := []) (ranks_con w mean mg mb (dn.getD i 0) t _) B F3 X N3 T rfl (by omega) (by omega) ?_
    rintro r9 tl9 h9 tk9 F9 N9 hl9 ⟨lp, vp, kp, rfl, rfl, hD9⟩
    exact ⟨h9, tk9, _, rfl, F9, news_step N9, apart_step ap (fun q hq => hl9 q hq _ List.mem_cons_self), List.mem_cons_of_mem _ hmA, rows_step hi hdat hD9⟩
  intro aR h tk ysR nwR F3 N3 apR ⟨hmA, hdatR⟩
  rw [hwl, List.take_length] at hdatR
  dsimp only
  obtain ⟨m2, hm2, hm3, F4⟩ : ∃ m2 : Str → Option Value, m2 (Str.ofString "drawn") = some (.ref aD) ∧ m2 (Str.ofString "ranks") = some (.ref aR) ∧ Fr s.heap L h m2 := ⟨fun z => if z = Str.ofString "ranks" then some (.ref aR) else m1 z, (if_neg (by decide)).trans hm1, rfl, F3⟩
  clear F3 F2 N2 hm1
  refine wpC_execs_cons (Assign_ListComp_C (h₀ := s.heap) (L := L) (m := m2) rfl (by with_unfolding_all rfl) (by with_unfolding_all rfl) (by decide) rfl (by decide) rfl rfl rfl ?_)
  refine nameX_L (cl := []) F4 hm2 ?_
  refine ⟨aD, wsD, listOf wsD.toArray 0, _, fun i ys nw => (aD, listOf wsD.toArray 0) ∈ nw ∧ (aR, LCg.lst ysR) ∈ nw ∧ DatAll nw ysR (rowsD dn) ∧ DatAll nw ys (rowsD (dn.take i)), rfl, rfl, F4, N3, rfl, ⟨0, rfl⟩, by rw [sizeLine_eq]; omega, fun i ys nw h => h.1, ⟨List.mem_cons_of_mem _ hmA, List.mem_cons_self, hdatR.mono fun p hp => List.mem_cons_of_mem _ hp, .nil⟩, ?_, ?_⟩
  · rintro i v ys nw I oI C oC D m₂ h tk hv ⟨hmA, hmR, hdR, hdat⟩ hC hx F5 N5 ap hIC hIDn hCD
    have hi : i < dn.length := by rw [← hwl]; exact (List.getElem?_eq_some_iff.mp hv).1
    obtain ⟨t, rfl⟩ : ∃ t, v = .int (dn.getD i 0) t := by
      obtain ⟨n, t, rfl, hn'⟩ := hID.at i v hv
      exact ⟨t, by rw [List.getD_eq_getElem?_getD, hn']; rfl⟩
    simp only [List.cons_append, List.nil_append] at N5
    clear F4 N3
    obtain ⟨o44, fd44, ho44, hd44⟩ : ∃ o fd, s.heap.get? 44 = some o ∧ o.data = .func fd := ⟨_, _, X 44 _ (by k_is), rfl⟩
    refine wpC_Call_Name ?_
    k_steps
    rw [splice1]
    refine wpC_callWith_ref (o := o44) (fd := fd44) rfl (evalArgs_plain ?_)
    dsimp only [List.nil_append]
    refine spliced_cons ?_
    k_steps
    refine Hold.in' ?_
    refine con_use (dp := 302) (un := 7) (cl := []) (outer := []) (release_con w mean mg mb (dn.getD i 0) t _) B F5 X N5 T rfl (by omega) (by omega) ?_
    rintro r9 tl9 h9 tk9 F9 N9 hl9 ⟨u, rfl, rfl⟩
    simp only [List.nil_append] at N9
    k_unfold
    dsimp only
    refine spliced_nil ?_
    dsimp only
    refine ⟨⟨F9.keep _ _ ho44, hd44⟩, ?_⟩
    refine cv_con w mean mg mb (textOf (dn.getD i 0)) u (text_len _) (text_pieces _) _ 302 7 _ _ _ _ _ s.heap L m2 _ _ F9 X N9 T rfl (by omega) (by omega) ?_
    intro lp vp kp h10 tk10 F10 N10 hl10 hD10
    rw [made_ranks] at hD10
    exact ⟨h10, tk10, _, rfl, F10, news_step N10, apart_step ap hl10, List.mem_cons_of_mem _ hmA, List.mem_cons_of_mem _ hmR, hdR.mono fun p hp => List.mem_cons_of_mem _ hp, rows_step hi hdat hD10⟩
  · intro aM h tk ysM nwM F5 N5 apM ⟨hmA2, hmR, hdR, hdM⟩
    rw [hwl, List.take_length] at hdM
    dsimp only
    obtain ⟨m3, hm4, hm5, hm6, F6⟩ : ∃ m3 : Str → Option Value, m3 (Str.ofString "drawn") = some (.ref aD) ∧ m3 (Str.ofString "ranks") = some (.ref aR) ∧ m3 (Str.ofString "made") = some (.ref aM) ∧ Fr s.heap L h m3 := ⟨fun z => if z = Str.ofString "made" then some (.ref aM) else m2 z, (if_neg (by decide)).trans hm2, (if_neg (by decide)).trans hm3, rfl, F5⟩
    clear F5 F4 N3 hm2 hm3 hmA hdatR
    obtain ⟨hmA, hmR, hmM, hdR, hdM⟩ : (aD, listOf wsD.toArray 0) ∈ (aM, LCg.lst ysM) :: nwM ∧ (aR, listOf ysR.toArray ysR.length) ∈ (aM, LCg.lst ysM) :: nwM ∧ (aM, listOf ysM.toArray ysM.length) ∈ (aM, LCg.lst ysM) :: nwM ∧ DatAll ((aM, LCg.lst ysM) :: nwM) ysR (rowsD dn) ∧ DatAll ((aM, LCg.lst ysM) :: nwM) ysM (rowsD dn) :=
      ⟨List.mem_cons_of_mem _ hmA2, List.mem_cons_of_mem _ hmR, List.mem_cons_self, hdR.mono fun p hp => List.mem_cons_of_mem _ hp, hdM.mono fun p hp => List.mem_cons_of_mem _ hp⟩
    generalize (aM, LCg.lst ysM) :: nwM = nwA at *
    have hlR : ysR.length = dn.length := by rw [hdR.length]; unfold rowsD; rw [List.length_map]
    have hlM : ysM.length = dn.length := by rw [hdM.length]; unfold rowsD; rw [List.length_map]
    refine wpC_any ?_
    have F7 := fr_know F6 hm4
    clear F6
    k_steps
    refine Hold.in' ?_
    refine len_at N5 hmA hwl (by omega) ?_
    k_steps
    refine Hold.in' ?_
    (try dsimp only at *)
    rename IsRange _ _ _ _ _ _ _ _ => hr
    rename Fr s.heap L _ _ => F9
    rename News s.heap L _ _ => N9
    have e1 : (dn.length : Int) + 1 = ((dn.length + 1 : Nat) : Int) := by push_cast; rfl
    rw [e1] at hr
    refine rng_iter (n := dn.length + 1) (fun i m₁ nx => nx = nwA ∧ m₁ (Str.ofString "made") = some (.ref aM) ∧ m₁ (Str.ofString "ranks") = some (.ref aR)) rfl hr
      (small_one (by omega) (by omega) (by omega) (by omega)) (rangeSize_nat _ _) F9 N9 ⟨rfl, hm6, hm5⟩ ?_ ?_
    · rintro i ti m₁ nx h tk own hi hoff ⟨rfl, g1, g2⟩ F N
      have F2 := fr_know (fr_know F (x := Str.ofString "made") (by rw [if_neg (by decide)]; exact g1)) (x := Str.ofString "ranks") (by rw [if_neg (by decide), if_neg (by decide)]; exact g2)
      clear F hr F9 N9
      have hdi : (dn.take i).length = i := by rw [List.length_take]; omega
      k_steps
      refine Hold.in' ?_
      refine cut_at F2 N (List.mem_append_left _ hmM) (by omega) ?_
      intro S1 h1 F3 N3 hl3
      clear F2
      k_steps
      refine Hold.in' ?_
      refine told_any w mean mg mb S1 (ysM.take i) 0 (dn.take i) _ List.mem_cons_self (rows_take i (hdM.mono fun p hp => List.mem_cons_of_mem _ (List.mem_append_left _ hp))) (by omega) (dp := 302) (un := 7) B X T F3 X N3 T rfl (by omega) (by omega) ?_
      intro DT vT kT h4 tk4 F4 N4 hl4 hdT
      clear F3 N3
      dsimp only
      k_steps
      refine Hold.in' ?_
      refine cut_at F4 N4 (List.mem_cons_of_mem _ (List.mem_cons_of_mem _ (List.mem_append_left _ hmR))) (by omega) ?_
      intro S2 h5 F5 N5 hl5
      clear F4 N4
      k_steps
      refine Hold.in' ?_
      refine con_use (dp := 302) (un := 7) (cl := []) (outer := []) (at_any w mean mg mb S2 (ysR.take i) 0 (dn.take i) _ _ (((dn.take i).length - 1) / 2) _ List.mem_cons_self (rows_take i (hdR.mono fun p hp => List.mem_cons_of_mem _ (List.mem_cons_of_mem _ (List.mem_cons_of_mem _ (List.mem_append_left _ hp))))) (by omega) ?_) B F5 X N5 T rfl (by omega) (by omega) ?_
      · rw [hdi]
        have e2 := fd ((i : Int) - 1) 2 (by decide)
        omega
      rintro r1 tl6 h6 tk6 F6 N6 hl6 ⟨rfl, hd1⟩
      simp only [List.nil_append] at N6
      clear F5 N5
      dsimp only
      k_steps
      refine Hold.in' ?_
      refine cut_at F6 N6 (List.mem_cons_of_mem _ (List.mem_cons_of_mem _ (List.mem_cons_of_mem _ (List.mem_append_left _ hmR)))) (by omega) ?_
      intro S3 h7 F7 N7 hl7
      clear F6 N6
      k_steps
      refine Hold.in' ?_
      refine con_use (dp := 302) (un := 7) (cl := []) (outer := []) (at_any w mean mg mb S3 (ysR.take i) 0 (dn.take i) _ _ ((dn.take i).length / 2) _ List.mem_cons_self (rows_take i (hdR.mono fun p hp => List.mem_cons_of_mem _ (List.mem_cons_of_mem _ (List.mem_cons_of_mem _ (List.mem_cons_of_mem _ (List.mem_append_left _ hp)))))) (by omega) ?_) B F7 X N7 T rfl (by omega) (by omega) ?_
      · rw [hdi]
        have e2 := fd (i : Int) 2 (by decide)
        omega
      rintro r2 tl8 h8 tk8 F8 N8 hl8 ⟨rfl, hd2⟩
      simp only [List.nil_append] at N8
      clear F7 N7
      dsimp only
      k_steps
      refine Hold.in' ?_
      rename Fr s.heap L _ _ => F9
      rename News s.heap L _ _ => N9
      refine kqd_ne (xs := vT) (ka := kT) (ys := [r1, r2]) (kb := 0) N9 (List.mem_cons_of_mem _ (List.mem_cons_of_mem _ (List.mem_cons_of_mem _ List.mem_cons_self))) rfl rfl hdT (fun p hp => List.mem_cons_of_mem _ (List.mem_cons_of_mem _ (List.mem_cons_of_mem _ (List.mem_cons_of_mem _ hp))))
        List.mem_cons_self rfl rfl (.cons (hd1.mono fun p hp => List.mem_cons_of_mem _ hp) (.cons hd2 .nil)) (fun p hp => List.mem_cons_of_mem _ hp) (mid_oks _) (mid_oks _) (by show 7 + 64 < 9900; omega) ?_
      simp only [decide_true, Bool.not_true]
      k_steps
      exact InvEndG.intro F9 N9 (nx := nx) ⟨rfl, rfl, rfl⟩ hoff (fun p hp => List.mem_cons_of_mem _ (List.mem_cons_of_mem _ (List.mem_cons_of_mem _ (List.mem_cons_of_mem _ (List.mem_cons_of_mem _ (List.mem_append_left _ hp))))))
        (fun p hp => List.mem_cons_of_mem _ (List.mem_cons_of_mem _ (List.mem_cons_of_mem _ (List.mem_cons_of_mem _ (List.mem_cons_of_mem _ (List.mem_append_right _ hp))))))
    · intro m₁ news₁ h tk ⟨_, g1, g2⟩ F N
      clear hr F9 N9
      k_steps
      exact hQ L _ _ _ F
end
end Mine
end

-- part F2
section
open PySem PySem.W PyProof.Rows PySem.Spec PySem.Calls
set_option maxRecDepth 100000
set_option maxHeartbeats 1000000
set_option linter.unusedVariables false
namespace Mine
theorem law_walk : PySem.Challenge.rw_mr0083_01.Holds := by
  refine hd ?_
  k_fill
  intro w s₀ s₁ mg mb G Y fa o pm cd doc dV kV ho hd' hcd hD hmg hg args vals as hpre hlay hrd hwl hlo
  have KX := kIn_of Y
  refine Ground.open G ?_
  intro T B D TE TW
  have hfa : fa = 109 := by
    have h1 := mg_of KX T.g (n := Str.ofString "law") (v := .ref 109) (by k_is)
    have h2 : mg (Str.ofString "law") = some (.ref fa) := hmg
    rw [h1] at h2
    injection h2 with h2
    injection h2 with h2
    exact h2.symm
  subst hfa
  clear ho hd' hcd hD hmg TE TW
  wrow_args hpre hlay hrd hwl hlo
  rename IntsAre _ _ => hI
  rename Heap.IsList _ _ _ => hL
  rename PyData.layable0 _ = true => hlay
  refine wpC_noE ?_
  refine law_con w _ mg mb s₁ _ _ _ hL hI hlay (by omega) KX T _ ?_
  intro L m h' tk' F
  refine GoodW.toG (goodW_bool F hg ?_ ?_ rfl)
  · intro _
    rfl
  · wrow_post
end Mine
end

theorem PySem.Challenge.cw_mr0083_01_holds : PySem.Challenge.rw_mr0083_01.Holds :=
  Mine.law_walk
