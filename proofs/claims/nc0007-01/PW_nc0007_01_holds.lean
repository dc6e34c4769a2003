import PyProof.Rows.All
import Wide.All
import OpenK.AllK
import Wide.FinOn
import Lean
import PySem.Challenge.RW_nc0007_01
open PySem PySem.W PyProof.Rows PySem.Calls
open PySem.Sem (wp)
set_option Elab.async false
set_option maxRecDepth 100000
namespace Mine

/-- a builtin that holds its first argument while it decodes -/
def isDec : Code → Bool
  | .builtin id _ => PySem.Builtin.Bytes.decodersThatHold.contains id
  | _ => false

def CleanB (Γ : Ctx) : Prop := ∀ x ∈ Γ.below, isDec x.1 = false
def Clean (Γ : Ctx) : Prop := isDec Γ.code = false ∧ CleanB Γ

def wpC {α : Type} (M : Model) (A : Around) (t : Sem α) (Q : α → Shared → Prop) (s : Shared) : Prop :=
  ∀ Γ p, Γ.In A → Clean Γ → wp M Γ t (fun a _ s' => Q a s') (fun _ _ _ => False) p s

def resC (R : Flow → Shared → Prop) : Result → Shared → Prop
  | .ok f, s => R f s
  | .error _, _ => False

def codeC (M : Model) (A : Around) (c : Code) (R : Flow → Shared → Prop) (s : Shared) : Prop :=
  ∀ Γ p, Γ.code = c → Γ.Below A → CleanB Γ → wpCode M Γ (resC R) p s

theorem CleanB.enter {Γ : Ctx} (h : Clean Γ) (c : Code) (hd : Option Value) (p : Pos) : CleanB (Γ.enter c hd p) := by
  intro x hx
  rcases List.mem_cons.mp (show x ∈ (Γ.code, p) :: Γ.below from hx) with rfl | hx
  · exact h.1
  · exact h.2 x hx
theorem CleanB.goto {Γ : Ctx} (h : CleanB Γ) (c : Code) : CleanB (Γ.goto c) := h

section
variable {α β : Type} {M : Model} {A : Around} {s : Shared}

theorem wpC_of_any {t : Sem α} {Q : α → Shared → Prop} (h : wpAny M A t Q (fun _ _ => False) s) : wpC M A t Q s :=
  fun Γ p hΓ _ => h Γ p hΓ
theorem wpC_pure {a : α} {Q : α → Shared → Prop} (h : Q a s) : wpC M A (pure a) Q s := fun _ _ _ _ => h
theorem wpC_mono {t : Sem α} {Q Q' : α → Shared → Prop} (h : wpC M A t Q s) (hQ : ∀ a s, Q a s → Q' a s) : wpC M A t Q' s :=
  fun Γ p hΓ hc => Sem.wp_mono M Γ t (fun a _ s => hQ a s) (fun _ _ _ x => x) p s (h Γ p hΓ hc)
theorem wpC_bind {m : Sem α} {f : α → Sem β} {Q : β → Shared → Prop} (h : wpC M A m (fun a s' => wpC M A (f a) Q s') s) :
    wpC M A (m >>= f) Q s := fun Γ p hΓ hc => by
  rw [Sem.wp_bind']
  exact Sem.wp_mono M Γ m (fun a p' s' h' => h' Γ p' hΓ hc) (fun _ _ _ h' => h') p s (h Γ p hΓ hc)
/-- a leaf by the library's own judgement, the rest behind it -/
theorem wpC_bindA {m : Sem α} {f : α → Sem β} {Q : β → Shared → Prop} (h : wpAny M A m (fun a s' => wpC M A (f a) Q s') (fun _ _ => False) s) :
    wpC M A (m >>= f) Q s := wpC_bind (wpC_of_any h)
theorem wpC_holding {vs : List Value} {m : Sem α} {Q : α → Shared → Prop} (h : wpC M A m Q s) : wpC M A (holding vs m) Q s :=
  fun Γ p hΓ hc => by rw [Sem.wp_holding]; exact h Γ p hΓ hc
theorem wpC_onRaise {m : Sem α} {k : Value → Sem Unit} {Q : α → Shared → Prop} (h : wpC M A m Q s) : wpC M A (m.onRaise k) Q s :=
  fun Γ p hΓ hc => by
    rw [Sem.wp_onRaise]
    exact Sem.wp_mono M Γ m (fun _ _ _ h' => h') (fun e p' s' h' => h'.elim) p s (h Γ p hΓ hc)
theorem wpC_standAt {pos : Pos} {Q : Unit → Shared → Prop} (h : Q () s) : wpC M A (standAt pos) Q s := fun _ _ _ _ => h
theorem wpC_rule {tag : String} {Q : Unit → Shared → Prop} (h : Q () s) : wpC M A (rule tag) Q s := fun _ _ _ _ => h
theorem wpC_of_eq {t : Sem α} {a : α} {Q : α → Shared → Prop} (e : t = pure a) (h : Q a s) : wpC M A t Q s := by rw [e]; exact wpC_pure h

theorem wpC_run {c : Code} {Q : Flow → Shared → Prop} (hc : codeC M A c Q s) : wpC M A (run c none) Q s :=
  fun Γ p hΓ hcl => by
    rw [Sem.wp_run]
    refine wpCode_mono (fun r s' h => ?_) (hc _ p rfl (by have := hΓ.enter c none p (by intro x; cases x); simpa [Around.mark] using this) (CleanB.enter hcl c none p))
    cases r with
    | ok f => exact h
    | error e => exact h

theorem wpC_runValue {c : Code} {Q : Value → Shared → Prop} (hc : codeC M A c (fun f s' => match f with | .ret v => Q v s' | _ => False) s) :
    wpC M A (runValue c) Q s := fun Γ p hΓ hcl => by
  rw [Sem.wp_runValue]
  refine wpCode_mono (fun r s' h => ?_) (hc _ p rfl (by have := hΓ.enter c none p (by intro x; cases x); simpa [Around.mark] using this) (CleanB.enter hcl c none p))
  cases r with
  | ok f => cases f <;> exact h
  | error e => exact h

theorem wpC_call {f : Value} {pos : List Value} {kw : List (Str × Value)} {Q : Value → Shared → Prop}
    (hc : codeC M A (.call f ⟨pos, kw⟩) (fun r s' => match r with | .ret v => Q v s' | _ => False) s) : wpC M A (call f pos kw) Q s := wpC_runValue hc

theorem codeC_mono {c : Code} {R R' : Flow → Shared → Prop} (h : codeC M A c R s) (hR : ∀ f s, R f s → R' f s) : codeC M A c R' s :=
  fun Γ p hc hΓ hcl => wpCode_mono (fun r s' x => by cases r with | ok f => exact hR _ _ x | error e => exact x) (h Γ p hc hΓ hcl)

theorem codeC_of_any {c : Code} {R : Flow → Shared → Prop} (h : codeAny M A c (fun r s' => match r with | .ok f => R f s' | .error _ => False) s) : codeC M A c R s :=
  fun Γ p hc hΓ _ => wpCode_mono (fun r s' x => by cases r with | ok f => exact x | error e => exact x) (h Γ p hc hΓ)

theorem codeC_of_tree {c : Code} {R : Flow → Shared → Prop} (hd : isDec c = false)
    (h : wpC M (A.under c) (M.den c) (fun fin s' => match fin with | .done f => R f s' | .again c' => c'.quiet = true ∧ codeC M A c' R s') s) : codeC M A c R s := fun Γ p hc hΓ hcl => by
  rw [wpCode_iff_wp, hc]
  refine Sem.wp_mono M Γ _ (fun fin p' s' h' => ?_) (fun _ _ _ h' => h'.elim) p s (h Γ p (hc ▸ hΓ.in) ⟨hc ▸ hd, hcl⟩)
  cases fin with
  | done f => exact h'
  | again c' => exact ⟨h'.1, h'.2 (Γ.goto c') p' rfl (hΓ.goto c') (hcl.goto c')⟩

theorem codeC_loop {c : Code} {R : Flow → Shared → Prop} (hd : isDec c = false) (hq : c.quiet = true) (I : Nat → Shared → Prop)
    (turn : ∀ n s, I n s → wpC M (A.under c) (M.den c)
      (fun fin s' => match fin with | .done f => R f s' | .again c' => (c' = c ∧ ∃ m, m < n ∧ I m s') ∨ (c'.quiet = true ∧ codeC M A c' R s')) s)
    (n : Nat) (h : I n s) : codeC M A c R s := by
  induction n using Nat.strongRecOn generalizing s with
  | ind n ih =>
    refine codeC_of_tree hd (wpC_mono (turn n s h) (fun fin s' hf => ?_))
    cases fin with
    | done f => exact hf
    | again c' =>
      rcases hf with ⟨rfl, m, hm, hI⟩ | hf
      · exact ⟨hq, ih m hm hI⟩
      · exact hf

variable {env : Env}
theorem wpC_execs_nil {Q : Flow → Shared → Prop} (h : Q .next s) : wpC M A (execs [] env) Q s := fun _ _ _ _ => h
theorem wpC_execs_cons {st rest} {Q : Flow → Shared → Prop}
    (h : wpC M A (exec st env) (fun f s' => match f with | .next => wpC M A (execs rest env) Q s' | f => Q f s') s) :
    wpC M A (execs (st :: rest) env) Q s := fun Γ p hΓ hc => by
  rw [execs_cons, Sem.wp_bind']
  refine Sem.wp_mono M Γ _ (fun f p' s' h' => ?_) (fun _ _ _ h' => h') _ _ (h Γ p hΓ hc)
  cases f <;> first | exact h' Γ p' hΓ hc | exact h'
theorem wpC_execs_consA {st rest} {Q : Flow → Shared → Prop}
    (h : wpAny M A (exec st env) (fun f s' => match f with | .next => wpC M A (execs rest env) Q s' | f => Q f s') (fun _ _ => False) s) :
    wpC M A (execs (st :: rest) env) Q s := wpC_execs_cons (wpC_of_any h)

theorem wpC_If {test body orelse pos} {Q : Flow → Shared → Prop}
    (h : wpC M A (isTrue test env (eval test env)) (fun b s₂ => if b then wpC M A (execs body env) Q s₂ else wpC M A (execs orelse env) Q s₂) s) :
    wpC M A (exec (.If test body orelse pos) env) Q s := fun Γ p hΓ hc => by
  simp only [exec_If, Sem.wp_bind', Sem.wp_cmd_standAt]
  refine Sem.wp_mono M Γ _ (fun b p₂ s₂ h₂ => ?_) (fun _ _ _ h' => h') _ _ (h Γ _ hΓ hc)
  cases b <;> exact h₂ Γ p₂ hΓ hc

theorem wpC_Expr {e pos} {Q : Flow → Shared → Prop} (h : wpC M A (eval e env) (fun v s' => match v with | .ref _ => False | _ => Q .next s') s)
    (hi : interactive env = false := by rfl) (hs : swapsWith e none pos.line env = pure false := by rfl) :
    wpC M A (exec (.Expr e pos) env) Q s := by
  rw [exec_Expr env e pos hi hs]
  refine wpC_bind (wpC_standAt (wpC_bind (wpC_mono h (fun v s' h' => ?_))))
  have hv : ∀ a, v ≠ .ref a := fun a hva => by subst hva; exact h'
  rw [dropValue_plain hv]
  refine wpC_pure ?_
  cases v <;> first | exact h' | exact (hv _ rfl).elim

theorem wpC_Assign_Name {x pos' value pos} {Q : Flow → Shared → Prop}
    (h : wpC M A (eval value env) (fun v s₁ => wpC M A (storeName env x v) (fun _ => Q .next) s₁) s)
    (hs : swapsWith value (some (.Name x pos')) pos.line env = pure false := by rfl) :
    wpC M A (exec (.Assign [.Name x pos'] value pos) env) Q s := fun Γ p hΓ hc => by
  simp only [exec_Assign_Name env x pos' value pos hs, Sem.wp_bind', Sem.wp_cmd_standAt, Sem.wp_bindName, Sem.wp_pure']
  exact Sem.wp_mono M Γ _ (fun v _ s₁ h₁ => h₁ Γ _ hΓ hc) (fun _ _ _ h' => h') _ _ (h Γ _ hΓ hc)

theorem wpC_AugAssign_Name {x pos' op value pos} {Q : Flow → Shared → Prop}
    (h : wpC M A (loadName env x) (fun old s₁ => wpC M A (eval value env) (fun v s₂ => wpC M A (inplaceOp op old v)
      (fun r s₃ => wpC M A (storeName env x r) (fun _ => Q .next) s₃) s₂) s₁) s) :
    wpC M A (exec (.AugAssign (.Name x pos') op value pos) env) Q s := fun Γ p hΓ hc => by
  simp only [exec_AugAssign_Name, Sem.wp_bind', Sem.wp_holding, Sem.wp_cmd_standAt, Sem.wp_operate, Sem.wp_bindName, Sem.wp_pure']
  exact Sem.wp_mono M Γ _ (fun old p₁ s₁ h₁ => Sem.wp_mono M Γ _ (fun v _ s₂ h₂ => Sem.wp_mono M Γ _ (fun r _ s₃ h₃ => h₃ Γ _ hΓ hc)
    (fun _ _ _ h' => h') _ _ (h₂ Γ _ hΓ hc)) (fun _ _ _ h' => h') _ _ (h₁ Γ p₁ hΓ hc)) (fun _ _ _ h' => h') _ _ (h Γ _ hΓ hc)

theorem wpC_isTrue_Compare1 {l op r pos whole} {Q : Bool → Shared → Prop}
    (h : wpC M A (eval l env) (fun a s₁ => wpC M A (eval r env) (fun b s₂ => wpC M A (compareOp op a b)
      (fun c s₃ => wpC M A (truthy c) Q s₃) s₂) s₁) s)
    (hm : behindInMarks op r = false := by with_unfolding_all rfl) : wpC M A (isTrue (.Compare l [op] [r] pos) env whole) Q s := fun Γ p hΓ hc => by
  simp only [isTrue_Compare1, markedBehindIn_of_false hm, Sem.wp_bind', Sem.wp_holding, Sem.wp_cmd_standAt, Sem.wp_operate]
  exact Sem.wp_mono M Γ _ (fun a p₁ s₁ h₁ => Sem.wp_mono M Γ _ (fun b _ s₂ h₂ => Sem.wp_mono M Γ _ (fun c p₃ s₃ h₃ => h₃ Γ p₃ hΓ hc)
    (fun _ _ _ h' => h') _ _ (h₂ Γ _ hΓ hc)) (fun _ _ _ h' => h') _ _ (h₁ Γ p₁ hΓ hc)) (fun _ _ _ h' => h') _ _ (h Γ p hΓ hc)

theorem wpC_runOwn {c : Code} {Q : Flow → Shared → Prop} (hc : codeC M A c Q s) : wpC M A (runOwn c env none) Q s := by
  unfold runOwn
  exact wpC_onRaise (wpC_run hc)

theorem wpC_For {target iter body orelse pos} {Q : Flow → Shared → Prop}
    (h : wpAny M A (eval iter env) (fun x s₁ => wpAny M A (pyIter x) (fun it s₂ => codeC M A (.forLoop target it body orelse env) Q s₂) (fun _ _ => False) s₁) (fun _ _ => False) s)
    (hs : ∀ x, foldedSetIterable iter env x = pure x := by intro _; rfl) :
    wpC M A (exec (.For target iter body orelse pos) env) Q s := by
  rw [exec_For]
  exact wpC_bind (wpC_standAt (wpC_bindA (wpAny_mono h (fun x s₁ h₁ => wpC_bind (wpC_of_eq (hs x) (wpC_bind (wpC_standAt (wpC_bind (wpC_holding
    (wpC_of_any (wpAny_mono h₁ (fun it s₂ h₂ => wpC_runOwn h₂) fun _ _ h' => h')))))))) fun _ _ h' => h')))

theorem wpC_Return_some {e pos} {Q : Flow → Shared → Prop} (h : wpC M A (eval e env) (fun v => Q (.ret v)) s) :
    wpC M A (exec (.Return (some e) pos) env) Q s := fun Γ p hΓ hc => by
  simp only [exec_Return_some, Sem.wp_bind', Sem.wp_cmd_standAt, Sem.wp_pure']; exact h Γ _ hΓ hc
end

section
variable {prog : Program} {w : World} {A : Around} {s : Shared} {R : Flow → Shared → Prop}
theorem codeC_func {body env}
    (h : wpC (model prog w) (A.deeper env) (execs body env) (fun f s' => R (.ret (match f with | .ret v => v | _ => .none)) s') s) :
    codeC (model prog w) A (.func body env) R s := by
  refine codeC_of_tree rfl ?_
  show wpC _ (A.deeper env) (do point; match ← (execs body env).onRaise (leaving env) with | .ret v => ret v | _ => ret .none) _ s
  refine wpC_bindA (wpAny_point (wpC_bind (wpC_onRaise (wpC_mono h (fun f s' h' => ?_)))))
  cases f <;> exact wpC_pure h'

theorem codeC_call_function {a : Addr} {args : Args} {o : Obj} {fd : FuncData} {body : List Stmt} (hroom : A.depth < recursionLimit)
    (ho : s.heap.get? a = some o)
    (hd' : o.data = .func fd) (hco : fd.scope.isCoroutine = false) (hgen : fd.scope.isGenerator = false) (hbody : fd.body = .stmts body) (hcd : s.heap.CodeRec fd.code fd.qualname)
    (h : wpAny (model prog w) A.in1 (bindArgs fd args) (fun binds s₁ =>
      wpAny (model prog w) A.in1 (newFunctionEnv fd.scope fd.globals fd.closure binds (fd.qualname ++ ".<locals>.") (some a) fd.code none fd.builtins)
        (fun env s₂ => s₂.heap.NoLimit ∧ codeC (model prog w) A (.func body env) R s₂) (fun _ _ => False) s₁) (fun _ _ => False) s) :
    codeC (model prog w) A (.call (.ref a) args) R s := by
  refine codeC_of_tree rfl (wpC_of_any ?_)
  show wpAny _ A.in1 (callAny (.ref a) args) _ _ s
  simp only [callAny]
  refine wpAny_bind (wpAny_load ho ?_)
  obtain ⟨c, oc, vs, tq, hc, hoc, hdc, hq⟩ := hcd
  simp only [hd', callFunction, hco, hgen, hbody, hc]
  rw [hc] at h
  refine wpAny_bind (m := field (.ref c) 1) (wpAny_field hoc hdc hq (wpAny_bind (wpAny_pure ?_)))
  exact wpAny_bind (wpAny_mono h (fun binds s₁ h₁ => wpAny_bind (wpAny_mono h₁ (fun env s₂ h₂ => wpAny_bind (wpAny_enterFrame h₂.1 hroom
    (wpAny_pure (And.intro rfl h₂.2)))) fun _ _ h' => h')) fun _ _ h' => h')

theorem codeC_call_def {a : Addr} {o : Obj} {fd : FuncData} {body : List Stmt} {args : Args} {binds : List (Str × Value)}
    (hroom : A.depth < recursionLimit) (ho : s.heap.get? a = some o) (hdata : o.data = .func fd) (hlim : s.heap.NoLimit) (hcd : s.heap.CodeRec fd.code fd.qualname)
    (hbody : fd.body = .stmts body) (hbind : BindsTo s fd args binds)
    (hcell : ∀ x ∈ fd.scope.names, x.2 ≠ .cell) (hloc : ∀ x ∈ binds, fd.scope.names.lookup x.1 = some .local)
    (h : ∀ h₀, h₀.Ns s.heap.objs.size (fun x => binds.reverse.lookup x) → (∀ b o, s.heap.get? b = some o → h₀.get? b = some o) →
      wpC (model prog w) (A.deeper (callEnv fd s.heap.objs.size a)) (execs body (callEnv fd s.heap.objs.size a)) (fun f s' => R (.ret (match f with | .ret v => v | _ => .none)) s')
        { s with heap := h₀, toks := s.toks + binds.length })
    (hco : fd.scope.isCoroutine = false := by rfl) (hgen : fd.scope.isGenerator = false := by rfl) (hk : fd.scope.kind = .function := by rfl) :
    codeC (model prog w) A (.call (.ref a) args) R s := by
  refine codeC_call_function hroom ho hdata hco hgen hbody hcd (hbind _ _ _ _ ?_)
  refine wpAny_newFunctionEnv hcell hloc (fun h₀ hns₀ hsb₀ => ⟨hlim.fresh _ hsb₀, codeC_func (h h₀ hns₀ fun b o e => ?_)⟩) hk
  exact hsb₀.extBut b o (Nat.ne_of_lt (Heap.lt_size e)) (Heap.get?_push_of_some _ e)

theorem codeC_forLoop {target it body orelse env} (I : Nat → Shared → Prop)
    (turn : ∀ n s, I n s → wpAny (model prog w) A (pyNext it) (fun r s₁ => match r with
      | none => wpAny (model prog w) A (execs orelse env) (fun f s₃ => R f s₃) (fun _ _ => False) s₁
      | some v => wpAny (model prog w) A (assign target env v) (fun _ s₂ => wpC (model prog w) A (execs body env) (fun f s₃ => match f with
          | .next | .cont => ∃ m, m < n ∧ I m s₃
          | .brk => R .next s₃
          | .ret v => R (.ret v) s₃) s₂) (fun _ _ => False) s₁) (fun _ _ => False) s)
    (n : Nat) (h : I n s) (ht : ∀ v, letOwnedTupleGo target it v = pure () := by intro _; rfl) : codeC (model prog w) A (.forLoop target it body orelse env) R s := by
  have hA : A.under (.forLoop target it body orelse env) = A := Around.under_of_weight rfl rfl
  refine codeC_loop rfl rfl I (fun n s hI => ?_) n h
  rw [hA]
  show wpC _ _ ((forTurn target it body orelse env).onRaise (fun x => do noteFrame x env; theTreesLotGoes x)) _ s
  refine wpC_onRaise ?_
  simp only [forTurn]
  refine wpC_bind (wpC_standAt (wpC_bind (wpC_onRaise (wpC_of_any (wpAny_mono (turn n s hI) (fun r s₁ h₁ => ?_) fun _ _ h' => h')))))
  cases r with
  | none =>
    refine wpC_pure (.inr ⟨rfl, codeC_of_any (codeAny_block ?_)⟩)
    exact wpAny_mono h₁ (fun _ _ x => x) fun _ _ x => x.elim
  | some v =>
    refine wpC_bind (wpC_of_eq (ht v) ?_)
    refine wpC_bindA (wpAny_mono h₁ (fun _ s₂ h₂ => wpC_bind (wpC_mono h₂ (fun f s₃ h₃ => ?_))) fun _ _ h' => h')
    cases f with
    | next => exact wpC_pure (.inl ⟨rfl, h₃⟩)
    | cont => exact wpC_pure (.inl ⟨rfl, h₃⟩)
    | brk => exact wpC_pure h₃
    | ret v => exact wpC_pure h₃
end
end Mine

namespace Mine

theorem caller_clean : Clean (⟨.builtin "claim.caller" {}, none, none, [], none⟩ : Ctx) :=
  ⟨by decide +kernel, fun x hx => nomatch hx⟩

theorem thread_endsC {prog : Program} {w : World} {t : Sem Fin} {s : Shared} {R : Result → Shared → Prop} (hreg : s.asleep)
    (h : wpC (model prog w) callerA t (fun fin s' => ∃ f, fin = .done f ∧ (R (.ok f) s' ∧ leftWithCleanup s'.gens = false)) s) :
    ∃ n r s' s'', runN (denote table) prog w n s ⟨t, .builtin "claim.caller" {}, default, []⟩ = .halted (outcomeOf r) s' ∧
      schedN (denote table) prog w n (.single s ⟨t, .builtin "claim.caller" {}, default, []⟩) = .halted (outcomeOf r) s' ∧ s'.forget = s''.forget ∧ R r s'' := by
  have h1 : wp (model prog w) ⟨.builtin "claim.caller" {}, none, none, [], none⟩ t
      (Sem.finPost (model prog w) ⟨.builtin "claim.caller" {}, none, none, [], none⟩ (fun r s' => R r s' ∧ leftWithCleanup s'.gens = false))
      (fun e _ s' => R (.error e) s' ∧ leftWithCleanup s'.gens = false) default s := by
    refine Sem.wp_mono _ _ t (fun fin p' s' h' => ?_) (fun _ _ _ h' => h'.elim) _ s (h _ default caller_in caller_clean)
    obtain ⟨f, rfl, hf⟩ := h'
    exact hf
  obtain ⟨n, r, s₁, s₂, hs, hn, hfo, hR⟩ := wp_halts_full (M := model prog w) (R := R) hreg h1
  exact ⟨n, r, s₂, s₁, hn, hs, hfo, hR⟩

theorem callFrom_C {c : ClaimW} {tree : List Value → Sem Fin} {w : World} {s : Shared} {free : Addr → Prop} {gens : Prop} {kept : Heap → Prop} (hz : s.asleep) (hgens : s.gens = #[])
    (hspec : ∀ args, c.pre args = true → WData.layableAll args = true →
      ∀ ord : List DictEntry → List DictEntry, (∀ l, (ord l).Perm l) →
      ∃ vs s₁, layAllW c.records (classAt s.heap) w.params ord args s = some (vs, s₁) ∧
        wpC (model c.prog w) callerA (tree vs) (fun fin s' => ∃ f, fin = .done f ∧ (c.Ends s args vs s₁ (.ok f) s' ∧ s'.os = s.os ∧ AllBare s'.gens ∧ kept s'.heap)) s₁) :
    c.CallFrom (fun vs => ⟨tree vs, .builtin "claim.caller" {}, default, []⟩) w free gens kept s := by
  intro args hpre hlay ord hord
  obtain ⟨vs, s₁, hlaid, hcode⟩ := hspec args hpre hlay ord hord
  have hal := layAllW_rest _ _ _ hlaid
  obtain ⟨k, r, s', s'', hrun, hsched, hfo, hcase, hos, hkp⟩ := thread_endsC (prog := c.prog) (w := w) (t := tree vs) (s := s₁)
    (R := fun r s' => c.Ends s args vs s₁ r s' ∧ s'.os = s.os ∧ kept s'.heap)
    (Shared.asleep_of_life hal.2.2.2 hz)
    (wpC_mono hcode (by
      rintro fin s' ⟨f, e, h1, h2, h3, h4⟩
      exact ⟨f, e, ⟨h1, h2, h4⟩, leftWithCleanup_false_of_bare h3⟩))
  obtain ⟨eh, _, _, eo, _⟩ := Shared.forget_eq hfo
  have hcase := hcase.congr eh
  have hkp : kept s'.heap := by first | exact eh ▸ hkp | (rw [eh] at hkp; exact hkp) | (rw [← eh] at hkp; exact hkp)
  rw [← eo] at hos
  have hlife : s'.heap.life = s.heap.life := (runN_life _ _ _ hrun).trans hal.2.2.2
  refine ⟨vs, s₁, hlaid, k, _, s', hsched, ?_, (fun _ i x hx => by rw [hgens] at hx; simp at hx), hkp, by rw [hlife], Shared.rest_eq hos⟩
  rcases hcase with ⟨v, rfl, d1, d2, d3, d4, d5⟩ | ⟨e, ob, cls, rfl, d1, d2, d3, d4, d5⟩
  · exact .inl ⟨v, rfl, d1, d2, d3, fun b o y _ => d4 b o y, d5⟩
  · exact .inr ⟨e, ob, cls, rfl, d1, d2, d3, d4, fun b o y _ => d5 b o y⟩

theorem open_C {r : RowW} {run : Value → List Value → Sem Value} {tree : List Value → Sem Fin} {q : Program} {loose defs kps : List Str} {writes : Bool} {Xt : Shared → Bool} {XP : (Str → Option Value) → Heap → Prop} {α : Type} {Yf : Shared → α} {Ya : World → α} {YP : World → Heap → Prop} {N : Nat}
    (left : LeftO r.prog q loose Xt Yf Ya N) (hY : ∀ w s, Yf s = Ya w → YP w s.heap) (hYk : ∀ w h h', YP w h → (∀ b o, h.get? b = some o → h'.get? b = some o) → YP w h') (hX : ∀ s, Xt s = true → XP (s.heap.nsMap mainGlobals) s.heap) (hXk : ∀ mg h h', XP mg h → (∀ b o, h.get? b = some o → h'.get? b = some o) → XP mg h')
    (hRf : ∀ s, Xt s = true → RecFacts r.records s.heap) (hwr : (!writes || r.records.isEmpty) = true) (ok : (chainsOk q && opensWell r.prog && (frees r && r.within.isEmpty)) = true) (hb : r.prog.bare) (hw : r.promised)
    (ht : ∀ vs (w : World) (s : Shared) mg f (Q : Fin → Shared → Prop), s.heap.Ns mainGlobals mg → mg r.name = some f → wpC (model r.prog w) callerA (run f vs) (fun v s' => Q (.done (.ret v)) s') s → wpC (model r.prog w) callerA (tree vs) Q s)
    (pin : ∀ w s, s.heap.isNs mainGlobals = true → Ground q loose [] XP w s (s.heap.nsMap mainGlobals) (s.heap.nsMap builtinsNs) s.heap → ∀ n ∈ defs, isTheDefsW r.prog s.heap n)
    (call : ∀ (w : World) (s₀ s₁ : Shared) (mg mb : Str → Option Value), Ground q loose r.records XP w s₀ mg mb s₁.heap → YP w s₁.heap → ∀ (args : List WData) (vs : List Value) (as : List Addr),
      r.claim.pre args = true → WData.layableAll args = true → Laid r.records w s₀ s₁ args vs as → sysModules < s₀.heap.objs.size → ∃ f, mg r.name = some f ∧
        wpC (model r.prog w) callerA (run f vs) (fun v s' => GoodWG r.claim (classAt s₀.heap) (ExcName.means s₀.heap) args s₁ (.ok (.ret v)) s') s₁) : r.claim.HoldsOpenBy (fun vs => ⟨tree vs, .builtin "claim.caller" {}, default, []⟩) defs kps writes := by
  obtain ⟨ok, k5⟩ := Bool.and_eq_true_iff.mp ok
  obtain ⟨hch, o1⟩ := Bool.and_eq_true_iff.mp ok
  obtain ⟨k5, k6⟩ := Bool.and_eq_true_iff.mp k5
  obtain ⟨hsame, hu, ha, hap, hm⟩ := frees_parts k5
  refine ⟨⟨hb, o1, by show r.makers.map _ = []; rw [hm]; rfl⟩, hw.witness, fun w => ⟨(left.behind hX hch w).1, fun s' hs' => ?_⟩⟩
  obtain ⟨s₀, hf, hg0, s, hT, hz, hgens, hg, G00, y⟩ := (left.behind (XP := fun mg h => XP mg h ∧ RecFacts r.records h) (fun s hs => ⟨hX s hs, hRf s hs⟩) hch w).2 s' hs'
  have G0 : Ground q loose [] XP w s (s.heap.nsMap mainGlobals) (s.heap.nsMap builtinsNs) s.heap := ⟨G00.T, G00.B, G00.D, G00.TE, G00.TD, G00.W, G00.X.1, G00.cls, G00.has, G00.apart, G00.once, G00.K⟩
  have RF := G00.X.2
  have hT' := hT
  refine ⟨s₀, hf, hg0, s, hT, pin w s hg G0, RF.1, RF.2.1, ?_⟩
  have hgens : s.gens = #[] := Array.eq_empty_of_size_eq_zero (beq_iff_eq.mp hgens)
  have G : Ground q loose r.records XP w s _ _ s.heap := RF.ground G0
  refine callFrom_C (c := r.claim) hz hgens fun args hpre hlay ord hord => ?_
  obtain ⟨⟨vs, s₁⟩, hlaid⟩ := Option.isSome_iff_exists.mp (layAllW_isSome (P := w.params) (ord := ord) G.has args r.args s (pre_splitW hpre).1)
  have keeps := layAllW_keeps _ _ _ hlaid
  have hal := layAllW_rest _ _ _ hlaid
  obtain ⟨as, hrd, hin, hold⟩ := reads_layAllW hord _ _ _ hlaid hlay s₁.heap (fun _ _ e => e)
  have L : Laid r.records w s s₁ args vs as := ⟨⟨ord, hord, hlaid⟩, hrd, hin, hold, keeps, hal.1.trans hgens, hal.2.2.1⟩
  have G₁ := G.keeps hXk keeps
  obtain ⟨f, hf, h⟩ := call w s s₁ _ _ G₁ (hYk _ _ _ (hY w s y) keeps) args vs as hpre hlay L G.low
  have hi := ident_freeW hu ha hap
  have hwi : r.claim.within = [] := List.isEmpty_iff.mp k6
  exact ⟨vs, s₁, hlaid, ht vs w s₁ _ f _ G₁.T.g hf (wpC_mono h (fun v s' g => ⟨_, rfl, have z := g.laid (c := r.claim) hsame hwi hi L; ⟨z.1, z.2.1, z.2.2, fun q => ⟨namesKept_of hT' hg kps keeps g.2.1.old, noTable hwr q⟩⟩⟩))⟩

abbrev WalkC (q : Program) (loose : List Str) (XP : (Str → Option Value) → Heap → Prop) (YP : World → Heap → Prop) (r : RowW) (d : DefRec) (kwd : List (Str × Expr)) (run : Value → List Value → Sem Value) : Prop :=
  ∀ (w : World) (s₀ s₁ : Shared) (mg mb : Str → Option Value), Ground q loose r.records XP w s₀ mg mb s₁.heap → YP w s₁.heap → ∀ (a : Addr) (o : Obj) (pm cd doc dV kV : Value), s₁.heap.get? a = some o →
    o.data = .func { docDef d.name d.params d.body d.scope pm cd doc with defaults := dV, kwdefaults := kV } → s₁.heap.CodeRec cd d.name → Dflts mg s₁.heap d.params kwd dV kV → mg d.name = some (.ref a) → s₁.gens = #[] →
    ∀ (args : List WData) (vals : List Value) (as : List Addr), r.claim.pre args = true → WData.layableAll args = true → ReadsAllW r.records (classAt s₀.heap) s₁.heap vals args as → WellAll w.params s₁.heap vals args → (∀ a ∈ as, (a == sysModules) = false) →
      wpC (model r.prog w) callerA (run (.ref a) vals) (fun v s' => GoodWG r.claim (classAt s₀.heap) (ExcName.means s₀.heap) args s₁ (.ok (.ret v)) s') s₁

end Mine
namespace Mine.PySem.W
/-- the head of an open row, asked at the true context alone. Its full name is Mine.PySem.W.holds_open: the library's head line calls its head by name, and so, run from within the namespace Mine, it takes this one (whose last premise asks less) in the place of the library's. -/
theorem holds_open {r : OpenRow} {q : Program} {loose : List Str} {Xt : Shared → Bool} {XP : (Str → Option Value) → Heap → Prop} {α : Type} {Yf : Shared → α} {Ya : World → α} {YP : World → Heap → Prop} {d : DefRec} {kwd : List (Str × Expr)} {N : Nat}
    (left : LeftO r.prog q loose Xt Yf Ya N) (hY : ∀ w s, Yf s = Ya w → YP w s.heap) (hYk : ∀ w h h', YP w h → (∀ b o, h.get? b = some o → h'.get? b = some o) → YP w h')
    (hX : ∀ s, Xt s = true → XP (s.heap.nsMap mainGlobals) s.heap) (hXk : ∀ mg h h', XP mg h → (∀ b o, h.get? b = some o → h'.get? b = some o) → XP mg h')
    (hdef : defOf q r.name = some (d, kwd)) (hp : r.prog.theDef r.name = some (d.params, d.body, d.scope)) (hk : kwWritten? d.params.kwonlyargs d.params.kw_defaults = some kwd) (hRf : ∀ s, Xt s = true → RecFacts r.records s.heap) (hwr : (!r.writes || r.records.isEmpty) = true)
    (k1 : r.wellSaid = true) (ok : (chainsOk q && opensWell r.prog && (frees r.toRowW && r.within.isEmpty)) = true) (hb : r.prog.bare) (hw : r.toRowW.promised)
    (call : WalkC q loose XP YP r.toRowW d kwd fun f vs => PySem.call f vs) : r.Holds := by
  refine ⟨k1, hw, open_C (r := r.toRowW) (run := fun f vs => PySem.call f vs) (tree := fun vs => do match ← nsGet mainNs r.name with
      | some f => do ret (← PySem.call f vs)
      | none => unsupported "claim.caller:no-such-global") left hY hYk hX hXk hRf hwr ok hb hw
    (fun vs w s mg f Q hg hf h => wpC_bindA (wpAny_nsGet hg (by rw [hf]; exact wpC_bind (wpC_mono h (fun _ _ x => wpC_pure x)))))
    (fun w s hg G n hn => ?_) fun w s₀ s₁ mg mb G Y args vs as hpre hlay L low => ?_⟩
  · obtain rfl : n = r.name := by split at hn <;> simp_all
    exact pinned_of_view hg G hdef hp hk
  · obtain ⟨a, o, pm, cd, doc, dV, kV, h1, h2, h3, h4, h5⟩ := G.fn hdef
    exact ⟨.ref a, h1, call w s₀ s₁ mg mb G Y a o pm cd doc dV kV h2 h3 h4 h5 (defOf_name hdef ▸ h1) L.gens args vs as hpre hlay L.reads L.well (L.low low)⟩
end Mine.PySem.W
namespace Mine
set_option maxRecDepth 100000 in
set_option maxHeartbeats 8000000 in
open_top hd for PySem.Challenge.rw_nc0007_01
end Mine

namespace Mine

section
variable {α β : Type} {M : Model} {A : Around} {s : Shared}

theorem wpC_exported {self : Value} {Q : Bool → Shared → Prop} (hg : A.guards = some []) (h : Q false s) : wpC M A (Builtin.Bytes.exported self) Q s := by
  intro Γ p hΓ hc
  unfold Builtin.Bytes.exported
  show Q (((Γ.code, p) :: Γ.below).any _) s
  have hgu := hΓ.2.2.2.1 [] hg
  have key : ∀ x ∈ (Γ.code, p) :: Γ.below, x.1.isGuard = false ∧ isDec x.1 = false := by
    intro x hx
    have h1 : guardsOf ((Γ.code, p) :: Γ.below) = [] := by rw [guardsOf_cons]; exact hgu
    constructor
    · cases hq : x.1.isGuard with
      | false => rfl
      | true =>
        have : x.1 ∈ guardsOf ((Γ.code, p) :: Γ.below) := List.mem_filter.mpr ⟨List.mem_map.mpr ⟨x, hx, rfl⟩, hq⟩
        rw [h1] at this; cases this
    · rcases List.mem_cons.mp hx with rfl | hx
      · exact hc.1
      · exact hc.2 x hx
  rw [List.any_eq_false.mpr ?_]
  · exact h
  · intro x hx
    obtain ⟨k1, k2⟩ := key x hx
    obtain ⟨c, q⟩ := x
    dsimp only at k1 k2 ⊢
    split
    case h_1 he => cases he; exact absurd (show guardIds.contains "bytearray.__contains__" = false from k1) (by decide +kernel)
    case h_2 he => cases he; exact absurd (show guardIds.contains "bytearray.__mod__" = false from k1) (by decide +kernel)
    case h_3 he => cases he; exact absurd (show guardIds.contains "bytearray.__rmod__" = false from k1) (by decide +kernel)
    case h_4 he => cases he; exact absurd (show guardIds.contains "_struct.pack_into.held" = false from k1) (by decide +kernel)
    case h_5 he => cases he; exact absurd (show guardIds.contains "bytearray.find.held" = false from k1) (by decide +kernel)
    case h_6 id v tl kw q' _ _ _ _ _ he =>
      cases he
      have k3 : Builtin.Bytes.decodersThatHold.contains id = false := k2
      rw [k3]; simp
    case h_7 => simp

theorem codeC_call_builtin {prog : Program} {w : World} {R : Flow → Shared → Prop} {id : String} {args : Args} {b : Builtin} (hq : plainId id = true) (hb : entryFor table id = some b)
    (hd : isDec (.builtin id args) = false)
    (h : wpAny (model prog w) A.in1 (checkBuiltinCall id args) (fun _ s₁ => wpC (model prog w) A.in1 (b args)
      (fun fin s' => match fin with | .done f => R f s' | .again c' => c'.quiet = true ∧ codeC (model prog w) A c' R s') s₁) (fun _ _ => False) s) :
    codeC (model prog w) A (.call (.builtin id) args) R s := by
  refine codeC_of_tree rfl ?_
  show wpC _ A.in1 (do checkBuiltinCall id args; again (.builtin id args)) _ s
  refine wpC_bindA (wpAny_mono h (fun _ s₁ h₁ => wpC_pure (And.intro (plainId_quiet hq args) (codeC_of_tree hd ?_))) fun _ _ h' => h')
  rw [Around.under_plainId hq args]
  show wpC _ _ (match entryFor table id with | some b => b args | none => unsupported ((withoutEnding? id "#data").getD id)) _ s₁
  rw [hb]; exact h₁
end

namespace FB
theorem mro : mroOf (.type "bytearray") = pure [.type "bytearray", .type "object"] := by rw [mroOf_type]; kernel_rfl
theorem lookup_new : typeLookup (.type "bytearray") "__new__" = pure (some (.builtin "bytearray.__new__")) := by rw [typeLookup_type, builtinLookup_eq_fast]; kernel_rfl
theorem slot_init : Slot "bytearray" "__init__" "bytearray.__init__" :=
  .of (owner := "bytearray") (n := "__init__") (by rw [typeLookup_type, builtinLookup_eq_fast]; kernel_rfl) (by decide +kernel) (by decide +kernel) (by decide +kernel)
    (by first | exact .inl (by decide +kernel) | exact .inr (by decide +kernel)) (by rw [isSubtype_type]; kernel_rfl)
theorem called : TypeCalled "bytearray" "bytearray.__new__" "bytearray.__init__" :=
  ⟨by decide +kernel, by decide +kernel, ⟨_, _, mro⟩, madeBy_type mro lookup_new (by decide +kernel), by decide +kernel, by rw [isSubtype_type]; kernel_rfl, slot_init⟩
theorem typeCall : checkTypeCall "bytearray" ⟨[], []⟩ = pure () := by kernel_rfl
theorem newCall : checkBuiltinCall "bytearray.__new__" ⟨[.type "bytearray"], []⟩ = pure () := by kernel_rfl
theorem fast_none : fastTable "bytearray.__new__" = none := by rw [fastTable_eq_tree]; kernel_rfl
theorem fast_list : fastTable "list.__new__" = some Builtin.«list.__new__» := by rw [fastTable_eq_tree]; kernel_rfl
theorem cut_new : "bytearray.__new__".cutAt '#' = ["bytearray.__new__"] := by decide +kernel
theorem canon_new : Manifest.canonical ("bytearray.__new__".map fun c => if c.isAlphanum || c == '_' || c == '.' then c else '_') ++ "" = "list.__new__" := by decide +kernel
theorem entry_new : entryFor table "bytearray.__new__" = some Builtin.«list.__new__» := entryFor_alias fast_none cut_new canon_new fast_list
theorem plain_new : plainId "bytearray.__new__" = true := by decide +kernel
theorem entry_init : entryFor table "bytearray.__init__" = some Builtin.«bytearray.__init__» := entryFor_of_tree (by kernel_rfl)
theorem entry_append : entryFor table "bytearray.append" = some Builtin.«bytearray.append» := entryFor_of_tree (by kernel_rfl)
theorem entry_iadd : entryFor table "bytearray.__iadd__" = some Builtin.«bytearray.__iadd__» := entryFor_of_tree (by kernel_rfl)
theorem plain_append : plainId "bytearray.append" = true := by decide +kernel
theorem plain_iadd : plainId "bytearray.__iadd__" = true := by decide +kernel
set_option maxRecDepth 1000000 in
set_option maxHeartbeats 4000000 in
theorem owner_new : ("bytearray.__new__".splitOn ".__new__").headD "" = "bytearray" := by simp +decide [String.splitOn, String.splitOnAux]
theorem sub_self : isSubtype (.type "bytearray") (.type "bytearray") = pure true := by rw [isSubtype_type]; kernel_rfl
theorem no_release : typeLookup (.type "bytearray") "__release_buffer__" = pure (some (.builtin "bytearray.__release_buffer__")) := by rw [typeLookup_type, builtinLookup_eq_fast]; kernel_rfl
theorem args_init (a : Value) : argsOk "bytearray.__init__" ⟨[a], []⟩ := by
  first | (unfold argsOk; kernel_rfl) | (simp only [argsOk]; kernel_rfl)
end FB
end Mine

namespace Mine

def baObj (b : Array UInt8) : Obj := { cls := .type "bytearray", data := .bytearray b 0 }

section
variable {α β : Type} {M : Model} {A : Around} {s : Shared} {prog : Program} {w : World}

theorem code_new {Q₁ : Value → Shared → Prop} {E : Value → Shared → Prop}
    (h : Q₁ (.ref s.heap.objs.size) { s with heap := s.heap.push (baObj #[]) }) :
    codeAny (model prog w) A (.call (.builtin "bytearray.__new__") ⟨[.type "bytearray"], []⟩) (wants Q₁ E) s := by
  refine codeAny_of_tree ?_
  show wpAny _ A.in1 (do checkBuiltinCall "bytearray.__new__" ⟨[.type "bytearray"], []⟩; again (.builtin "bytearray.__new__" ⟨[.type "bytearray"], []⟩)) _ _ s
  refine wpAny_bind (wpAny_of_eq FB.newCall (wpAny_pure ⟨plainId_quiet FB.plain_new _, codeAny_builtin_stack FB.entry_new rfl fun p st => ?_⟩))
  rw [Around.under_plainId FB.plain_new _]
  have hsub := FB.sub_self
  have hown := FB.owner_new
  obtain ⟨hp, g, d, tk, os⟩ := s
  simp only [hown]
  wp_walk
  exact h

theorem typeIs_ba {a : Addr} {b : Array UInt8} {h : Heap} (e : h.get? a = some (baObj b)) : ({ s with heap := h } : Shared).TypeIs (.ref a) "bytearray" := ⟨_, e, rfl⟩

theorem wpAny_ownRelease {E : Value → Shared → Prop} {a : Addr} {Q : Bool → Shared → Prop} (hT : s.TypeIs (.ref a) "bytearray") (h : Q false s) : wpAny M A (Builtin.Bytes.ownRelease (.ref a)) Q E s := by
  unfold Builtin.Bytes.ownRelease Builtin.Bytes.slotIsOwn
  refine wpAny_bind (wpAny_bind (wpAny_specialOf hT FB.no_release ?_))
  have h1 : ("bytearray.__release_buffer__".endsWith ("." ++ "__release_buffer__")) = true := by decide +kernel
  have h2 : ("bytearray.__release_buffer__".dropRight ("__release_buffer__".length + 1)) = "bytearray" := by decide +kernel
  simp only [h1, h2, Bool.not_true]
  refine wpAny_isInstance hT FB.sub_self ?_
  exact wpAny_pure h

theorem wpAny_payload {E : Value → Shared → Prop} {a : Addr} {b : Array UInt8} {Q : Array UInt8 → Shared → Prop} (ho : s.heap.get? a = some (baObj b)) (h : Q b s) : wpAny M A (Builtin.Bytes.payload (.ref a)) Q E s := by
  unfold Builtin.Bytes.payload Builtin.Bytes.payload?
  refine wpAny_bind (wpAny_bind (wpAny_load ho ?_))
  exact wpAny_pure (wpAny_pure h)

theorem wpAny_write {E : Value → Shared → Prop} {a : Addr} {b : Array UInt8} {f : Array UInt8 → Array UInt8} {Q : Unit → Shared → Prop} (ho : s.heap.get? a = some (baObj b)) (hz : (f b).size ≤ sizeLine)
    (h : Q () { s with heap := s.heap.update a (Obj.mapBytearray f) }) : wpAny M A (Builtin.Bytes.write (.ref a) f) Q E s := by
  unfold Builtin.Bytes.write
  show wpAny M A (updateBytearray a f) Q E s
  unfold updateBytearray
  refine wpAny_bind (wpAny_load ho ?_)
  show wpAny M A (do update a (Obj.mapBytearray f); lookBehind a) Q E s
  refine wpAny_bind (wpAny_update ho ?_)
  refine wpAny_lookBehind (o := baObj (f b)) (Heap.get?_update_self _ ho rfl) ?_ h
  show (if (f b).size > sizeLine then some "bytearray:memory" else none) = none
  rw [if_neg (Nat.not_lt.mpr hz)]

theorem wpAny_exportsOf {E : Value → Shared → Prop} {a : Addr} {b : Array UInt8} {Q : Nat → Shared → Prop} (ho : s.heap.get? a = some (baObj b)) (h : Q 0 s) : wpAny M A (Builtin.Bytes.exportsOf (.ref a)) Q E s := by
  unfold Builtin.Bytes.exportsOf
  exact wpAny_bind (wpAny_load ho (wpAny_pure h))

theorem wpC_noExports {a : Addr} {b : Array UInt8} {Q : Bool → Shared → Prop} (hg : A.guards = some []) (ho : s.heap.get? a = some (baObj b)) (h : Q false s) :
    wpC M A (Builtin.Bytes.exported (.ref a) <||> (do return (← Builtin.Bytes.exportsOf (.ref a)) > 0)) Q s := by
  unfold orM
  refine wpC_bind (wpC_exported hg ?_)
  show wpC M A (do return decide ((← Builtin.Bytes.exportsOf (.ref a)) > 0)) Q s
  exact wpC_bindA (wpAny_exportsOf ho (wpC_pure h))

theorem wpC_checkResize {a : Addr} {b : Array UInt8} {Q : Unit → Shared → Prop} (hg : A.guards = some []) (ho : s.heap.get? a = some (baObj b)) (h : Q () s) :
    wpC M A (Builtin.Bytes.checkResize (.ref a)) Q s := by
  unfold Builtin.Bytes.checkResize
  refine wpC_bind (wpC_noExports hg ho ?_)
  exact wpC_pure h

theorem wpC_init {a : Addr} {Q : Fin → Shared → Prop} (hg : A.guards = some []) (ho : s.heap.get? a = some (baObj #[]))
    (h : Q (.done (.ret .none)) { s with heap := s.heap.update a (Obj.mapBytearray fun _ => #[]) }) :
    wpC M A (Builtin.«bytearray.__init__» ⟨[.ref a], []⟩) Q s := by
  unfold Builtin.«bytearray.__init__»
  show wpC M A (do
    if ← Builtin.Bytes.ownRelease (.ref a) then _ else _) Q s
  refine wpC_bindA (wpAny_ownRelease ⟨_, ho, rfl⟩ ?_)
  show wpC M A (Builtin.Bytes.bindOptional "bytearray.__init__" "bytearray" ["source", "encoding", "errors"] [] [] >>= _) Q s
  refine wpC_bind (wpC_of_eq (a := [none, none, none]) (by kernel_rfl) ?_)
  refine wpC_bind (wpC_of_eq (a := ()) rfl ?_)
  refine wpC_bind (wpC_of_eq (a := ()) rfl ?_)
  refine wpC_bind (wpC_noExports hg ho ?_)
  refine wpC_bindA (wpAny_write ho (Nat.zero_le _) ?_)
  exact wpC_pure h

theorem wpAny_byteValue {E : Value → Shared → Prop} {i : Int} {t : Tok} {Q : UInt8 → Shared → Prop} (h0 : 0 ≤ i) (h1 : i < 256) (h : Q i.toNat.toUInt8 s) : wpAny M A (Builtin.Bytes.byteValue (.int i t)) Q E s := by
  unfold Builtin.Bytes.byteValue
  refine wpAny_bind (wpAny_of_eq (a := i) rfl ?_)
  rw [if_neg (by simp; omega)]
  exact wpAny_pure h

theorem wpC_append {a : Addr} {b : Array UInt8} {i : Int} {t : Tok} {Q : Fin → Shared → Prop} (hg : A.guards = some []) (ho : s.heap.get? a = some (baObj b)) (h0 : 0 ≤ i) (h1 : i < 256) (hz : b.size + 1 ≤ sizeLine)
    (h : Q (.done (.ret .none)) { s with heap := s.heap.update a (Obj.mapBytearray fun x => x.push i.toNat.toUInt8) }) :
    wpC M A (Builtin.«bytearray.append» ⟨[.ref a, .int i t], []⟩) Q s := by
  unfold Builtin.«bytearray.append»
  refine wpC_bind (wpC_of_eq (a := (.ref a, .int i t)) rfl ?_)
  refine wpC_bindA (wpAny_byteValue h0 h1 ?_)
  refine wpC_bind (wpC_checkResize hg ho ?_)
  refine wpC_bindA (wpAny_write ho (by simpa using hz) ?_)
  exact wpC_pure h

theorem wpAny_attempt_ok {E : Value → Shared → Prop} {m : Sem α} {Q : Except Value α → Shared → Prop} (h : wpAny M A m (fun a => Q (.ok a)) (fun _ _ => False) s) :
    wpAny M A m.attempt Q E s := wpAny_attempt (wpAny_mono h (fun _ _ x => x) fun _ _ x => x.elim)

theorem buffer_bytes : typeLookup (.type "bytes") "__buffer__" = pure (some (.builtin "bytes.__buffer__")) := by rw [typeLookup_type, builtinLookup_eq_fast]; kernel_rfl
theorem release_bytes : typeLookup (.type "bytes") "__release_buffer__" = pure none := by rw [typeLookup_type, builtinLookup_eq_fast]; kernel_rfl
theorem sub_bytes : isSubtype (.type "bytes") (.type "bytes") = pure true := by rw [isSubtype_type]; kernel_rfl

theorem wpAny_slotOwn_bytes {E : Value → Shared → Prop} {b : Array UInt8} {t : Tok} {Q : Bool → Shared → Prop} (h : Q true s) : wpAny M A (Builtin.Bytes.slotIsOwn (.bytes b t) "__buffer__") Q E s := by
  unfold Builtin.Bytes.slotIsOwn
  have hT : s.TypeIs (.bytes b t) "bytes" := typeIs_bytes _ _ _
  refine wpAny_bind (wpAny_specialOf hT buffer_bytes ?_)
  have h1 : ("bytes.__buffer__".endsWith ("." ++ "__buffer__")) = true := by decide +kernel
  have h2 : ("bytes.__buffer__".dropRight ("__buffer__".length + 1)) = "bytes" := by decide +kernel
  simp only [h1, h2, Bool.not_true]
  exact wpAny_isInstance hT sub_bytes h

theorem wpAny_takeBuffer {E : Value → Shared → Prop} {id : String} {b : Array UInt8} {t : Tok} {Q : Option (Array UInt8 × Option Value) → Shared → Prop} (h : Q (some (b, none)) s) :
    wpAny M A (Builtin.Bytes.takeBuffer? id (.bytes b t) 0) Q E s := by
  have hT : s.TypeIs (.bytes b t) "bytes" := typeIs_bytes _ _ _
  unfold Builtin.Bytes.takeBuffer?
  refine wpAny_bind (wpAny_specialOf hT buffer_bytes ?_)
  refine wpAny_bind (wpAny_slotOwn_bytes ?_)
  refine wpAny_bind (wpAny_specialOf hT buffer_bytes ?_)
  refine wpAny_bind ?_
  unfold Builtin.Bytes.buffer?
  refine wpAny_bind (wpAny_specialOf hT buffer_bytes ?_)
  refine wpAny_bind (wpAny_slotOwn_bytes ?_)
  refine wpAny_bind (wpAny_specialOf hT buffer_bytes ?_)
  refine wpAny_bind ?_
  unfold Builtin.Bytes.ownRelease Builtin.Bytes.slotIsOwn
  refine wpAny_bind (wpAny_bind (wpAny_specialOf hT release_bytes ?_))
  refine wpAny_pure (wpAny_pure ?_)
  refine wpAny_bind (wpAny_of_eq (a := b) rfl ?_)
  exact wpAny_pure (wpAny_pure h)

theorem wpC_iadd {a : Addr} {b c : Array UInt8} {t : Tok} {Q : Fin → Shared → Prop} (hg : A.guards = some []) (ho : s.heap.get? a = some (baObj b)) (hz : b.size + c.size ≤ sizeLine)
    (h : Q (.done (.ret (.ref a))) { s with heap := s.heap.update a (Obj.mapBytearray fun x => x ++ c) }) :
    wpC M A (Builtin.«bytearray.__iadd__» ⟨[.ref a, .bytes c t], []⟩) Q s := by
  unfold Builtin.«bytearray.__iadd__»
  refine wpC_bind (wpC_of_eq (a := (.ref a, [.bytes c t])) rfl ?_)
  unfold Builtin.Bytes.takeBufferQuiet?
  refine wpC_bindA (wpAny_bind (wpAny_attempt_ok (wpAny_takeBuffer ?_)))
  refine wpAny_pure ?_
  unfold Builtin.Bytes.thenGiveBack
  dsimp only
  have hl : Builtin.Bytes.tooLong (b.size + c.size) = false := by
    simp only [Builtin.Bytes.tooLong, gt_iff_lt, decide_eq_false_iff_not]; omega
  have tail : wpC M A (do
      let x ← Builtin.Bytes.payload (.ref a)
      if Builtin.Bytes.tooLong (x.size + c.size) = true then do
          unsupported "bytearray.__iadd__:memory"
          Builtin.Bytes.write (Value.ref a) fun x => x ++ c
          ret (Value.ref a)
        else do
          Builtin.Bytes.write (Value.ref a) fun x => x ++ c
          ret (Value.ref a)) Q s := by
    refine wpC_bindA (wpAny_payload ho ?_)
    rw [hl, if_neg (by decide)]
    refine wpC_bindA (wpAny_write ho (by simpa using hz) ?_)
    exact wpC_pure h
  split
  · rw [if_neg (show ¬ (Builtin.Bytes.sameRef (.ref a) (.bytes c t) = true) by simp [Builtin.Bytes.sameRef])]
    exact wpC_bind (wpC_checkResize hg ho tail)
  · exact tail

theorem codeC_builtin {R : Flow → Shared → Prop} {id : String} {args : Args} {bi : Builtin} (hb : entryFor table id = some bi) (hd : isDec (.builtin id args) = false)
    (h : wpC (model prog w) (A.under (.builtin id args)) (bi args)
      (fun fin s' => match fin with | .done f => R f s' | .again c' => c'.quiet = true ∧ codeC (model prog w) A c' R s') s) :
    codeC (model prog w) A (.builtin id args) R s := by
  refine codeC_of_tree hd ?_
  show wpC _ _ (match entryFor table id with | some b => b args | none => unsupported ((withoutEnding? id "#data").getD id)) _ s
  rw [hb]; exact h

theorem callSpecialC {self : Value} {T : String} {name : Str} {id : String} {args : List Value} {kw : List (Str × Value)}
    {Q : Option Value → Shared → Prop} (hT : s.TypeIs self T) (h : Slot T name id)
    (hc : wpC M A (call (.builtin id) (self :: args) kw) (fun v => Q (some v)) s) : wpC M A (callSpecial? self name args kw) Q s := by
  simp only [callSpecial?]
  refine wpC_bindA (wpAny_specialOf hT h.lookup ?_)
  simp only [h.bind]
  exact wpC_holding (wpC_bind (wpC_pure (wpC_bind (wpC_mono hc (fun v s' h' => wpC_pure h')))))

set_option maxHeartbeats 4000000 in
theorem newBA {Q : Value → Shared → Prop} (hg : A.guards = some [])
    (h : Q (.ref s.heap.objs.size) { s with heap := (s.heap.push (baObj #[])).update s.heap.objs.size (Obj.mapBytearray fun _ => #[]) }) :
    wpC (model prog w) A (call (.type "bytearray") []) Q s := by
  have hs : (s.heap.push (baObj #[])).get? s.heap.objs.size = some (baObj #[]) := Heap.get?_push_size _ rfl
  have hT : ({ s with heap := s.heap.push (baObj #[]) } : Shared).TypeIs (.ref s.heap.objs.size) "bytearray" := ⟨_, hs, rfl⟩
  refine wpC_call (codeC_of_tree rfl ?_)
  show wpC _ _ (callAny (.type "bytearray") _) _ _
  refine wpC_pure ⟨Code.quiet_builtin _ (by decide +kernel), ?_⟩
  have hdec : isDec (.builtin "type.__call__" ⟨[.type "bytearray"], []⟩) = false := by
    show Builtin.Bytes.decodersThatHold.contains "type.__call__" = false
    decide +kernel
  refine codeC_builtin F.entry_type_call hdec ?_
  rw [Around.under_plain (weight_type_call_type "bytearray" [] []) rfl]
  unfold Builtin.«type.__call__»
  dsimp only
  rw [if_neg (by rw [FB.called.notType]; decide)]
  rw [if_neg (by rw [FB.called.canCreate]; decide)]
  refine wpC_bind (wpC_of_eq FB.typeCall ?_)
  refine wpC_bind (wpC_of_eq FB.mro ?_)
  rw [if_neg (by decide)]
  refine wpC_bind (wpC_of_eq FB.called.made ?_)
  refine wpC_bind (wpC_pure ?_)
  refine wpC_bindA (wpAny_holding (wpAny_call (code_new ?_)))
  refine wpC_bindA (wpAny_isInstance hT FB.sub_self ?_)
  rw [if_neg (by decide)]
  refine wpC_bind (wpC_holding (callSpecialC hT FB.slot_init (wpC_call (codeC_call_builtin FB.slot_init.plain FB.entry_init (show Builtin.Bytes.decodersThatHold.contains "bytearray.__init__" = false by decide +kernel) (FB.slot_init.check _ _ _ _ _ _ _ _ hT (FB.args_init _) ?_)))))
  refine wpC_init hg hs ?_
  show wpC _ _ _ _ _
  dsimp only
  rw [if_neg (by decide)]
  exact wpC_pure h
end
end Mine

namespace Mine
section
variable {α β : Type} {M : Model} {A : Around} {s : Shared} {env : Env}

theorem wpC_keep {vs : List Value} {m : Sem α} {Q : α → Shared → Prop} (h : wpC M A m Q s) : wpC M A (m.keep vs) Q s :=
  fun Γ p hΓ hc => by rw [Sem.wp_keep]; exact h Γ p hΓ hc
theorem wpC_point {Q : Unit → Shared → Prop} (h : Q () s) : wpC M A point Q s := wpC_of_any (wpAny_point h)

theorem splicedC1 {x : Sem Value} {Q : List Value → Shared → Prop} (h : wpC M A x (fun v s₁ => Q [v] s₁) s) : wpC M A (spliced [(false, x)]) Q s := by
  rw [spliced]
  refine wpC_bind (wpC_mono h (fun v s₁ h₁ => ?_))
  simp only [Bool.false_eq_true, if_false]
  exact wpC_bind (wpC_pure (wpC_bind (wpC_holding (wpC_pure (wpC_pure h₁)))))

theorem evalArgsC1 {f : Value} {x : Sem Value} {Q : Args → Shared → Prop}
    (h : wpC M A x (fun v s₁ => Q ⟨[v], []⟩ s₁) s) : wpC M A (evalArgs f true [(false, x)] []) Q s := by
  unfold evalArgs
  show wpC M A (spliced [(false, x)] >>= _) Q s
  refine wpC_bind (splicedC1 (wpC_mono h (fun v s' h' => ?_)))
  refine wpC_holding ?_
  exact wpC_bind (wpC_pure (wpC_bind (wpC_pure (wpC_pure h'))))

theorem callWithC_type1 {pos : Pos} {T : String} {x : Sem Value} {Q : Value → Shared → Prop}
    (h : wpC M A x (fun v s₁ => wpC M A (call (.type T) [v]) Q s₁) s) : wpC M A (callWith pos (.type T) [] [(false, x)] []) Q s := by
  unfold callWith
  refine wpC_bind (wpC_holding (evalArgsC1 (wpC_mono h (fun v s₁ h₁ => wpC_bind (wpC_standAt ?_)))))
  simp only [List.any_cons, List.any_nil, Bool.or_false]
  refine wpC_bind (wpC_pure ?_)
  exact wpC_bind (wpC_mono h₁ (fun r s₂ hr => wpC_bind (wpC_holding (wpC_point (wpC_pure hr)))))

theorem callWithC_type0 {pos : Pos} {T : String} {Q : Value → Shared → Prop}
    (h : wpC M A (call (.type T) []) Q s) : wpC M A (callWith pos (.type T) [] [] []) Q s := by
  unfold callWith
  refine wpC_bind (wpC_holding (wpC_of_eq (a := ⟨[], []⟩) rfl (wpC_bind (wpC_standAt ?_))))
  simp only [List.any_nil, Bool.or_false]
  refine wpC_bind (wpC_pure ?_)
  exact wpC_bind (wpC_mono h (fun r s₂ hr => wpC_bind (wpC_holding (wpC_point (wpC_pure hr)))))

theorem callWithC_builtin1 {pos : Pos} {id : String} {first : List Value} {x : Sem Value} {Q : Value → Shared → Prop}
    (h : wpC M A x (fun v s₁ => wpC M A (call (.builtin id) (first ++ [v])) Q s₁) s) : wpC M A (callWith pos (.builtin id) first [(false, x)] []) Q s := by
  unfold callWith
  refine wpC_bind (wpC_holding (evalArgsC1 (wpC_mono h (fun v s₁ h₁ => wpC_bind (wpC_standAt ?_)))))
  simp only [List.any_cons, List.any_nil, Bool.or_false]
  refine wpC_bind (wpC_pure ?_)
  exact wpC_bind (wpC_mono h₁ (fun r s₂ hr => wpC_bind (wpC_holding (wpC_point (wpC_pure hr)))))

theorem MethodCallC1 {o e : Expr} {name : Str} {apos pos : Pos} {pl : Sem Bool} {Q : Value → Shared → Prop}
    (h : wpAny M A (eval o env) (fun ov s₁ => wpAny M A (getMethod ov name pl) (fun fx s₂ => wpC M A (callWith pos fx.1 fx.2 [(false, eval e env)] []) Q s₂) (fun _ _ => False) s₁) (fun _ _ => False) s)
    (he : eval (.Call (.Attribute o name apos) [e] [] pos) env = (do
      let ov ← eval o env
      standAt apos.atName
      let (f, first) ← holding [ov] (getMethod ov name pl)
      callWith pos f first [(false, eval e env)] []) := by rfl) :
    wpC M A (eval (.Call (.Attribute o name apos) [e] [] pos) env) Q s := by
  rw [he]
  refine wpC_bindA (wpAny_mono h (fun ov s₁ h₁ => wpC_bind (wpC_standAt (wpC_bind (wpC_holding (wpC_of_any (wpAny_mono h₁ (fun fx s₂ h₂ => ?_) fun _ _ x => x)))))) fun _ _ x => x)
  exact h₂

theorem CallC1 {func e : Expr} {pos : Pos} {Q : Value → Shared → Prop}
    (h : wpAny M A (eval func env) (fun f s₁ => wpC M A (callWith pos f [] [(false, eval e env)] []) Q s₁) (fun _ _ => False) s)
    (he : eval (.Call func [e] [] pos) env = (do callWith pos (← eval func env) [] [(false, eval e env)] []) := by rfl) :
    wpC M A (eval (.Call func [e] [] pos) env) Q s := by
  rw [he]; exact wpC_bindA h

theorem CallC0 {func : Expr} {pos : Pos} {Q : Value → Shared → Prop}
    (h : wpAny M A (eval func env) (fun f s₁ => wpC M A (callWith pos f [] [] []) Q s₁) (fun _ _ => False) s)
    (he : eval (.Call func [] [] pos) env = (do callWith pos (← eval func env) [] [] []) := by rfl) :
    wpC M A (eval (.Call func [] [] pos) env) Q s := by
  rw [he]; exact wpC_bindA h

theorem callWithC_function1 {pos : Pos} {a : Addr} {o : Obj} {fd : FuncData} {x : Sem Value} {Q : Value → Shared → Prop}
    (h : wpC M A x (fun v s₁ => (s₁.heap.get? a = some o ∧ o.data = .func fd) ∧ wpC M A (call (.ref a) [v]) Q s₁) s) :
    wpC M A (callWith pos (.ref a) [] [(false, x)] []) Q s := by
  unfold callWith
  refine wpC_bind (wpC_holding (evalArgsC1 (wpC_mono h (fun v s₁ h₁ => wpC_bind (wpC_standAt ?_)))))
  have tail : ∀ {t : Sem Value}, wpC M A t Q s₁ → wpC M A (t >>= fun r => holding [r] point >>= fun _ => pure r) Q s₁ :=
    fun ht => wpC_bind (wpC_mono ht (fun r s₂ hr => wpC_bind (wpC_holding (wpC_point (wpC_pure hr)))))
  simp only [List.any_cons, List.any_nil, Bool.or_false]
  refine wpC_bind (m := keeperOf (.ref a)) ?_
  unfold keeperOf
  refine wpC_bindA (wpAny_load h₁.1.1 ?_)
  rw [h₁.1.2]
  refine wpC_pure ?_
  exact tail (by unfold callMarked; exact wpC_keep h₁.2)
end
namespace FB
theorem slot_append : Slot "bytearray" "append" "bytearray.append" :=
  .of (owner := "bytearray") (n := "append") (by rw [typeLookup_type, builtinLookup_eq_fast]; kernel_rfl) (by decide +kernel) (by decide +kernel) (by decide +kernel)
    (by first | exact .inl (by decide +kernel) | exact .inr (by decide +kernel)) (by rw [isSubtype_type]; kernel_rfl)
theorem ty_append : typeOf (.builtin "bytearray.append") = pure (.type "method_descriptor") := by kernel_rfl
theorem args_append (a b : Value) : argsOk "bytearray.append" ⟨[a, b], []⟩ := by
  first | (unfold argsOk; kernel_rfl) | (simp only [argsOk]; kernel_rfl)
theorem plainAttrs : PlainAttrs "bytearray" :=
  ⟨⟨"bytearray.__getattribute__", by rw [typeLookup_type, builtinLookup_eq_fast]; kernel_rfl, by decide +kernel⟩, by rw [typeLookup_type, builtinLookup_eq_fast]; kernel_rfl⟩
theorem fills : fillsInplaceSlot (.type "bytearray") "add" true = pure false := by
  unfold fillsInplaceSlot
  dsimp only
  rw [typeLookup_type, builtinLookup_eq_fast]; kernel_rfl
theorem seqIadd : seqSlot? (.type "bytearray") (dunderI "add") = pure (some (.builtin "bytearray.__iadd__")) := by
  unfold seqSlot?
  rw [typeLookup_type, builtinLookup_eq_fast]; kernel_rfl
theorem fillsN1 : fillsNumberSlot (.type "bytearray") "add" = pure false := by kernel_rfl
theorem fillsN2 : fillsNumberSlot (.type "bytes") "add" = pure false := by kernel_rfl
theorem slot_iadd : Slot "bytearray" "__iadd__" "bytearray.__iadd__" :=
  .of (owner := "bytearray") (n := "__iadd__") (by rw [typeLookup_type, builtinLookup_eq_fast]; kernel_rfl) (by decide +kernel) (by decide +kernel) (by decide +kernel)
    (by first | exact .inl (by decide +kernel) | exact .inr (by decide +kernel)) (by rw [isSubtype_type]; kernel_rfl)
theorem args_iadd (a b : Value) : argsOk "bytearray.__iadd__" ⟨[a, b], []⟩ := by
  first | (unfold argsOk; kernel_rfl) | (simp only [argsOk]; kernel_rfl)
end FB

section
variable {prog : Program} {w : World} {A : Around} {s : Shared} {env : Env}
theorem callAppend {a : Addr} {b : Array UInt8} {i : Int} {t : Tok} {Q : Value → Shared → Prop} (hg : A.guards = some []) (ho : s.heap.get? a = some (baObj b)) (h0 : 0 ≤ i) (h1 : i < 256) (hz : b.size + 1 ≤ sizeLine)
    (h : Q .none { s with heap := s.heap.update a (Obj.mapBytearray fun x => x.push i.toNat.toUInt8) }) :
    wpC (model prog w) A (call (.builtin "bytearray.append") [.ref a, .int i t]) Q s := by
  have hT : s.TypeIs (.ref a) "bytearray" := ⟨_, ho, rfl⟩
  refine wpC_call (codeC_call_builtin FB.slot_append.plain FB.entry_append (show Builtin.Bytes.decodersThatHold.contains "bytearray.append" = false by decide +kernel) (FB.slot_append.check _ _ _ _ _ _ _ _ hT (FB.args_append _ _) ?_))
  exact wpC_append hg ho h0 h1 hz h

theorem callIadd {a : Addr} {b c : Array UInt8} {t : Tok} {Q : Value → Shared → Prop} (hg : A.guards = some []) (ho : s.heap.get? a = some (baObj b)) (hz : b.size + c.size ≤ sizeLine)
    (h : Q (.ref a) { s with heap := s.heap.update a (Obj.mapBytearray fun x => x ++ c) }) :
    wpC (model prog w) A (call (.builtin "bytearray.__iadd__") [.ref a, .bytes c t]) Q s := by
  have hT : s.TypeIs (.ref a) "bytearray" := ⟨_, ho, rfl⟩
  refine wpC_call (codeC_call_builtin FB.slot_iadd.plain FB.entry_iadd (show Builtin.Bytes.decodersThatHold.contains "bytearray.__iadd__" = false by decide +kernel) (FB.slot_iadd.check _ _ _ _ _ _ _ _ hT (FB.args_iadd _ _) ?_))
  exact wpC_iadd hg ho hz h

theorem inplaceIadd {a : Addr} {b c : Array UInt8} {t : Tok} {Q : Value → Shared → Prop} (hg : A.guards = some []) (ho : s.heap.get? a = some (baObj b)) (hz : b.size + c.size ≤ sizeLine)
    (h : Q (.ref a) { s with heap := s.heap.update a (Obj.mapBytearray fun x => x ++ c) }) :
    wpC (model prog w) A (inplaceOp .Add (.ref a) (.bytes c t)) Q s := by
  have hT : s.TypeIs (.ref a) "bytearray" := ⟨_, ho, rfl⟩
  unfold inplaceOp
  refine wpC_holding ?_
  refine wpC_bindA (wpAny_typeOf hT ?_)
  refine wpC_bind (wpC_of_eq FB.fills ?_)
  dsimp only
  rw [if_neg (by decide)]
  have hb1 : wpAny (model prog w) A (binaryOp1 "add" (.ref a) (.bytes c t)) (fun r s' => r = none ∧ s' = s) (fun _ _ => False) s := by
    have hTb : s.TypeIs (.bytes c t) "bytes" := typeIs_bytes _ _ _
    have e1 := FB.fillsN1
    have e2 := FB.fillsN2
    have e3 : (Value.type "bytearray" == Value.type "bytes") = false := by decide
    unfold binaryOp1
    refine wpAny_bind (wpAny_typeOf hT ?_)
    refine wpAny_bind (wpAny_typeOf hTb ?_)
    refine wpAny_bind (wpAny_of_eq e1 ?_)
    rw [e3]
    refine wpAny_bind (wpAny_of_eq e2 ?_)
    dsimp only
    wp_walk
    exact ⟨rfl, rfl⟩
  refine wpC_bindA (wpAny_mono hb1 (fun r s' hr => ?_) fun _ _ x => x)
  obtain ⟨rfl, rfl⟩ := hr
  refine wpC_bind (wpC_of_eq FB.seqIadd ?_)
  exact wpC_bind (wpC_rule (callIadd hg ho hz h))
end
end Mine

namespace Mine
namespace FB
theorem no_bytes : typeLookup (.type "bytearray") "__bytes__" = pure none := by rw [typeLookup_type, builtinLookup_eq_fast]; kernel_rfl
theorem noIdx : typeLookup (.type "bytearray") "__index__" = pure none := by rw [typeLookup_type, builtinLookup_eq_fast]; kernel_rfl
theorem buffer : typeLookup (.type "bytearray") "__buffer__" = pure (some (.builtin "bytearray.__buffer__")) := by rw [typeLookup_type, builtinLookup_eq_fast]; kernel_rfl
end FB
section
variable {prog : Program} {w : World} {A : Around} {E : Value → Shared → Prop} {s : Shared}

theorem slotOwn_ba {M : Model} {a : Addr} {Q : Bool → Shared → Prop} (hT : s.TypeIs (.ref a) "bytearray") (h : Q true s) : wpAny M A (Builtin.Bytes.slotIsOwn (.ref a) "__buffer__") Q E s := by
  unfold Builtin.Bytes.slotIsOwn
  refine wpAny_bind (wpAny_specialOf hT FB.buffer ?_)
  have h1 : ("bytearray.__buffer__".endsWith ("." ++ "__buffer__")) = true := by decide +kernel
  have h2 : ("bytearray.__buffer__".dropRight ("__buffer__".length + 1)) = "bytearray" := by decide +kernel
  simp only [h1, h2, Bool.not_true]
  exact wpAny_isInstance hT FB.sub_self h

theorem bytes_new_ba {l : Addr} {b : Array UInt8} {Q : Value → Shared → Prop} (hl : s.heap.get? l = some (baObj b)) (hz : b.size ≤ sizeLine)
    (hQ : ∀ t k, Q (.bytes b t) { s with toks := k }) :
    codeAny (model prog w) A (.call (.builtin "bytes.__new__") ⟨[.type "bytes", .ref l], []⟩) (wants Q E) s := by
  refine codeAny_of_tree ?_
  show wpAny _ A.in1 (do checkBuiltinCall "bytes.__new__" ⟨[.type "bytes", .ref l], []⟩; again (.builtin "bytes.__new__" ⟨[.type "bytes", .ref l], []⟩)) _ _ s
  refine wpAny_bind (wpAny_of_eq (F.bm_newCall _) (wpAny_pure ⟨plainId_quiet F.bm_plain _, codeAny_builtin F.bm_entry ?_⟩))
  rw [Around.under_plainId F.bm_plain _]
  have hT : s.TypeIs (.ref l) "bytearray" := ⟨_, hl, rfl⟩
  unfold Builtin.«bytes.__new__»
  refine wpAny_bind (wpAny_of_eq (a := true) rfl ?_)
  refine bm_if_false rfl ?_
  refine wpAny_bind (wpAny_of_eq F.bm_sub ?_)
  refine bm_if_false rfl ?_
  refine wpAny_bind (wpAny_of_eq (F.bm_bind _) ?_)
  refine wpAny_bind (wpAny_of_eq (a := ()) rfl ?_)
  refine wpAny_bind (wpAny_of_eq (a := ()) rfl ?_)
  refine bm_if_false rfl ?_
  refine wpAny_bind (wpAny_specialOf hT FB.no_bytes ?_)
  refine wpAny_bind (wpAny_bind ?_)
  show wpAny _ _ (load l >>= _) _ _ _
  refine wpAny_bind (wpAny_load hl ?_)
  refine wpAny_pure (wpAny_pure ?_)
  refine bm_if_false rfl ?_
  refine wpAny_bind (wpAny_specialOf hT FB.noIdx ?_)
  refine bm_if_true rfl ?_
  first
    | show wpAny _ _ (Builtin.Bytes.buffer? "bytes.__new__" (.ref l) true >>= _) _ _ _
    | (refine wpAny_bind ?_; show wpAny _ _ (Builtin.Bytes.buffer? "bytes.__new__" (.ref l) true >>= _) _ _ _)
  refine wpAny_bind ?_
  unfold Builtin.Bytes.buffer?
  refine wpAny_bind (wpAny_specialOf hT FB.buffer ?_)
  refine wpAny_bind (slotOwn_ba hT ?_)
  refine wpAny_bind (wpAny_specialOf hT FB.buffer ?_)
  refine wpAny_bind (wpAny_ownRelease hT ?_)
  refine wpAny_bind (wpAny_payload hl ?_)
  refine wpAny_pure ?_
  refine wpAny_bind (wpAny_rule (wpAny_bind (wpAny_mkBytes ?_ hz)))
  exact wpAny_pure (hQ _ _)

theorem call_bytes_ba {l : Addr} {b : Array UInt8} {Q : Value → Shared → Prop} (hl : s.heap.get? l = some (baObj b)) (hz : b.size ≤ sizeLine)
    (hQ : ∀ t k, Q (.bytes b t) { s with toks := k }) : wpAny (model prog w) A (call (.type "bytes") [.ref l]) Q E s := by
  refine callType_codes (Q₁ := fun obj s₁ => s₁.TypeIs obj "bytes" ∧ Q obj s₁) F.bm_called (F.bm_typeCall _) F.entry_object_init
    (bytes_new_ba hl hz fun t k => ⟨PySem.W.typeIs_bytes _ _ _, hQ t k⟩) fun obj s₁ h₁ => ?_
  exact ⟨h₁.1, F.args_object_init_2 obj _, object_init_meets F.bm_called.init.lookup F.bm_called.made (by decide) prog w A.in1 _ s₁ ⟨h₁.1, rfl, h₁.2⟩⟩
end
end Mine

namespace Mine
section
variable {prog : Program} {w : World} {A : Around} {s : Shared} {h₀ : Heap} {L a : Addr} {m : Str → Option Value} {cn : Str} {cs : Scope} {ccd : Value} {news : List (Addr × Obj)} {K : Frag} {p : Program} {loose : List Str} {mean : ExcName → Option Value} {mg mb : Str → Option Value}

theorem enterC {R : Flow → Shared → Prop} {name qual : Str} {params : Arguments} {body : List Stmt} {scope : Scope} {dV kV doc pm cdv ct oc : Value} {an od : Option Addr} {osl : Array (Option Value)} {f : Addr} {args : Args} {binds : List (Str × Value)}
    (F : Fr h₀ L s.heap m) (X₀ : K.In h₀) (N : News h₀ L s.heap news) (T : Top p loose mean mg mb h₀) (_hA : A.frames = some [envOf cn cs L a ccd])
    (ho : K.lookup f = some ⟨oc, od, .func (fnOf name qual params body scope dV kV doc pm an cdv ct), osl⟩) (hcd : codeIn K cdv qual = true) (hroom : A.depth < recursionLimit)
    (hbind : BindsTo s (fnOf name qual params body scope dV kV doc pm an cdv ct) args binds) (hloc : ∀ y ∈ binds, scope.names.lookup y.1 = some .local)
    (h : ∀ oL h₁, TI.Caller h₀ L m oL → TI.Frs [envOf cn cs L a ccd] [(L, oL)] → (∀ p ∈ news, p.1 ≠ L) → Fr h₀ s.heap.objs.size h₁ (fun y => binds.reverse.lookup y) → News h₀ s.heap.objs.size h₁ (news ++ [(L, oL)]) →
      wpC (model prog w) (A.deeper (envOf qual scope s.heap.objs.size f cdv)) (execs body (envOf qual scope s.heap.objs.size f cdv))
        (fun fl s' => R (.ret (match fl with | .ret v => v | _ => .none)) s')
        { s with heap := h₁, toks := s.toks + binds.length })
    (hck : cs.kind = .function := by rfl) (hco : scope.isCoroutine = false := by rfl) (hgen : scope.isGenerator = false := by rfl) (hk : scope.kind = .function := by rfl)
    (hcell : ∀ x ∈ scope.names, x.2 ≠ .cell := by decide) : codeC (model prog w) A (.call (.ref f) args) R s := by
  have X := X₀.keeps F.keep
  obtain ⟨oL, es, ep, hL, hLd, hLk, hLf⟩ := F.ns
  have hLt := Heap.lt_size hL
  have hkind : (envOf cn cs L a ccd).scope.kind ≠ .module := by
    show cs.kind ≠ .module
    rw [hck]; decide
  refine codeC_call_def (fd := fnOf name qual params body scope dV kV doc pm an cdv ct) (body := body) (binds := binds) hroom (X _ _ ho) rfl (T.nolimit.keeps F.keep) (codeRec_of X hcd) rfl hbind hcell hloc (fun h₁ hns hk₁ => ?_) hco hgen hk
  have up : ∀ b o, s.heap.get? b = some o → h₁.get? b = some o := fun b o e => hk₁ b o e
  refine h oL h₁ ⟨fun h' sl e => ⟨_, es, ep, e, hLd, hLk, hLf⟩, ⟨es, ep, hLd⟩, F.above⟩ ⟨hkind, rfl, ⟨es, ep, hLd⟩, trivial⟩ (fun p hp => (N p hp).2.1)
    ⟨hns, fun b o e => up b o (F.keep b o e), Nat.le_trans F.above (Nat.le_of_lt hLt)⟩ (fun p hp => ?_)
  rcases List.mem_append.mp hp with hp | hp
  · obtain ⟨h1, h2, h3⟩ := N p hp
    exact ⟨up _ _ h1, Nat.ne_of_lt (Heap.lt_size h1), h3⟩
  · rcases List.mem_cons.mp hp with rfl | hp
    · exact ⟨up _ _ hL, Nat.ne_of_lt hLt, Heap.get?_none_of_le F.above⟩
    · exact nomatch hp

/-- back in the caller's frame -/
theorem backC {L' : Addr} {m' : Str → Option Value} {h' : Heap} {oL : Obj} {sl : Array (Option Value)} (C : TI.Caller h₀ L m oL) (hne : ∀ p ∈ news, p.1 ≠ L) (F' : Fr h₀ L' h' m') {led : List (Addr × Obj)} (N' : News h₀ L' h' led)
    (hin : ∀ p ∈ news, p ∈ led) (hL : (L, { oL with slots := sl }) ∈ led) : Fr h₀ L h' m ∧ News h₀ L h' news := by
  have e : h'.get? L = some { oL with slots := sl } := (N' _ hL).1
  exact ⟨⟨C.ns _ sl e, F'.keep, C.above⟩, fun p hp => ⟨(N' p (hin p hp)).1, hne p hp, (N' p (hin p hp)).2.2⟩⟩

theorem newBA_N {env : Env} {Q : Value → Shared → Prop} (hg : A.guards = some []) (F : Fr h₀ L s.heap m) (N : News h₀ L s.heap news)
    (h : ∀ S h', Fr h₀ L h' m → News h₀ L h' ((S, baObj #[]) :: news) → (∀ p ∈ news, p.1 ≠ S) → Q (.ref S) { s with heap := h' }) :
    wpC (model prog w) A (call (.type "bytearray") []) Q s := by
  refine newBA hg ?_
  have e1 : ((s.heap.push (baObj #[])).update s.heap.objs.size (Obj.mapBytearray fun _ => #[])).get? s.heap.objs.size = some (baObj #[]) :=
    Heap.get?_update_self _ (Heap.get?_push_size _ rfl) rfl
  have e2 : ∀ b o, s.heap.get? b = some o → ((s.heap.push (baObj #[])).update s.heap.objs.size (Obj.mapBytearray fun _ => #[])).get? b = some o := fun b o e =>
    (Heap.get?_update_other _ _ (Ne.symm (Nat.ne_of_lt (Heap.lt_size e)))).trans (Heap.get?_push_of_some _ e)
  refine h _ _ ⟨F.ns.at' fun o e => e2 _ o e, fun b o e => e2 b o (F.keep b o e), F.above⟩ ?_ fun p hp => Nat.ne_of_lt (Heap.lt_size (N p hp).1)
  intro p hp
  rcases List.mem_cons.mp hp with rfl | hp
  · refine ⟨e1, Nat.ne_of_gt F.ns.lt, ?_⟩
    cases hq : h₀.get? s.heap.objs.size with
    | none => rfl
    | some o' => exact absurd (Heap.lt_size (F.keep _ _ hq)) (Nat.lt_irrefl _)
  · exact ⟨e2 _ _ (N p hp).1, (N p hp).2⟩

/-- the ledger's head, turned -/
theorem upd_N {S : Addr} {b : Array UInt8} {f : Array UInt8 → Array UInt8} (F : Fr h₀ L s.heap m) (N : News h₀ L s.heap ((S, baObj b) :: news)) (hne : ∀ p ∈ news, p.1 ≠ S) :
    Fr h₀ L (s.heap.update S (Obj.mapBytearray f)) m ∧ News h₀ L (s.heap.update S (Obj.mapBytearray f)) ((S, baObj (f b)) :: news) := by
  obtain ⟨k1, k2, k3⟩ := N _ (List.mem_cons_self)
  have oth : ∀ c o, c ≠ S → s.heap.get? c = some o → (s.heap.update S (Obj.mapBytearray f)).get? c = some o := fun c o hc e => (Heap.get?_update_other _ _ (Ne.symm hc)).trans e
  refine ⟨⟨F.ns.at' fun o e => oth _ o (Ne.symm k2) e, fun c o e => oth c o (fun q => by rw [q] at e; rw [k3] at e; cases e) (F.keep c o e), F.above⟩, ?_⟩
  intro p hp
  rcases List.mem_cons.mp hp with rfl | hp
  · exact ⟨Heap.get?_update_self _ k1 rfl, k2, k3⟩
  · exact ⟨oth _ _ (hne p hp) (N p (List.mem_cons_of_mem _ hp)).1, (N p (List.mem_cons_of_mem _ hp)).2⟩

theorem append_N {S : Addr} {b : Array UInt8} {i : Int} {t : Tok} {Q : Value → Shared → Prop} (hg : A.guards = some []) (F : Fr h₀ L s.heap m) (N : News h₀ L s.heap ((S, baObj b) :: news)) (hne : ∀ p ∈ news, p.1 ≠ S)
    (h0 : 0 ≤ i) (h1 : i < 256) (hz : b.size + 1 ≤ sizeLine)
    (h : ∀ h', Fr h₀ L h' m → News h₀ L h' ((S, baObj (b.push i.toNat.toUInt8)) :: news) → Q .none { s with heap := h' }) :
    wpC (model prog w) A (call (.builtin "bytearray.append") [.ref S, .int i t]) Q s :=
  have u := upd_N (f := fun x => x.push i.toNat.toUInt8) F N hne
  callAppend hg (N _ (List.mem_cons_self)).1 h0 h1 hz (h _ u.1 u.2)

theorem iadd_N {S : Addr} {b c : Array UInt8} {t : Tok} {Q : Value → Shared → Prop} (hg : A.guards = some []) (F : Fr h₀ L s.heap m) (N : News h₀ L s.heap ((S, baObj b) :: news)) (hne : ∀ p ∈ news, p.1 ≠ S)
    (hz : b.size + c.size ≤ sizeLine)
    (h : ∀ h', Fr h₀ L h' m → News h₀ L h' ((S, baObj (b ++ c)) :: news) → Q (.ref S) { s with heap := h' }) :
    wpC (model prog w) A (inplaceOp .Add (.ref S) (.bytes c t)) Q s :=
  have u := upd_N (f := fun x => x ++ c) F N hne
  inplaceIadd hg (N _ (List.mem_cons_self)).1 hz (h _ u.1 u.2)

theorem getAppend {E : Value → Shared → Prop} {S : Addr} {b : Array UInt8} {pl : Sem Bool} {Q : Value × List Value → Shared → Prop} (ho : s.heap.get? S = some (baObj b))
    (h : Q (.builtin "bytearray.append", [.ref S]) s) : wpAny (model prog w) A (getMethod (.ref S) "append" pl) Q E s :=
  getMethod_builtin ⟨_, ho, rfl⟩ FB.plainAttrs FB.slot_append FB.ty_append (fun a e => by cases e; exact ⟨_, ho, rfl⟩) h
end
end Mine

namespace Mine
section
variable {prog : Program} {w : World} {A : Around} {s : Shared} {env : Env} {h₀ : Heap}

/-- a turn's end: the loop's own objects stand, the state goes on -/
def TurnC (h₀ : Heap) (L : Addr) (wr : List Addr) (own : List (Addr × Obj)) (J : (Str → Option Value) → List (Addr × Obj) → Prop) (s₁ : Shared) (R : Flow → Shared → Prop) (f : Flow) (s₃ : Shared) : Prop :=
  match f with
  | .ret v => R (.ret v) s₃
  | .brk => R .next s₃
  | _ => ∃ h' tk m₂ news₂, s₃ = { s₁ with heap := h', toks := tk } ∧ Fr h₀ L h' m₂ ∧ News h₀ L h' (own ++ news₂) ∧ (∀ p ∈ news₂, p.1 ∉ wr) ∧ J m₂ news₂

theorem forC_inv {R : Flow → Shared → Prop} {x : Str} {px : Pos} {body : List Stmt} {I : Addr} {fp wr : List Addr} {n : Nat} {P : Nat → Value → Prop} {St : Nat → Heap → Prop} {m : Str → Option Value}
    {news : List (Addr × Obj)} (W : Walks prog w A I fp wr n P St) (hx : env.kindOf x = some .local)
    (hp : (env.scope.kind == .class || (env.scope.kind == .module && env.locals != env.globals)) = false)
    (hLf : env.locals ∉ fp) (hwr : ∀ b ∈ wr, h₀.get? b = none) (hnw : ∀ p ∈ news, p.1 ∉ wr)
    (hst : St 0 s.heap) (F : Fr h₀ env.locals s.heap m) (N : News h₀ env.locals s.heap news)
    (J : Nat → (Str → Option Value) → List (Addr × Obj) → Prop) (h0 : J 0 m news)
    (step : ∀ i v m₁ news₁ h tk own, i < n → P i v → J i m₁ news₁ → (∀ p ∈ news₁, p.1 ∉ wr) → (∀ p ∈ own, p.1 ∈ fp) →
      Fr h₀ env.locals h (fun y => if y = x then some v else m₁ y) → News h₀ env.locals h (own ++ news₁) →
      wpC (model prog w) A (execs body env) (TurnC h₀ env.locals wr own (J (i + 1)) { s with heap := h, toks := tk } R) { s with heap := h, toks := tk })
    (hR : ∀ h' tk m' news', Fr h₀ env.locals h' m' → News h₀ env.locals h' news' → J n m' news' → R .next { s with heap := h', toks := tk }) :
    codeC (model prog w) A (.forLoop (.Name x px) (.ref I) body [] env) R s := by
  have hLw : env.locals ∉ wr := fun h => hLf (W.sub _ h)
  have old : ∀ b o, h₀.get? b = some o → b ∉ wr := fun b o e hb => by rw [hwr b hb] at e; cases e
  refine codeC_forLoop
    (fun k s' => ∃ h' tk m' news' i, s' = { s with heap := h', toks := tk } ∧ St i h' ∧ Fr h₀ env.locals h' m' ∧ News h₀ env.locals h' news' ∧ (∀ p ∈ news', p.1 ∉ wr) ∧ J i m' news' ∧ i ≤ n ∧ k = n + 1 - i) ?_ (n + 1)
    ⟨s.heap, s.toks, m, news, 0, rfl, hst, F, N, hnw, h0, Nat.zero_le _, rfl⟩
  rintro k s' ⟨h', tk, m', news', i, rfl, hst', F', N', hnw', hJ, hi, rfl⟩
  have next : ∀ h₁ : Heap, (∀ b o, b ∉ wr → h'.get? b = some o → h₁.get? b = some o) → Fr h₀ env.locals h₁ m' ∧ News h₀ env.locals h₁ news' := fun h₁ hk₁ =>
    ⟨⟨F'.ns.at' fun o e => hk₁ _ o hLw e, fun b o e => hk₁ b o (old b o e) (F'.keep b o e), F'.above⟩, fun p hp => ⟨hk₁ _ _ (hnw' p hp) (N' p hp).1, (N' p hp).2⟩⟩
  by_cases hlt : i < n
  · refine W.item i _ _ _ hlt hst' fun v h₁ tk₁ hP hst₁ hk₁ => ?_
    obtain ⟨F₁, N₁⟩ := next h₁ hk₁
    refine wpAny_assign_Name (wpAny_storeName_local hx F₁.ns (fun h₂ hn₂ hs₂ => ?_) hp)
    have F₂ := F₁.set hn₂ hs₂
    have Nown : News h₀ env.locals h₂ (ownOf h₀ fp h₂) := news_ownOf hLf
    have fin : ∀ s₃ : Shared, (∃ h'' tk'' m₂ news₂, s₃ = { ({ s with heap := h₂, toks := tk₁ + 1 } : Shared) with heap := h'', toks := tk'' } ∧ Fr h₀ env.locals h'' m₂ ∧ News h₀ env.locals h'' (ownOf h₀ fp h₂ ++ news₂) ∧ (∀ p ∈ news₂, p.1 ∉ wr) ∧ J (i + 1) m₂ news₂) →
        ∃ k', k' < n + 1 - i ∧ ∃ h' tk m' news' i, s₃ = { s with heap := h', toks := tk } ∧ St i h' ∧ Fr h₀ env.locals h' m' ∧ News h₀ env.locals h' news' ∧ (∀ p ∈ news', p.1 ∉ wr) ∧ J i m' news' ∧ i ≤ n ∧ k' = n + 1 - i := by
      rintro s₃ ⟨h₃', tk₃, m₂, news₂, rfl, F₃, N₃, ha₃, hJ₃⟩
      refine ⟨n + 1 - (i + 1), by omega, h₃', tk₃, m₂, news₂, i + 1, rfl, ?_, F₃, N₃.right, ha₃, hJ₃, hlt, rfl⟩
      refine W.frame _ _ _ hst₁ fun b hb o e => ?_
      have e₂ : h₂.get? b = some o := (hs₂.2 b fun q => hLf (q ▸ hb)).trans e
      cases hn : h₀.get? b with
      | some o₀ =>
        have : o₀ = o := by have := F₂.keep b o₀ hn; rw [e₂] at this; exact (Option.some.inj this).symm
        exact this ▸ F₃.keep b o₀ hn
      | none => exact (N₃ _ (List.mem_append_left _ (mem_ownOf hb hn e₂))).1
    refine wpC_mono (step i v m' news' h₂ (tk₁ + 1) (ownOf h₀ fp h₂) hlt hP hJ hnw' ownOf_sub F₂ (Nown.append (N₁.set hs₂))) (fun f s₃ h₃ => ?_)
    cases f with
    | ret v => exact h₃
    | brk => exact h₃
    | cont => exact fin s₃ h₃
    | next => exact fin s₃ h₃
  · have hin : i = n := by omega
    subst hin
    refine W.done _ _ _ hst' fun h₁ tk₁ hk₁ => wpAny_execs_nil ?_
    obtain ⟨F₁, N₁⟩ := next h₁ hk₁
    exact hR h₁ tk₁ m' news' F₁ N₁ hJ

/-- what a frame holds, written out -/
theorem kst_form {m : Str → Option Value} (ps : List (Str × Value)) (h : ∀ p ∈ ps, m p.1 = some p.2) : m = kstB m ps :=
  funext fun _ => (kstB_eq h fun _ => rfl).symm

theorem For_bytesC {x : Str} {px pos : Pos} {iter : Expr} {body : List Stmt} {Q : Flow → Shared → Prop} {b : Array UInt8} {tb : Tok} {m : Str → Option Value} {news : List (Addr × Obj)}
    (J : Nat → (Str → Option Value) → List (Addr × Obj) → Prop)
    (hh : A.handled = none) (hx : env.kindOf x = some .local)
    (hp : (env.scope.kind == .class || (env.scope.kind == .module && env.locals != env.globals)) = false)
    (F : Fr h₀ env.locals s.heap m) (N : News h₀ env.locals s.heap news)
    (hev : wpAny (model prog w) A (eval iter env) (fun v s₁ => v = .bytes b tb ∧ s₁ = s) (fun _ _ => False) s)
    (h0 : J 0 m news)
    (step : ∀ i n t m₁ news₁ h tk own, b[i]? = some n → J i m₁ news₁ → (∀ p ∈ own, ∀ q ∈ news₁, p.1 ≠ q.1) → (∀ p ∈ news₁, p.1 ∉ [s.heap.objs.size]) →
      Fr h₀ env.locals h (fun y => if y = x then some (.int (n.toNat : Int) t) else m₁ y) → News h₀ env.locals h (own ++ news₁) →
      wpC (model prog w) A (execs body env) (TurnC h₀ env.locals [s.heap.objs.size] own (J (i + 1)) { s with heap := h, toks := tk } Q) { s with heap := h, toks := tk })
    (hR : ∀ h' tk m' news', Fr h₀ env.locals h' m' → News h₀ env.locals h' news' → J b.size m' news' → Q .next { s with heap := h', toks := tk })
    (hs : ∀ x, foldedSetIterable iter env x = pure x := by intro _; rfl) :
    wpC (model prog w) A (exec (.For (.Name x px) iter body [] pos) env) Q s := by
  refine wpC_For (wpAny_mono hev (fun v s₁ hv => ?_) fun _ _ x => x) hs
  obtain ⟨rfl, rfl⟩ := hv
  refine KBw.pyIter_bytes ?_
  have W := KBw.walks (prog := prog) (w := w) hh s₁.heap.objs.size b tb
  refine forC_inv W hx hp ?_ ?_ ?_ ⟨_, Heap.get?_push_size _ rfl, rfl, rfl⟩ (F.push _) (fun p hp => ⟨Heap.get?_push_of_some _ (N p hp).1, (N p hp).2⟩) J h0 ?_ hR
  · intro hm
    exact absurd F.ns.lt ((List.mem_singleton.mp hm) ▸ Nat.lt_irrefl _)
  · intro b' hb
    rw [List.mem_singleton.mp hb]
    exact next_is_new F
  · intro p hp hI
    exact absurd (Heap.lt_size (N p hp).1) ((List.mem_singleton.mp hI) ▸ Nat.lt_irrefl _)
  · rintro i v m₁ nx h tk own hi ⟨n, u, hn, rfl⟩ hJ hoff hown F₁ N₁
    refine step i n u m₁ nx h tk own hn hJ (fun p hp q hq e => ?_) hoff F₁ N₁
    exact hoff q hq (e ▸ hown p hp)
end
end Mine

namespace Mine
/-- the end of the reduced row -/
def finR (cur : List Int) : List Int :=
  if cur.getLastD 0 < (cur.length : Int) + 1 then ((cur.length : Int) + 1) :: cur else cur.getLastD 0 :: cur.dropLast
/-- the reduced writer, behind the run cur -/
noncomputable def goR (cur : List Int) : List Int → List Int
  | [] => finR cur
  | c :: r =>
    if cur.length = 254 then
      (if c = 0 then (255 :: cur) ++ (1 :: goR [] r) else (255 :: cur) ++ goR [c] r)
    else
      (if c = 0 then (((cur.length : Int) + 1) :: cur) ++ goR [] r else goR (cur ++ [c]) r)
noncomputable def encR (xs : List Int) : List Int := goR [] xs
/-- the plain writer, behind the run cur -/
noncomputable def goC (fz : Bool) (cur : List Int) : List Int → List Int
  | [] => if cur = [] ∧ fz = false then [] else ((cur.length : Int) + 1) :: cur
  | c :: r =>
    if c = 0 then (((cur.length : Int) + 1) :: cur) ++ goC true [] r
    else if cur.length = 253 then (255 :: (cur ++ [c])) ++ goC false [] r
    else goC fz (cur ++ [c]) r
noncomputable def encC (xs : List Int) : List Int := goC true [] xs

theorem goR_full {cur r : List Int} {c : Int} (h : cur.length = 254) : goR cur (c :: r) = (255 :: cur) ++ goR [] (c :: r) := by
  rw [goR, goR]
  simp [h]
  split <;> rfl

/-- what holds between the turns of the reduced writer -/
def CoreR (xs : List Int) (i st : Nat) (out : List Int) : Prop :=
  st ≤ i ∧ i ≤ xs.length ∧ i - st ≤ 254 ∧ out.length ≤ 2 * st ∧ out ++ goR ((xs.take i).drop st) (xs.drop i) = goR [] xs
def InvR (xs : List Int) (i st : Nat) (out : List Int) : Prop := CoreR xs i st out ∧ (st = i → i = 0 ∨ xs[i - 1]? = some 0)

theorem invR_start (xs : List Int) : InvR xs 0 0 [] := by
  refine ⟨⟨Nat.le_refl _, Nat.zero_le _, by omega, by simp, by simp⟩, fun _ => .inl rfl⟩

theorem cur_len {xs : List Int} {i st : Nat} (h : i ≤ xs.length) : ((xs.take i).drop st).length = i - st := by
  rw [List.length_drop, List.length_take]; omega
theorem drop_at {xs : List Int} {i : Nat} {c : Int} (h : xs[i]? = some c) : xs.drop i = c :: xs.drop (i + 1) := by
  obtain ⟨hi, hc⟩ := List.getElem?_eq_some_iff.mp h
  rw [List.drop_eq_getElem_cons hi, hc]
theorem take_at {xs : List Int} {i st : Nat} {c : Int} (h : xs[i]? = some c) (hs : st ≤ i) : (xs.take (i + 1)).drop st = (xs.take i).drop st ++ [c] := by
  obtain ⟨hi, _⟩ := List.getElem?_eq_some_iff.mp h
  rw [List.take_add_one, h, List.drop_append_of_le_length (by rw [List.length_take]; omega)]; rfl
theorem drop_self {xs : List Int} {i : Nat} : (xs.take i).drop i = [] := List.drop_eq_nil_of_le (by rw [List.length_take]; omega)

theorem coreR_flush {xs : List Int} {i st : Nat} {out : List Int} {c : Int} (h : CoreR xs i st out) (hc : xs[i]? = some c) (hf : i - st = 254) :
    CoreR xs i i (out ++ [255] ++ (xs.take i).drop st) := by
  obtain ⟨h1, h2, h3, h4, h5⟩ := h
  refine ⟨Nat.le_refl _, h2, by omega, ?_, ?_⟩
  · simp only [List.length_append, cur_len h2, List.length_singleton]; omega
  · rw [← h5, drop_at hc, drop_self, goR_full (cur := (xs.take i).drop st) (by rw [cur_len h2]; exact hf)]
    simp
theorem coreR_zero {xs : List Int} {i st : Nat} {out : List Int} (h : CoreR xs i st out) (hc : xs[i]? = some 0) (hf : i - st ≠ 254) :
    InvR xs (i + 1) (i + 1) (out ++ [((i : Int) - (st : Int) + 1)] ++ (xs.take i).drop st) := by
  obtain ⟨h1, h2, h3, h4, h5⟩ := h
  obtain ⟨hi, _⟩ := List.getElem?_eq_some_iff.mp hc
  refine ⟨⟨Nat.le_refl _, hi, by omega, ?_, ?_⟩, fun _ => .inr (by simpa using hc)⟩
  · simp only [List.length_append, cur_len h2, List.length_singleton]; omega
  · rw [← h5, drop_at hc, goR, cur_len h2, if_neg hf, if_pos rfl, drop_self]
    have : ((i - st : Nat) : Int) = (i : Int) - (st : Int) := by omega
    simp [this]
theorem coreR_next {xs : List Int} {i st : Nat} {out : List Int} {c : Int} (h : CoreR xs i st out) (hc : xs[i]? = some c) (h0 : c ≠ 0) (hf : i - st ≠ 254) :
    InvR xs (i + 1) st out := by
  obtain ⟨h1, h2, h3, h4, h5⟩ := h
  obtain ⟨hi, _⟩ := List.getElem?_eq_some_iff.mp hc
  refine ⟨⟨by omega, hi, by omega, h4, ?_⟩, fun e => by omega⟩
  rw [← h5, drop_at hc, take_at hc h1]
  conv => rhs; rw [goR, cur_len h2, if_neg hf, if_neg h0]

/-- the end: the last octet is below the count -/
theorem invR_low {xs : List Int} {st : Nat} {out : List Int} (h : InvR xs xs.length st out) (hl : xs.getLastD 0 < (xs.length : Int) - (st : Int) + 1) :
    out ++ [((xs.length : Int) - (st : Int) + 1)] ++ xs.drop st = encR xs := by
  obtain ⟨⟨h1, h2, h3, h4, h5⟩, h6⟩ := h
  rw [List.take_length, List.drop_length] at h5
  rw [encR, ← h5, goR, finR]
  have hn : ((xs.drop st).length : Int) = (xs.length : Int) - (st : Int) := by rw [List.length_drop]; omega
  by_cases hs : st = xs.length
  · subst hs
    simp
  · have : (xs.drop st).getLastD 0 = xs.getLastD 0 := by
      rw [List.getLastD_eq_getLast?, List.getLastD_eq_getLast?, List.getLast?_drop, if_neg (by omega)]
    rw [this, hn, if_pos hl]
    simp
theorem invR_high {xs : List Int} {st : Nat} {out : List Int} (h : InvR xs xs.length st out) (hl : ¬ xs.getLastD 0 < (xs.length : Int) - (st : Int) + 1) :
    out ++ [xs.getLastD 0] ++ (xs.take (xs.length - 1)).drop st = encR xs ∧ st < xs.length := by
  obtain ⟨⟨h1, h2, h3, h4, h5⟩, h6⟩ := h
  have hs : st ≠ xs.length := by
    intro e
    refine hl ?_
    have : xs.getLastD 0 = 0 := by
      rcases h6 e with h7 | h7
      · rw [List.length_eq_zero_iff.mp h7]; rfl
      · rw [List.getLastD_eq_getLast?, List.getLast?_eq_getElem?, h7]; rfl
    rw [this, e]; omega
  refine ⟨?_, by omega⟩
  rw [List.take_length, List.drop_length] at h5
  rw [encR, ← h5, goR, finR]
  have hn : ((xs.drop st).length : Int) = (xs.length : Int) - (st : Int) := by rw [List.length_drop]; omega
  have : (xs.drop st).getLastD 0 = xs.getLastD 0 := by
    rw [List.getLastD_eq_getLast?, List.getLastD_eq_getLast?, List.getLast?_drop, if_neg (by omega)]
  rw [this, hn, if_neg hl]
  rw [List.dropLast_eq_take, List.length_drop, List.append_assoc]
  congr 1
  rw [List.drop_take]
  simp
  congr 1
  omega

/-- what holds between the turns of the plain writer -/
def InvC (xs : List Int) (i st : Nat) (fz : Bool) (out : List Int) : Prop :=
  st ≤ i ∧ i ≤ xs.length ∧ i - st ≤ 253 ∧ out.length ≤ 2 * st ∧ out ++ goC fz ((xs.take i).drop st) (xs.drop i) = goC true [] xs

theorem invC_start (xs : List Int) : InvC xs 0 0 true [] :=
  ⟨Nat.le_refl _, Nat.zero_le _, by omega, by simp, by simp⟩
theorem invC_zero {xs : List Int} {i st : Nat} {fz : Bool} {out : List Int} (h : InvC xs i st fz out) (hc : xs[i]? = some 0) :
    InvC xs (i + 1) (i + 1) true (out ++ [((i : Int) - (st : Int) + 1)] ++ (xs.take i).drop st) := by
  obtain ⟨h1, h2, h3, h4, h5⟩ := h
  obtain ⟨hi, _⟩ := List.getElem?_eq_some_iff.mp hc
  refine ⟨Nat.le_refl _, hi, by omega, ?_, ?_⟩
  · simp only [List.length_append, cur_len h2, List.length_singleton]; omega
  · rw [← h5, drop_at hc, goC, cur_len h2, if_pos rfl, drop_self]
    have : ((i - st : Nat) : Int) = (i : Int) - (st : Int) := by omega
    simp [this]
theorem invC_full {xs : List Int} {i st : Nat} {fz : Bool} {out : List Int} {c : Int} (h : InvC xs i st fz out) (hc : xs[i]? = some c) (h0 : c ≠ 0) (hf : i - st = 253) :
    InvC xs (i + 1) (i + 1) false (out ++ [255] ++ (xs.take (i + 1)).drop st) := by
  obtain ⟨h1, h2, h3, h4, h5⟩ := h
  obtain ⟨hi, _⟩ := List.getElem?_eq_some_iff.mp hc
  refine ⟨Nat.le_refl _, hi, by omega, ?_, ?_⟩
  · simp only [List.length_append, cur_len (show i + 1 ≤ xs.length from hi), List.length_singleton]; omega
  · rw [← h5, drop_at hc, take_at hc h1, drop_self]
    conv => rhs; rw [goC, cur_len h2, if_neg h0, if_pos hf]
    simp
theorem invC_next {xs : List Int} {i st : Nat} {fz : Bool} {out : List Int} {c : Int} (h : InvC xs i st fz out) (hc : xs[i]? = some c) (h0 : c ≠ 0) (hf : i - st ≠ 253) :
    InvC xs (i + 1) st fz out := by
  obtain ⟨h1, h2, h3, h4, h5⟩ := h
  obtain ⟨hi, _⟩ := List.getElem?_eq_some_iff.mp hc
  refine ⟨by omega, hi, by omega, h4, ?_⟩
  rw [← h5, drop_at hc, take_at hc h1]
  conv => rhs; rw [goC, cur_len h2, if_neg h0, if_neg hf]
theorem invC_more {xs : List Int} {st : Nat} {fz : Bool} {out : List Int} (h : InvC xs xs.length st fz out) (hl : xs.length ≠ st ∨ fz = true) :
    out ++ [((xs.length : Int) - (st : Int) + 1)] ++ xs.drop st = encC xs := by
  obtain ⟨h1, h2, h3, h4, h5⟩ := h
  rw [List.take_length, List.drop_length] at h5
  rw [encC, ← h5, goC]
  have hn : ((xs.drop st).length : Int) = (xs.length : Int) - (st : Int) := by rw [List.length_drop]; omega
  rw [if_neg, hn]
  · simp
  · rintro ⟨e1, e2⟩
    rcases hl with hl | hl
    · have := congrArg List.length e1
      rw [List.length_drop, List.length_nil] at this
      omega
    · rw [hl] at e2; cases e2
theorem invC_done {xs : List Int} {st : Nat} {fz : Bool} {out : List Int} (h : InvC xs xs.length st fz out) (hl : ¬ (xs.length ≠ st ∨ fz = true)) : out = encC xs := by
  obtain ⟨h1, h2, h3, h4, h5⟩ := h
  rw [List.take_length, List.drop_length] at h5
  rw [encC, ← h5, goC, if_pos]
  · simp
  · refine ⟨?_, ?_⟩
    · refine List.drop_eq_nil_of_le ?_
      omega
    · cases fz
      · rfl
      · exact absurd (.inr rfl) hl
end Mine

namespace Mine
section
variable {prog : Program} {w : World} {A : Around} {s : Shared} {env : Env} {h₀ : Heap} {m : Str → Option Value} {news : List (Addr × Obj)}

theorem map_same {x : Str} {v : Value} (hm : m x = some v) : (fun y => if y = x then some v else m y) = m := by
  funext y
  by_cases e : y = x
  · rw [if_pos e, e, hm]
  · rw [if_neg e]

/-- the name of the octets' object, read -/
theorem name_local {E : Value → Shared → Prop} {x : Str} {np : Pos} {v : Value} {Q : Value → Shared → Prop} (F : Fr h₀ env.locals s.heap m) (hv : m x = some v) (h : Q v s)
    (hk : env.scope.kind = .function) (hl : env.kindOf x = some .local) (hd : (x == ("__debug__" : Str)) = false := by decide) :
    wpAny (model prog w) A (eval (.Name x np) env) Q E s := wpAny_Name (wpAny_loadName_local hk hl F.ns hv h) hd

theorem appendS {x : Str} {np apos pos pos' : Pos} {e : Expr} {pl : Sem Bool} {Q : Flow → Shared → Prop} {S : Addr} {b : Array UInt8} {i : Int}
    (hg : A.guards = some []) (F : Fr h₀ env.locals s.heap m) (N : News h₀ env.locals s.heap ((S, baObj b) :: news)) (hne : ∀ p ∈ news, p.1 ≠ S) (hm : m x = some (.ref S))
    (hk : env.scope.kind = .function) (hl : env.kindOf x = some .local)
    (hi : interactive env = false) (hs : swapsWith (.Call (.Attribute (.Name x np) (Str.ofString "append") apos) [e] [] pos) none pos'.line env = pure false)
    (he : eval (.Call (.Attribute (.Name x np) (Str.ofString "append") apos) [e] [] pos) env = (do
      let ov ← eval (.Name x np) env
      standAt apos.atName
      let (f, first) ← holding [ov] (getMethod ov (Str.ofString "append") pl)
      callWith pos f first [(false, eval e env)] []))
    (h0 : 0 ≤ i) (h1 : i < 256) (hz : b.size + 1 ≤ sizeLine)
    (harg : wpAny (model prog w) A (eval e env) (fun v s₁ => ∃ t k, v = .int i t ∧ s₁ = { s with toks := k }) (fun _ _ => False) s)
    (h : ∀ h' tk, Fr h₀ env.locals h' m → News h₀ env.locals h' ((S, baObj (b.push i.toNat.toUInt8)) :: news) → Q .next { s with heap := h', toks := tk })
    (hd : (x == ("__debug__" : Str)) = false := by decide) :
    wpC (model prog w) A (exec (.Expr (.Call (.Attribute (.Name x np) (Str.ofString "append") apos) [e] [] pos) pos') env) Q s := by
  refine wpC_Expr (MethodCallC1 (name_local F hm ?_ hk hl hd) he) hi hs
  refine getAppend (N _ (List.mem_cons_self)).1 ?_
  refine callWithC_builtin1 (wpC_of_any (wpAny_mono harg (fun v s₁ hv => ?_) fun _ _ x => x))
  obtain ⟨t, k, rfl, rfl⟩ := hv
  exact append_N (s := { s with toks := k }) hg F N hne h0 h1 hz fun h' F' N' => h h' k F' N'

theorem iaddS {x : Str} {np pos : Pos} {value : Expr} {Q : Flow → Shared → Prop} {S : Addr} {b : Array UInt8} {ys : List Int}
    (hg : A.guards = some []) (F : Fr h₀ env.locals s.heap m) (_N : News h₀ env.locals s.heap ((S, baObj b) :: news)) (hne : ∀ p ∈ news, p.1 ≠ S) (hm : m x = some (.ref S))
    (hk : env.scope.kind = .function) (hl : env.kindOf x = some .local)
    (hp : (env.scope.kind == .class || (env.scope.kind == .module && env.locals != env.globals)) = false)
    (hz : b.size + ys.length ≤ sizeLine)
    (hval : wpAny (model prog w) A (eval value env) (fun v s₁ => ∃ c t h' k, v = .bytes c t ∧ KBw.bInts c = ys ∧ Fr h₀ env.locals h' m ∧ News h₀ env.locals h' ((S, baObj b) :: news) ∧ s₁ = { s with heap := h', toks := k }) (fun _ _ => False) s)
    (h : ∀ c h' tk, KBw.bInts c = ys → Fr h₀ env.locals h' m → News h₀ env.locals h' ((S, baObj (b ++ c)) :: news) → Q .next { s with heap := h', toks := tk }) :
    wpC (model prog w) A (exec (.AugAssign (.Name x np) .Add value pos) env) Q s := by
  refine wpC_AugAssign_Name (wpC_of_any (wpAny_loadName_local hk hl F.ns hm (wpC_of_any (wpAny_mono hval (fun v s₁ hv => ?_) fun _ _ x => x))))
  obtain ⟨c, t, h', k, rfl, hc, F', N', rfl⟩ := hv
  have hsz : c.size = ys.length := by rw [← hc, KBw.ints_length]
  refine iadd_N (s := { s with heap := h', toks := k }) hg F' N' hne (by rw [hsz]; exact hz) fun h'' F'' N'' => ?_
  refine wpC_of_any (wpAny_storeName_local hl F''.ns (fun h₃ hn hs => ?_) hp)
  have F₃ := F''.set hn hs
  rw [map_same hm] at F₃
  exact h c h₃ _ hc F₃ (N''.set hs)

theorem bInts_push {b : Array UInt8} {i : Int} (h0 : 0 ≤ i) (h1 : i < 256) : KBw.bInts (b.push i.toNat.toUInt8) = KBw.bInts b ++ [i] := by
  have : (i.toNat.toUInt8.toNat : Int) = i := by
    have hlt : i.toNat < 256 := by omega
    have : i.toNat.toUInt8.toNat = i.toNat := by simpa using hlt
    rw [this]; omega
  simp only [KBw.bInts, Array.toList_push, List.map_append, List.map_cons, List.map_nil, this]
theorem bInts_append {b c : Array UInt8} : KBw.bInts (b ++ c) = KBw.bInts b ++ KBw.bInts c := KBw.ints_app rfl rfl
end
end Mine
namespace Mine
section
variable {M : Model} {A : Around} {s : Shared} {env : Env}
/-- one statement, then the rest, by what stands between them -/
theorem wpC_seq {st : Stmt} {rest : List Stmt} {Q : Flow → Shared → Prop} (P : Shared → Prop) (hrest : ∀ s', P s' → wpC M A (execs rest env) Q s')
    (h : wpC M A (exec st env) (fun f s' => f = .next ∧ P s') s) : wpC M A (execs (st :: rest) env) Q s :=
  wpC_execs_cons (wpC_mono h fun f s' hf => by obtain ⟨rfl, hP⟩ := hf; exact hrest s' hP)
end

/-- what a frame holds -/
def HasAll (m : Str → Option Value) (ps : List (Str × Value)) : Prop := ∀ p ∈ ps, m p.1 = some p.2
theorem HasAll.form {m : Str → Option Value} {ps : List (Str × Value)} (h : HasAll m ps) : m = kstB m ps := kst_form ps h

/-- between the two ifs of the reduced writer's turn -/
def MidR (s : Shared) (h₀ : Heap) (L' S : Addr) (led : List (Addr × Obj)) (b : Array UInt8) (t : Tok) (i : Nat) (n : UInt8) (tn : Tok) (s' : Shared) : Prop :=
  ∃ (st : Nat) (ob : Array UInt8) (m' : Str → Option Value) (t1 t2 : Tok) (h' : Heap) (tk' : Nat), s' = { s with heap := h', toks := tk' } ∧
    HasAll m' [(Str.ofString "in_char", Value.int (n.toNat : Int) tn), (Str.ofString "idx", Value.int (i : Int) t1), (Str.ofString "search_start_idx", Value.int (st : Int) t2), (Str.ofString "out_bytes", Value.ref S), (Str.ofString "in_bytes_mv", Value.bytes b t)] ∧
    CoreR (KBw.bInts b) i st (KBw.bInts ob) ∧ i - st ≠ 254 ∧ Fr h₀ L' h' m' ∧ News h₀ L' h' ((S, baObj ob) :: led)
end Mine
namespace Mine
section
variable {m : Str → Option Value} {x1 x2 x3 x4 x5 x6 : Str} {v1 v2 v3 v4 v5 v6 : Value}
theorem all1 (h1 : m x1 = some v1) : HasAll m [(x1, v1)] := by
  intro p hp
  rw [List.mem_singleton.mp hp]; exact h1
theorem all2 (h1 : m x1 = some v1) (h2 : m x2 = some v2) : HasAll m [(x1, v1), (x2, v2)] := by
  intro p hp
  simp only [List.mem_cons, List.not_mem_nil, or_false] at hp
  rcases hp with rfl | rfl <;> assumption
theorem all4 (h1 : m x1 = some v1) (h2 : m x2 = some v2) (h3 : m x3 = some v3) (h4 : m x4 = some v4) : HasAll m [(x1, v1), (x2, v2), (x3, v3), (x4, v4)] := by
  intro p hp
  simp only [List.mem_cons, List.not_mem_nil, or_false] at hp
  rcases hp with rfl | rfl | rfl | rfl <;> assumption
theorem all5 (h1 : m x1 = some v1) (h2 : m x2 = some v2) (h3 : m x3 = some v3) (h4 : m x4 = some v4) (h5 : m x5 = some v5) : HasAll m [(x1, v1), (x2, v2), (x3, v3), (x4, v4), (x5, v5)] := by
  intro p hp
  simp only [List.mem_cons, List.not_mem_nil, or_false] at hp
  rcases hp with rfl | rfl | rfl | rfl | rfl <;> assumption
end
end Mine
namespace Mine
section
variable {prog : Program} {w : World} {A : Around} {E : Value → Shared → Prop} {s : Shared} {h₀ : Heap} {L : Addr} {m : Str → Option Value} {news : List (Addr × Obj)}
theorem cut_K {value slice : Expr} {b : Array UInt8} {t : Tok} {Q : Value → Shared → Prop} {lo hi : Int} {tl th : Tok} (lo' hi' : Nat) (F : Fr h₀ L s.heap m) (N : News h₀ L s.heap news)
    (e1 : lo = (lo' : Int)) (e2 : hi = (hi' : Int)) (hlo : lo' ≤ hi') (hhi : hi' ≤ b.size) (hb : b.size ≤ 300)
    (h : ∀ c t' h' k, KBw.bInts c = ((KBw.bInts b).take hi').drop lo' → Fr h₀ L h' m → News h₀ L h' news → Q (.bytes c t') { s with heap := h', toks := k })
    (hs : subscripted slice false (.bytes b t) (.ref s.heap.objs.size) = operate [.ref s.heap.objs.size, .bytes b t] (getItem (.bytes b t) (.ref s.heap.objs.size)) := by with_unfolding_all rfl)
    (ht : ∀ r, letTemporaryGo value (.bytes b t) r = pure () := by intro _; with_unfolding_all rfl) :
    wpAny (model prog w) A (subscriptTail value slice (.bytes b t) (.ref s.heap.objs.size)) Q E { s with heap := s.heap.push { cls := .type "slice", data := .fields #[.int lo tl, .int hi th, .none] } } := by
  subst e1 e2
  refine KBc.slice_K F N rfl (.int _ _) (.int _ _) (by rw [KBw.ints_length]; omega) (fun h' t' k F' N' e => ?_) hs ht
  refine h _ t' h' k ?_ F' N'
  rw [e]
  simp only [Option.elim, clipAt_nat, KBw.ints_length]
  rw [Nat.min_eq_left (by omega), Nat.min_eq_left (by omega), List.drop_take]
end
end Mine

namespace Mine
section
variable {prog : Program} {w : World} {A : Around} {E : Value → Shared → Prop} {s : Shared}
theorem meets_none (b : Array UInt8) (t ui : Tok) (hb : b.size = 0) :
    Meets (Builtin.«bytes.__getitem__» ⟨[.bytes b t, .int (-1) ui], []⟩) (fun A R s => A.handled = none ∧ ∀ h' tk e, Heap.NewExc s.heap h' e "IndexError" → R (.error (.ref e)) { s with heap := h', toks := tk }) := by
  refine .of_wp fun prog w A R s hS => ?_
  obtain ⟨hh, h⟩ := hS
  show wpAny _ _ (Builtin.Bytes.payload (.bytes b t) >>= fun r => _) _ _ s
  refine wpAny_bind (wpAny_of_eq (a := b) rfl ?_)
  show wpAny _ _ (Builtin.Bytes.subscript? (.int (-1) ui) >>= fun r => _) _ _ s
  refine wpAny_bind (wpAny_of_eq (a := some (-1)) ?_ ?_)
  · kernel_rfl
  · have e : (seqIndex? (-1) b.size).bind (b[·]?) = none := by rw [hb]; rfl
    dsimp only
    rw [e]
    refine wpAny_bind (wpAny_rule (wpAny_bind ?_))
    exact wpAny_raiseErrorWords plainExc_IndexError hh h

theorem item_none {value slice : Expr} {b : Array UInt8} {t ui : Tok} {Q : Value → Shared → Prop} (hb : b.size = 0) (hh : A.handled = none)
    (h : ∀ h' tk e, Heap.NewExc s.heap h' e "IndexError" → E (.ref e) { s with heap := h', toks := tk })
    (hs : subscripted slice false (.bytes b t) (.int (-1) ui) = operate [.bytes b t, .int (-1) ui] (getItem (.bytes b t) (.int (-1) ui)) := by with_unfolding_all rfl)
    (ht : ∀ r, letTemporaryGo value (.bytes b t) r = pure () := by intro _; with_unfolding_all rfl) :
    wpAny (model prog w) A (subscriptTail value slice (.bytes b t) (.int (-1) ui)) Q E s :=
  tail_of_ItemOn ⟨"bytes", _, PySem.W.FB.slot_bytes_getitem.lookup, typeIs_bytes _ _ _, getItem_meets (typeIs_bytes _ _ _) (by decide) PySem.W.FB.slot_bytes_getitem PySem.W.FB.entry_bytes_getitem (PySem.W.FB.args_bytes_getitem_2 _ _) (meets_none b t ui hb) ⟨hh, h⟩⟩ hs ht

theorem item_last {value slice : Expr} {b : Array UInt8} {t ui : Tok} {Q : Value → Shared → Prop} (hb : b.size ≠ 0) (h3 : b.size ≤ 300)
    (h : ∀ t' k, Q (.int ((KBw.bInts b).getLastD 0) t') { s with toks := k })
    (hs : subscripted slice false (.bytes b t) (.int (-1) ui) = operate [.bytes b t, .int (-1) ui] (getItem (.bytes b t) (.int (-1) ui)) := by with_unfolding_all rfl)
    (ht : ∀ r, letTemporaryGo value (.bytes b t) r = pure () := by intro _; with_unfolding_all rfl) :
    wpAny (model prog w) A (subscriptTail value slice (.bytes b t) (.int (-1) ui)) Q E s := by
  have hl := KBw.ints_length b
  refine KBc.itemR_K rfl (by omega) (by omega) (by omega) (fun t' k _ _ => ?_) hs ht
  have e : (KBw.bInts b).getD (-1 + ((KBw.bInts b).length : Int)).toNat 0 = (KBw.bInts b).getLastD 0 := by
    have e1 : (-1 + ((KBw.bInts b).length : Int)).toNat = (KBw.bInts b).length - 1 := by omega
    rw [e1, List.getD_eq_getElem?_getD, List.getLastD_eq_getLast?, List.getLast?_eq_getElem?]
  rw [e]
  exact h t' k
end
end Mine
namespace Mine
/-- behind the try of the reduced writer -/
def EndR (s : Shared) (h₀ : Heap) (L' S L : Addr) (oL : Obj) (news : List (Addr × Obj)) (b ob : Array UInt8) (t : Tok) (st : Nat) (last : Int) (s' : Shared) : Prop :=
  ∃ (m' : Str → Option Value) (t1 t2 t3 : Tok) (h' : Heap) (tk' : Nat) (sl : Array (Option Value)), s' = { s with heap := h', toks := tk' } ∧
    HasAll m' [(Str.ofString "final_byte_value", Value.int last t3), (Str.ofString "idx", Value.int (b.size : Int) t1), (Str.ofString "search_start_idx", Value.int (st : Int) t2), (Str.ofString "out_bytes", Value.ref S), (Str.ofString "in_bytes_mv", Value.bytes b t)] ∧
    Fr h₀ L' h' m' ∧ News h₀ L' h' ((S, baObj ob) :: (news ++ [(L, { oL with slots := sl })]))
end Mine
namespace Mine
theorem last_in (b : Array UInt8) : 0 ≤ (KBw.bInts b).getLastD 0 ∧ (KBw.bInts b).getLastD 0 < 256 := by
  rw [List.getLastD_eq_getLast?]
  cases h : (KBw.bInts b).getLast? with
  | none => exact ⟨Int.le_refl _, by decide⟩
  | some k => exact KBw.ints_in (List.mem_of_getLast? h)
end Mine

namespace Mine
set_option maxHeartbeats 8000000 in
theorem encR_C {w : World} {h₀ : Heap} {L a : Addr} {m : Str → Option Value} {cn : Str} {cs : Scope} {ccd : Value} {news : List (Addr × Obj)} {mean : ExcName → Option Value} {mg mb : Str → Option Value}
    {s : Shared} {Q : Value → Shared → Prop} {b : Array UInt8} {t : Tok}
    (F : Fr h₀ L s.heap m) (X : (hd.heap_39 w.params).In h₀) (N : News h₀ L s.heap news) (T : Top hd.view_39 (looseW hd.view_39 [Str.ofString "encode_cobsr_py", Str.ofString "encode_cobs_py"]) mean mg mb h₀) (hck : cs.kind = .function) (hb : b.size ≤ 300)
    (h : ∀ r t' h' tk', KBw.bInts r = encR (KBw.bInts b) → Fr h₀ L h' m → News h₀ L h' news → Q (.bytes r t') { s with heap := h', toks := tk' }) :
    wpC (model PySem.Challenge.rw_nc0007_01.row.prog w) (callerA.deeper (envOf cn cs L a ccd)) (call (.ref 21) [.bytes b t]) Q s := by
  w_top off
  revert X; k_fill; intro X
  refine wpC_call ?_
  k_dflt (refine enterC (binds := [(Str.ofString "in_bytes", .bytes b t)]) F X N T rfl (by k_is) (by k_is) (show callerA.depth + 1 < recursionLimit by decide +kernel) (BindsTo.of_eq rfl) (locs rfl) ?_ hck)
  intro oL h₁ C Fs hne F' N'
  clear F N
  refine wpC_execs_consA ?_
  k_steps
  refine wpC_execs_consA ?_
  k_steps
  dsimp only
  refine wpC_execs_cons (wpC_Assign_Name (CallC0 ?_))
  k_steps
  (rename Fr _ _ _ _ => F1); (rename News _ _ _ _ => N1)
  refine callWithC_type0 (newBA_N (env := default) rfl F1 N1 ?_)
  intro S h2 F2 N2 hS
  clear F1 N1
  refine wpC_of_any ?_
  k_steps
  dsimp only
  refine wpC_execs_consA ?_
  k_steps
  dsimp only
  refine wpC_execs_consA ?_
  k_steps
  dsimp only
  (rename Fr _ _ _ _ => F1); (rename News _ _ _ _ => N1)
  refine wpC_execs_cons (For_bytesC (b := b) (tb := t) (fun i m nx => ∃ (st : Nat) (ob : Array UInt8) (t1 t2 : Tok), nx = (S, baObj ob) :: (news ++ [(L, oL)]) ∧
      HasAll m [(Str.ofString "idx", Value.int (i : Int) t1), (Str.ofString "search_start_idx", Value.int (st : Int) t2), (Str.ofString "out_bytes", Value.ref S), (Str.ofString "in_bytes_mv", Value.bytes b t)] ∧
      InvR (KBw.bInts b) i st (KBw.bInts ob)) rfl rfl rfl F1 N1 ?hev ?h0 ?step ?hR)
  case hev =>
    k_steps
  case h0 =>
    exact ⟨0, #[], _, _, rfl, all4 rfl rfl rfl rfl, invR_start _⟩
  case step =>
    clear F1 N1
    intro i n tn m₁ nx hh tk own hn hJ hoff hnw F1 N1
    obtain ⟨st, ob, t1, t2, rfl, hm, hI⟩ := hJ
    have hnS := hnw _ List.mem_cons_self
    rw [hm.form] at F1
    dsimp only [kstB] at F1
    have hS2 : ∀ p ∈ own ++ (news ++ [(L, oL)]), p.1 ≠ S := fun p hp => (List.mem_append.mp hp).elim (fun q => hoff p q _ (List.mem_cons_self)) (hS p)
    have N2 : News h₀ s.heap.objs.size hh ((S, baObj ob) :: (own ++ (news ++ [(L, oL)]))) := fun p hp => N1 p (by
      rcases List.mem_cons.mp hp with rfl | hp
      · exact List.mem_append_right _ (List.mem_cons_self)
      · exact (List.mem_append.mp hp).elim (fun q => List.mem_append_left _ q) fun q => List.mem_append_right _ (List.mem_cons_of_mem _ q))
    clear N1
    have hxi : (KBw.bInts b)[i]? = some (n.toNat : Int) := KBw.ints_get hn
    have hil : i < b.size := (Array.getElem?_eq_some_iff.mp hn).1
    have hlen := KBw.ints_length b
    refine wpC_seq (MidR { s with heap := hh, toks := tk } h₀ s.heap.objs.size S (own ++ (news ++ [(L, oL)])) b t i n tn) ?rest ?first
    case first =>
      refine wpC_If (wpC_of_any ?_)
      k_steps
      · rename_i hc
        have hcore := hI.1
        obtain ⟨k1, k2, k3, k4, k5⟩ := id hcore
        rw [KBw.ints_length] at k4
        refine wpC_execs_cons (appendS rfl F1 N2 hS2 rfl rfl rfl rfl rfl rfl (i := 255) (by omega) (by omega) (by rw [sizeLine_eq]; omega) (by k_steps) ?_)
        intro h3 tk3 F3 N3
        clear F1 N2
        dsimp only
        refine wpC_execs_cons (iaddS (ys := ((KBw.bInts b).take i).drop st) rfl F3 N3 hS2 rfl rfl rfl rfl ?_ ?_ ?_)
        · rw [cur_len (by omega), Array.size_push, sizeLine_eq]; omega
        · k_steps
          refine cut_K (s := ⟨h3, s.gens, s.drawn, tk3, s.os⟩) st i F3 N3 rfl rfl k1 (by omega) hb fun c t' h' k e F' N' => ?_
          exact ⟨c, t', h', k, rfl, e, F', N', rfl⟩
        · intro c h4 tk4 hc4 F4 N4
          clear F3 N3
          refine wpC_execs_consA ?_
          k_steps
          dsimp only
          refine wpC_execs_nil ⟨rfl, ?_⟩
          (rename Fr _ _ _ _ => F5); (rename News _ _ _ _ => N5)
          refine ⟨i, _, _, _, _, _, _, rfl, all5 rfl rfl rfl rfl rfl, ?_, by omega, F5, N5⟩
          rw [bInts_append, bInts_push (by omega) (by omega), hc4]
          exact coreR_flush hcore hxi (by omega)
      · rename_i hc
        refine wpC_execs_nil ⟨rfl, ?_⟩
        exact ⟨st, _, _, _, _, _, _, rfl, all5 rfl rfl rfl rfl rfl, hI.1, by omega, F1, N2⟩
    case rest =>
      clear F1 N2
      rintro s' ⟨st, ob, m', t1, t2, h', tk', rfl, hm', hcore, hc254, F1, N2⟩
      rw [hm'.form] at F1
      dsimp only [kstB] at F1
      obtain ⟨k1, k2, k3, k4, k5⟩ := id hcore
      rw [KBw.ints_length] at k4
      refine wpC_seq (fun s' => ∃ (st : Nat) (ob : Array UInt8) (m' : Str → Option Value) (t1 t2 : Tok) (h' : Heap) (tk' : Nat), s' = { s with heap := h', toks := tk' } ∧
        HasAll m' [(Str.ofString "idx", Value.int (i : Int) t1), (Str.ofString "search_start_idx", Value.int (st : Int) t2), (Str.ofString "out_bytes", Value.ref S), (Str.ofString "in_bytes_mv", Value.bytes b t)] ∧
        InvR (KBw.bInts b) (i + 1) st (KBw.bInts ob) ∧ Fr h₀ s.heap.objs.size h' m' ∧ News h₀ s.heap.objs.size h' ((S, baObj ob) :: (own ++ (news ++ [(L, oL)])))) ?rest ?first
      case first =>
        refine wpC_If (wpC_of_any ?_)
        k_steps
        · rename_i hc
          have hx0 : (KBw.bInts b)[i]? = some 0 := by rw [hxi, hc]
          refine wpC_execs_cons (appendS rfl F1 N2 hS2 rfl rfl rfl rfl rfl rfl (i := (i : Int) - (st : Int) + 1) (by omega) (by omega) (by rw [sizeLine_eq]; omega) (by k_steps) ?_)
          intro h3 tk3 F3 N3
          clear F1 N2
          dsimp only
          refine wpC_execs_cons (iaddS (ys := ((KBw.bInts b).take i).drop st) rfl F3 N3 hS2 rfl rfl rfl rfl ?_ ?_ ?_)
          · rw [cur_len (by omega), Array.size_push, sizeLine_eq]; omega
          · k_steps
            refine cut_K (s := ⟨h3, s.gens, s.drawn, tk3, s.os⟩) st i F3 N3 rfl rfl k1 (by omega) hb fun c t' h' k e F' N' => ?_
            exact ⟨c, t', h', k, rfl, e, F', N', rfl⟩
          · intro c h4 tk4 hc4 F4 N4
            clear F3 N3
            refine wpC_execs_consA ?_
            k_steps
            dsimp only
            refine wpC_execs_nil ⟨rfl, ?_⟩
            (rename Fr _ _ _ _ => F5); (rename News _ _ _ _ => N5)
            refine ⟨i + 1, _, _, _, _, _, _, rfl, all4 rfl rfl rfl rfl, ?_, F5, N5⟩
            rw [bInts_append, bInts_push (by omega) (by omega), hc4]
            exact coreR_zero hcore hx0 hc254
        · rename_i hc
          refine wpC_execs_nil ⟨rfl, ?_⟩
          exact ⟨st, _, _, _, _, _, _, rfl, all4 rfl rfl rfl rfl, coreR_next hcore hxi hc hc254, F1, N2⟩
      case rest =>
        clear F1 N2
        rintro s' ⟨st, ob, m', t1, t2, h', tk', rfl, hm', hI', F1, N2⟩
        rw [hm'.form] at F1
        dsimp only [kstB] at F1
        refine wpC_execs_consA ?_
        k_steps
        dsimp only
        refine wpC_execs_nil ?_
        (rename Fr _ _ _ _ => F5); (rename News _ _ _ _ => N5)
        refine ⟨_, _, _, (S, baObj ob) :: (news ++ [(L, oL)]), rfl, F5, ?_, ?_, st, ob, _, _, rfl, all4 rfl rfl rfl rfl, hI'⟩
        · intro p hp
          refine N5 p ?_
          rcases List.mem_append.mp hp with hp | hp
          · exact List.mem_cons_of_mem _ (List.mem_append_left _ hp)
          · rcases List.mem_cons.mp hp with rfl | hp
            · exact List.mem_cons_self
            · exact List.mem_cons_of_mem _ (List.mem_append_right _ hp)
        · intro p hp
          rcases List.mem_cons.mp hp with rfl | hp
          · exact hnS
          · exact hnw p (List.mem_cons_of_mem _ hp)
  case hR =>
    clear F1 N1
    rintro h3 tk3 m3 nx3 F3 N3 ⟨st, ob, t1, t2, rfl, hm, hI⟩
    rw [hm.form] at F3
    dsimp only [kstB] at F3
    have hlen := KBw.ints_length b
    dsimp only
    refine wpC_seq (EndR s h₀ s.heap.objs.size S L oL news b ob t st ((KBw.bInts b).getLastD 0)) ?rest ?first
    case first =>
      refine wpC_of_any ?_
      by_cases he : b.size = 0
      · k_steps
        refine item_none he rfl ?_
        intro h4 tk4 e hx
        dsimp only at hx ⊢
        have hAll : TLg.AllNe L ((S, baObj ob) :: news) := TLgL.allNe_of fun p hp => by
          rcases List.mem_cons.mp hp with rfl | hp
          · exact fun q => hS (L, oL) (List.mem_append_right _ List.mem_cons_self) q.symm
          · exact hne p hp
        refine TLg.noted_new1 (new := (S, baObj ob) :: news) rfl Fs hx F3 N3 hAll ?_
        intro h5 sl5 Fs5 H5
        have HH := TT.HeldNA.held H5
        clear hx F3 N3
        dsimp only
        k_steps
        dsimp only
        have e0 : (KBw.bInts b).getLastD 0 = 0 := by
          rw [List.length_eq_zero_iff.mp (hlen.trans he)]; rfl
        rw [e0]
        (rename Fr _ _ _ _ => F5); (rename News _ _ _ _ => N5)
        exact ⟨_, _, _, _, _, _, _, rfl, all5 rfl rfl rfl rfl rfl, F5, N5⟩
      · k_steps
        refine item_last he hb ?_
        intro t4 k4
        k_steps
        dsimp only
        (rename Fr _ _ _ _ => F5); (rename News _ _ _ _ => N5)
        exact ⟨_, _, _, _, _, _, oL.slots, rfl, all5 rfl rfl rfl rfl rfl, F5, N5⟩
    case rest =>
      clear F3 N3
      rintro s' ⟨m4, t1, t2, t3, h4, tk4, sl, rfl, hm4, F4, N4⟩
      rw [hm4.form] at F4
      dsimp only [kstB] at F4
      have hS4 : ∀ p ∈ news ++ [(L, { oL with slots := sl })], p.1 ≠ S := fun p hp => by
        rcases List.mem_append.mp hp with hp | hp
        · exact hS p (List.mem_append_left _ hp)
        · rw [List.mem_singleton.mp hp]; exact hS (L, oL) (List.mem_append_right _ List.mem_cons_self)
      obtain ⟨k1, k2, k3, k4, k5⟩ := id hI.1
      rw [KBw.ints_length] at k4
      have hIl := hI
      rw [← hlen] at hIl
      refine wpC_execs_consA ?_
      k_steps
      dsimp only
      (rename Fr _ _ _ _ => F5); (rename News _ _ _ _ => N5)
      refine wpC_seq (fun s' => ∃ (r : Array UInt8) (m' : Str → Option Value) (h' : Heap) (tk' : Nat), s' = { s with heap := h', toks := tk' } ∧ HasAll m' [(Str.ofString "out_bytes", Value.ref S)] ∧
        KBw.bInts r = encR (KBw.bInts b) ∧ r.size ≤ 2000 ∧ Fr h₀ s.heap.objs.size h' m' ∧ News h₀ s.heap.objs.size h' ((S, baObj r) :: (news ++ [(L, { oL with slots := sl })]))) ?rest2 ?first2
      case first2 =>
        refine wpC_If (wpC_of_any ?_)
        k_steps
        · rename_i hlow
          refine wpC_execs_cons (appendS rfl F5 N5 hS4 rfl rfl rfl rfl rfl rfl (i := (b.size : Int) - (st : Int) + 1) (by omega) (by omega) (by rw [sizeLine_eq]; omega) (by k_steps) ?_)
          intro h6 tk6 F6 N6
          clear F5 N5
          dsimp only
          refine wpC_execs_cons (iaddS (ys := ((KBw.bInts b).take b.size).drop st) rfl F6 N6 hS4 rfl rfl rfl rfl ?_ ?_ ?_)
          · rw [cur_len (by omega), Array.size_push, sizeLine_eq]; omega
          · k_steps
            refine cut_K (s := ⟨h6, s.gens, s.drawn, tk6, s.os⟩) st b.size F6 N6 rfl rfl k1 (Nat.le_refl _) hb fun c t' h' k e F' N' => ?_
            exact ⟨c, t', h', k, rfl, e, F', N', rfl⟩
          · intro c h7 tk7 hc7 F7 N7
            clear F6 N6
            refine wpC_execs_nil ⟨rfl, _, _, h7, tk7, rfl, all1 rfl, ?_, ?_, F7, N7⟩
            · rw [bInts_append, bInts_push (by omega) (by omega), hc7, ← hlen, List.take_length]
              exact invR_low hIl (by rw [hlen]; exact hlow)
            · have := congrArg List.length hc7
              rw [KBw.ints_length, cur_len (by omega)] at this
              rw [Array.size_append, Array.size_push]; omega
        · rename_i hlow
          have hla := last_in b
          obtain ⟨hhi, hst⟩ := invR_high hIl (by rw [hlen]; exact hlow)
          refine wpC_execs_cons (appendS rfl F5 N5 hS4 rfl rfl rfl rfl rfl rfl (i := (KBw.bInts b).getLastD 0) hla.1 hla.2 (by rw [sizeLine_eq]; omega) (by k_steps) ?_)
          intro h6 tk6 F6 N6
          clear F5 N5
          dsimp only
          refine wpC_execs_cons (iaddS (ys := ((KBw.bInts b).take (b.size - 1)).drop st) rfl F6 N6 hS4 rfl rfl rfl rfl ?_ ?_ ?_)
          · rw [cur_len (by omega), Array.size_push, sizeLine_eq]; omega
          · k_steps
            refine cut_K (s := ⟨h6, s.gens, s.drawn, _, s.os⟩) st (b.size - 1) F6 N6 rfl (by omega) (by omega) (by omega) hb fun c t' h' k e F' N' => ?_
            exact ⟨c, t', h', k, rfl, e, F', N', rfl⟩
          · intro c h7 tk7 hc7 F7 N7
            clear F6 N6
            refine wpC_execs_nil ⟨rfl, _, _, h7, tk7, rfl, all1 rfl, ?_, ?_, F7, N7⟩
            · rw [bInts_append, bInts_push hla.1 hla.2, hc7, ← hlen]
              exact hhi
            · have := congrArg List.length hc7
              rw [KBw.ints_length, cur_len (by omega)] at this
              rw [Array.size_append, Array.size_push]; omega
      case rest2 =>
        clear F5 N5
        rintro s' ⟨r, m6, h6, tk6, rfl, hm6, hr, hr2, F6, N6⟩
        rw [hm6.form] at F6
        dsimp only [kstB] at F6
        refine wpC_execs_cons (wpC_of_any ?_)
        k_steps
        refine call_bytes_ba (N6 _ List.mem_cons_self).1 (by rw [sizeLine_eq]; omega) ?_
        intro t7 k7
        dsimp only
        have bk := backC C hne F6 N6 (fun p hp => List.mem_cons_of_mem _ (List.mem_append_left _ hp)) (List.mem_cons_of_mem _ (List.mem_append_right _ List.mem_cons_self))
        exact h r t7 h6 k7 hr bk.1 bk.2
end Mine

namespace Mine
/-- behind the if of the plain writer's turn -/
def MidC (s : Shared) (h₀ : Heap) (L' S : Addr) (led : List (Addr × Obj)) (b : Array UInt8) (t : Tok) (i : Nat) (s' : Shared) : Prop :=
  ∃ (st : Nat) (fz : Bool) (ob : Array UInt8) (m' : Str → Option Value) (t1 t2 : Tok) (h' : Heap) (tk' : Nat), s' = { s with heap := h', toks := tk' } ∧
    HasAll m' [(Str.ofString "idx", Value.int (i : Int) t1), (Str.ofString "search_start_idx", Value.int (st : Int) t2), (Str.ofString "out_bytes", Value.ref S), (Str.ofString "in_bytes_mv", Value.bytes b t), (Str.ofString "final_zero", Value.bool fz)] ∧
    InvC (KBw.bInts b) (i + 1) st fz (KBw.bInts ob) ∧ Fr h₀ L' h' m' ∧ News h₀ L' h' ((S, baObj ob) :: led)
set_option maxHeartbeats 8000000 in
theorem encC_C {w : World} {h₀ : Heap} {L a : Addr} {m : Str → Option Value} {cn : Str} {cs : Scope} {ccd : Value} {news : List (Addr × Obj)} {mean : ExcName → Option Value} {mg mb : Str → Option Value}
    {s : Shared} {Q : Value → Shared → Prop} {b : Array UInt8} {t : Tok}
    (F : Fr h₀ L s.heap m) (X : (hd.heap_39 w.params).In h₀) (N : News h₀ L s.heap news) (T : Top hd.view_39 (looseW hd.view_39 [Str.ofString "encode_cobsr_py", Str.ofString "encode_cobs_py"]) mean mg mb h₀) (hck : cs.kind = .function) (hb : b.size ≤ 300)
    (h : ∀ r t' h' tk', KBw.bInts r = encC (KBw.bInts b) → Fr h₀ L h' m → News h₀ L h' news → Q (.bytes r t') { s with heap := h', toks := tk' }) :
    wpC (model PySem.Challenge.rw_nc0007_01.row.prog w) (callerA.deeper (envOf cn cs L a ccd)) (call (.ref 28) [.bytes b t]) Q s := by
  w_top off
  revert X; k_fill; intro X
  refine wpC_call ?_
  k_dflt (refine enterC (binds := [(Str.ofString "in_bytes", .bytes b t)]) F X N T rfl (by k_is) (by k_is) (show callerA.depth + 1 < recursionLimit by decide +kernel) (BindsTo.of_eq rfl) (locs rfl) ?_ hck)
  intro oL h₁ C Fs hne F' N'
  clear F N
  refine wpC_execs_consA ?_
  k_steps
  refine wpC_execs_consA ?_
  k_steps
  dsimp only
  refine wpC_execs_consA ?_
  k_steps
  dsimp only
  refine wpC_execs_cons (wpC_Assign_Name (CallC0 ?_))
  k_steps
  (rename Fr _ _ _ _ => F1); (rename News _ _ _ _ => N1)
  refine callWithC_type0 (newBA_N (env := default) rfl F1 N1 ?_)
  intro S h2 F2 N2 hS
  clear F1 N1
  refine wpC_of_any ?_
  k_steps
  dsimp only
  refine wpC_execs_consA ?_
  k_steps
  dsimp only
  refine wpC_execs_consA ?_
  k_steps
  dsimp only
  (rename Fr _ _ _ _ => F1); (rename News _ _ _ _ => N1)
  refine wpC_execs_cons (For_bytesC (b := b) (tb := t) (fun i m nx => ∃ (st : Nat) (fz : Bool) (ob : Array UInt8) (t1 t2 : Tok), nx = (S, baObj ob) :: (news ++ [(L, oL)]) ∧
      HasAll m [(Str.ofString "idx", Value.int (i : Int) t1), (Str.ofString "search_start_idx", Value.int (st : Int) t2), (Str.ofString "out_bytes", Value.ref S), (Str.ofString "in_bytes_mv", Value.bytes b t), (Str.ofString "final_zero", Value.bool fz)] ∧
      InvC (KBw.bInts b) i st fz (KBw.bInts ob)) rfl rfl rfl F1 N1 ?hev ?h0 ?step ?hR)
  case hev =>
    k_steps
  case h0 =>
    exact ⟨0, true, #[], _, _, rfl, all5 rfl rfl rfl rfl rfl, invC_start _⟩
  case step =>
    clear F1 N1
    intro i n tn m₁ nx hh tk own hn hJ hoff hnw F1 N1
    obtain ⟨st, fz, ob, t1, t2, rfl, hm, hI⟩ := hJ
    have hnS := hnw _ List.mem_cons_self
    rw [hm.form] at F1
    dsimp only [kstB] at F1
    have hS2 : ∀ p ∈ own ++ (news ++ [(L, oL)]), p.1 ≠ S := fun p hp => (List.mem_append.mp hp).elim (fun q => hoff p q _ (List.mem_cons_self)) (hS p)
    have N2 : News h₀ s.heap.objs.size hh ((S, baObj ob) :: (own ++ (news ++ [(L, oL)]))) := fun p hp => N1 p (by
      rcases List.mem_cons.mp hp with rfl | hp
      · exact List.mem_append_right _ (List.mem_cons_self)
      · exact (List.mem_append.mp hp).elim (fun q => List.mem_append_left _ q) fun q => List.mem_append_right _ (List.mem_cons_of_mem _ q))
    clear N1
    have hxi : (KBw.bInts b)[i]? = some (n.toNat : Int) := KBw.ints_get hn
    have hil : i < b.size := (Array.getElem?_eq_some_iff.mp hn).1
    have hlen := KBw.ints_length b
    obtain ⟨k1, k2, k3, k4, k5⟩ := id hI
    rw [KBw.ints_length] at k4
    refine wpC_seq (MidC { s with heap := hh, toks := tk } h₀ s.heap.objs.size S (own ++ (news ++ [(L, oL)])) b t i) ?rest ?first
    case first =>
      refine wpC_If (wpC_of_any ?_)
      k_steps
      · rename_i hc
        have hx0 : (KBw.bInts b)[i]? = some 0 := by rw [hxi, hc]
        refine wpC_execs_consA ?_
        k_steps
        dsimp only
        (rename Fr _ _ _ _ => F3); (rename News _ _ _ _ => N3)
        refine wpC_execs_cons (appendS rfl F3 N3 hS2 rfl rfl rfl rfl rfl rfl (i := (i : Int) - (st : Int) + 1) (by omega) (by omega) (by rw [sizeLine_eq]; omega) (by k_steps) ?_)
        clear F3 N3
        intro h3 tk3 F3 N3
        dsimp only
        refine wpC_execs_cons (iaddS (ys := ((KBw.bInts b).take i).drop st) rfl F3 N3 hS2 rfl rfl rfl rfl ?_ ?_ ?_)
        · rw [cur_len (by omega), Array.size_push, sizeLine_eq]; omega
        · k_steps
          refine cut_K (s := ⟨h3, s.gens, s.drawn, tk3, s.os⟩) st i F3 N3 rfl rfl k1 (by omega) hb fun c t' h' k e F' N' => ?_
          exact ⟨c, t', h', k, rfl, e, F', N', rfl⟩
        · intro c h4 tk4 hc4 F4 N4
          clear F3 N3
          refine wpC_execs_consA ?_
          k_steps
          dsimp only
          refine wpC_execs_nil ⟨rfl, ?_⟩
          (rename Fr _ _ _ _ => F5); (rename News _ _ _ _ => N5)
          refine ⟨i + 1, true, _, _, _, _, _, _, rfl, all5 rfl rfl rfl rfl rfl, ?_, F5, N5⟩
          rw [bInts_append, bInts_push (by omega) (by omega), hc4]
          exact invC_zero hI hx0
      · rename_i hc
        refine wpC_execs_cons (wpC_If (wpC_of_any ?_))
        k_steps
        · rename_i hc2
          refine wpC_execs_consA ?_
          k_steps
          dsimp only
          (rename Fr _ _ _ _ => F3); (rename News _ _ _ _ => N3)
          refine wpC_execs_cons (appendS rfl F3 N3 hS2 rfl rfl rfl rfl rfl rfl (i := 255) (by omega) (by omega) (by rw [sizeLine_eq]; omega) (by k_steps) ?_)
          clear F3 N3
          intro h3 tk3 F3 N3
          dsimp only
          refine wpC_execs_cons (iaddS (ys := ((KBw.bInts b).take (i + 1)).drop st) rfl F3 N3 hS2 rfl rfl rfl rfl ?_ ?_ ?_)
          · rw [cur_len (by omega), Array.size_push, sizeLine_eq]; omega
          · k_steps
            refine cut_K (s := ⟨h3, s.gens, s.drawn, _, s.os⟩) st (i + 1) F3 N3 rfl rfl (by omega) (by omega) hb fun c t' h' k e F' N' => ?_
            exact ⟨c, t', h', k, rfl, e, F', N', rfl⟩
          · intro c h4 tk4 hc4 F4 N4
            clear F3 N3
            refine wpC_execs_consA ?_
            k_steps
            dsimp only
            refine wpC_execs_nil (wpC_execs_nil ⟨rfl, ?_⟩)
            (rename Fr _ _ _ _ => F5); (rename News _ _ _ _ => N5)
            refine ⟨i + 1, false, _, _, _, _, _, _, rfl, all5 rfl rfl rfl rfl rfl, ?_, F5, N5⟩
            rw [bInts_append, bInts_push (by omega) (by omega), hc4]
            exact invC_full hI hxi hc (by omega)
        · rename_i hc2
          refine wpC_execs_nil (wpC_execs_nil ⟨rfl, ?_⟩)
          exact ⟨st, fz, _, _, _, _, _, _, rfl, all5 rfl rfl rfl rfl rfl, invC_next hI hxi hc (by omega), F1, N2⟩
    case rest =>
      clear F1 N2
      rintro s' ⟨st, fz, ob, m', t1, t2, h', tk', rfl, hm', hI', F1, N2⟩
      rw [hm'.form] at F1
      dsimp only [kstB] at F1
      refine wpC_execs_consA ?_
      k_steps
      dsimp only
      refine wpC_execs_nil ?_
      (rename Fr _ _ _ _ => F5); (rename News _ _ _ _ => N5)
      refine ⟨_, _, _, (S, baObj ob) :: (news ++ [(L, oL)]), rfl, F5, ?_, ?_, st, fz, ob, _, _, rfl, all5 rfl rfl rfl rfl rfl, hI'⟩
      · intro p hp
        refine N5 p ?_
        rcases List.mem_append.mp hp with hp | hp
        · exact List.mem_cons_of_mem _ (List.mem_append_left _ hp)
        · rcases List.mem_cons.mp hp with rfl | hp
          · exact List.mem_cons_self
          · exact List.mem_cons_of_mem _ (List.mem_append_right _ hp)
      · intro p hp
        rcases List.mem_cons.mp hp with rfl | hp
        · exact hnS
        · exact hnw p (List.mem_cons_of_mem _ hp)
  case hR =>
    clear F1 N1
    rintro h3 tk3 m3 nx3 F3 N3 ⟨st, fz, ob, t1, t2, rfl, hm, hI⟩
    rw [hm.form] at F3
    dsimp only [kstB] at F3
    have hlen := KBw.ints_length b
    dsimp only
    obtain ⟨k1, k2, k3, k4, k5⟩ := id hI
    rw [KBw.ints_length] at k4
    have hIl := hI
    rw [← hlen] at hIl
    refine wpC_seq (fun s' => ∃ (r : Array UInt8) (m' : Str → Option Value) (h' : Heap) (tk' : Nat), s' = { s with heap := h', toks := tk' } ∧ HasAll m' [(Str.ofString "out_bytes", Value.ref S)] ∧
        KBw.bInts r = encC (KBw.bInts b) ∧ r.size ≤ 2000 ∧ Fr h₀ s.heap.objs.size h' m' ∧ News h₀ s.heap.objs.size h' ((S, baObj r) :: (news ++ [(L, oL)]))) ?rest2 ?first2
    case first2 =>
      refine wpC_If (wpC_of_any ?_)
      k_steps
      · rename_i hq
        have hor : b.size ≠ st ∨ fz = true := .inl (by omega)
        refine wpC_execs_cons (appendS rfl F3 N3 hS rfl rfl rfl rfl rfl rfl (i := (b.size : Int) - (st : Int) + 1) (by omega) (by omega) (by rw [sizeLine_eq]; omega) (by k_steps) ?_)
        intro h6 tk6 F6 N6
        clear F3 N3
        dsimp only
        refine wpC_execs_cons (iaddS (ys := ((KBw.bInts b).take b.size).drop st) rfl F6 N6 hS rfl rfl rfl rfl ?_ ?_ ?_)
        · rw [cur_len (by omega), Array.size_push, sizeLine_eq]; omega
        · k_steps
          refine cut_K (s := ⟨h6, s.gens, s.drawn, tk6, s.os⟩) st b.size F6 N6 rfl rfl k1 (Nat.le_refl _) hb fun c t' h' k e F' N' => ?_
          exact ⟨c, t', h', k, rfl, e, F', N', rfl⟩
        · intro c h7 tk7 hc7 F7 N7
          clear F6 N6
          refine wpC_execs_nil ⟨rfl, _, _, h7, tk7, rfl, all1 rfl, ?_, ?_, F7, N7⟩
          · rw [bInts_append, bInts_push (by omega) (by omega), hc7, ← hlen, List.take_length]
            exact invC_more hIl (by rw [hlen]; exact hor)
          · have := congrArg List.length hc7
            rw [KBw.ints_length, cur_len (by omega)] at this
            rw [Array.size_append, Array.size_push]; omega
      · rename_i hq hf
        have hor : b.size ≠ st ∨ fz = true := .inr (by simpa using hf)
        refine wpC_execs_cons (appendS rfl F3 N3 hS rfl rfl rfl rfl rfl rfl (i := (b.size : Int) - (st : Int) + 1) (by omega) (by omega) (by rw [sizeLine_eq]; omega) (by k_steps) ?_)
        intro h6 tk6 F6 N6
        clear F3 N3
        dsimp only
        refine wpC_execs_cons (iaddS (ys := ((KBw.bInts b).take b.size).drop st) rfl F6 N6 hS rfl rfl rfl rfl ?_ ?_ ?_)
        · rw [cur_len (by omega), Array.size_push, sizeLine_eq]; omega
        · k_steps
          refine cut_K (s := ⟨h6, s.gens, s.drawn, tk6, s.os⟩) st b.size F6 N6 rfl rfl k1 (Nat.le_refl _) hb fun c t' h' k e F' N' => ?_
          exact ⟨c, t', h', k, rfl, e, F', N', rfl⟩
        · intro c h7 tk7 hc7 F7 N7
          clear F6 N6
          refine wpC_execs_nil ⟨rfl, _, _, h7, tk7, rfl, all1 rfl, ?_, ?_, F7, N7⟩
          · rw [bInts_append, bInts_push (by omega) (by omega), hc7, ← hlen, List.take_length]
            exact invC_more hIl (by rw [hlen]; exact hor)
          · have := congrArg List.length hc7
            rw [KBw.ints_length, cur_len (by omega)] at this
            rw [Array.size_append, Array.size_push]; omega
      · rename_i hq hf
        have hor : ¬ (b.size ≠ st ∨ fz = true) := by
          rintro (e | e)
          · exact e (by omega)
          · exact absurd e (by simpa using hf)
        refine wpC_execs_nil ⟨rfl, ob, _, h3, tk3, rfl, all1 rfl, ?_, by omega, F3, N3⟩
        exact invC_done hIl (by rw [hlen]; exact hor)
    case rest2 =>
      clear F3 N3
      rintro s' ⟨r, m6, h6, tk6, rfl, hm6, hr, hr2, F6, N6⟩
      rw [hm6.form] at F6
      dsimp only [kstB] at F6
      refine wpC_execs_cons (wpC_of_any ?_)
      k_steps
      refine call_bytes_ba (N6 _ List.mem_cons_self).1 (by rw [sizeLine_eq]; omega) ?_
      intro t7 k7
      dsimp only
      have bk := backC (sl := oL.slots) C hne F6 N6 (fun p hp => List.mem_cons_of_mem _ (List.mem_append_left _ hp)) (List.mem_cons_of_mem _ (List.mem_append_right _ List.mem_cons_self))
      exact h r t7 h6 k7 hr bk.1 bk.2
end Mine

namespace Mine
/-- the places of the codes behind p -/
inductive Chain (rs : List Int) : Nat → List Nat → Prop where
  | last {p : Nat} (h : ¬ p + (rs.getD p 0).toNat < rs.length) : Chain rs p []
  | step {p : Nat} {ks : List Nat} (h : p + (rs.getD p 0).toNat < rs.length) (t : Chain rs (p + (rs.getD p 0).toNat) ks) : Chain rs p ((p + (rs.getD p 0).toNat) :: ks)

/-- what the while has gathered: 0 and t, p the last -/
def Gathered (rs : List Int) (t : List Nat) (p : Nat) : Prop :=
  p < rs.length ∧ (0 :: t).getLastD 0 = p ∧ t.length ≤ p ∧ ∀ ks, Chain rs p ks → Chain rs 0 (t ++ ks)
theorem gathered_start {rs : List Int} (h : 0 < rs.length) : Gathered rs [] 0 := ⟨h, rfl, Nat.le_refl _, fun _ x => x⟩
theorem gathered_step {rs : List Int} {t : List Nat} {p : Nat} (g : Gathered rs t p) (h : p + (rs.getD p 0).toNat < rs.length) (hp : 1 ≤ rs.getD p 0) :
    Gathered rs (t ++ [p + (rs.getD p 0).toNat]) (p + (rs.getD p 0).toNat) := by
  obtain ⟨h1, h2, h3, h4⟩ := g
  refine ⟨h, ?_, ?_, fun ks hk => ?_⟩
  · rw [← List.cons_append, List.getLastD_concat]
  · rw [List.length_append, List.length_singleton]; omega
  · rw [List.append_assoc]
    exact h4 _ (.step h hk)
theorem gathered_end {rs : List Int} {t : List Nat} {p : Nat} (g : Gathered rs t p) (h : ¬ p + (rs.getD p 0).toNat < rs.length) : Chain rs 0 t := by
  simpa using g.2.2.2 [] (.last h)
end Mine

namespace Mine
/-- behind the while of _law_codes -/
def CodesEnd (s : Shared) (h₀ : Heap) (L' D : Addr) (rs : List Int) (led : List (Addr × Obj)) (s' : Shared) : Prop :=
  ∃ (ps : List Value) (n' : Nat) (ks : List Nat) (m' : Str → Option Value) (h' : Heap) (tk' : Nat), s' = { s with heap := h', toks := tk' } ∧ HasAll m' [(Str.ofString "places", Value.ref D)] ∧
    Chain rs 0 ks ∧ ks.length ≤ rs.length ∧ IntsAre ps ((0 :: ks).map fun k : Nat => (k : Int)) ∧ Fr h₀ L' h' m' ∧ News h₀ L' h' ((D, W.listOf ps.toArray n') :: led)
theorem last_map {t : List Nat} {p : Nat} (g2 : (0 :: t).getLastD 0 = p) :
    (List.map (fun k : Nat => (k : Int)) (0 :: t)).getD (-1 + ((List.map (fun k : Nat => (k : Int)) (0 :: t)).length : Int)).toNat 0 = (p : Int) := by
  have e1 : (-1 + ((List.map (fun k : Nat => (k : Int)) (0 :: t)).length : Int)).toNat = (0 :: t).length - 1 := by
    rw [List.length_map]; simp only [List.length_cons]; omega
  rw [e1, List.getD_eq_getElem?_getD, List.getElem?_map, ← g2, List.getLastD_eq_getLast?, List.getLast?_eq_getElem?]
  cases (0 :: t)[(0 :: t).length - 1]? <;> rfl
set_option maxHeartbeats 8000000 in
theorem codes_C {w : World} {h₀ : Heap} {L a : Addr} {m : Str → Option Value} {cn : Str} {cs : Scope} {ccd : Value} {news : List (Addr × Obj)} {mean : ExcName → Option Value} {mg mb : Str → Option Value}
    {s : Shared} {Q : Value → Shared → Prop} {l : Addr} {vs : List Value} {rs : List Int} {nn : Nat}
    (F : Fr h₀ L s.heap m) (X : (hd.heap_39 w.params).In h₀) (N : News h₀ L s.heap news) (T : Top hd.view_39 (looseW hd.view_39 [Str.ofString "encode_cobsr_py", Str.ofString "encode_cobs_py"]) mean mg mb h₀) (hck : cs.kind = .function)
    (hl : (l, W.listOf vs.toArray nn) ∈ news) (hi : IntsAre vs rs) (hpos : ∀ r ∈ rs, 1 ≤ r ∧ r < 256) (hn0 : 0 < rs.length) (hlen : rs.length ≤ 2000)
    (h : ∀ D ps n' ks h' tk', Chain rs 0 ks → ks.length ≤ rs.length → IntsAre ps ((0 :: ks).map fun k : Nat => (k : Int)) → Fr h₀ L h' m → News h₀ L h' ((D, W.listOf ps.toArray n') :: news) → (∀ p ∈ news, p.1 ≠ D) → Q (.ref D) { s with heap := h', toks := tk' }) :
    wpC (model PySem.Challenge.rw_nc0007_01.row.prog w) (callerA.deeper (envOf cn cs L a ccd)) (call (.ref 35) [.ref l]) Q s := by
  w_top off
  revert X; k_fill; intro X
  refine wpC_call ?_
  k_dflt (refine enterC (binds := [(Str.ofString "row", .ref l)]) F X N T rfl (by k_is) (by k_is) (show callerA.depth + 1 < recursionLimit by decide +kernel) (BindsTo.of_eq rfl) (locs rfl) ?_ hck)
  intro oL h₁ C Fs hne F' N'
  clear F N
  refine wpC_execs_consA ?_
  k_steps
  dsimp only
  (rename Fr _ _ _ _ => F1); (rename News _ _ _ _ => N1); (rename (∀ p ∈ news ++ [(L, oL)], p.1 < _) => hD)
  rename_i D _ _
  have hDl : l ≠ D := Nat.ne_of_lt (hD (l, W.listOf vs.toArray nn) (List.mem_append_left _ hl))
  have hDn : ∀ p ∈ news ++ [(L, oL)], p.1 ≠ D := fun p hp => Nat.ne_of_lt (hD p hp)
  have N2 : News h₀ s.heap.objs.size _ ((D, W.listOf #[Value.int 0 (s.toks + [(Str.ofString "row", Value.ref l)].length)] 0) :: (l, W.listOf vs.toArray nn) :: (news ++ [(L, oL)])) := fun p hp => N1 p (by
    rcases List.mem_cons.mp hp with rfl | hp
    · exact List.mem_cons_self
    · rcases List.mem_cons.mp hp with rfl | hp
      · exact List.mem_cons_of_mem _ (List.mem_append_left _ hl)
      · exact List.mem_cons_of_mem _ hp)
  clear N1
  refine wpC_seq (CodesEnd s h₀ s.heap.objs.size D rs ((l, W.listOf vs.toArray nn) :: (news ++ [(L, oL)]))) ?rest ?first
  case first =>
    refine wpC_of_any (While_inv2 (n₀ := rs.length) (fun n m nx => ∃ (t : List Nat) (p : Nat) (ps : List Value) (n' : Nat), nx = (D, W.listOf ps.toArray n') :: (l, W.listOf vs.toArray nn) :: (news ++ [(L, oL)]) ∧ n = rs.length - p ∧
      HasAll m [(Str.ofString "places", Value.ref D), (Str.ofString "row", Value.ref l)] ∧ Gathered rs t p ∧ IntsAre ps ((0 :: t).map fun k : Nat => (k : Int))) F1 N2 ?hJ ?turn)
    case hJ => exact ⟨[], 0, [_], 0, rfl, rfl, all2 rfl rfl, gathered_start hn0, .cons _ _ .nil⟩
    case turn =>
      clear F1 N2
      rintro n m1 nx h1 tk1 F1 N1 ⟨t, p, ps, n', rfl, hn, hm, hG, hps⟩
      rw [hm.form] at F1
      dsimp only [kstB] at F1
      obtain ⟨g1, g2, g3, g4⟩ := id hG
      have e : (List.map (fun k : Nat => (k : Int)) (0 :: t)).getD (-1 + ((List.map (fun k : Nat => (k : Int)) (0 :: t)).length : Int)).toNat 0 = (p : Int) := last_map g2
      k_steps
      · (rename Fr _ _ _ _ => F5); (rename News _ _ _ _ => N5); (rename (_ + _ < (rs.length : Int)) => hc)
        rw [e, Int.toNat_natCast] at hc N5
        have hp1 := (hpos (rs.getD p 0) (by rw [List.getD_eq_getElem?_getD, List.getElem?_eq_getElem g1]; exact List.getElem_mem g1)).1
        have hq : (p : Int) + rs.getD p 0 = ((p + (rs.getD p 0).toNat : Nat) : Int) := by omega
        rw [hq] at hc N5
        rw [List.push_toArray] at N5
        refine ⟨_, _, _, _, rs.length - (p + (rs.getD p 0).toNat), rfl, F5, N5, by omega, t ++ [p + (rs.getD p 0).toNat], p + (rs.getD p 0).toNat, _, _, rfl, rfl, all2 rfl rfl, gathered_step hG (by omega) hp1, ?_⟩
        rw [← List.cons_append, List.map_append]
        exact hps.append (.cons _ _ .nil)
      · trivial
      · (rename (¬ _ + _ < (rs.length : Int)) => hc)
        rw [e, Int.toNat_natCast] at hc
        exact ⟨ps, n', t, _, h1, _, rfl, all1 rfl, gathered_end hG (by omega), by omega, hps, F1, N1⟩
  case rest =>
    clear F1 N2
    rintro s' ⟨ps, n', ks, m6, h6, tk6, rfl, hm6, hch, hks, hps, F6, N6⟩
    rw [hm6.form] at F6
    dsimp only [kstB] at F6
    refine wpC_execs_cons (wpC_of_any ?_)
    k_steps
    dsimp only
    have bk := backC (sl := oL.slots) C (news := (D, W.listOf ps.toArray n') :: news) (fun p hp => by
        rcases List.mem_cons.mp hp with rfl | hp
        · exact fun q => hDn (L, oL) (List.mem_append_right _ List.mem_cons_self) q.symm
        · exact hne p hp) F6 N6 (fun p hp => by
        rcases List.mem_cons.mp hp with rfl | hp
        · exact List.mem_cons_self
        · exact List.mem_cons_of_mem _ (List.mem_cons_of_mem _ (List.mem_append_left _ hp))) (List.mem_cons_of_mem _ (List.mem_cons_of_mem _ (List.mem_append_right _ List.mem_cons_self)))
    exact h D ps n' ks h6 _ hch hks hps bk.1 bk.2 fun p hp => hDn p (List.mem_append_left _ hp)
end Mine

namespace Mine

theorem goR_run : ∀ (ys cur rest : List Int), (∀ y ∈ ys, y ≠ 0) → cur.length + ys.length ≤ 254 → goR cur (ys ++ rest) = goR (cur ++ ys) rest
  | [], cur, rest, _, _ => by simp
  | y :: ys, cur, rest, h0, hl => by
    rw [List.length_cons] at hl
    rw [List.cons_append, goR, if_neg (by omega), if_neg (h0 y (List.mem_cons_self))]
    rw [goR_run ys (cur ++ [y]) rest (fun z hz => h0 z (List.mem_cons_of_mem _ hz)) (by rw [List.length_append, List.length_singleton]; omega)]
    rw [List.append_assoc, List.singleton_append]
theorem goC_run : ∀ (ys cur rest : List Int) (fz : Bool), (∀ y ∈ ys, y ≠ 0) → cur.length + ys.length ≤ 253 → goC fz cur (ys ++ rest) = goC fz (cur ++ ys) rest
  | [], cur, rest, _, _, _ => by simp
  | y :: ys, cur, rest, fz, h0, hl => by
    rw [List.length_cons] at hl
    rw [List.cons_append, goC, if_neg (h0 y (List.mem_cons_self)), if_neg (by omega)]
    rw [goC_run ys (cur ++ [y]) rest fz (fun z hz => h0 z (List.mem_cons_of_mem _ hz)) (by rw [List.length_append, List.length_singleton]; omega)]
    rw [List.append_assoc, List.singleton_append]

/-- a nought within 253 octets -/
theorem goR_zero {ys r : List Int} (h0 : ∀ y ∈ ys, y ≠ 0) (hl : ys.length ≤ 253) : goR [] (ys ++ 0 :: r) = (((ys.length : Int) + 1) :: ys) ++ goR [] r := by
  rw [goR_run ys [] _ h0 (by rw [List.length_nil]; omega), List.nil_append, goR, if_neg (by omega), if_pos rfl]
theorem goR_long {ys r : List Int} (h0 : ∀ y ∈ ys, y ≠ 0) (hl : ys.length = 254) (hr : r ≠ []) : goR [] (ys ++ r) = (255 :: ys) ++ goR [] r := by
  rw [goR_run ys [] _ h0 (by rw [List.length_nil]; omega), List.nil_append]
  cases r with
  | nil => exact absurd rfl hr
  | cons c r => exact goR_full hl
theorem goR_end {ys : List Int} (h0 : ∀ y ∈ ys, y ≠ 0) (hl : ys.length ≤ 254) : goR [] ys = finR ys := by
  have := goR_run ys [] [] h0 (by rw [List.length_nil]; omega)
  rw [List.append_nil, List.nil_append] at this
  rw [this, goR]
theorem goC_zero {ys r : List Int} {fz : Bool} (h0 : ∀ y ∈ ys, y ≠ 0) (hl : ys.length ≤ 253) : goC fz [] (ys ++ 0 :: r) = (((ys.length : Int) + 1) :: ys) ++ goC true [] r := by
  rw [goC_run ys [] _ fz h0 (by rw [List.length_nil]; omega), List.nil_append, goC, if_pos rfl]
theorem goC_long {ys r : List Int} {fz : Bool} (h0 : ∀ y ∈ ys, y ≠ 0) (hl : ys.length = 254) : goC fz [] (ys ++ r) = (255 :: ys) ++ goC false [] r := by
  have hne : ys ≠ [] := fun e => by rw [e] at hl; cases hl
  have hs : ys = ys.dropLast ++ [ys.getLast hne] := (List.dropLast_concat_getLast hne).symm
  have hd : ys.dropLast.length = 253 := by rw [List.length_dropLast, hl]
  conv => lhs; rw [hs]
  rw [List.append_assoc, List.singleton_append, goC_run ys.dropLast [] _ fz (fun y hy => h0 y (List.dropLast_subset _ hy)) (by rw [List.length_nil]; omega), List.nil_append, goC,
    if_neg (h0 _ (List.getLast_mem hne)), if_pos hd, ← hs]
theorem goC_end {ys : List Int} {fz : Bool} (h0 : ∀ y ∈ ys, y ≠ 0) (hl : ys.length ≤ 253) : goC fz [] ys = if ys = [] ∧ fz = false then [] else ((ys.length : Int) + 1) :: ys := by
  have := goC_run ys [] [] fz h0 (by rw [List.length_nil]; omega)
  rw [List.append_nil, List.nil_append] at this
  rw [this, goC]

/-- a text's first part -/
theorem parts (T : List Int) : (∃ ys r, T = ys ++ 0 :: r ∧ (∀ y ∈ ys, y ≠ 0) ∧ ys.length ≤ 253) ∨ (∃ ys r, T = ys ++ r ∧ (∀ y ∈ ys, y ≠ 0) ∧ ys.length = 254 ∧ r ≠ []) ∨ ((∀ y ∈ T, y ≠ 0) ∧ T.length ≤ 254) := by
  have key : ∀ (n : Nat) (T : List Int), (∃ ys r, T = ys ++ 0 :: r ∧ (∀ y ∈ ys, y ≠ 0) ∧ ys.length < n) ∨ (∃ ys r, T = ys ++ r ∧ (∀ y ∈ ys, y ≠ 0) ∧ ys.length = n) ∨ ((∀ y ∈ T, y ≠ 0) ∧ T.length ≤ n) := by
    intro n
    induction n with
    | zero => exact fun T => .inr (.inl ⟨[], T, rfl, (fun _ h => nomatch h), rfl⟩)
    | succ n ih =>
      intro T
      cases T with
      | nil => exact .inr (.inr ⟨(fun _ h => nomatch h), Nat.zero_le _⟩)
      | cons c T =>
        by_cases hc : c = 0
        · subst hc
          exact .inl ⟨[], T, rfl, (fun _ h => nomatch h), Nat.succ_pos _⟩
        · have hcons : ∀ ys : List Int, (∀ y ∈ ys, y ≠ 0) → ∀ y ∈ c :: ys, y ≠ 0 := fun ys h y hy => by
            rcases List.mem_cons.mp hy with rfl | hy
            · exact hc
            · exact h y hy
          rcases ih T with ⟨ys, r, e, h0, hl⟩ | ⟨ys, r, e, h0, hl⟩ | ⟨h0, hl⟩
          · exact .inl ⟨c :: ys, r, by rw [e]; rfl, hcons ys h0, by rw [List.length_cons]; omega⟩
          · exact .inr (.inl ⟨c :: ys, r, by rw [e]; rfl, hcons ys h0, by rw [List.length_cons]; omega⟩)
          · exact .inr (.inr ⟨hcons T h0, by rw [List.length_cons]; omega⟩)
  rcases key 254 T with ⟨ys, r, e, h0, hl⟩ | ⟨ys, r, e, h0, hl⟩ | h
  · exact .inl ⟨ys, r, e, h0, by omega⟩
  · cases r with
    | nil => exact .inr (.inr ⟨by rw [e, List.append_nil]; exact h0, by rw [e, List.append_nil, hl]; exact Nat.le_refl _⟩)
    | cons c r => exact .inr (.inl ⟨ys, c :: r, e, h0, hl, by intro x; cases x⟩)
  · exact .inr (.inr h)

theorem finR_range {ys : List Int} (h0 : ∀ y ∈ ys, y ≠ 0) (hr : ∀ y ∈ ys, 0 ≤ y ∧ y < 256) (hl : ys.length ≤ 254) : ∀ r ∈ finR ys, 1 ≤ r ∧ r < 256 := by
  have h1 : ∀ y ∈ ys, 1 ≤ y ∧ y < 256 := fun y hy => by have a := h0 y hy; have b := hr y hy; omega
  have hla : 0 ≤ ys.getLastD 0 ∧ ys.getLastD 0 < 256 := by
    rw [List.getLastD_eq_getLast?]
    cases h : ys.getLast? with
    | none => exact ⟨Int.le_refl _, by decide⟩
    | some k => exact hr k (List.mem_of_getLast? h)
  intro r hr'
  unfold finR at hr'
  split at hr'
  · rcases List.mem_cons.mp hr' with rfl | hr'
    · omega
    · exact h1 r hr'
  · rcases List.mem_cons.mp hr' with rfl | hr'
    · omega
    · exact h1 r (List.dropLast_subset _ hr')
theorem finR_ne (ys : List Int) : finR ys ≠ [] := by
  unfold finR; split <;> exact List.cons_ne_nil _ _
theorem encR_range : ∀ (n : Nat) (T : List Int), T.length ≤ n → (∀ y ∈ T, 0 ≤ y ∧ y < 256) → (∀ r ∈ goR [] T, 1 ≤ r ∧ r < 256) ∧ goR [] T ≠ [] := by
  intro n
  induction n with
  | zero =>
    intro T hT hr
    rw [List.length_eq_zero_iff.mp (Nat.le_zero.mp hT)]
    refine ⟨fun r h => ?_, ?_⟩
    · rw [goR] at h
      exact finR_range (ys := []) (fun _ x => nomatch x) (fun _ x => nomatch x) (by simp) r h
    · rw [goR]; exact finR_ne _
  | succ n ih =>
    intro T hT hr
    rcases parts T with ⟨ys, r, e, h0, hl⟩ | ⟨ys, r, e, h0, hl, hne⟩ | ⟨h0, hl⟩
    · subst e
      rw [List.length_append, List.length_cons] at hT
      have i := ih r (by omega) fun y hy => hr y (List.mem_append_right _ (List.mem_cons_of_mem _ hy))
      rw [goR_zero h0 hl]
      refine ⟨fun x hx => ?_, by simp⟩
      rcases List.mem_append.mp hx with hx | hx
      · rcases List.mem_cons.mp hx with rfl | hx
        · omega
        · have a := h0 x hx; have b := hr x (List.mem_append_left _ hx); omega
      · exact i.1 x hx
    · subst e
      rw [List.length_append] at hT
      have i := ih r (by omega) fun y hy => hr y (List.mem_append_right _ hy)
      rw [goR_long h0 hl hne]
      refine ⟨fun x hx => ?_, by simp⟩
      rcases List.mem_append.mp hx with hx | hx
      · rcases List.mem_cons.mp hx with rfl | hx
        · omega
        · have a := h0 x hx; have b := hr x (List.mem_append_left _ hx); omega
      · exact i.1 x hx
    · rw [goR_end h0 hl]
      exact ⟨finR_range h0 hr hl, finR_ne _⟩
end Mine

namespace Mine

theorem getD_shift {B R : List Int} {p : Nat} : (B ++ R).getD (B.length + p) 0 = R.getD p 0 := by
  rw [List.getD_eq_getElem?_getD, List.getD_eq_getElem?_getD, List.getElem?_append_right (by omega)]
  congr 2
  omega
theorem chain_shift {B R : List Int} : ∀ {x : Nat} {ks : List Nat}, Chain (B ++ R) x ks → ∀ p, x = B.length + p → ∃ ks', ks = ks'.map (B.length + ·) ∧ Chain R p ks' := by
  intro x ks h
  induction h with
  | last h =>
    intro p e
    subst e
    rw [getD_shift, List.length_append] at h
    exact ⟨[], rfl, .last (by omega)⟩
  | step h t ih =>
    intro p e
    subst e
    rw [getD_shift] at h ih ⊢
    rw [List.length_append] at h
    obtain ⟨ks', e', c'⟩ := ih (p + (R.getD p 0).toNat) (by omega)
    refine ⟨(p + (R.getD p 0).toNat) :: ks', ?_, .step (by omega) c'⟩
    rw [e', List.map_cons, Nat.add_assoc]

/-- is the code ahead of block i a full one -/
def Back (fz : Bool) (R : List Int) (ks : List Nat) : Nat → Prop
  | 0 => fz = false
  | i + 1 => R.getD ((0 :: ks).getD i 0) 0 = 255

structure StepOk (fz : Bool) (T R : List Int) (ks : List Nat) (f : Nat → Nat) (i p q : Nat) : Prop where
  lo : 1 ≤ R.getD p 0
  hi : R.getD p 0 ≤ 255
  at' : q = p + (R.getD p 0).toNat
  inR : q < R.length
  inT : f i + (R.getD p 0).toNat - 1 < T.length
  zero : R.getD p 0 < 255 → T.getD (f i + (R.getD p 0).toNat - 1) 1 = 0
  nxt : f (i + 1) = if R.getD p 0 = 255 then f i + (R.getD p 0).toNat - 1 else f i + (R.getD p 0).toNat
  cut : R.getD p 0 = 1 ∧ Back fz R ks i → goC fz [] (T.take (f i + (R.getD p 0).toNat - 1)) = R.take (q - 1)
  cpl : ¬ (R.getD p 0 = 1 ∧ Back fz R ks i) → goC fz [] (T.take (f i + (R.getD p 0).toNat - 1)) = R.take q
  red : goR [] (T.drop (f (i + 1))) = R.drop q

def LawOk (fz : Bool) (T : List Int) (ks : List Nat) (f : Nat → Nat) : Prop :=
  f 0 = 0 ∧ (∀ i p q, (0 :: ks)[i]? = some p → ks[i]? = some q → StepOk fz T (goR [] T) ks f i p q) ∧
    f ks.length ≤ T.length ∧ (goR [] T).drop ((0 :: ks).getLastD 0) = finR (T.drop (f ks.length)) ∧ (0 :: ks).getLastD 0 < (goR [] T).length

def shiftF (b : Nat) (f : Nat → Nat) : Nat → Nat
  | 0 => 0
  | i + 1 => b + f i

theorem law_step {fz fz' : Bool} {T T' Bt B R' : List Int} {code : Int} {ks' : List Nat} {f' : Nat → Nat} {c b : Nat}
    (hT : T = Bt ++ T') (hb : Bt.length = b) (hR : goR [] T = B ++ R') (hR' : R' = goR [] T') (hB : B.length = c) (hB0 : B.getD 0 0 = code) (hc : code.toNat = c) (h1 : 1 ≤ code) (h255 : code ≤ 255)
    (hne : R' ≠ []) (e0 : c - 1 < T.length) (hz : code < 255 → T.getD (c - 1) 1 = 0) (hn : b = if code = 255 then c - 1 else c)
    (cpl0 : goC fz [] (T.take (c - 1)) = if code = 1 ∧ fz = false then B.take (c - 1) else B)
    (comp : ∀ x, goC fz [] (Bt ++ x) = B ++ goC fz' [] x) (link : fz' = false ↔ code = 255)
    (ok : LawOk fz' T' ks' f') : LawOk fz T ((0 :: ks').map (c + ·)) (shiftF b f') := by
  obtain ⟨o1, o2, o3, o4, o5⟩ := ok
  rw [← hR'] at o2 o4 o5
  have hc1 : 1 ≤ c := by omega
  have hRl : 0 < R'.length := List.length_pos_iff.mpr hne
  have hR0 : (B ++ R').getD 0 0 = code := by
    rw [← hB0, List.getD_eq_getElem?_getD, List.getD_eq_getElem?_getD, List.getElem?_append_left (by omega)]
  have hsh : ∀ p, (B ++ R').getD (c + p) 0 = R'.getD p 0 := fun p => by rw [← hB]; exact getD_shift
  refine ⟨rfl, ?_, ?_, ?_, ?_⟩
  · intro i p q hp hq
    rw [hR]
    cases i with
    | zero =>
      have hp' : p = 0 := by simpa using hp.symm
      have hq' : q = c := by simpa using hq.symm
      subst hp'
      rw [hq']
      refine ⟨by rw [hR0]; exact h1, by rw [hR0]; exact h255, by rw [hR0]; omega, by rw [List.length_append]; omega, ?_, ?_, ?_, ?_, ?_, ?_⟩
      · rw [hR0]; show 0 + code.toNat - 1 < T.length; omega
      · rw [hR0]; intro h; show T.getD (0 + code.toNat - 1) 1 = 0
        rw [show 0 + code.toNat - 1 = c - 1 by omega]; exact hz h
      · rw [hR0]
        show b + f' 0 = if code = 255 then 0 + code.toNat - 1 else 0 + code.toNat
        rw [o1, hn]
        split <;> omega
      · rw [hR0]
        intro h
        show goC fz [] (T.take (0 + code.toNat - 1)) = _
        rw [show 0 + code.toNat - 1 = c - 1 by omega, cpl0, if_pos (show code = 1 ∧ fz = false from h), List.take_append_of_le_length (by omega)]
      · rw [hR0]
        intro h
        show goC fz [] (T.take (0 + code.toNat - 1)) = _
        rw [show 0 + code.toNat - 1 = c - 1 by omega, cpl0, if_neg (show ¬ (code = 1 ∧ fz = false) from h), List.take_append_of_le_length (by omega), List.take_of_length_le (by omega : B.length ≤ c)]
      · show goR [] (T.drop (b + f' 0)) = (B ++ R').drop c
        rw [o1, hT, Nat.add_zero, ← hb, List.drop_left, ← hB, List.drop_left, hR']
    | succ j =>
      have hp1 : (0 :: ks')[j]?.map (c + ·) = some p := by
        rw [← List.getElem?_map]; simpa using hp
      have hq1 : ks'[j]?.map (c + ·) = some q := by
        rw [← List.getElem?_map]; simpa using hq
      obtain ⟨p', hp', rfl⟩ := Option.map_eq_some_iff.mp hp1
      obtain ⟨q', hq', rfl⟩ := Option.map_eq_some_iff.mp hq1
      obtain ⟨s1, s2, s3, s4, s5, s6, s7, s8c, s8, s9⟩ := o2 j p' q' hp' hq'
      have hTl : T.length = b + T'.length := by rw [hT, List.length_append, hb]
      have hbk : Back fz (B ++ R') ((0 :: ks').map (c + ·)) (j + 1) ↔ Back fz' R' ks' j := by
        cases j with
        | zero =>
          show (B ++ R').getD 0 0 = 255 ↔ fz' = false
          rw [hR0]; exact link.symm
        | succ k =>
          show (B ++ R').getD ((0 :: (0 :: ks').map (c + ·)).getD (k + 1) 0) 0 = 255 ↔ R'.getD ((0 :: ks').getD k 0) 0 = 255
          have hk : k < (0 :: ks').length := by
            have := (List.getElem?_eq_some_iff.mp hp').1; omega
          have : (0 :: (0 :: ks').map (c + ·)).getD (k + 1) 0 = c + (0 :: ks').getD k 0 := by
            rw [List.getD_eq_getElem?_getD, List.getD_eq_getElem?_getD, List.getElem?_cons_succ, List.getElem?_map, List.getElem?_eq_getElem hk]; rfl
          rw [this, hsh]
      refine ⟨by rw [hsh]; exact s1, by rw [hsh]; exact s2, by rw [hsh, s3]; omega, by rw [List.length_append]; omega, ?_, ?_, ?_, ?_, ?_, ?_⟩
      · rw [hsh]; show b + f' j + (R'.getD p' 0).toNat - 1 < T.length; omega
      · rw [hsh]; intro h
        show T.getD (b + f' j + (R'.getD p' 0).toNat - 1) 1 = 0
        refine Eq.trans ?_ (s6 h)
        rw [hT, show b + f' j + (R'.getD p' 0).toNat - 1 = Bt.length + (f' j + (R'.getD p' 0).toNat - 1) by omega]
        generalize (f' j + (R'.getD p' 0).toNat - 1) = k
        rw [List.getD_eq_getElem?_getD, List.getD_eq_getElem?_getD, List.getElem?_append_right (by omega)]
        congr 2
        omega
      · rw [hsh]
        show b + f' (j + 1) = if R'.getD p' 0 = 255 then b + f' j + (R'.getD p' 0).toNat - 1 else b + f' j + (R'.getD p' 0).toNat
        rw [s7]
        split <;> omega
      · rw [hsh]
        intro h
        show goC fz [] (T.take (b + f' j + (R'.getD p' 0).toNat - 1)) = _
        rw [show b + f' j + (R'.getD p' 0).toNat - 1 = Bt.length + (f' j + (R'.getD p' 0).toNat - 1) by omega, hT, List.take_length_add_append, comp, s8c ⟨h.1, hbk.mp h.2⟩,
          show c + q' - 1 = B.length + (q' - 1) by omega, List.take_length_add_append]
      · rw [hsh]
        intro h
        show goC fz [] (T.take (b + f' j + (R'.getD p' 0).toNat - 1)) = _
        rw [show b + f' j + (R'.getD p' 0).toNat - 1 = Bt.length + (f' j + (R'.getD p' 0).toNat - 1) by omega, hT, List.take_length_add_append, comp, s8 (fun g => h ⟨g.1, hbk.mpr g.2⟩),
          show c + q' = B.length + q' by omega, List.take_length_add_append]
      · show goR [] (T.drop (b + f' (j + 1))) = _
        rw [hT, ← hb, ← hB, List.drop_length_add_append, List.drop_length_add_append]
        exact s9
  · show shiftF b f' ((0 :: ks').map (c + ·)).length ≤ T.length
    rw [List.length_map, List.length_cons]
    show b + f' ks'.length ≤ T.length
    rw [hT, List.length_append]; omega
  · have hlast : (0 :: (0 :: ks').map (c + ·)).getLastD 0 = c + (0 :: ks').getLastD 0 := by
      rw [List.getLastD_eq_getLast?, List.getLastD_eq_getLast?, List.getLast?_cons, List.getLast?_map]
      cases h : (0 :: ks').getLast? with
      | none => simp at h
      | some v => simp
    rw [hR, hlast, ← hB, List.drop_length_add_append, o4]
    rw [List.length_map, List.length_cons]
    show finR _ = finR (T.drop (b + f' ks'.length))
    rw [hT, ← hb, List.drop_length_add_append]
  · have hlast : (0 :: (0 :: ks').map (c + ·)).getLastD 0 = c + (0 :: ks').getLastD 0 := by
      rw [List.getLastD_eq_getLast?, List.getLastD_eq_getLast?, List.getLast?_cons, List.getLast?_map]
      cases h : (0 :: ks').getLast? with
      | none => simp at h
      | some v => simp
    rw [hR, hlast, List.length_append]
    omega

theorem law_main : ∀ (n : Nat) (fz : Bool) (T : List Int) (ks : List Nat), T.length ≤ n → (∀ y ∈ T, 0 ≤ y ∧ y < 256) → Chain (goR [] T) 0 ks → ∃ f, LawOk fz T ks f := by
  intro n
  induction n with
  | zero =>
    intro fz T ks hT hr hch
    have hT0 : T = [] := List.length_eq_zero_iff.mp (Nat.le_zero.mp hT)
    subst hT0
    have hks : ks = [] := by
      cases hch with
      | last h => rfl
      | step h t => exact absurd h (by decide)
    subst hks
    exact ⟨fun _ => 0, rfl, (fun i p q _ hq => by simp at hq), Nat.le_refl _, rfl, by decide⟩
  | succ n ih =>
    intro fz T ks hT hr hch
    rcases parts T with ⟨ys, r, e, h0, hl⟩ | ⟨ys, r, e, h0, hl, hne⟩ | ⟨h0, hl⟩
    · have hrng := encR_range r.length r (Nat.le_refl _) fun y hy => hr y (by rw [e]; exact List.mem_append_right _ (List.mem_cons_of_mem _ hy))
      have hR : goR [] T = (((ys.length : Int) + 1) :: ys) ++ goR [] r := by rw [e]; exact goR_zero h0 hl
      have hTl : T.length = ys.length + (r.length + 1) := by rw [e, List.length_append, List.length_cons]
      have hBl : ((((ys.length : Int) + 1) :: ys)).length = ys.length + 1 := List.length_cons
      rw [hR] at hch
      have hR0 : ((((ys.length : Int) + 1) :: ys) ++ goR [] r).getD 0 0 = (ys.length : Int) + 1 := rfl
      have hpos := List.length_pos_iff.mpr hrng.2
      cases hch with
      | last h =>
        rw [hR0, List.length_append, hBl] at h
        exact absurd (by omega) h
      | step h t =>
        rw [hR0] at t ⊢
        obtain ⟨ks', hk, ch'⟩ := chain_shift t 0 (by rw [hBl]; omega)
        obtain ⟨f', ok'⟩ := ih true r ks' (by omega) (fun y hy => hr y (by rw [e]; exact List.mem_append_right _ (List.mem_cons_of_mem _ hy))) ch'
        refine ⟨shiftF (ys.length + 1) f', ?_⟩
        have hks : (0 + ((ys.length : Int) + 1).toNat) :: ks'.map ((((ys.length : Int) + 1) :: ys).length + ·) = (0 :: ks').map ((ys.length + 1) + ·) := by
          rw [List.map_cons, hBl]
          congr 1
          omega
        rw [hk, hks]
        refine law_step (fz' := true) (Bt := ys ++ [0]) (T' := r) (R' := goR [] r) (code := (ys.length : Int) + 1) ?_ ?_ hR rfl hBl rfl (by omega) (by omega) (by omega) hrng.2 (by omega) ?_ ?_ ?_ ?_ ?_ ok'
        · rw [e]; simp
        · simp
        · intro _
          rw [e, List.getD_eq_getElem?_getD, List.getElem?_append_right (by omega), show ys.length + 1 - 1 - ys.length = 0 by omega]; rfl
        · rw [if_neg (by omega)]
        · rw [e, show ys.length + 1 - 1 = ys.length by omega, List.take_left, goC_end h0 hl]
          by_cases hy : ys = []
          · subst hy
            cases fz <;> rfl
          · have hyl := List.length_pos_iff.mpr hy
            rw [if_neg (fun h => hy h.1), if_neg (fun h => by have := h.1; omega)]
        · intro x
          rw [List.append_assoc, List.singleton_append]
          exact goC_zero h0 hl
        · constructor
          · intro h; cases h
          · intro h; omega
    · have hrng := encR_range r.length r (Nat.le_refl _) fun y hy => hr y (by rw [e]; exact List.mem_append_right _ hy)
      have hR : goR [] T = (255 :: ys) ++ goR [] r := by rw [e]; exact goR_long h0 hl hne
      have hTl : T.length = ys.length + r.length := by rw [e, List.length_append]
      have hrl := List.length_pos_iff.mpr hne
      have hBl : ((255 : Int) :: ys).length = 255 := by rw [List.length_cons, hl]
      rw [hR] at hch
      have hR0 : (((255 : Int) :: ys) ++ goR [] r).getD 0 0 = 255 := rfl
      have hpos := List.length_pos_iff.mpr hrng.2
      cases hch with
      | last h =>
        rw [hR0, List.length_append, hBl] at h
        exact absurd (by omega) h
      | step h t =>
        rw [hR0] at t ⊢
        obtain ⟨ks', hk, ch'⟩ := chain_shift t 0 (by rw [hBl]; rfl)
        obtain ⟨f', ok'⟩ := ih false r ks' (by omega) (fun y hy => hr y (by rw [e]; exact List.mem_append_right _ hy)) ch'
        refine ⟨shiftF 254 f', ?_⟩
        have hks : (0 + (255 : Int).toNat) :: ks'.map (((255 : Int) :: ys).length + ·) = (0 :: ks').map (255 + ·) := by
          rw [List.map_cons, hBl]; rfl
        rw [hk, hks]
        refine law_step (fz' := false) (Bt := ys) (T' := r) (R' := goR [] r) (code := 255) e hl hR rfl hBl rfl rfl (by omega) (by omega) hrng.2 (by omega) ?_ ?_ ?_ ?_ ?_ ok'
        · intro h; omega
        · rfl
        · rw [e, show 255 - 1 = ys.length by omega, List.take_left]
          have := goC_long (r := []) (fz := fz) h0 hl
          rw [List.append_nil] at this
          rw [this, if_neg (fun h => by have := h.1; omega), goC, if_pos ⟨rfl, rfl⟩, List.append_nil]
        · exact fun x => goC_long h0 hl
        · exact ⟨fun _ => rfl, fun _ => rfl⟩
    · have hR : goR [] T = finR T := goR_end h0 hl
      have hks : ks = [] := by
        rw [hR] at hch
        cases hch with
        | last h => rfl
        | step h t =>
          exfalso
          revert h
          unfold finR
          split
          · rename_i hlt
            intro h
            rw [show ((((T.length : Int) + 1) :: T).getD 0 0) = (T.length : Int) + 1 from rfl, List.length_cons] at h
            omega
          · rename_i hlt
            intro h
            rw [show ((T.getLastD 0 :: T.dropLast).getD 0 0) = T.getLastD 0 from rfl, List.length_cons, List.length_dropLast] at h
            omega
      subst hks
      refine ⟨fun _ => 0, rfl, (fun i p q _ hq => by simp at hq), Nat.zero_le _, ?_, ?_⟩
      · show (goR [] T).drop 0 = finR (T.drop 0)
        rw [List.drop_zero, List.drop_zero, hR]
      · show 0 < (goR [] T).length
        rw [hR]; exact List.length_pos_iff.mpr (finR_ne _)
end Mine

namespace Mine
theorem fmod_in (k : Int) {n : Int} (hn : 0 < n) : 0 ≤ k.fmod n ∧ k.fmod n < n :=
  ⟨Int.fmod_nonneg_of_pos k hn, Int.fmod_lt_of_pos k hn⟩
theorem text0_in (ns : List Int) : ∀ y ∈ List.map (fun k' : Int => if k'.fmod 3 = 0 then 0 else k'.fmod 256) (List.take 20 ns), 0 ≤ y ∧ y < 256 := by
  intro y hy
  obtain ⟨k, _, rfl⟩ := List.mem_map.mp hy
  have := fmod_in k (n := 256) (by decide)
  split
  · decide
  · exact this
theorem text0_len (ns : List Int) : (List.map (fun k' : Int => if k'.fmod 3 = 0 then 0 else k'.fmod 256) (List.take 20 ns)).length ≤ 258 := by
  rw [List.length_map, List.length_take]; omega
theorem text1_in (ns : List Int) (x : Int) (k : Nat) : ∀ y ∈ (List.replicate k [x.fmod 255 + 1]).flatten ++ List.take 3 (List.map (fun k' : Int => if k'.fmod 3 = 0 then 0 else k'.fmod 256) (List.take 20 ns)), 0 ≤ y ∧ y < 256 := by
  intro y hy
  rcases List.mem_append.mp hy with hy | hy
  · obtain ⟨zs, h1, h2⟩ := List.mem_flatten.mp hy
    rw [List.eq_of_mem_replicate h1] at h2
    rw [List.mem_singleton.mp h2]
    have := fmod_in x (n := 255) (by decide)
    omega
  · exact text0_in ns y (List.mem_of_mem_take hy)
theorem text1_len (ns : List Int) (x : Int) (k : Nat) (hk : k ≤ 255) : ((List.replicate k [x.fmod 255 + 1]).flatten ++ List.take 3 (List.map (fun k' : Int => if k'.fmod 3 = 0 then 0 else k'.fmod 256) (List.take 20 ns))).length ≤ 258 := by
  rw [List.length_append, List.length_take, List.flatten_replicate_singleton, List.length_replicate]
  omega
end Mine

namespace Mine
theorem last_getD (ys : List Int) : ys.getD (-1 + (ys.length : Int)).toNat 0 = ys.getLastD 0 := by
  rw [show (-1 + (ys.length : Int)).toNat = ys.length - 1 by omega, List.getD_eq_getElem?_getD, List.getLastD_eq_getLast?, List.getLast?_eq_getElem?]
theorem due_cut {ys : List Int} (h0 : 0 < (ys.length : Int)) (h1 : (ys.length : Int) < ys.getD (-1 + (ys.length : Int)).toNat 0) :
    List.drop (ys.length - 1) ys ++ List.take (ys.length - 1) ys = finR ys := by
  rw [last_getD] at h1
  have hne : ys ≠ [] := fun e => by rw [e] at h0; exact absurd h0 (by decide)
  have hd : List.drop (ys.length - 1) ys = [ys.getLast hne] := by
    have e := List.dropLast_concat_getLast hne
    have hl : ys.dropLast.length = ys.length - 1 := List.length_dropLast
    conv => lhs; rw [← e, List.length_append, List.length_singleton, Nat.add_sub_cancel, List.drop_left]
  unfold finR
  rw [if_neg (by omega), ← List.dropLast_eq_take, hd, List.getLastD_eq_getLast?, List.getLast?_eq_some_getLast hne]
  rfl
theorem due_whole {ys : List Int} (h1 : ¬ (ys.length : Int) < ys.getD (-1 + (ys.length : Int)).toNat 0) :
    [(ys.length : Int) + 1] ++ ys = finR ys := by
  rw [last_getD] at h1
  unfold finR
  rw [if_pos (by omega)]; rfl
theorem due_none {ys : List Int} (h0 : ¬ 0 < (ys.length : Int)) : [(ys.length : Int) + 1] ++ ys = finR ys := by
  have : ys = [] := List.length_eq_zero_iff.mp (by omega)
  subst this; decide
end Mine

namespace Mine
section
variable {prog : Program} {w : World} {A : Around} {s : Shared} {env : Env} {h₀ : Heap} {R : Flow → Shared → Prop}

theorem codeC_forLoopT {target it body orelse env} (I : Nat → Shared → Prop)
    (turn : ∀ n s, I n s → wpAny (model prog w) A (pyNext it) (fun r s₁ => match r with
      | none => wpAny (model prog w) A (execs orelse env) (fun f s₃ => R f s₃) (fun _ _ => False) s₁
      | some v => wpAny (model prog w) A (letOwnedTupleGo target it v) (fun _ s₁' => wpAny (model prog w) A (assign target env v) (fun _ s₂ => wpC (model prog w) A (execs body env) (fun f s₃ => match f with
          | .next | .cont => ∃ m, m < n ∧ I m s₃
          | .brk => R .next s₃
          | .ret v => R (.ret v) s₃) s₂) (fun _ _ => False) s₁') (fun _ _ => False) s₁) (fun _ _ => False) s)
    (n : Nat) (h : I n s) : codeC (model prog w) A (.forLoop target it body orelse env) R s := by
  have hA : A.under (.forLoop target it body orelse env) = A := Around.under_of_weight rfl rfl
  refine codeC_loop rfl rfl I (fun n s hI => ?_) n h
  rw [hA]
  show wpC _ _ ((forTurn target it body orelse env).onRaise (fun x => do noteFrame x env; theTreesLotGoes x)) _ s
  refine wpC_onRaise ?_
  simp only [forTurn]
  refine wpC_bind (wpC_standAt (wpC_bind (wpC_onRaise (wpC_of_any (wpAny_mono (turn n s hI) (fun r s₁ h₁ => ?_) fun _ _ h' => h')))))
  cases r with
  | none =>
    refine wpC_pure (.inr ⟨rfl, codeC_of_any (codeAny_block ?_)⟩)
    exact wpAny_mono h₁ (fun _ _ x => x) fun _ _ x => x.elim
  | some v =>
    refine wpC_bindA (wpAny_mono h₁ (fun _ s₁' h₁' => ?_) fun _ _ h' => h')
    refine wpC_bindA (wpAny_mono h₁' (fun _ s₂ h₂ => wpC_bind (wpC_mono h₂ (fun f s₃ h₃ => ?_))) fun _ _ h' => h')
    cases f with
    | next => exact wpC_pure (.inl ⟨rfl, h₃⟩)
    | cont => exact wpC_pure (.inl ⟨rfl, h₃⟩)
    | brk => exact wpC_pure h₃
    | ret v => exact wpC_pure h₃

theorem forC_invT {xi xc : Str} {pk pv pt : Pos} {x1 : Nat} {body : List Stmt} {I : Addr} {fp wr : List Addr} {n : Nat} {Pt : Nat → Array Value → Prop} {St : Nat → Heap → Prop} {Mid : Nat → Addr → Heap → Prop}
    {P2 : Nat → Value → Value → Prop} {m : Str → Option Value} {news : List (Addr × Obj)} (hh : A.handled = none) (W : WalksT prog w A I fp wr n Pt St Mid) (h2 : ∀ i vals, Pt i vals → ∃ v0 v1, vals = #[v0, v1] ∧ P2 i v0 v1)
    (hxi : env.kindOf xi = some .local) (hxc : env.kindOf xc = some .local)
    (hp : (env.scope.kind == .class || (env.scope.kind == .module && env.locals != env.globals)) = false)
    (hLf : env.locals ∉ fp) (hwr : ∀ b ∈ wr, h₀.get? b = none) (hnw : ∀ p ∈ news, p.1 ∉ wr)
    (hst : St 0 s.heap) (F : Fr h₀ env.locals s.heap m) (N : News h₀ env.locals s.heap news)
    (J : Nat → (Str → Option Value) → List (Addr × Obj) → Prop) (h0 : J 0 m news)
    (step : ∀ i v0 v1 m₁ news₁ h tk own, i < n → P2 i v0 v1 → J i m₁ news₁ → (∀ p ∈ news₁, p.1 ∉ wr) → (∀ p ∈ own, p.1 ∈ fp) →
      Fr h₀ env.locals h (fun y => if y = xc then some v1 else if y = xi then some v0 else m₁ y) → News h₀ env.locals h (own ++ news₁) →
      wpC (model prog w) A (execs body env) (TurnC h₀ env.locals wr own (J (i + 1)) { s with heap := h, toks := tk } R) { s with heap := h, toks := tk })
    (hR : ∀ h' tk m' news', Fr h₀ env.locals h' m' → News h₀ env.locals h' news' → J n m' news' → R .next { s with heap := h', toks := tk }) :
    codeC (model prog w) A (.forLoop (.Tuple [.Name xi pk, .Name xc pv] x1 pt) (.ref I) body [] env) R s := by
  have hLw : env.locals ∉ wr := fun h => hLf (W.sub _ h)
  have old : ∀ b o, h₀.get? b = some o → b ∉ wr := fun b o e hb => by rw [hwr b hb] at e; cases e
  refine codeC_forLoopT
    (fun k s' => ∃ h' tk m' news' i, s' = { s with heap := h', toks := tk } ∧ St i h' ∧ Fr h₀ env.locals h' m' ∧ News h₀ env.locals h' news' ∧ (∀ p ∈ news', p.1 ∉ wr) ∧ J i m' news' ∧ i ≤ n ∧ k = n + 1 - i) ?_ (n + 1)
    ⟨s.heap, s.toks, m, news, 0, rfl, hst, F, N, hnw, h0, Nat.zero_le _, rfl⟩
  rintro k s' ⟨H, tk, m', news', i, rfl, hst', F', N', hnw', hJ, hi, rfl⟩
  have next : ∀ h₁ : Heap, (∀ b o, b ∉ wr → H.get? b = some o → h₁.get? b = some o) → Fr h₀ env.locals h₁ m' ∧ News h₀ env.locals h₁ news' := fun h₁ hk₁ =>
    ⟨⟨F'.ns.at' fun o e => hk₁ _ o hLw e, fun b o e => hk₁ b o (old b o e) (F'.keep b o e), F'.above⟩, fun p hp => ⟨hk₁ _ _ (hnw' p hp) (N' p hp).1, (N' p hp).2⟩⟩
  by_cases hlt : i < n
  · refine W.item i _ _ _ hlt hst' fun T vals h₁ tk₁ hPt _ hT hMid hk₁ => ?_
    obtain ⟨v0, v1, rfl, hP2⟩ := h2 i vals hPt
    refine W.go _ x1 pt i T _ _ _ hMid fun h₂ hst₂ hk₂ => ?_
    have ht₂ : h₂.IsTuple T #[v0, v1] := hT.at fun o e => hk₂ T o (W.apart i T h₁ hMid) e
    refine wpAny_assign_Tuple hh ht₂ rfl rfl fun h₃ hx₃ => ?_
    replace hx₃ : Heap.ExtBut h₂.objs.size h₂ h₃ := hx₃
    have up₃ : ∀ b o, h₂.get? b = some o → h₃.get? b = some o := fun b o x => hx₃ b o (Nat.ne_of_lt (Heap.lt_size x)) x
    obtain ⟨F₃, N₃⟩ := next h₃ fun b o hb x => up₃ b o (hk₂ b o hb (hk₁ b o hb x))
    show wpAny _ A (do holding [v1] (assign (.Name xi pk) env v0); do holding [] (assign (.Name xc pv) env v1); pure ()) _ _ _
    refine wpAny_bind (wpAny_holding (wpAny_assign_Name (wpAny_storeName_local hxi F₃.ns (fun h₄ hn₄ hs₄ => ?_) hp)))
    replace hs₄ : Heap.SameBut env.locals h₃ h₄ := hs₄
    have F₄ := F₃.set hn₄ hs₄
    refine wpAny_bind (wpAny_holding (wpAny_assign_Name (wpAny_storeName_local hxc F₄.ns (fun h₅ hn₅ hs₅ => wpAny_pure ?_) hp)))
    replace hs₅ : Heap.SameBut env.locals h₄ h₅ := hs₅
    have F₅ := F₄.set hn₅ hs₅
    have N₅ : News h₀ env.locals h₅ news' := (N₃.set hs₄).set hs₅
    have hst₅ : St (i + 1) h₅ := W.frame _ _ _ hst₂ fun b hb o e => hs₅.extBut b o (fun q => hLf (q ▸ hb)) (hs₄.extBut b o (fun q => hLf (q ▸ hb)) (up₃ b o e))
    have fin : ∀ (s₃ : Shared) (tk₅ : Nat), (∃ h'' tk'' m₂ news₂, s₃ = { ({ s with heap := h₅, toks := tk₅ } : Shared) with heap := h'', toks := tk'' } ∧ Fr h₀ env.locals h'' m₂ ∧ News h₀ env.locals h'' (ownOf h₀ fp h₅ ++ news₂) ∧ (∀ p ∈ news₂, p.1 ∉ wr) ∧ J (i + 1) m₂ news₂) →
        ∃ k', k' < n + 1 - i ∧ ∃ h' tk m' news' i, s₃ = { s with heap := h', toks := tk } ∧ St i h' ∧ Fr h₀ env.locals h' m' ∧ News h₀ env.locals h' news' ∧ (∀ p ∈ news', p.1 ∉ wr) ∧ J i m' news' ∧ i ≤ n ∧ k' = n + 1 - i := by
      rintro s₃ tk₅ ⟨h₆', tk₆, m₂, news₂, rfl, F₆, N₆, ha₆, hJ₆⟩
      refine ⟨n + 1 - (i + 1), by omega, h₆', tk₆, m₂, news₂, i + 1, rfl, ?_, F₆, N₆.right, ha₆, hJ₆, hlt, rfl⟩
      refine W.frame _ _ _ hst₅ fun b hb o e => ?_
      cases hn : h₀.get? b with
      | some o₀ =>
        have : o₀ = o := by have q := F₅.keep b o₀ hn; rw [e] at q; exact (Option.some.inj q).symm
        exact this ▸ F₆.keep b o₀ hn
      | none => exact (N₆ _ (List.mem_append_left _ (mem_ownOf hb hn e))).1
    refine wpC_mono (step i v0 v1 m' news' h₅ _ (ownOf h₀ fp h₅) hlt hP2 hJ hnw' ownOf_sub F₅ ((news_ownOf hLf).append N₅)) (fun f s₃ h₃ => ?_)
    cases f with
    | ret v => exact h₃
    | brk => exact h₃
    | cont => exact fin s₃ _ h₃
    | next => exact fin s₃ _ h₃
  · have hin : i = n := by omega
    subst hin
    refine W.done _ _ _ hst' fun h₁ tk₁ hk₁ => wpAny_execs_nil ?_
    obtain ⟨F₁, N₁⟩ := next h₁ hk₁
    exact hR h₁ tk₁ m' news' F₁ N₁ hJ

/-- an enumeration of a made list, not begun -/
def EnumAt (s : Shared) (h₀ : Heap) (L : Addr) (m : Str → Option Value) (news : List (Addr × Obj)) (xs : List Int) (v : Value) (s₁ : Shared) : Prop :=
  ∃ (items : List Value) (e it l : Addr) (h' : Heap) (tk : Nat), IntsAre items xs ∧ v = .ref e ∧ s₁ = { s with heap := h', toks := tk } ∧ IsEnum h' e it 0 .none ∧ h'.IsListIter it l 0 ∧ h'.IsList l items.toArray ∧ e ≠ it ∧ l ≠ e ∧ l ≠ it ∧
    Fr h₀ L h' m ∧ News h₀ L h' news ∧ (∀ p ∈ news, p.1 ∉ [e, it, l]) ∧ L ∉ [e, it, l] ∧ h₀.get? e = none ∧ h₀.get? it = none

theorem For_enumC {xi xc : Str} {pk pv pt pos : Pos} {x1 : Nat} {iter : Expr} {body : List Stmt} {m : Str → Option Value} {news : List (Addr × Obj)} {xs : List Int}
    (J : Nat → (Str → Option Value) → List (Addr × Obj) → Prop) (hh : A.handled = none) (hxi : env.kindOf xi = some .local) (hxc : env.kindOf xc = some .local)
    (hp : (env.scope.kind == .class || (env.scope.kind == .module && env.locals != env.globals)) = false)
    (_F : Fr h₀ env.locals s.heap m) (_N : News h₀ env.locals s.heap news)
    (hev : wpAny (model prog w) A (eval iter env) (EnumAt s h₀ env.locals m news xs) (fun _ _ => False) s)
    (h0 : J 0 m news)
    (step : ∀ i t x tx m₁ news₁ h tk own wr, xs[i]? = some x → J i m₁ news₁ → (∀ p ∈ own, ∀ q ∈ news, p.1 ≠ q.1) → (∀ p ∈ news₁, p.1 ∉ wr) →
      Fr h₀ env.locals h (fun y => if y = xc then some (.int x tx) else if y = xi then some (.int (i : Int) t) else m₁ y) → News h₀ env.locals h (own ++ news₁) →
      wpC (model prog w) A (execs body env) (TurnC h₀ env.locals wr own (J (i + 1)) { s with heap := h, toks := tk } R) { s with heap := h, toks := tk })
    (hR : ∀ h' tk m' news', Fr h₀ env.locals h' m' → News h₀ env.locals h' news' → J xs.length m' news' → R .next { s with heap := h', toks := tk })
    (hs : ∀ x, foldedSetIterable iter env x = pure x := by intro _; rfl) :
    wpC (model prog w) A (exec (.For (.Tuple [.Name xi pk, .Name xc pv] x1 pt) iter body [] pos) env) R s := by
  refine wpC_For (wpAny_mono hev (fun v s₁ hv => ?_) fun _ _ x => x) hs
  obtain ⟨items, e, it, l, h', tk, hii, rfl, rfl, he, hit, hl, n1, n2, n3, F, N, hoff, hL, g1, g2⟩ := hv
  refine wpAny_pyIter_enum he ?_
  have W := WalksT.enumerate (prog := prog) (w := w) (A := A) hh e it l n1 n2 n3 items.toArray
  refine forC_invT (P2 := fun i v0 v1 => ∃ t, v0 = .int (i : Int) t ∧ items[i]? = some v1) hh W ?_ hxi hxc hp hL ?_ ?_ ⟨⟨_, by simpa using he⟩, hit, hl⟩ F N J h0 ?_ ?_
  · rintro i vals ⟨t, x, hx, rfl⟩
    exact ⟨_, _, rfl, t, rfl, by simpa using hx⟩
  · intro b hb
    rcases List.mem_cons.mp hb with rfl | hb
    · exact g1
    · rw [List.mem_singleton.mp hb]; exact g2
  · intro p hp hb
    refine hoff p hp ?_
    rcases List.mem_cons.mp hb with e' | hb
    · rw [e']; exact List.mem_cons_self
    · rw [List.mem_singleton.mp hb]; exact List.mem_cons_of_mem _ List.mem_cons_self
  · rintro i v0 v1 m₁ nx h tk' own hi ⟨t, rfl, hv⟩ hJ hnw hown F₁ N₁
    obtain ⟨x, tx, rfl, hx⟩ := hii.at i v1 hv
    exact step i t x tx m₁ nx h tk' own [e, it] hx hJ (fun p hp q hq e' => hoff q hq (e' ▸ hown p hp)) hnw F₁ N₁
  · intro h'' tk'' m' news' F' N' hJ
    exact hR h'' tk'' m' news' F' N' (by simpa [hii.length] using hJ)
end
end Mine

namespace Mine
section
variable {prog : Program} {w : World} {A : Around} {E : Value → Shared → Prop} {s : Shared}

theorem len_bytes : typeLookup (.type "bytes") "__len__" = pure (some (.builtin "bytes.__len__")) := PySem.W.FB.slot_bytes_len.lookup

theorem extend_bytes {R : Result → Shared → Prop} (hh : A.handled = none) (x : Array UInt8) (t : Tok) (S : Addr) (res : Value) (c₀ : Nat) (hS : s.heap.get? S = some { cls := .type "list", data := .seq #[] c₀ })
    (hR : ∀ h' tk acc' c', (∀ b o, b ≠ S → s.heap.get? b = some o → h'.get? b = some o) → h'.get? S = some { cls := .type "list", dict := none, data := .seq acc' c', slots := #[] } →
      ItemsOf (fun i v => ∃ c u, x[i]? = some c ∧ v = .int (c.toNat : Int) u) acc' x.size → R (.ok (.ret res)) { s with heap := h', toks := tk }) (hn : x.size ≤ sizeLine) :
    wpAny (model prog w) A.in1 (Builtin.List.listExtendWith (.ref S) (.bytes x t) res)
      (fun fin s' => match fin with | .done f => R (.ok f) s' | .again c' => c'.quiet = true ∧ codeAny (model prog w) A c' R s') (fun e s' => R (.error e) s') s := by
  have hSI : S ≠ s.heap.objs.size := Nat.ne_of_lt (Heap.lt_size hS)
  have hSf : S ∉ [s.heap.objs.size] := fun hm => hSI (List.mem_singleton.mp hm)
  unfold Builtin.List.listExtendWith
  refine wpAny_bind (wpAny_typeOf (T := "bytes") (v := .bytes x t) (typeIs_bytes _ _ _) ?_)
  have h1 : Builtin.List.listSameRef (.ref S) (.bytes x t) = false := rfl
  have h2 : (Value.type "bytes" == Value.type "list") = false := by decide
  have h3 : (Value.type "bytes" == Value.type "tuple") = false := by decide
  simp only [h1, h2, h3, Bool.or_false, Bool.false_eq_true, if_false]
  refine wpAny_bind (KBw.pyIter_bytes ?_)
  refine wpAny_bind (wpAny_holding ?_)
  unfold Builtin.List.listLengthHint
  refine wpAny_bind (wpAny_specialOf (T := "bytes") (v := .bytes x t) (typeIs_bytes _ _ _) len_bytes ?_)
  wp_delta
  refine wpAny_bind (wpAny_isInstance (T := "bytes") (v := .bytes x t) (b := true) (typeIs_bytes _ _ _) (by rw [isSubtype_type]; kernel_rfl) ?_)
  show wpAny _ _ (typeOf (Value.bytes x t) >>= _) _ _ _
  refine wpAny_bind (wpAny_typeOf (T := "bytes") (v := .bytes x t) (typeIs_bytes _ _ _) ?_)
  refine wpAny_pure ?_
  rw [if_neg (by decide)]
  have W := KBw.walks (prog := prog) (w := w) (A := A.in1) hh s.heap.objs.size x t
  refine wpAny_pure ⟨plainId_quiet F.plain_extend_loop _, codeAny_extend_loopS W.toS hn _ hSf _ x.size 0 _ _ _ rfl (Nat.zero_le _) ⟨_, Heap.get?_push_size _ rfl, rfl, rfl⟩ (Heap.get?_push_of_some _ hS) (ItemsOf.nil _) fun s' acc' c' hm hS' hacc => ?_⟩
  rw [Moved.eq_with hm]
  refine hR s'.heap s'.toks acc' c' (fun b ob hb e => hm.heap b ob (fun hmem => ?_) (Heap.get?_push_of_some _ e)) hS' hacc
  rcases List.mem_cons.mp hmem with e' | hmem
  · exact hb e'
  · exact absurd (Heap.lt_size e) (by rw [List.mem_singleton.mp hmem]; exact Nat.lt_irrefl _)

theorem init_bytes {R : Result → Shared → Prop} (hh : A.handled = none) (x : Array UInt8) (t : Tok) (S : Addr) (hS : s.heap.get? S = some { cls := .type "list", data := .seq #[] })
    (hR : ∀ h' tk acc' c', (∀ b o, b ≠ S → s.heap.get? b = some o → h'.get? b = some o) → h'.get? S = some { cls := .type "list", dict := none, data := .seq acc' c', slots := #[] } →
      ItemsOf (fun i v => ∃ c u, x[i]? = some c ∧ v = .int (c.toNat : Int) u) acc' x.size → R (.ok (.ret .none)) { s with heap := h', toks := tk }) (hn : x.size ≤ sizeLine) :
    wpAny (model prog w) A.in1 (Builtin.«list.__init__» ⟨[.ref S, .bytes x t], []⟩)
      (fun fin s' => match fin with | .done f => R (.ok f) s' | .again c' => c'.quiet = true ∧ codeAny (model prog w) A c' R s') (fun e s' => R (.error e) s') s := by
  show wpAny _ _ (do let old ← Builtin.List.listItems (.ref S); Builtin.List.listUpdate (.ref S) (fun _ => #[]); letGo old.toList.reverse; Builtin.List.listExtendWith (.ref S) (.bytes x t) .none) _ _ s
  refine wpAny_bind ?_
  unfold Builtin.List.listItems
  refine wpAny_bind (wpAny_seqItems hS rfl (wpAny_pure ?_))
  show wpAny _ _ (updateSeq S (fun _ => #[]) >>= fun _ => letGo (#[] : Array Value).toList.reverse >>= fun _ => Builtin.List.listExtendWith (.ref S) (.bytes x t) .none) _ _ s
  refine wpAny_bind (wpAny_updateSeq hS rfl ?_)
  have hS₂ := Heap.get?_update_self (Obj.mapSeq (fun _ => (#[] : Array Value))) hS rfl
  have oth : ∀ b o, b ≠ S → s.heap.get? b = some o → (s.heap.update S (Obj.mapSeq (fun _ => (#[] : Array Value)))).get? b = some o :=
    fun b o hb e => (Heap.get?_update_other _ _ (Ne.symm hb)).trans e
  refine wpAny_bind (wpAny_letGo ?_)
  refine extend_bytes (hn := hn) hh x t S .none _ hS₂ fun h' tk acc' c' hk hS' hacc => ?_
  exact hR h' tk acc' c' (fun b o hb e => hk b o hb (oth b o hb e)) hS' hacc

theorem list_bytes {Q : Value → Shared → Prop} (hh : A.handled = none) (x : Array UInt8) (t : Tok)
    (hQ : ∀ h' tk acc' c', (∀ b o, s.heap.get? b = some o → h'.get? b = some o) →
      h'.get? s.heap.objs.size = some { cls := .type "list", dict := none, data := .seq acc' c', slots := #[] } → ItemsOf (fun i v => ∃ c u, x[i]? = some c ∧ v = .int (c.toNat : Int) u) acc' x.size → Q (.ref s.heap.objs.size) { s with heap := h', toks := tk }) (hn : x.size ≤ sizeLine) :
    wpAny (model prog w) A (call (.type "list") [.bytes x t]) Q E s := by
  refine callType_codes (Q₁ := fun obj s₁ => obj = .ref s.heap.objs.size ∧ s₁ = { s with heap := s.heap.push { cls := .type "list", data := .seq #[] } }) F.called_list (F.typeCall_list_1 _) F.entry_list_init
    (code_list_new _ ⟨rfl, rfl⟩) fun obj s₁ h₁ => ?_
  obtain ⟨rfl, rfl⟩ := h₁
  have hS : (s.heap.push { cls := .type "list", data := .seq #[] }).get? s.heap.objs.size = some { cls := .type "list", data := .seq #[] } := Heap.get?_push_size _ rfl
  refine ⟨⟨_, hS, rfl⟩, F.args_list_init_2 _ _, init_bytes (A := A.in1) (hn := hn) hh x t _ hS fun h' tk acc' c' hk hS' hacc => ?_⟩
  exact ⟨rfl, hQ h' tk acc' c' (fun b o e => hk b o (Nat.ne_of_lt (Heap.lt_size e)) (Heap.get?_push_of_some _ e)) hS' hacc⟩

theorem intsAre_of {xs : List Value} {ns : List Int} (hl : xs.length = ns.length) (h : ∀ (i : Nat) (v : Value), xs[i]? = some v → ∃ (n : Int) (t : Tok), ns[i]? = some n ∧ v = Value.int n t) : IntsAre xs ns := by
  induction xs generalizing ns with
  | nil => rw [List.length_eq_zero_iff.mp hl.symm]; exact .nil
  | cons v xs ih =>
    cases ns with
    | nil => cases hl
    | cons n ns =>
      obtain ⟨n', t, e1, rfl⟩ := h 0 v rfl
      have : n = n' := by simpa using e1
      subst this
      exact .cons _ _ (ih (by simpa using hl) fun i v hv => by simpa using h (i + 1) v (by simpa using hv))

/-- a bytes' ints, on the ledger -/
theorem listBytes_N {Q : Value → Shared → Prop} {h₀ : Heap} {L : Addr} {m : Str → Option Value} {news : List (Addr × Obj)} (hh : A.handled = none) (F : Fr h₀ L s.heap m) (N : News h₀ L s.heap news) {x : Array UInt8} {t : Tok} (hn : x.size ≤ sizeLine)
    (hQ : ∀ D vs c h' tk, IntsAre vs (KBw.bInts x) → Fr h₀ L h' m → News h₀ L h' ((D, W.listOf vs.toArray c) :: news) → (∀ p ∈ news, p.1 < D) → Q (.ref D) { s with heap := h', toks := tk }) :
    wpAny (model prog w) A (call (.type "list") [.bytes x t]) Q E s := by
  refine list_bytes hh x t (fun h' tk acc' c' hk hS hacc => ?_) hn
  refine hQ s.heap.objs.size acc'.toList c' h' tk ?_ ⟨F.ns.at' fun o e => hk _ o e, fun b o e => hk b o (F.keep b o e), F.above⟩ ?_ fun p hp => Heap.lt_size (N p hp).1
  · refine intsAre_of ?_ fun i v hv => ?_
    · rw [KBw.ints_length]; simpa using hacc.1
    · obtain ⟨c, u, hc, rfl⟩ := hacc.2 i v (by simpa using hv)
      exact ⟨_, u, KBw.ints_get hc, rfl⟩
  · intro p hp
    rcases List.mem_cons.mp hp with rfl | hp
    · refine ⟨by simpa [W.listOf] using hS, Nat.ne_of_gt F.ns.lt, ?_⟩
      cases hq : h₀.get? s.heap.objs.size with
      | none => rfl
      | some o' => exact absurd (Heap.lt_size (F.keep _ _ hq)) (Nat.lt_irrefl _)
    · exact ⟨hk _ _ (N p hp).1, (N p hp).2⟩
end
end Mine

namespace Mine
/-- octets made, the ledger kept -/
def BytesAt (s : Shared) (h₀ : Heap) (L : Addr) (m : Str → Option Value) (news : List (Addr × Obj)) (ns : List Int) (v : Value) (s₁ : Shared) : Prop :=
  ∃ (b : Array UInt8) (t : Tok) (h' : Heap) (tk : Nat), v = .bytes b t ∧ KBw.bInts b = ns ∧ s₁ = { s with heap := h', toks := tk } ∧ Fr h₀ L h' m ∧ News h₀ L h' news
section
variable {prog : Program} {w : World} {A : Around} {s : Shared} {env : Env} {h₀ : Heap} {L : Addr} {m : Str → Option Value} {news : List (Addr × Obj)} {K : Frag}

theorem listEnc {f : Addr} {o : Obj} {fd : FuncData} {g : List Int → List Int} {fnE argE listE : Expr} {p5 p6 : Pos} {ns : List Int} {Q : Value → Shared → Prop}
    (hh : A.handled = none) (_F : Fr h₀ L s.heap m) (_N : News h₀ L s.heap news)
    (hlist : wpAny (model prog w) A (eval listE env) (fun v s₁ => v = .type "list" ∧ s₁ = s) (fun _ _ => False) s)
    (hfn : wpAny (model prog w) A (eval fnE env) (fun v s₁ => v = .ref f ∧ s₁ = s) (fun _ _ => False) s)
    (hb : wpAny (model prog w) A (eval argE env) (BytesAt s h₀ L m news ns) (fun _ _ => False) s)
    (X : K.In h₀) (ho : K.lookup f = some o) (hd : o.data = .func fd)
    (hcall : ∀ (b : Array UInt8) (t : Tok) (h' : Heap) (tk : Nat) (Q' : Value → Shared → Prop), KBw.bInts b = ns → Fr h₀ L h' m → News h₀ L h' news →
      (∀ r t' h'' tk'', KBw.bInts r = g ns → Fr h₀ L h'' m → News h₀ L h'' news → Q' (.bytes r t') { s with heap := h'', toks := tk'' }) →
      wpC (model prog w) A (call (.ref f) [.bytes b t]) Q' { s with heap := h', toks := tk })
    (hg : (g ns).length ≤ 2000)
    (h : ∀ D vs c h' tk, IntsAre vs (g ns) → Fr h₀ L h' m → News h₀ L h' ((D, W.listOf vs.toArray c) :: news) → (∀ p ∈ news, p.1 < D) → Q (.ref D) { s with heap := h', toks := tk })
    (he1 : eval (.Call listE [.Call fnE [argE] [] p5] [] p6) env = (do callWith p6 (← eval listE env) [] [(false, eval (.Call fnE [argE] [] p5) env)] []) := by rfl)
    (he2 : eval (.Call fnE [argE] [] p5) env = (do callWith p5 (← eval fnE env) [] [(false, eval argE env)] []) := by rfl) :
    wpC (model prog w) A (eval (.Call listE [.Call fnE [argE] [] p5] [] p6) env) Q s := by
  refine CallC1 (wpAny_mono hlist (fun v s₁ hv => ?_) fun _ _ x => x) he1
  obtain ⟨rfl, rfl⟩ := hv
  refine callWithC_type1 (CallC1 (wpAny_mono hfn (fun v s₂ hv => ?_) fun _ _ x => x) he2)
  obtain ⟨rfl, rfl⟩ := hv
  refine callWithC_function1 (o := o) (fd := fd) (wpC_of_any (wpAny_mono hb (fun v s₃ hv => ?_) fun _ _ x => x))
  obtain ⟨b, t, h', tk, rfl, hb', rfl, F, N⟩ := hv
  refine ⟨⟨F.keep _ _ (X _ _ ho), hd⟩, hcall b t h' tk _ hb' F N fun r t' h'' tk'' hr F' N' => ?_⟩
  have hsz : r.size ≤ sizeLine := by
    have := congrArg List.length hr
    rw [KBw.ints_length] at this
    rw [sizeLine_eq]; omega
  refine wpC_of_any (listBytes_N (s := { s₂ with heap := h'', toks := tk'' }) hh F' N' hsz fun D vs c h₃ tk₃ hi F₃ N₃ hD => ?_)
  rw [hr] at hi
  exact h D vs c h₃ tk₃ hi F₃ N₃ hD
end

theorem enum_N {prog : Program} {w : World} {A : Around} {E : Value → Shared → Prop} {s₀ : Shared} {h : Heap} {tk : Nat} {h₀ : Heap} {L : Addr} {m : Str → Option Value} {news : List (Addr × Obj)} {l : Addr} {items : List Value} {xs : List Int} {c : Nat}
    (F : Fr h₀ L h m) (N : News h₀ L h ((l, W.listOf items.toArray c) :: news)) (hi : IntsAre items xs) (hl : ∀ p ∈ news, p.1 ≠ l) :
    wpAny (model prog w) A (call (.type "enumerate") [.ref l]) (EnumAt s₀ h₀ L m news xs) E { s₀ with heap := h, toks := tk } := by
  have hlist : h.IsList l items.toArray := ⟨_, (N _ List.mem_cons_self).1, rfl, c, rfl⟩
  have hll : l < h.objs.size := Heap.lt_size (N _ List.mem_cons_self).1
  have hLl : L < h.objs.size := F.ns.lt
  refine call_enumerate_list (s := { s₀ with heap := h, toks := tk }) hlist fun h' he hit _ hk => ?_
  dsimp only at he hit hk ⊢
  have g : ∀ a, h.objs.size ≤ a → h₀.get? a = none := fun a ha => by
    cases hq : h₀.get? a with
    | none => rfl
    | some o' => exact absurd (Nat.lt_of_lt_of_le (Heap.lt_size (F.keep _ _ hq)) ha) (Nat.lt_irrefl _)
  have hb : ∀ a, a < h.objs.size → a ≠ l → a ∉ [h.objs.size + 1, h.objs.size, l] := fun a ha hal hm => by
    rcases List.mem_cons.mp hm with e | hm
    · omega
    · rcases List.mem_cons.mp hm with e | hm
      · omega
      · exact hal (List.mem_singleton.mp hm)
  refine ⟨items, h.objs.size + 1, h.objs.size, l, h', tk, hi, rfl, rfl, he, hit, hlist.at fun o e => hk l o e, Nat.succ_ne_self _, Nat.ne_of_lt (Nat.lt_succ_of_lt hll), Nat.ne_of_lt hll,
    ⟨F.ns.at' fun o e => hk _ o e, fun b o e => hk b o (F.keep b o e), F.above⟩, fun p hp => ⟨hk _ _ (N p (List.mem_cons_of_mem _ hp)).1, (N p (List.mem_cons_of_mem _ hp)).2⟩, ?_, ?_, g _ (Nat.le_succ _), g _ (Nat.le_refl _)⟩
  · exact fun p hp => hb p.1 (Heap.lt_size (N p (List.mem_cons_of_mem _ hp)).1) (hl p hp)
  · exact hb L hLl fun e => (N _ List.mem_cons_self).2.1 e.symm
theorem bInts_byteArr {ns : List Int} (h : ∀ y ∈ ns, 0 ≤ y ∧ y < 256) : KBw.bInts (byteArr ns) = ns := by
  unfold KBw.bInts byteArr
  rw [List.map_map]
  conv => rhs; rw [← List.map_id ns]
  refine List.map_congr_left fun y hy => ?_
  obtain ⟨h0, h1⟩ := h y hy
  have hlt : y.toNat < 256 := by omega
  have : y.toNat.toUInt8.toNat = y.toNat := by simpa using hlt
  show ((y.toNat.toUInt8.toNat : Nat) : Int) = y
  rw [this]; omega
theorem encR_len : ∀ (n : Nat) (T : List Int), T.length ≤ n → (goR [] T).length ≤ 2 * T.length + 1 := by
  intro n
  induction n with
  | zero => intro T hT; rw [List.length_eq_zero_iff.mp (Nat.le_zero.mp hT)]; decide
  | succ n ih =>
    intro T hT
    rcases parts T with ⟨ys, r, e, h0, hl⟩ | ⟨ys, r, e, h0, hl, hne⟩ | ⟨h0, hl⟩
    · subst e
      rw [List.length_append, List.length_cons] at hT ⊢
      have := ih r (by omega)
      rw [goR_zero h0 hl, List.length_append, List.length_cons]; omega
    · subst e
      rw [List.length_append] at hT ⊢
      have := ih r (by omega)
      rw [goR_long h0 hl hne, List.length_append, List.length_cons]; omega
    · rw [goR_end h0 hl]
      unfold finR
      split
      · rw [List.length_cons]; omega
      · rw [List.length_cons, List.length_dropLast]; omega
theorem encC_len : ∀ (n : Nat) (fz : Bool) (T : List Int), T.length ≤ n → (goC fz [] T).length ≤ 2 * T.length + 1 := by
  intro n
  induction n with
  | zero => intro fz T hT; rw [List.length_eq_zero_iff.mp (Nat.le_zero.mp hT)]; cases fz <;> decide
  | succ n ih =>
    intro fz T hT
    rcases parts T with ⟨ys, r, e, h0, hl⟩ | ⟨ys, r, e, h0, hl, hne⟩ | ⟨h0, hl⟩
    · subst e
      rw [List.length_append, List.length_cons] at hT ⊢
      have := ih true r (by omega)
      rw [goC_zero h0 hl, List.length_append, List.length_cons]; omega
    · subst e
      rw [List.length_append] at hT ⊢
      have := ih false r (by omega)
      rw [goC_long h0 hl, List.length_append, List.length_cons]; omega
    · by_cases h3 : T.length ≤ 253
      · rw [goC_end h0 h3]
        split
        · simp
        · rw [List.length_cons]; omega
      · have h4 : T.length = 254 := by omega
        have := goC_long (r := []) (fz := fz) h0 h4
        rw [List.append_nil] at this
        rw [this, goC, if_pos ⟨rfl, rfl⟩, List.append_nil, List.length_cons]; omega
end Mine
namespace Mine
section
variable {m : Str → Option Value} {x1 x2 x3 x4 x5 x6 x7 : Str} {v1 v2 v3 v4 v5 v6 v7 : Value}
theorem all7 (h1 : m x1 = some v1) (h2 : m x2 = some v2) (h3 : m x3 = some v3) (h4 : m x4 = some v4) (h5 : m x5 = some v5) (h6 : m x6 = some v6) (h7 : m x7 = some v7) :
    HasAll m [(x1, v1), (x2, v2), (x3, v3), (x4, v4), (x5, v5), (x6, v6), (x7, v7)] := by
  intro p hp
  simp only [List.mem_cons, List.not_mem_nil, or_false] at hp
  rcases hp with rfl | rfl | rfl | rfl | rfl | rfl | rfl <;> assumption
end
/-- behind the first four statements of the law's turn -/
def HeadOk (s : Shared) (L D R P : Addr) (led : List (Addr × Obj)) (c : Int) (E q : Nat) (hd : List Int) (s' : Shared) : Prop :=
  ∃ (H : Addr) (hv : List Value) (hn : Nat) (m' : Str → Option Value) (t1 t2 t3 : Tok) (h' : Heap) (tk' : Nat), s' = { s with heap := h', toks := tk' } ∧
    HasAll m' [(Str.ofString "text", Value.ref D), (Str.ofString "row", Value.ref R), (Str.ofString "places", Value.ref P), (Str.ofString "code", Value.int c t1), (Str.ofString "end", Value.int (E : Int) t2), (Str.ofString "place", Value.int (q : Int) t3), (Str.ofString "head", Value.ref H)] ∧
    IntsAre hv hd ∧ Fr s.heap L h' m' ∧ News s.heap L h' ((H, W.listOf hv.toArray hn) :: led)
end Mine

namespace Mine
section
variable {prog : Program} {w : World} {A : Around} {s : Shared} {K : Frag} {p : Program} {loose : List Str} {mean : ExcName → Option Value} {mg mb : Str → Option Value}
theorem enterTop {R : Flow → Shared → Prop} {name qual : Str} {params : Arguments} {body : List Stmt} {scope : Scope} {dV kV doc pm cdv ct oc : Value} {an od : Option Addr} {osl : Array (Option Value)} {f : Addr} {args : Args} {binds : List (Str × Value)}
    (X : K.In s.heap) (T : Top p loose mean mg mb s.heap)
    (ho : K.lookup f = some ⟨oc, od, .func (fnOf name qual params body scope dV kV doc pm an cdv ct), osl⟩) (hcd : codeIn K cdv qual = true) (hroom : A.depth < recursionLimit)
    (hbind : BindsTo s (fnOf name qual params body scope dV kV doc pm an cdv ct) args binds) (hloc : ∀ y ∈ binds, scope.names.lookup y.1 = some .local)
    (h : ∀ h₁, Fr s.heap s.heap.objs.size h₁ (fun y => binds.reverse.lookup y) → News s.heap s.heap.objs.size h₁ [] →
      wpC (model prog w) (A.deeper (envOf qual scope s.heap.objs.size f cdv)) (execs body (envOf qual scope s.heap.objs.size f cdv))
        (fun fl s' => R (.ret (match fl with | .ret v => v | _ => .none)) s')
        { s with heap := h₁, toks := s.toks + binds.length })
    (hco : scope.isCoroutine = false := by rfl) (hgen : scope.isGenerator = false := by rfl) (hk : scope.kind = .function := by rfl)
    (hcell : ∀ x ∈ scope.names, x.2 ≠ .cell := by decide) : codeC (model prog w) A (.call (.ref f) args) R s := by
  refine codeC_call_def (fd := fnOf name qual params body scope dV kV doc pm an cdv ct) (body := body) (binds := binds) hroom (X _ _ ho) rfl T.nolimit (codeRec_of X hcd) rfl hbind hcell hloc (fun h₁ hns hk₁ => ?_) hco hgen hk
  exact h h₁ ⟨hns, hk₁, Nat.le_refl _⟩ News.nil
end

theorem wpC_seq2A {M : Model} {A : Around} {s : Shared} {env : Env} {a b : Stmt} {rest : List Stmt} {Q : Flow → Shared → Prop} (P : Shared → Prop) (hrest : ∀ s', P s' → wpC M A (execs rest env) Q s')
    (h : wpAny M A (exec a env) (fun f s' => f = .next ∧ wpAny M A (exec b env) (fun f s'' => f = .next ∧ P s'') (fun _ _ => False) s') (fun _ _ => False) s) : wpC M A (execs (a :: b :: rest) env) Q s :=
  wpC_execs_cons (wpC_of_any (wpAny_mono h (fun f s' hf => by
    obtain ⟨rfl, hf⟩ := hf
    exact wpC_execs_cons (wpC_of_any (wpAny_mono hf (fun f s'' hf => by
      obtain ⟨rfl, hP⟩ := hf
      exact hrest s'' hP) fun _ _ x => x))) fun _ _ x => x))

/-- the text that stands behind the law's first statements -/
def TextAt (s : Shared) (L : Addr) (s' : Shared) : Prop :=
  ∃ (D : Addr) (vs : List Value) (n : Nat) (ts : List Int) (m' : Str → Option Value) (h' : Heap) (tk' : Nat), s' = { s with heap := h', toks := tk' } ∧ HasAll m' [(Str.ofString "text", Value.ref D)] ∧
    IntsAre vs ts ∧ (∀ y ∈ ts, 0 ≤ y ∧ y < 256) ∧ ts.length ≤ 258 ∧ Fr s.heap L h' m' ∧ News s.heap L h' [(D, W.listOf vs.toArray n)]

/-- goes on, with that -/
def NextAnd (P : Shared → Prop) (f : Flow) (s' : Shared) : Prop := f = .next ∧ P s'
theorem wpC_seqN {M : Model} {A : Around} {s : Shared} {env : Env} {st : Stmt} {rest : List Stmt} {Q : Flow → Shared → Prop} (P : Shared → Prop) (hrest : ∀ s', P s' → wpC M A (execs rest env) Q s')
    (h : wpAny M A (exec st env) (NextAnd P) (fun _ _ => False) s) : wpC M A (execs (st :: rest) env) Q s :=
  wpC_execs_cons (wpC_of_any (wpAny_mono h (fun f s' hf => by obtain ⟨rfl, hP⟩ := hf; exact hrest s' hP) fun _ _ x => x))

/-- behind the law's turn's sixth statement -/
def StartOk (s : Shared) (L D R P : Addr) (led : List (Addr × Obj)) (st E q : Nat) (hd : List Int) (s' : Shared) : Prop :=
  ∃ (H : Addr) (hv : List Value) (hn : Nat) (m' : Str → Option Value) (t1 t2 t3 : Tok) (h' : Heap) (tk' : Nat), s' = { s with heap := h', toks := tk' } ∧
    HasAll m' [(Str.ofString "text", Value.ref D), (Str.ofString "row", Value.ref R), (Str.ofString "places", Value.ref P), (Str.ofString "start", Value.int (st : Int) t1), (Str.ofString "end", Value.int (E : Int) t2), (Str.ofString "place", Value.int (q : Int) t3), (Str.ofString "head", Value.ref H)] ∧
    IntsAre hv hd ∧ Fr s.heap L h' m' ∧ News s.heap L h' ((H, W.listOf hv.toArray hn) :: led)

/-- ahead of the law's last statement -/
def DueOk (s : Shared) (L R P : Addr) (led : List (Addr × Obj)) (due : List Int) (s' : Shared) : Prop :=
  ∃ (H : Addr) (hv : List Value) (hn : Nat) (m' : Str → Option Value) (h' : Heap) (tk' : Nat), s' = { s with heap := h', toks := tk' } ∧
    HasAll m' [(Str.ofString "row", Value.ref R), (Str.ofString "places", Value.ref P), (Str.ofString "due", Value.ref H)] ∧
    IntsAre hv due ∧ Fr s.heap L h' m' ∧ News s.heap L h' ((H, W.listOf hv.toArray hn) :: led)
theorem all3 {m : Str → Option Value} {x1 x2 x3 : Str} {v1 v2 v3 : Value} (h1 : m x1 = some v1) (h2 : m x2 = some v2) (h3 : m x3 = some v3) : HasAll m [(x1, v1), (x2, v2), (x3, v3)] := by
  intro p hp
  simp only [List.mem_cons, List.not_mem_nil, or_false] at hp
  rcases hp with rfl | rfl | rfl <;> assumption
/-- two more stand on the ledger's top -/
theorem mem2 {a b c : Addr × Obj} {l : List (Addr × Obj)} : ∀ p ∈ a :: l, p ∈ a :: b :: c :: l := by
  intro p hp
  simp only [List.mem_cons] at hp ⊢
  rcases hp with h | h
  · exact .inl h
  · exact .inr (.inr (.inr h))
theorem mem5 {a b c d e f : Addr × Obj} {l : List (Addr × Obj)} : ∀ p ∈ a :: l, p ∈ a :: b :: c :: d :: e :: f :: l := by
  intro p hp
  simp only [List.mem_cons] at hp ⊢
  rcases hp with h | h
  · exact .inl h
  · exact .inr (.inr (.inr (.inr (.inr (.inr h)))))

/- an open slice of whole numbers: the kinds of ends told apart by their form alone (the library's line tries the whole slice first, which costs a hundred seconds here) -/
local macro_rules | `(tactic| kmk_nums) => `(tactic| first | ((with_reducible refine' kmk_from ?hk1 ?hk2); (case hk1 => l_ints); (case hk2 => kmk_sign)) | ((with_reducible refine' kmk_upto ?hk1 ?hk2); (case hk1 => l_ints); (case hk2 => kmk_sign)) | ((with_reducible refine' kmk_run ?hk1 ?hk2 ?hk3); (case hk1 => l_ints); (case hk2 => kmk_sign); (case hk3 => kmk_sign)) | ((with_reducible refine' kmk_from_neg ?hk1 ?hk2); (case hk1 => l_ints); (case hk2 => kmk_sign)) | ((with_reducible refine' kmk_upto_neg ?hk1 ?hk2); (case hk1 => l_ints); (case hk2 => kmk_sign)))
set_option maxHeartbeats 8000000 in
theorem law_body {w : World} {mean : ExcName → Option Value} {mg mb : Str → Option Value} {s : Shared} {Q : Value → Shared → Prop} {l : Addr} {vs : List Value} {ns : List Int}
    (X : (hd.heap_39 w.params).In s.heap) (T : Top hd.view_39 (looseW hd.view_39 [Str.ofString "encode_cobsr_py", Str.ofString "encode_cobs_py"]) mean mg mb s.heap)
    (hL : s.heap.IsList l vs.toArray) (hI : IntsAre vs ns) (hlay : (PyData.list (List.map PyData.int ns)).layable0 = true)
    (h : ∀ h' tk L' m', Fr s.heap L' h' m' → Q (.bool true) { s with heap := h', toks := tk }) :
    wpC (model PySem.Challenge.rw_nc0007_01.row.prog w) callerA (call (.ref 40) [.ref l]) Q s := by
  w_top off
  revert X; k_fill; intro X
  refine wpC_call ?_
  k_dflt (refine enterTop (binds := [(Str.ofString "script", .ref l)]) X T (by k_is) (by k_is) (by decide +kernel) (BindsTo.of_eq rfl) (locs rfl) ?_)
  intro h₁ F' N'
  have K0 := below_caller s.heap
  refine wpC_execs_consA ?_
  k_steps
  dsimp only
  refine wpC_execs_consA ?_
  k_steps
  dsimp only
  refine wpC_execs_consA ?_
  k_steps
  refine wpC_seq2A (TextAt s s.heap.objs.size) ?rest ?first
  case first =>
    k_steps
    all_goals first
      | trivial
      | ((try dsimp only); (rename Fr _ _ _ _ => F5); (rename News _ _ _ _ => N5); (rename IntsAre _ _ => i5)
         exact ⟨_, _, _, _, _, _, _, rfl, all1 rfl, i5, text1_in _ _ _, text1_len _ _ _ (by decide), F5, fun p hp => N5 p (by rw [List.mem_singleton.mp hp]; exact List.mem_cons_self)⟩)
      | ((try dsimp only); (rename Fr _ _ _ _ => F5); (rename News _ _ _ _ => N5); (rename IntsAre _ _ => i5)
         exact ⟨_, _, _, _, _, _, _, rfl, all1 rfl, i5, text0_in _, text0_len _, F5, fun p hp => N5 p (by rw [List.mem_singleton.mp hp]; exact List.mem_cons_of_mem _ List.mem_cons_self)⟩)
  case rest =>
    (rename Fr _ _ _ _ => F0); (rename News _ _ _ _ => N0); clear F0 N0
    rintro s' ⟨D, us, n, ts, m', h', tk', rfl, hm, hi, hr, hlen, F1, N1⟩
    rw [hm.form] at F1
    dsimp only [kstB] at F1
    have hin := encR_range ts.length ts (Nat.le_refl _) hr
    have hk21 : ∃ o fd, (hd.heap_39 w.params).lookup 21 = some o ∧ o.data = .func fd := ⟨_, _, by k_dflt k_is, rfl⟩
    obtain ⟨o21, fd21, e21, d21⟩ := hk21
    have hk28 : ∃ o fd, (hd.heap_39 w.params).lookup 28 = some o ∧ o.data = .func fd := ⟨_, _, by k_dflt k_is, rfl⟩
    obtain ⟨o28, fd28, e28, d28⟩ := hk28
    refine wpC_execs_cons (wpC_Assign_Name (listEnc (g := encR) (ns := ts) rfl F1 N1 (by k_steps) (by k_steps) ?hb X e21 d21 ?hcall ?hg ?hgo))
    case hb =>
      k_steps
      (rename Fr _ _ _ _ => F5); (rename News _ _ _ _ => N5)
      exact ⟨_, _, _, _, rfl, bInts_byteArr hr, rfl, F5, N5⟩
    case hcall =>
      intro b t h5 tk5 Q' hb F5 N5 hq
      have hbs : b.size ≤ 300 := by
        have := congrArg List.length hb
        rw [KBw.ints_length] at this; omega
      exact encR_C (s := ⟨h5, s.gens, s.drawn, tk5, s.os⟩) F5 X N5 T rfl hbs fun r t' h6 tk6 e F6 N6 => hq r t' h6 tk6 (by rw [e, hb]) F6 N6
    case hg =>
      have := encR_len ts.length ts (Nat.le_refl _)
      show (goR [] ts).length ≤ 2000
      omega
    case hgo =>
      intro R rv rc h2 tk2 hri F2 N2 hR
      clear F1 N1
      have hDR : D ≠ R := Nat.ne_of_lt (hR (D, W.listOf us.toArray n) List.mem_cons_self)
      refine wpC_of_any ?_
      k_steps
      dsimp only
      have en1 : encR ts ≠ [] := hin.2
      have en2 : ((encR ts).any fun x => x == 0) = false := by
        rw [List.any_eq_false]
        intro x hx
        have := hin.1 x hx
        simp only [beq_iff_eq]; omega
      have hl2 := encR_len ts.length ts (Nat.le_refl _)
      have hpos := List.length_pos_iff.mpr hin.2
      have hk35 : ∃ o fd, (hd.heap_39 w.params).lookup 35 = some o ∧ o.data = .func fd := ⟨_, _, by k_dflt k_is, rfl⟩
      obtain ⟨o35, fd35, e35, d35⟩ := hk35
      refine wpC_execs_cons (wpC_of_any ?_)
      k_steps
      · dsimp only
        (rename Fr _ _ _ _ => F5); (rename News _ _ _ _ => N5)
        have N6 : News s.heap s.heap.objs.size _ [(R, W.listOf rv.toArray rc), (D, W.listOf us.toArray n)] := fun p hp => N5 p (List.mem_cons_of_mem _ hp)
        clear N5
        refine wpC_execs_cons (wpC_Assign_Name (CallC1 ?_))
        k_steps
        refine callWithC_function1 (o := o35) (fd := fd35) (wpC_of_any (name_local F5 rfl ?_ rfl rfl))
        refine ⟨⟨F5.keep _ _ (X _ _ e35), d35⟩, codes_C F5 X N6 T rfl List.mem_cons_self hri hin.1 hpos (by show (goR [] ts).length ≤ 2000; omega) ?_⟩
        intro P ps n' ks h6 tk6 hch hks hps F7 N7 hP
        clear F5 N6
        refine wpC_of_any ?_
        k_steps
        dsimp only
        refine wpC_execs_consA ?_
        k_steps
        dsimp only
        (rename Fr _ _ _ _ => F8); (rename News _ _ _ _ => N8)
        obtain ⟨f, ok⟩ := law_main ts.length true ts ks (Nat.le_refl _) hr hch
        obtain ⟨ok0, ok1, ok2, ok3, ok4⟩ := ok
        have hrl : (encR ts).length ≤ 600 := by show (goR [] ts).length ≤ 600; omega
        have hkl : ks.length ≤ 600 := by omega
        have hzl : (List.map (fun k : Nat => (k : Int)) (0 :: ks)).length = ks.length + 1 := by simp
        refine wpC_execs_cons (For_enumC (xs := ks.map fun k : Nat => (k : Int)) 
          (fun i m nx => ∃ t1, nx = [(P, W.listOf ps.toArray n'), (R, W.listOf rv.toArray rc), (D, W.listOf us.toArray n)] ∧
            HasAll m [(Str.ofString "text", Value.ref D), (Str.ofString "row", Value.ref R), (Str.ofString "places", Value.ref P), (Str.ofString "start", Value.int (f i : Int) t1)]) rfl rfl rfl rfl F8 N8 ?hev ?h0 ?step ?hR)
        case hev =>
          k_steps
          (rename Fr _ _ _ _ => F9); (rename News _ _ _ _ => N9); (rename IntsAre _ (List.drop 1 _) => i9); (rename (P < _ ∧ R < _ ∧ D < _) => l9)
          refine enum_N (s₀ := ⟨_, s.gens, s.drawn, _, s.os⟩) F9 N9 i9 fun p hp => ?_
          simp only [List.mem_cons, List.not_mem_nil, or_false] at hp
          rcases hp with rfl | rfl | rfl
          · exact Nat.ne_of_lt l9.1
          · exact Nat.ne_of_lt l9.2.1
          · exact Nat.ne_of_lt l9.2.2
        case h0 =>
          simp only [ok0]
          exact ⟨_, trivial, all4 rfl rfl rfl rfl⟩
        case step =>
          clear F8 N8
          intro i t x tx m1 nx h1 tk1 own wr hx hJ hoff hnw F8 N8
          obtain ⟨t1, rfl, hm1⟩ := hJ
          rw [hm1.form] at F8
          dsimp only [kstB] at F8
          have hx' : ks[i]?.map (fun k : Nat => (k : Int)) = some x := by rw [← List.getElem?_map]; exact hx
          obtain ⟨q, hq, rfl⟩ := Option.map_eq_some_iff.mp hx'
          have hil : i < ks.length := (List.getElem?_eq_some_iff.mp hq).1
          obtain ⟨p, hp⟩ : ∃ p, (0 :: ks)[i]? = some p := ⟨_, List.getElem?_eq_getElem (by rw [List.length_cons]; omega)⟩
          obtain ⟨s1, s2, s3, s4, s5, s6, s7, s8c, s8, s9⟩ := ok1 i p q hp hq
          have e1 : (List.map (fun k : Nat => (k : Int)) (0 :: ks)).getD ((i : Int)).toNat 0 = (p : Int) := by
            rw [Int.toNat_natCast, List.getD_eq_getElem?_getD, List.getElem?_map, hp]; rfl
          have hpl : p < (encR ts).length := by show p < (goR [] ts).length; omega
          have hql : q < (encR ts).length := s4
          have e2 : (encR ts).getD ((p : Int)).toNat 0 = (goR [] ts).getD p 0 := by rw [Int.toNat_natCast]; rfl
          generalize hc : (goR [] ts).getD p 0 = c at *
          have N9 : News s.heap s.heap.objs.size h1 ((P, W.listOf ps.toArray n') :: (R, W.listOf rv.toArray rc) :: (D, W.listOf us.toArray n) :: own) := fun p hp => N8 p (by
            simp only [List.mem_cons, List.mem_append, List.not_mem_nil, or_false] at hp ⊢
            rcases hp with h | h | h | h
            · exact .inr (.inl h)
            · exact .inr (.inr (.inl h))
            · exact .inr (.inr (.inr h))
            · exact .inl h)
          clear N8
          refine wpC_execs_consA ?_
          k_steps
          dsimp only
          (rename Fr _ _ _ _ => F9); (rename News _ _ _ _ => N10)
          simp only [e1, e2] at F9
          obtain ⟨E, hE⟩ : ∃ E, E = f i + c.toNat - 1 := ⟨_, rfl⟩
          rw [← hE] at s5 s6 s8c s8
          have hE2 : (f i : Int) + c - 1 = (E : Int) := by omega
          refine wpC_execs_consA ?_
          k_steps
          dsimp only
          (rename Fr _ _ _ _ => F11); (rename News _ _ _ _ => N11)
          simp only [hE2] at F11
          refine wpC_execs_consA ?_
          k_steps
          dsimp only
          (rename Fr _ _ _ _ => F12); (rename News _ _ _ _ => N12); (rename IntsAre _ (List.take _ (encR ts)) => i12)
          refine wpC_seq (HeadOk s s.heap.objs.size D R P ((P, W.listOf ps.toArray n') :: (R, W.listOf rv.toArray rc) :: (D, W.listOf us.toArray n) :: own) c E q (goC true [] (ts.take E))) ?rest ?first
          case first =>
            refine wpC_of_any ?_
            rcases Nat.eq_zero_or_pos i with hi0 | hi0
            · have hsame : goC true [] (ts.take E) = (goR [] ts).take q := s8 (by
                rintro ⟨_, hb⟩
                subst hi0
                exact absurd hb (show ¬ (true = false) by decide))
              rw [hsame]
              k_steps
              all_goals
                dsimp only
                exact ⟨_, _, _, _, _, _, _, _, _, rfl, all7 rfl rfl rfl rfl rfl rfl rfl, i12, F12, N12⟩
            · obtain ⟨j, rfl⟩ : ∃ j, i = j + 1 := ⟨i - 1, by omega⟩
              obtain ⟨pp, hpp⟩ : ∃ pp, (0 :: ks)[j]? = some pp := ⟨_, List.getElem?_eq_getElem (by rw [List.length_cons]; omega)⟩
              have hkp : ks[j]? = some p := by rw [← List.getElem?_cons_succ (a := 0)]; exact hp
              have hppd : (0 :: ks).getD j 0 = pp := by rw [List.getD_eq_getElem?_getD, hpp]; rfl
              have okj := ok1 j pp p hpp hkp
              have hppl : pp < (encR ts).length := by
                have h1 := okj.at'
                have h2 := okj.inR
                show pp < (goR [] ts).length
                omega
              have e3 : (List.map (fun k : Nat => (k : Int)) (0 :: ks)).getD (((j + 1 : Nat) : Int) - 1).toNat 0 = (pp : Int) := by
                rw [show (((j + 1 : Nat) : Int) - 1).toNat = j by omega, List.getD_eq_getElem?_getD, List.getElem?_map, hpp]; rfl
              have hbk : Back true (goR [] ts) ks (j + 1) ↔ (encR ts).getD ((pp : Int)).toNat 0 = 255 := by
                show (goR [] ts).getD ((0 :: ks).getD j 0) 0 = 255 ↔ _
                rw [hppd, Int.toNat_natCast]
                exact Iff.rfl
              k_steps
              · dsimp only
                (rename Fr _ _ _ _ => F13); (rename News _ _ _ _ => N13); (rename (_ = (255 : Int)) => h255); (rename (c = 1) => hc1); (rename IntsAre _ (List.take _ (encR ts)) => i13)
                rw [e3] at h255
                rw [s8c ⟨hc1, hbk.mpr h255⟩]
                rw [show ((q : Int) - 1).toNat = q - 1 by omega] at i13
                refine ⟨_, _, 0, _, _, _, _, _, _, rfl, all7 rfl rfl rfl rfl rfl rfl rfl, i13, F13, fun p hp => N13 p ?_⟩
                rcases List.mem_cons.mp hp with rfl | hp
                · exact List.mem_cons_self
                · exact List.mem_cons_of_mem _ (List.mem_cons_of_mem _ hp)
              · dsimp only
                (rename (_ ≠ (255 : Int)) => h255)
                rw [e3] at h255
                rw [s8 (fun g => h255 (hbk.mp g.2))]
                exact ⟨_, _, _, _, _, _, _, _, _, rfl, all7 rfl rfl rfl rfl rfl rfl rfl, i12, F12, N12⟩
              · dsimp only
                (rename (c ≠ 1) => hc1)
                rw [s8 (fun g => hc1 g.1)]
                exact ⟨_, _, _, _, _, _, _, _, _, rfl, all7 rfl rfl rfl rfl rfl rfl rfl, i12, F12, N12⟩
          case rest =>
            clear F12 N12
            rintro s' ⟨H, hv, hn, m2, t1, t2, t3, h2, tk2, rfl, hm2, hhv, F9, N9⟩
            rw [hm2.form] at F9
            dsimp only [kstB] at F9
            have hgetE : c < 255 → ts.getD ((E : Int)).toNat 0 = 0 := fun hlt => by
              have := s6 hlt
              rw [List.getD_eq_getElem?_getD, List.getElem?_eq_getElem s5] at this
              rw [Int.toNat_natCast, List.getD_eq_getElem?_getD, List.getElem?_eq_getElem s5]
              exact this
            have hne : List.take (min (((E : Int) + 1)).toNat ts.length - ((E : Int)).toNat) (List.drop ((E : Int)).toNat ts) ≠ [] := by
              rw [← List.length_pos_iff, List.length_take, List.length_drop]; omega
            refine wpC_seqN (HeadOk s s.heap.objs.size D R P ((P, W.listOf ps.toArray n') :: (R, W.listOf rv.toArray rc) :: (D, W.listOf us.toArray n) :: own) c E q (goC true [] (ts.take E))) ?rest2 ?first2
            case first2 =>
              k_steps
              · (rename (ts.getD _ 0 ≠ 0) => hbad); (rename (c < 255) => hc255)
                exact absurd (hgetE hc255) hbad
              all_goals
                (rename Fr _ _ _ _ => F13); (rename News _ _ _ _ => N13)
                refine ⟨rfl, _, _, _, _, _, _, _, _, _, rfl, all7 rfl rfl rfl rfl rfl rfl rfl, hhv, F13, fun p hp => N13 p (List.mem_cons_of_mem _ (List.mem_cons_of_mem _ hp))⟩
            case rest2 => 
              clear F9 N9 hhv hm2
              rintro s' ⟨H, hv, hn, m2, t1, t2, t3, h2, tk2, rfl, hm2, hhv, F9, N9⟩
              rw [hm2.form] at F9
              dsimp only [kstB] at F9
              refine wpC_seqN (StartOk s s.heap.objs.size D R P ((P, W.listOf ps.toArray n') :: (R, W.listOf rv.toArray rc) :: (D, W.listOf us.toArray n) :: own) (f (i + 1)) E q (goC true [] (ts.take E))) ?rest3 ?first3
              case first3 =>
                k_steps
                · (rename (c = 255) => h255); (rename Fr _ _ _ _ => F13); (rename News _ _ _ _ => N13)
                  rw [if_pos h255, ← hE] at s7
                  rw [s7]
                  exact ⟨rfl, _, _, _, _, _, _, _, _, _, rfl, all7 rfl rfl rfl rfl rfl rfl rfl, hhv, F13, N13⟩
                · (rename (c ≠ 255) => h255); (rename Fr _ _ _ _ => F13); (rename News _ _ _ _ => N13)
                  rw [if_neg h255] at s7
                  have e7 : (E : Int) + 1 = ((f (i + 1) : Nat) : Int) := by omega
                  simp only [e7] at F13
                  exact ⟨rfl, _, _, _, _, _, _, _, _, _, rfl, all7 rfl rfl rfl rfl rfl rfl rfl, hhv, F13, N13⟩
              case rest3 =>
                clear F9 N9 hhv hm2
                rintro s' ⟨H, hv, hn, m2, t1, t2, t3, h2, tk2, rfl, hm2, hhv, F9, N9⟩
                rw [hm2.form] at F9
                dsimp only [kstB] at F9
                have hr1 : ∀ y ∈ ts.take E, 0 ≤ y ∧ y < 256 := fun y hy => hr y (List.mem_of_mem_take hy)
                refine wpC_execs_cons (wpC_If (wpC_isTrue_Compare1 (listEnc (g := encC) (ns := ts.take E) rfl F9 N9 (by k_steps) (by k_steps) ?hb1 X e28 d28 ?hcall1 ?hg1 ?hgo1)))
                case hb1 =>
                  k_steps
                  (rename Fr _ _ _ _ => F5); (rename News _ _ _ _ => N5)
                  exact ⟨_, _, _, _, rfl, bInts_byteArr hr1, rfl, F5, fun p hp => N5 p (List.mem_cons_of_mem _ hp)⟩
                case hcall1 =>
                  intro b t h5 tk5 Q' hb F5 N5 hq
                  have hbs : b.size ≤ 300 := by
                    have := congrArg List.length hb
                    rw [KBw.ints_length, List.length_take] at this; omega
                  exact encC_C (s := ⟨h5, s.gens, s.drawn, tk5, s.os⟩) F5 X N5 T rfl hbs fun r t' h6 tk6 e F6 N6 => hq r t' h6 tk6 (by rw [e, hb]) F6 N6
                case hg1 =>
                  have := encC_len ts.length true (ts.take E) (List.length_take_le' _ _)
                  show (goC true [] (ts.take E)).length ≤ 2000
                  have h2 := List.length_take_le' E ts
                  omega
                case hgo1 =>
                  intro R2 rv2 rc2 h3 tk3 hri2 F3 N3 hR2
                  refine wpC_of_any ?_
                  k_steps
                  dsimp only
                  refine wpC_of_any ?_
                  k_steps
                  rw [show (!decide (encC (List.take E ts) = goC true [] (List.take E ts))) = false by rw [decide_eq_true (show encC (List.take E ts) = goC true [] (List.take E ts) from rfl)]; rfl]
                  refine wpC_of_any ?_
                  k_steps
                  refine wpC_of_any ?_
                  k_steps
                  dsimp only
                  have hfl : f (i + 1) ≤ ts.length := by rw [s7]; split <;> omega
                  have hr2 : ∀ y ∈ ts.drop (f (i + 1)), 0 ≤ y ∧ y < 256 := fun y hy => hr y (List.mem_of_mem_drop hy)
                  refine wpC_execs_cons (wpC_If (wpC_isTrue_Compare1 (listEnc (g := encR) (ns := ts.drop (f (i + 1))) rfl F3 N3 (by k_steps) (by k_steps) ?hb2 X e21 d21 ?hcall2 ?hg2 ?hgo2)))
                  case hb2 =>
                    k_steps
                    (rename Fr _ _ _ _ => F5); (rename News _ _ _ _ => N5)
                    exact ⟨_, _, _, _, rfl, bInts_byteArr hr2, rfl, F5, fun p hp => N5 p (List.mem_cons_of_mem _ hp)⟩
                  case hcall2 =>
                    intro b t h5 tk5 Q' hb F5 N5 hq
                    have hbs : b.size ≤ 300 := by
                      have := congrArg List.length hb
                      rw [KBw.ints_length, List.length_drop] at this; omega
                    exact encR_C (s := ⟨h5, s.gens, s.drawn, tk5, s.os⟩) F5 X N5 T rfl hbs fun r t' h6 tk6 e F6 N6 => hq r t' h6 tk6 (by rw [e, hb]) F6 N6
                  case hg2 =>
                    have h2 : (ts.drop (f (i + 1))).length ≤ ts.length := by rw [List.length_drop]; omega
                    have := encR_len ts.length (ts.drop (f (i + 1))) h2
                    show (goR [] (ts.drop (f (i + 1)))).length ≤ 2000
                    omega
                  case hgo2 =>
                    intro R3 rv3 rc3 h4 tk4 hri3 F4 N4 hR3
                    clear F3 N3 F9 N9
                    refine wpC_of_any ?_
                    k_steps
                    dsimp only
                    refine wpC_of_any ?_
                    k_steps
                    have e9 : encR (ts.drop (f (i + 1))) = List.drop ((q : Int)).toNat (encR ts) := s9
                    rw [show (!decide (encR (ts.drop (f (i + 1))) = List.drop ((q : Int)).toNat (encR ts))) = false by rw [decide_eq_true e9]; rfl]
                    refine wpC_of_any ?_
                    k_steps
                    refine wpC_of_any ?_
                    k_steps
                    dsimp only
                    refine wpC_of_any ?_
                    k_steps
                    (rename Fr _ _ _ _ => F13); (rename News _ _ _ _ => N13)
                    have N14 : News s.heap s.heap.objs.size _ (own ++ [(P, W.listOf ps.toArray n'), (R, W.listOf rv.toArray rc), (D, W.listOf us.toArray n)]) := fun p hp => N13 p (by
                      simp only [List.mem_cons, List.mem_append, List.not_mem_nil, or_false] at hp ⊢
                      rcases hp with h | h | h | h <;> simp only [h, true_or, or_true])
                    unfold TurnC
                    exact ⟨_, _, _, _, rfl, F13, N14, hnw, _, rfl, all4 rfl rfl rfl rfl⟩
        case hR =>
          clear F8 N8
          intro h9 tk9 m9 nx9 F9 N9 hJ
          obtain ⟨t1, rfl, hm9⟩ := hJ
          rw [List.length_map] at hm9
          rw [hm9.form] at F9
          dsimp only [kstB] at F9 ⊢
          clear ok0 ok1 hm9
          generalize f ks.length = fe at ok2 ok3 F9
          clear f
          refine wpC_execs_consA ?_
          k_steps
          dsimp only
          refine wpC_execs_consA ?_
          k_steps
          dsimp only
          refine wpC_execs_consA ?_
          k_steps
          dsimp only
          refine wpC_seqN (DueOk s s.heap.objs.size R P [(P, W.listOf ps.toArray n'), (R, W.listOf rv.toArray rc)] (finR (ts.drop fe))) ?restD ?firstD
          case firstD =>
            k_steps
            · (rename Fr _ _ _ _ => F13); (rename News _ _ _ _ => N13); (rename (0 < _) => hs0); (rename (_ < List.getD _ _ _) => hs1); (rename IntsAre _ (List.drop _ _ ++ List.take _ _) => i13)
              rw [due_cut hs0 hs1] at i13
              exact ⟨rfl, _, _, 0, _, _, _, rfl, all3 rfl rfl rfl, i13, F13, fun p hp => N13 p (by simp only [List.mem_cons, List.not_mem_nil, or_false] at hp ⊢; rcases hp with h | h | h <;> simp only [h, true_or, or_true])⟩
            · (rename Fr _ _ _ _ => F13); (rename News _ _ _ _ => N13); (rename (¬ _ < List.getD _ _ _) => hs1); (rename IntsAre _ ([_] ++ _) => i13)
              rw [due_whole hs1] at i13
              exact ⟨rfl, _, _, 0, _, _, _, rfl, all3 rfl rfl rfl, i13, F13, fun p hp => N13 p (by simp only [List.mem_cons, List.not_mem_nil, or_false] at hp ⊢; rcases hp with h | h | h <;> simp only [h, true_or, or_true])⟩
            · (rename Fr _ _ _ _ => F13); (rename News _ _ _ _ => N13); (rename (¬ 0 < _) => hs0); (rename IntsAre _ ([_] ++ _) => i13)
              rw [due_none hs0] at i13
              exact ⟨rfl, _, _, 0, _, _, _, rfl, all3 rfl rfl rfl, i13, F13, fun p hp => N13 p (by simp only [List.mem_cons, List.not_mem_nil, or_false] at hp ⊢; rcases hp with h | h | h <;> simp only [h, true_or, or_true])⟩
          case restD =>
            (rename Fr _ _ _ _ => F12); (rename News _ _ _ _ => N12); clear F12 N12
            rintro s' ⟨H, hv, hn, m2, h2, tk2, rfl, hm2, hhv, F9, N9⟩
            rw [hm2.form] at F9
            dsimp only [kstB] at F9
            refine wpC_execs_cons (wpC_of_any ?_)
            k_steps
            · have el := last_map (t := ks) rfl
              (rename (_ < (0 : Int)) => hneg)
              rw [el] at hneg
              exact absurd hneg (Int.not_lt.mpr (Int.natCast_nonneg _))
            · (rename Fr _ _ _ _ => F13)
              have el := last_map (t := ks) rfl
              have ok5 : List.drop ((0 :: ks).getLastD 0) (encR ts) = finR (List.drop fe ts) := ok3
              rw [el, Int.toNat_natCast, decide_eq_true ok5]
              exact h _ _ _ _ F13
end Mine

namespace Mine
set_option maxHeartbeats 8000000 in
theorem the_law : PySem.Challenge.rw_nc0007_01.Holds := by
  refine hd ?_
  k_fill
  intro w s₀ s₁ mg mb G Y fa o pm cd doc dV kV ho hd' hcd hD hmg hg args vals as hpre hlay hrd hwl hlo
  have X := kIn_of Y
  have hfa : mg (Str.ofString "law") = some (.ref 40) := mg_of X G.T.g (by k_dflt k_is)
  have hmg' : mg (Str.ofString "law") = some (.ref fa) := hmg
  rw [hfa] at hmg'
  cases hmg'
  have T := G.T
  clear hmg hfa ho hd' hcd hD
  wrow_args hpre hlay hrd hwl hlo
  refine law_body X T ‹_› ‹IntsAre _ _› ‹_› fun h' tk L' m' F => ?_
  refine ⟨.inl ⟨_, .bool true, [], rfl, fun _ => rfl, .bool true, ?_, fun _ => ⟨List.nodup_nil, fun _ hx => nomatch hx⟩⟩, OldK.of_keep F.keep, rfl, AllBare.of_eq hg⟩
  first | rfl | kernel_rfl | decide +kernel
end Mine

set_option maxRecDepth 100000 in
set_option maxHeartbeats 8000000 in
theorem PySem.Challenge.cw_nc0007_01_holds : PySem.Challenge.rw_nc0007_01.Holds := by
  exact Mine.the_law
