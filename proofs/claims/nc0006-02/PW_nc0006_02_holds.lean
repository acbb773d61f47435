import PyProof.Rows.All
import Wide.All
import OpenK.AllK
import Wide.FinOn
import Lean
import PySem.Challenge.RW_nc0006_02
set_option Elab.async false
section
open PySem PySem.W PyProof.Rows PySem.Calls
open PySem.Sem (wp)
set_option Elab.async false
set_option maxRecDepth 100000
set_option linter.unusedVariables false
namespace Mine

/-- codes that may hold a bytearray fast -/
def decCode : Code → Bool
  | .builtin id _ => Builtin.Bytes.decodersThatHold.contains id
  | _ => false
def Nd (Γ : Ctx) : Prop := decCode Γ.code = false ∧ ∀ x ∈ Γ.below, decCode x.1 = false

/-- as wpAny, for the stacks on which no decoder stands -/
def wpR {α : Type} (M : Model) (A : Around) (t : Sem α) (Q : α → Shared → Prop) (E : Value → Shared → Prop) (s : Shared) : Prop :=
  ∀ Γ p, Γ.In A → Nd Γ → wp M Γ t (fun a _ s' => Q a s') (fun e _ s' => E e s') p s
def codeR (M : Model) (A : Around) (c : Code) (R : Result → Shared → Prop) (s : Shared) : Prop :=
  ∀ Γ p, Γ.code = c → Γ.Below A → (∀ x ∈ Γ.below, decCode x.1 = false) → wpCode M Γ R p s

section
variable {α β : Type} {M : Model} {A : Around} {E : Value → Shared → Prop} {s : Shared}
theorem wpR_of {t : Sem α} {Q : α → Shared → Prop} (h : wpAny M A t Q E s) : wpR M A t Q E s := fun Γ p hΓ _ => h Γ p hΓ
theorem codeR_of {c : Code} {R : Result → Shared → Prop} (h : codeAny M A c R s) : codeR M A c R s := fun Γ p hc hΓ _ => h Γ p hc hΓ
theorem wpR_mono {t : Sem α} {Q Q' : α → Shared → Prop} {E' : Value → Shared → Prop} (h : wpR M A t Q E s)
    (hQ : ∀ a s, Q a s → Q' a s) (hE : ∀ e s, E e s → E' e s) : wpR M A t Q' E' s :=
  fun Γ p hΓ hn => Sem.wp_mono M Γ t (fun a _ s => hQ a s) (fun e _ s => hE e s) p s (h Γ p hΓ hn)
theorem wpR_pure {a : α} {Q : α → Shared → Prop} (h : Q a s) : wpR M A (pure a) Q E s := wpR_of (wpAny_pure h)
theorem wpR_bind {m : Sem α} {f : α → Sem β} {Q : β → Shared → Prop} (h : wpR M A m (fun a s' => wpR M A (f a) Q E s') E s) : wpR M A (m >>= f) Q E s := fun Γ p hΓ hn => by
  rw [Sem.wp_bind']
  exact Sem.wp_mono M Γ m (fun a p' s' h' => h' Γ p' hΓ hn) (fun _ _ _ h' => h') p s (h Γ p hΓ hn)
theorem wpR_onRaise {m : Sem α} {k : Value → Sem Unit} {Q : α → Shared → Prop}
    (h : wpR M A m Q (fun e s' => wpR M A (k e) (fun _ s'' => E e s'') E s') s) : wpR M A (m.onRaise k) Q E s := fun Γ p hΓ hn => by
  rw [Sem.wp_onRaise]
  exact Sem.wp_mono M Γ m (fun _ _ _ h' => h') (fun e p' s' h' => h' Γ p' hΓ hn) p s (h Γ p hΓ hn)
theorem wpR_attempt {m : Sem α} {Q : Except Value α → Shared → Prop} (h : wpR M A m (fun a => Q (.ok a)) (fun e => Q (.error e)) s) : wpR M A m.attempt Q E s :=
  fun Γ p hΓ hn => by rw [Sem.wp_attempt]; exact h Γ p hΓ hn
theorem wpR_holding {vs : List Value} {m : Sem α} {Q : α → Shared → Prop} (h : wpR M A m Q E s) : wpR M A (holding vs m) Q E s :=
  fun Γ p hΓ hn => by rw [Sem.wp_holding]; exact h Γ p hΓ hn
theorem wpR_keep {vs : List Value} {m : Sem α} {Q : α → Shared → Prop} (h : wpR M A m Q E s) : wpR M A (m.keep vs) Q E s :=
  fun Γ p hΓ hn => by rw [Sem.wp_keep]; exact h Γ p hΓ hn
theorem wpR_operate {vs : List Value} {m : Sem Value} {Q : Value → Shared → Prop} (h : wpR M A m Q E s) : wpR M A (operate vs m) Q E s :=
  fun Γ p hΓ hn => by rw [Sem.wp_operate]; exact h Γ p hΓ hn
theorem wpR_bindName {env : Env} {x : Str} {v : Value} {Q : Unit → Shared → Prop} (h : wpR M A (storeName env x v) Q E s) : wpR M A (bindName env x v) Q E s :=
  fun Γ p hΓ hn => by rw [Sem.wp_bindName]; exact h Γ p hΓ hn
theorem wpR_release {vs keep : List Value} {Q : Unit → Shared → Prop} (h : Q () s) : wpR M A (release vs keep) Q E s :=
  fun Γ p hΓ hn => by rw [Sem.wp_release]; exact h
theorem wpR_standAt {pos : Pos} {Q : Unit → Shared → Prop} (h : Q () s) : wpR M A (standAt pos) Q E s := wpR_of (wpAny_standAt h)
theorem wpR_point {Q : Unit → Shared → Prop} (h : Q () s) : wpR M A point Q E s := wpR_of (wpAny_point h)
theorem wpR_of_eq {t : Sem α} {a : α} {Q : α → Shared → Prop} (e : t = pure a) (h : Q a s) : wpR M A t Q E s := by rw [e]; exact wpR_pure h

theorem codeR_mono {c : Code} {R R' : Result → Shared → Prop} (h : codeR M A c R s) (hR : ∀ r s, R r s → R' r s) : codeR M A c R' s :=
  fun Γ p hc hΓ hn => wpCode_mono hR (h Γ p hc hΓ hn)
theorem nd_enter {Γ : Ctx} (hn : Nd Γ) (c : Code) (h : Option Value) (p : Pos) : ∀ x ∈ (Γ.enter c h p).below, decCode x.1 = false := fun x hx => by
  rcases List.mem_cons.mp hx with rfl | hx
  · exact hn.1
  · exact hn.2 x hx
theorem wpR_run {c : Code} {h : Option Value} {Q : Flow → Shared → Prop}
    (hc : codeR M (A.mark h) c (fun r s' => match r with | .ok f => Q f s' | .error e => E e s') s) (hnb : h ≠ some byPass := by intro x; cases x) : wpR M A (run c h) Q E s :=
  fun Γ p hΓ hn => by rw [Sem.wp_run]; exact hc _ p rfl (hΓ.enter c h p hnb) (nd_enter hn c h p)
theorem wpR_call {f : Value} {pos : List Value} {kw : List (Str × Value)} {Q : Value → Shared → Prop}
    (hc : codeR M A (.call f ⟨pos, kw⟩) (fun r s' => match r with | .ok (.ret v) => Q v s' | .ok _ => False | .error e => E e s') s) : wpR M A (call f pos kw) Q E s :=
  fun Γ p hΓ hn => by
    show wp M Γ (runValue (.call f ⟨pos, kw⟩)) _ _ p s
    rw [Sem.wp_runValue]; exact hc _ p rfl (hΓ.enter _ none p (by intro x; cases x)) (nd_enter hn _ none p)
theorem codeR_of_tree {c : Code} {R : Result → Shared → Prop} (hd : decCode c = false)
    (h : wpR M (A.under c) (M.den c) (fun fin s' => match fin with | .done f => R (.ok f) s' | .again c' => c'.quiet = true ∧ codeR M A c' R s')
      (fun e s' => R (.error e) s') s) : codeR M A c R s := fun Γ p hc hΓ hn => by
  rw [wpCode_iff_wp, hc]
  refine Sem.wp_mono M Γ _ (fun fin p' s' h' => ?_) (fun _ _ _ h' => h') p s (h Γ p (hc ▸ hΓ.in) ⟨hc ▸ hd, hn⟩)
  cases fin with
  | done f => exact h'
  | again c' => exact ⟨h'.1, h'.2 (Γ.goto c') p' rfl (hΓ.goto c') hn⟩
theorem codeR_loop' {c : Code} {R : Result → Shared → Prop} (hd : decCode c = false) (hq : c.quiet = true) (I : Nat → Shared → Prop)
    (turn : ∀ n s, I n s → wpR M (A.under c) (M.den c)
      (fun fin s' => match fin with
        | .done f => R (.ok f) s'
        | .again c' => (c' = c ∧ ∃ m, m < n ∧ I m s') ∨ (c'.quiet = true ∧ codeR M A c' R s')) (fun e s' => R (.error e) s') s)
    (n : Nat) (h : I n s) : codeR M A c R s := by
  induction n using Nat.strongRecOn generalizing s with
  | ind n ih =>
    refine codeR_of_tree hd (wpR_mono (turn n s h) (fun fin s' hf => ?_) fun _ _ h' => h')
    cases fin with
    | done f => exact hf
    | again c' =>
      rcases hf with ⟨rfl, m, hm, hI⟩ | hf
      · exact ⟨hq, ih m hm hI⟩
      · exact hf

/-- noting a frame, on the way out of a loop -/
def notedR (M : Model) (A : Around) (env : Env) (E : Value → Shared → Prop) : Value → Shared → Prop := fun x s' => wpR M A (noteFrame x env) (fun _ s'' => E x s'') E s'
def cameBackR (M : Model) (A : Around) (env : Env) (E : Value → Shared → Prop) : Value → Shared → Prop :=
  fun x s' => wpR M A (do
    if (← field x 1) == .none then unsupported "frame.own-activation:exception-without-traceback"
    setFlight x env.frame) (fun _ s'' => E x s'') E s'
theorem wpR_noted {env : Env} {m : Sem α} {Q : α → Shared → Prop} (h : wpR M A m Q (notedR M A env E) s) : wpR M A (m.onRaise fun x => do noteFrame x env; theTreesLotGoes x) Q E s :=
  wpR_onRaise (wpR_mono h (fun _ _ q => q) fun _ _ hx => wpR_bind (wpR_mono hx (fun _ _ e => wpR_of (wpAny_theTreesLotGoes e)) fun _ _ e => e))
theorem wpR_runOwn {c : Code} {env : Env} {h : Option Value} {Q : Flow → Shared → Prop}
    (hc : codeR M (A.mark h) c (fun r s' => match r with | .ok f => Q f s' | .error e => cameBackR M A env E e s') s) (hnb : h ≠ some byPass := by intro x; cases x) :
    wpR M A (runOwn c env h) Q E s := by
  unfold runOwn
  exact wpR_onRaise (wpR_run hc hnb)
end

section
variable {prog : Program} {w : World} {A : Around} {E : Value → Shared → Prop} {R : Result → Shared → Prop} {s : Shared}
theorem codeR_block {stmts : List Stmt} {env : Env}
    (h : wpR (model prog w) A (execs stmts env) (fun f s' => R (.ok f) s') (notedR (model prog w) A env fun e s' => R (.error e) s') s) : codeR (model prog w) A (.block stmts env) R s := by
  refine codeR_of_tree rfl ?_
  show wpR _ _ (do return Fin.done (← (execs stmts env).onRaise (fun x => do noteFrame x env; theTreesLotGoes x))) _ _ s
  exact wpR_bind (wpR_noted (wpR_mono h (fun f s' h' => wpR_pure h') fun _ _ h' => h'))
theorem codeR_whileLoop {test body orelse env} (I : Nat → Shared → Prop)
    (turn : ∀ n s, I n s →
      wpR (model prog w) A (isTrue test env (eval test env)) (fun b s₂ =>
        if b then wpR (model prog w) A (execs body env) (fun f s₃ => match f with
            | .next | .cont => ∃ m, m < n ∧ I m s₃
            | .brk => R (.ok .next) s₃
            | .ret v => R (.ok (.ret v)) s₃) (notedR (model prog w) A env fun e s' => R (.error e) s') s₂
        else wpR (model prog w) A (execs orelse env) (fun f s₃ => R (.ok f) s₃) (notedR (model prog w) A env fun e s' => R (.error e) s') s₂)
        (notedR (model prog w) A env fun e s' => R (.error e) s') s)
    (n : Nat) (h : I n s) : codeR (model prog w) A (.whileLoop test body orelse env) R s := by
  refine codeR_loop' rfl rfl I (fun n s hI => ?_) n h
  show wpR _ A ((whileTurn test body orelse env).onRaise (fun x => do noteFrame x env; theTreesLotGoes x)) _ _ s
  refine wpR_noted ?_
  simp only [whileTurn]
  refine wpR_bind (wpR_mono (turn n s hI) (fun b s₂ h₂ => ?_) fun _ _ h' => h')
  cases b with
  | false =>
    simp only [Bool.false_eq_true, if_false] at h₂ ⊢
    exact wpR_bind (wpR_mono h₂ (fun f s₃ h₃ => wpR_pure h₃) fun _ _ h' => h')
  | true =>
    simp only [if_true] at h₂ ⊢
    refine wpR_bind (wpR_mono h₂ (fun f s₃ h₃ => ?_) fun _ _ h' => h')
    cases f with
    | next => exact wpR_pure (.inl ⟨rfl, h₃⟩)
    | cont => exact wpR_pure (.inl ⟨rfl, h₃⟩)
    | brk => exact wpR_pure h₃
    | ret v => exact wpR_pure h₃
theorem codeR_forLoop {target it body orelse env} (I : Nat → Shared → Prop)
    (turn : ∀ n s, I n s → wpR (model prog w) A (pyNext it) (fun r s₁ => match r with
      | none => wpR (model prog w) A (execs orelse env) (fun f s₃ => R (.ok f) s₃) (notedR (model prog w) A env fun e s' => R (.error e) s') s₁
      | some v => wpR (model prog w) A (letOwnedTupleGo target it v) (fun _ s₁ => wpR (model prog w) A (assign target env v) (fun _ s₂ => wpR (model prog w) A (execs body env) (fun f s₃ => match f with
          | .next | .cont => ∃ m, m < n ∧ I m s₃
          | .brk => R (.ok .next) s₃
          | .ret v => R (.ok (.ret v)) s₃) (notedR (model prog w) A env fun e s' => R (.error e) s') s₂) (notedR (model prog w) A env fun e s' => R (.error e) s') s₁) (notedR (model prog w) A env fun e s' => R (.error e) s') s₁) (notedR (model prog w) A env fun e s' => R (.error e) s') s)
    (n : Nat) (h : I n s) : codeR (model prog w) A (.forLoop target it body orelse env) R s := by
  refine codeR_loop' rfl rfl I (fun n s hI => ?_) n h
  show wpR _ _ ((forTurn target it body orelse env).onRaise (fun x => do noteFrame x env; theTreesLotGoes x)) _ _ s
  refine wpR_noted ?_
  simp only [forTurn]
  refine wpR_bind (wpR_standAt (wpR_bind (wpR_onRaise (wpR_mono (turn n s hI) (fun r s₁ h₁ => ?_) fun _ _ h' => wpR_standAt h'))))
  cases r with
  | none => exact wpR_pure (.inr ⟨rfl, codeR_block h₁⟩)
  | some v =>
    refine wpR_bind (wpR_mono h₁ (fun _ s₁ h₁ => ?_) fun _ _ h' => h')
    refine wpR_bind (wpR_mono h₁ (fun _ s₂ h₂ => wpR_bind (wpR_mono h₂ (fun f s₃ h₃ => ?_) fun _ _ h' => h')) fun _ _ h' => h')
    cases f with
    | next => exact wpR_pure (.inl ⟨rfl, h₃⟩)
    | cont => exact wpR_pure (.inl ⟨rfl, h₃⟩)
    | brk => exact wpR_pure h₃
    | ret v => exact wpR_pure h₃
theorem codeR_func {body env}
    (h : wpR (model prog w) (A.deeper env) (execs body env) (fun f s' => R (.ok (.ret (match f with | .ret v => v | _ => .none))) s')
      (fun e s' => wpR (model prog w) (A.deeper env) (leaving env e) (fun _ s'' => R (.error e) s'') (fun e' s'' => R (.error e') s'') s') s) :
    codeR (model prog w) A (.func body env) R s := by
  refine codeR_of_tree rfl ?_
  show wpR _ (A.deeper env) (do point; match ← (execs body env).onRaise (leaving env) with | .ret v => ret v | _ => ret .none) _ _ s
  refine wpR_bind (wpR_point (wpR_bind (wpR_onRaise (wpR_mono h (fun f s' h' => ?_) fun _ _ h' => h'))))
  cases f <;> exact wpR_pure h'
theorem codeR_call_function {a : Addr} {args : Args} {o : Obj} {fd : FuncData} {body : List Stmt} (hroom : A.depth < recursionLimit)
    (ho : s.heap.get? a = some o) (hd' : o.data = .func fd) (hco : fd.scope.isCoroutine = false) (hgen : fd.scope.isGenerator = false) (hbody : fd.body = .stmts body) (hcd : s.heap.CodeRec fd.code fd.qualname)
    (h : wpAny (model prog w) A.in1 (bindArgs fd args) (fun binds s₁ =>
      wpAny (model prog w) A.in1 (newFunctionEnv fd.scope fd.globals fd.closure binds (fd.qualname ++ ".<locals>.") (some a) fd.code none fd.builtins)
        (fun env s₂ => s₂.heap.NoLimit ∧ codeR (model prog w) A (.func body env) R s₂) (fun e s' => R (.error e) s') s₁) (fun e s' => R (.error e) s') s) :
    codeR (model prog w) A (.call (.ref a) args) R s := by
  refine codeR_of_tree rfl ?_
  show wpR _ A.in1 (callAny (.ref a) args) _ _ s
  simp only [callAny]
  refine wpR_bind (wpR_of (wpAny_load ho ?_))
  obtain ⟨c, oc, vs, tq, hc, hoc, hdc, hq⟩ := hcd
  simp only [hd', callFunction, hco, hgen, hbody, hc]
  rw [hc] at h
  refine wpR_bind (m := field (.ref c) 1) (wpR_of (wpAny_field hoc hdc hq ?_))
  refine wpR_bind (wpR_pure ?_)
  exact wpR_bind (wpR_of (wpAny_mono h (fun binds s₁ h₁ => wpR_bind (wpR_of (wpAny_mono h₁ (fun env s₂ h₂ => wpR_bind (wpR_of (wpAny_enterFrame h₂.1 hroom
    (wpR_pure (And.intro rfl h₂.2))))) fun _ _ h' => h'))) fun _ _ h' => h'))
/-- a built-in, whose own code is known -/
theorem codeR_call_builtin {id : String} {args : Args} {b : Builtin} (hd : decCode (.builtin id args) = false) (hq : plainId id = true) (hb : entryFor table id = some b)
    (h : wpAny (model prog w) A.in1 (checkBuiltinCall id args) (fun _ s₁ => wpR (model prog w) A.in1 (b args)
      (fun fin s' => match fin with | .done f => R (.ok f) s' | .again c' => c'.quiet = true ∧ codeR (model prog w) A c' R s') (fun e s' => R (.error e) s') s₁)
      (fun e s' => R (.error e) s') s) : codeR (model prog w) A (.call (.builtin id) args) R s := by
  refine codeR_of_tree rfl ?_
  show wpR _ A.in1 (do checkBuiltinCall id args; again (.builtin id args)) _ _ s
  refine wpR_bind (wpR_of (wpAny_mono h (fun _ s₁ h₁ => wpR_pure (And.intro (plainId_quiet hq args) (codeR_of_tree hd ?_))) fun _ _ h' => h'))
  rw [Around.under_plainId hq args]
  show wpR _ _ (match entryFor table id with | some b => b args | none => unsupported ((withoutEnding? id "#data").getD id)) _ _ s₁
  rw [hb]; exact h₁
theorem callR_slot {T : String} {name : Str} {id : String} {B : Builtin} {self : Value} {rest : List Value} {Q : Value → Shared → Prop} (slot : Slot T name id) (hT : s.TypeIs self T)
    (hd : Builtin.Bytes.decodersThatHold.contains id = false) (entry : entryFor table id = some B) (args : argsOk id ⟨self :: rest, []⟩)
    (h : wpR (model prog w) A.in1 (B ⟨self :: rest, []⟩) (fun fin s' => ∃ v, fin = .done (.ret v) ∧ Q v s') E s) : wpR (model prog w) A (call (.builtin id) (self :: rest)) Q E s :=
  wpR_call (codeR_call_builtin hd slot.plain entry (slot.check _ _ _ _ _ _ _ _ hT args (wpR_mono h (fun fin s' ⟨v, e, hq⟩ => by subst e; exact hq) fun _ _ e => e)))
end
end Mine
end
section
open PySem PySem.W PyProof.Rows PySem.Calls
open PySem.Sem (wp)
set_option Elab.async false
set_option maxRecDepth 100000
set_option linter.unusedVariables false
namespace Mine
section
variable {α β : Type} {M : Model} {A : Around} {E : Value → Shared → Prop} {s : Shared} {env : Env}

theorem wpR_BinOp {l op r pos} {Q : Value → Shared → Prop}
    (h : wpR M A (eval l env) (fun a s₁ => wpR M A (eval r env) (fun b s₂ => wpR M A (binaryOp op a b) Q E s₂) E s₁) E s) : wpR M A (eval (.BinOp l op r pos) env) Q E s := by
  rw [eval_BinOp]
  exact wpR_bind (wpR_mono h (fun a s₁ h₁ => wpR_bind (wpR_holding (wpR_mono h₁ (fun b s₂ h₂ => wpR_bind (wpR_standAt (wpR_operate h₂))) fun _ _ x => x))) fun _ _ x => x)
theorem wpR_Compare1 {l op r pos} {Q : Value → Shared → Prop}
    (h : wpR M A (eval l env) (fun a s₁ => wpR M A (eval r env) (fun b s₂ => wpR M A (compareOp op a b) Q E s₂) E s₁) E s) (hm : behindInMarks op r = false) : wpR M A (eval (.Compare l [op] [r] pos) env) Q E s := fun Γ p hΓ hn => by
  simp only [eval_Compare1, markedBehindIn_of_false hm, Sem.wp_bind', Sem.wp_holding, Sem.wp_cmd_standAt, Sem.wp_operate]
  exact Sem.wp_mono M Γ _ (fun a p₁ s₁ h₁ => Sem.wp_mono M Γ _ (fun b _ s₂ h₂ => h₂ Γ _ hΓ hn) (fun _ _ _ h' => h') _ _ (h₁ Γ p₁ hΓ hn)) (fun _ _ _ h' => h') _ _ (h Γ p hΓ hn)
theorem wpR_isTrue_Compare1 {l op r pos whole} {Q : Bool → Shared → Prop}
    (h : wpR M A (eval l env) (fun a s₁ => wpR M A (eval r env) (fun b s₂ => wpR M A (compareOp op a b) (fun c s₃ => wpR M A (truthy c) Q E s₃) E s₂) E s₁) E s)
    (hm : behindInMarks op r = false) : wpR M A (isTrue (.Compare l [op] [r] pos) env whole) Q E s := fun Γ p hΓ hn => by
  simp only [isTrue_Compare1, markedBehindIn_of_false hm, Sem.wp_bind', Sem.wp_holding, Sem.wp_cmd_standAt, Sem.wp_operate]
  exact Sem.wp_mono M Γ _ (fun a p₁ s₁ h₁ => Sem.wp_mono M Γ _ (fun b _ s₂ h₂ => Sem.wp_mono M Γ _ (fun c p₃ s₃ h₃ => h₃ Γ p₃ hΓ hn)
    (fun _ _ _ h' => h') _ _ (h₂ Γ _ hΓ hn)) (fun _ _ _ h' => h') _ _ (h₁ Γ p₁ hΓ hn)) (fun _ _ _ h' => h') _ _ (h Γ p hΓ hn)
theorem wpR_UnaryOp {op : UnaryOp} {x : Expr} {pos : Pos} {Q : Value → Shared → Prop} (h : wpR M A (eval x env) (fun v s₁ => wpR M A (unaryOp op v) Q E s₁) E s) : wpR M A (eval (.UnaryOp op x pos) env) Q E s := by
  rw [arm_eval_UnaryOp]
  exact wpR_bind (wpR_mono h (fun v s₁ h₁ => wpR_bind (wpR_standAt (wpR_holding h₁))) fun _ _ x => x)
theorem wpR_IfExp {test body orelse pos} {Q : Value → Shared → Prop}
    (h : wpR M A (isTrue test env (eval test env)) (fun c s₂ => if c then wpR M A (eval body env) Q E s₂ else wpR M A (eval orelse env) Q E s₂) E s) : wpR M A (eval (.IfExp test body orelse pos) env) Q E s := by
  rw [eval_IfExp]
  refine wpR_bind (wpR_mono h (fun c s₂ h₂ => ?_) fun _ _ x => x)
  cases c <;> exact h₂
theorem wpR_isTrue_value {e : Expr} {whole : Sem Value} {Q : Bool → Shared → Prop} (h : wpR M A whole (fun v s₁ => wpR M A (truthy v) Q E s₁) E s)
    (he : isTrue e env whole = (do let v ← whole; standAt e.pos; holding [v] (truthy v))) : wpR M A (isTrue e env whole) Q E s := by
  rw [he]
  exact wpR_bind (wpR_mono h (fun v s₁ h₁ => wpR_bind (wpR_standAt (wpR_holding h₁))) fun _ _ x => x)
theorem wpR_isTrue_not {x pos whole} {Q : Bool → Shared → Prop} (h : wpR M A (isTrue x env (eval x env)) (fun c s' => Q (!c) s') E s) : wpR M A (isTrue (.UnaryOp .Not x pos) env whole) Q E s := by
  show wpR M A (do return !(← isTrue x env (eval x env))) Q E s
  exact wpR_bind (wpR_mono h (fun c s' h' => wpR_pure h') fun _ _ x => x)
theorem wpR_isTrue_and {x rest pos whole} {Q : Bool → Shared → Prop}
    (h : wpR M A (isTrue x env (eval x env)) (fun c s' => if c then wpR M A (isTrue (.BoolOp .And rest pos) env whole) Q E s' else Q false s') E s) : wpR M A (isTrue (.BoolOp .And (x :: rest) pos) env whole) Q E s := by
  show wpR M A (do
    match BoolOp.And, ← isTrue x env (eval x env) with
    | .And, false => pure false
    | .Or, true => pure true
    | _, _ => allTrue .And rest env) Q E s
  refine wpR_bind (wpR_mono h (fun c s' h' => ?_) fun _ _ x => x)
  cases c with
  | false => exact wpR_pure h'
  | true => exact h'
theorem wpR_isTrue_or {x rest pos whole} {Q : Bool → Shared → Prop}
    (h : wpR M A (isTrue x env (eval x env)) (fun c s' => if c then Q true s' else wpR M A (isTrue (.BoolOp .Or rest pos) env whole) Q E s') E s) : wpR M A (isTrue (.BoolOp .Or (x :: rest) pos) env whole) Q E s := by
  show wpR M A (do
    match BoolOp.Or, ← isTrue x env (eval x env) with
    | .And, false => pure false
    | .Or, true => pure true
    | _, _ => allTrue .Or rest env) Q E s
  refine wpR_bind (wpR_mono h (fun c s' h' => ?_) fun _ _ x => x)
  cases c with
  | false => exact h'
  | true => exact wpR_pure h'
theorem wpR_execs_cons {st rest} {Q : Flow → Shared → Prop}
    (h : wpR M A (exec st env) (fun f s' => match f with | .next => wpR M A (execs rest env) Q E s' | f => Q f s') E s) : wpR M A (execs (st :: rest) env) Q E s := by
  rw [execs_cons]
  refine wpR_bind (wpR_mono h (fun f s' h' => ?_) fun _ _ x => x)
  cases f <;> first | exact h' | exact wpR_pure h'
theorem wpR_Assign_Name {x pos' value pos} {Q : Flow → Shared → Prop}
    (h : wpR M A (eval value env) (fun v s₁ => wpR M A (storeName env x v) (fun _ => Q .next) E s₁) E s)
    (hs : swapsWith value (some (.Name x pos')) pos.line env = pure false) : wpR M A (exec (.Assign [.Name x pos'] value pos) env) Q E s := fun Γ p hΓ hn => by
  simp only [exec_Assign_Name env x pos' value pos hs, Sem.wp_bind', Sem.wp_cmd_standAt, Sem.wp_bindName, Sem.wp_pure']
  exact Sem.wp_mono M Γ _ (fun v _ s₁ h₁ => h₁ Γ _ hΓ hn) (fun _ _ _ h' => h') _ _ (h Γ _ hΓ hn)
theorem wpR_AugAssign_Name {x pos' op value pos} {Q : Flow → Shared → Prop}
    (h : wpR M A (loadName env x) (fun old s₁ => wpR M A (eval value env) (fun v s₂ => wpR M A (inplaceOp op old v)
      (fun r s₃ => wpR M A (storeName env x r) (fun _ => Q .next) E s₃) E s₂) E s₁) E s) : wpR M A (exec (.AugAssign (.Name x pos') op value pos) env) Q E s := fun Γ p hΓ hn => by
  simp only [exec_AugAssign_Name, Sem.wp_bind', Sem.wp_holding, Sem.wp_cmd_standAt, Sem.wp_operate, Sem.wp_bindName, Sem.wp_pure']
  exact Sem.wp_mono M Γ _ (fun old p₁ s₁ h₁ => Sem.wp_mono M Γ _ (fun v _ s₂ h₂ => Sem.wp_mono M Γ _ (fun r _ s₃ h₃ => h₃ Γ _ hΓ hn)
    (fun _ _ _ h' => h') _ _ (h₂ Γ _ hΓ hn)) (fun _ _ _ h' => h') _ _ (h₁ Γ p₁ hΓ hn)) (fun _ _ _ h' => h') _ _ (h Γ _ hΓ hn)
theorem wpR_If {test body orelse pos} {Q : Flow → Shared → Prop}
    (h : wpR M A (isTrue test env (eval test env)) (fun b s₂ => if b then wpR M A (execs body env) Q E s₂ else wpR M A (execs orelse env) Q E s₂) E s) :
    wpR M A (exec (.If test body orelse pos) env) Q E s := fun Γ p hΓ hn => by
  simp only [exec_If, Sem.wp_bind', Sem.wp_cmd_standAt]
  refine Sem.wp_mono M Γ _ (fun b p₂ s₂ h₂ => ?_) (fun _ _ _ h' => h') _ _ (h Γ _ hΓ hn)
  cases b <;> exact h₂ Γ p₂ hΓ hn
theorem wpR_Return_some {e pos} {Q : Flow → Shared → Prop} (h : wpR M A (eval e env) (fun v => Q (.ret v)) E s) : wpR M A (exec (.Return (some e) pos) env) Q E s := by
  rw [exec_Return_some]
  exact wpR_bind (wpR_standAt (wpR_bind (wpR_mono h (fun v s₁ h₁ => wpR_pure h₁) fun _ _ x => x)))
theorem wpR_Expr {e pos} {Q : Flow → Shared → Prop} (h : wpR M A (eval e env) (fun v s' => match v with | .ref _ => False | _ => Q .next s') E s)
    (hi : interactive env = false) (hs : swapsWith e none pos.line env = pure false) : wpR M A (exec (.Expr e pos) env) Q E s := by
  rw [exec_Expr env e pos hi hs]
  refine wpR_bind (wpR_standAt (wpR_bind (wpR_mono h (fun v s' h' => ?_) fun _ _ x => x)))
  have hv : ∀ a, v ≠ .ref a := fun a hva => by subst hva; exact h'
  rw [dropValue_plain hv]
  refine wpR_pure ?_
  cases v <;> first | exact h' | exact (hv _ rfl).elim
theorem wpR_While {test body orelse pos} {Q : Flow → Shared → Prop}
    (h : codeR M A (.whileLoop test body orelse env) (fun r s' => match r with | .ok f => Q f s' | .error e => cameBackR M A env E e s') s) : wpR M A (exec (.While test body orelse pos) env) Q E s := by
  rw [exec_While]; exact wpR_bind (wpR_standAt (wpR_runOwn h))
theorem wpR_For {target iter body orelse pos} {Q : Flow → Shared → Prop}
    (h : wpR M A (eval iter env) (fun x s₁ => wpR M A (pyIter x) (fun it s₂ =>
      codeR M A (.forLoop target it body orelse env) (fun r s' => match r with | .ok f => Q f s' | .error e => cameBackR M A env E e s') s₂) E s₁) E s)
    (hs : ∀ x, foldedSetIterable iter env x = pure x) : wpR M A (exec (.For target iter body orelse pos) env) Q E s := by
  rw [exec_For]
  exact wpR_bind (wpR_standAt (wpR_bind (wpR_mono h (fun x s₁ h₁ => wpR_bind (wpR_of_eq (hs x) (wpR_bind (wpR_standAt (wpR_bind (wpR_holding
    (wpR_mono h₁ (fun it s₂ h₂ => wpR_runOwn h₂) fun _ _ h' => h'))))))) fun _ _ h' => h')))
/-- calls -/
theorem spliced_consR {x : Sem Value} {rest : List (Bool × Sem Value)} {Q : List Value → Shared → Prop}
    (h : wpR M A x (fun v s₁ => wpR M A (spliced rest) (fun vs s₂ => Q (v :: vs) s₂) E s₁) E s) : wpR M A (spliced ((false, x) :: rest)) Q E s := by
  show wpR M A (do
    let v ← x
    let here ← (pure [v] : Sem (List Value))
    return here ++ (← holding here (spliced rest))) Q E s
  exact wpR_bind (wpR_mono h (fun v s₁ h₁ => wpR_bind (wpR_pure (wpR_bind (wpR_holding (wpR_mono h₁ (fun vs s₂ h₂ => wpR_pure h₂) fun _ _ x => x))))) fun _ _ x => x)
theorem args_consR {e : Expr} {rest : List Expr} {pos : Pos} {Q : List Value → Shared → Prop}
    (h : wpR M A (eval e env) (fun v s₁ => wpR M A (spliced (backTo pos (starEach rest env))) (fun vs s₂ => Q (v :: vs) s₂) E s₁) E s)
    (he : starEach (e :: rest) env = (false, eval e env) :: starEach rest env) : wpR M A (spliced (backTo pos (starEach (e :: rest) env))) Q E s := by
  rw [he]; exact spliced_consR h
theorem evalArgs_plainR {f : Value} {x : Sem Value} {rest : List (Bool × Sem Value)} {Q : Args → Shared → Prop}
    (h : wpR M A (spliced ((false, x) :: rest)) (fun vs s₁ => Q ⟨vs, []⟩ s₁) E s) : wpR M A (evalArgs f true ((false, x) :: rest) []) Q E s := by
  unfold evalArgs
  show wpR M A (spliced ((false, x) :: rest) >>= _) Q E s
  refine wpR_bind (wpR_mono h (fun vs s₁ h₁ => ?_) fun _ _ x => x)
  refine wpR_holding ?_
  exact wpR_bind (wpR_pure (wpR_bind (wpR_pure (wpR_pure h₁))))
theorem wpR_Call {func : Expr} {args : List Expr} {pos : Pos} {Q : Value → Shared → Prop}
    (h : wpR M A (eval func env) (fun f s₁ => wpR M A (callWith pos f [] (backTo pos (starEach args env)) []) Q E s₁) E s)
    (he : eval (.Call func args [] pos) env = (do callWith pos (← eval func env) [] (backTo pos (starEach args env)) (backToKw pos (keywordEach [] env)))) :
    wpR M A (eval (.Call func args [] pos) env) Q E s := by
  rw [he]; exact wpR_bind h
theorem callWith_builtinR {pos : Pos} {id : String} {first : List Value} {args : List (Bool × Sem Value)} {Q : Value → Shared → Prop} (hplain : args.any (·.1) = false)
    (h : wpR M A (evalArgs (.builtin id) true args []) (fun a s₁ => wpR M A (call (.builtin id) (first ++ a.pos) a.kw) Q E s₁) E s) : wpR M A (callWith pos (.builtin id) first args []) Q E s := by
  unfold callWith
  refine wpR_bind (wpR_holding (wpR_mono h (fun a s₁ h₁ => wpR_bind (wpR_standAt ?_)) fun _ _ x => x))
  simp only [hplain, List.any_nil, Bool.or_false]
  refine wpR_bind (wpR_pure ?_)
  exact wpR_bind (wpR_mono h₁ (fun r s₂ hr => wpR_bind (wpR_holding (wpR_point (wpR_pure hr)))) fun _ _ x => x)
theorem callWith_typeR {pos : Pos} {T : String} {first : List Value} {args : List (Bool × Sem Value)} {Q : Value → Shared → Prop} (hplain : args.any (·.1) = false)
    (h : wpR M A (evalArgs (.type T) true args []) (fun a s₁ => wpR M A (call (.type T) (first ++ a.pos) a.kw) Q E s₁) E s) : wpR M A (callWith pos (.type T) first args []) Q E s := by
  unfold callWith
  refine wpR_bind (wpR_holding (wpR_mono h (fun a s₁ h₁ => wpR_bind (wpR_standAt ?_)) fun _ _ x => x))
  simp only [hplain, List.any_nil, Bool.or_false]
  refine wpR_bind (wpR_pure ?_)
  exact wpR_bind (wpR_mono h₁ (fun r s₂ hr => wpR_bind (wpR_holding (wpR_point (wpR_pure hr)))) fun _ _ x => x)
theorem callWith_functionR {pos : Pos} {a : Addr} {o : Obj} {fd : FuncData} {first : List Value} {args : List (Bool × Sem Value)} {Q : Value → Shared → Prop} (hplain : args.any (·.1) = false)
    (h : wpR M A (evalArgs (.ref a) true args []) (fun x s₁ => (s₁.heap.get? a = some o ∧ o.data = .func fd) ∧ wpR M A (call (.ref a) (first ++ x.pos) x.kw) Q E s₁) E s) :
    wpR M A (callWith pos (.ref a) first args []) Q E s := by
  unfold callWith
  refine wpR_bind (wpR_holding (wpR_mono h (fun x s₁ h₁ => wpR_bind (wpR_standAt ?_)) fun _ _ x => x))
  have tail : ∀ {t : Sem Value}, wpR M A t Q E s₁ → wpR M A (t >>= fun r => holding [r] point >>= fun _ => pure r) Q E s₁ :=
    fun ht => wpR_bind (wpR_mono ht (fun r s₂ hr => wpR_bind (wpR_holding (wpR_point (wpR_pure hr)))) fun _ _ x => x)
  simp only [hplain, List.any_nil, Bool.or_false]
  refine wpR_bind (m := keeperOf (.ref a)) (wpR_of ?_)
  unfold keeperOf
  refine wpAny_bind (wpAny_load h₁.1.1 ?_)
  rw [h₁.1.2]
  refine wpAny_pure ?_
  show wpR M A (if args.length + 2 * ([] : List (Option Str × Sem Value)).length > 30 then call (.ref a) (first ++ x.pos) x.kw >>= fun r => holding [r] point >>= fun _ => pure r else callMarked plainCall (.ref a) (first ++ x.pos) x.kw >>= fun r => holding [r] point >>= fun _ => pure r) Q E s₁
  split
  · exact tail h₁.2
  · exact tail (wpR_keep h₁.2)
theorem MethodCallR {o : Expr} {name : Str} {apos pos : Pos} {args : List Expr} {pl : Sem Bool} {Q : Value → Shared → Prop}
    (h : wpR M A (eval o env) (fun ov s₁ => wpR M A (getMethod ov name pl) (fun fx s₂ => wpR M A (callWith pos fx.1 fx.2 (backTo pos (starEach args env)) []) Q E s₂) E s₁) E s)
    (he : eval (.Call (.Attribute o name apos) args [] pos) env = (do
      let ov ← eval o env
      standAt apos.atName
      let (f, first) ← holding [ov] (getMethod ov name pl)
      callWith pos f first (backTo pos (starEach args env)) [])) :
    wpR M A (eval (.Call (.Attribute o name apos) args [] pos) env) Q E s := by
  rw [he]
  refine wpR_bind (wpR_mono h (fun ov s₁ h₁ => wpR_bind (wpR_standAt (wpR_bind (wpR_holding (wpR_mono h₁ (fun fx s₂ h₂ => ?_) fun _ _ x => x))))) fun _ _ x => x)
  exact h₂
theorem SubscriptR {value slice pos} {Q : Value → Shared → Prop}
    (h : wpR M A (eval value env) (fun o s₁ => wpR M A (eval slice env) (fun i s₂ => wpR M A (subscriptTail value slice o i) Q E s₂) E s₁) E s) : wpR M A (eval (.Subscript value slice pos) env) Q E s := by
  rw [eval_Subscript]
  exact wpR_bind (wpR_mono h (fun o s₁ h₁ => wpR_bind (wpR_holding (wpR_mono h₁ (fun i s₂ h₂ => wpR_bind (wpR_standAt h₂)) fun _ _ x => x))) fun _ _ x => x)
theorem wpR_Slice {lower upper step : Option Expr} {p : Pos} {Q : Value → Shared → Prop}
    (h : wpR M A (evalPart lower env) (fun l s₁ => wpR M A (evalPart upper env) (fun u s₂ => wpR M A (evalPart step env) (fun st s₃ =>
      Q (.ref s₃.heap.objs.size) { s₃ with heap := s₃.heap.push { cls := .type "slice", data := .fields #[l, u, st] } }) E s₂) E s₁) E s) : wpR M A (eval (.Slice lower upper step p) env) Q E s := by
  rw [arm_eval_Slice]
  refine wpR_bind (wpR_mono h (fun l s₁ h₁ => wpR_bind (wpR_holding (wpR_mono h₁ (fun u s₂ h₂ => wpR_bind (wpR_holding (wpR_mono h₂ (fun st s₃ h₃ => ?_) fun _ _ x => x))) fun _ _ x => x))) fun _ _ x => x)
  exact wpR_of (wpAny_newObj_type h₃)
theorem wpR_List {elts : List Expr} {pos : Pos} {Q : Value → Shared → Prop}
    (h : wpR M A (spliced (backTo pos (starEach elts env)))
      (fun vs s₁ => vs.length ≤ sizeLine ∧ Q (.ref s₁.heap.objs.size) { s₁ with heap := s₁.heap.push { cls := .type "list", data := .seq vs.toArray } }) E s) : wpR M A (eval (.List elts pos) env) Q E s := by
  rw [arm_eval_List]
  exact wpR_bind (wpR_standAt (wpR_bind (wpR_mono h (fun vs s₁ h₁ => wpR_of (wpAny_newObj_type h₁.2 (by show vs.toArray.size ≤ sizeLine; rw [List.size_toArray]; exact h₁.1))) fun _ _ x => x)))
theorem wpR_Tuple {elts : List Expr} {k : Nat} {pos : Pos} {Q : Value → Shared → Prop}
    (h : wpR M A (spliced (backTo pos (starEach elts env)))
      (fun vs s₁ => vs.length ≤ sizeLine ∧ Q (.ref s₁.heap.objs.size) { s₁ with heap := s₁.heap.push { cls := .type "tuple", data := .seq vs.toArray } }) E s) : wpR M A (eval (.Tuple elts k pos) env) Q E s := by
  rw [arm_eval_Tuple]
  exact wpR_bind (wpR_standAt (wpR_bind (wpR_mono h (fun vs s₁ h₁ => wpR_of (wpAny_newObj_type h₁.2 (by show vs.toArray.size ≤ sizeLine; rw [List.size_toArray]; exact h₁.1))) fun _ _ x => x)))
theorem wpR_Assign_Subscript {o i pos' value pos} {Q : Flow → Shared → Prop}
    (h : wpR M A (eval value env) (fun v s₁ => wpR M A (eval o env) (fun ov s₂ => wpR M A (eval i env) (fun iv s₃ =>
      wpR M A (setItem ov iv v) (fun _ => Q .next) E s₃) E s₂) E s₁) E s)
    (hs : swapsWith value (some (.Subscript o i pos')) pos.line env = pure false) : wpR M A (exec (.Assign [.Subscript o i pos'] value pos) env) Q E s := fun Γ p hΓ hn => by
  simp only [exec_Assign_Subscript o i pos' value pos hs, assign_Subscript, Sem.wp_bind', Sem.wp_holding, Sem.wp_cmd_standAt, Sem.wp_release, Sem.wp_pure']
  exact Sem.wp_mono M Γ _ (fun v p₁ s₁ h₁ => Sem.wp_mono M Γ _ (fun ov p₂ s₂ h₂ => Sem.wp_mono M Γ _ (fun iv _ s₃ h₃ => h₃ Γ _ hΓ hn)
    (fun _ _ _ h' => h') _ _ (h₂ Γ p₂ hΓ hn)) (fun _ _ _ h' => h') _ _ (h₁ Γ p₁ hΓ hn)) (fun _ _ _ h' => h') _ _ (h Γ _ hΓ hn)
theorem wpR_AugAssign_Sub {o i value : Expr} {tpos pos : Pos} {op : Operator} {Q : Flow → Shared → Prop}
    (h : wpR M A (eval o env) (fun ov s₁ => wpR M A (eval i env) (fun iv s₂ => wpR M A (getItem ov iv) (fun old s₃ =>
          wpR M A (eval value env) (fun v s₄ => wpR M A (inplaceOp op old v) (fun new s₅ =>
            wpR M A (setItem ov iv new) (fun _ => Q .next) E s₅) E s₄) E s₃) E s₂) E s₁) E s)
    (hi : ∀ ov iv new, augStore i ov iv new = (do holding [new, ov, iv] (setItem ov iv new); release [new, ov, iv] []; pure .next)) :
    wpR M A (exec (.AugAssign (.Subscript o i tpos) op value pos) env) Q E s := by
  show wpR M A (do
      standAt pos
      let ov ← eval o env
      let iv ← holding [ov] (eval i env)
      let new ← holding [ov, iv] do
        standAt tpos
        let old ← getItem ov iv
        let v ← holding [old] (eval value env)
        standAt pos
        operate [old, v] (inplaceOp op old v)
      standAt tpos
      augStore i ov iv new) Q E s
  refine wpR_bind (wpR_standAt (wpR_bind (wpR_mono h (fun ov s₁ h₁ => ?_) fun _ _ x => x)))
  refine wpR_bind (wpR_holding (wpR_mono h₁ (fun iv s₂ h₂ => ?_) fun _ _ x => x))
  refine wpR_bind (wpR_holding (wpR_bind (wpR_standAt (wpR_bind (wpR_mono h₂ (fun old s₃ h₃ => ?_) fun _ _ x => x)))))
  refine wpR_bind (wpR_holding (wpR_mono h₃ (fun v s₄ h₄ => ?_) fun _ _ x => x))
  refine wpR_bind (wpR_standAt (wpR_operate (wpR_mono h₄ (fun new s₅ h₅ => ?_) fun _ _ x => x)))
  refine wpR_bind (wpR_standAt ?_)
  rw [hi]
  exact wpR_bind (wpR_holding (wpR_mono h₅ (fun _ _ h₆ => wpR_bind (wpR_release (wpR_pure h₆))) fun _ _ x => x))
theorem wpR_assign_Name {x pos v} {Q : Unit → Shared → Prop} (h : wpR M A (storeName env x v) Q E s) : wpR M A (assign (.Name x pos) env v) Q E s := by
  rw [PySem.assign_Name]; exact wpR_bind (wpR_standAt (wpR_bindName h))
end
end Mine
end
section
open PySem PySem.W PyProof.Rows PySem.Calls PySem.Spec
open PySem.Sem (wp)
set_option Elab.async false
set_option maxRecDepth 100000
set_option linter.unusedVariables false
namespace Mine
theorem caller_nd : Nd ⟨.builtin "claim.caller" {}, none, none, [], none⟩ := ⟨by decide +kernel, fun x hx => nomatch hx⟩
theorem ends_R {prog : Program} {w : World} {t : Sem Fin} {s : Shared} {R : Result → Shared → Prop} (hreg : s.asleep)
    (h : wpR (model prog w) callerA t (fun fin s' => ∃ f, fin = .done f ∧ (R (.ok f) s' ∧ leftWithCleanup s'.gens = false)) (fun e s' => R (.error e) s' ∧ leftWithCleanup s'.gens = false) s) :
    ∃ n r s' s'', runN (denote table) prog w n s ⟨t, .builtin "claim.caller" {}, default, []⟩ = .halted (outcomeOf r) s' ∧
      schedN (denote table) prog w n (.single s ⟨t, .builtin "claim.caller" {}, default, []⟩) = .halted (outcomeOf r) s' ∧ s'.forget = s''.forget ∧ R r s'' := by
  have hw : wp (model prog w) ⟨.builtin "claim.caller" {}, none, none, [], none⟩ t (Sem.finPost (model prog w) ⟨.builtin "claim.caller" {}, none, none, [], none⟩ fun r s' => R r s' ∧ leftWithCleanup s'.gens = false)
      (fun e _ s' => R (.error e) s' ∧ leftWithCleanup s'.gens = false) default s := by
    refine Sem.wp_mono _ _ t (fun fin p' s' h' => ?_) (fun _ _ _ h' => h') default s (h _ default caller_in caller_nd)
    obtain ⟨f, rfl, hf⟩ := h'
    exact hf
  obtain ⟨n, r, s₁, s₂, hs, hn, hfo, hR⟩ := wp_halts_full (M := model prog w) (R := R) hreg hw
  exact ⟨n, r, s₂, s₁, hn, hs, hfo, hR⟩
theorem callFrom_R {c : ClaimW} {tree : List Value → Sem Fin} {w : World} {s : Shared} {free : Addr → Prop} {gens : Prop} {kept : Heap → Prop} (hz : s.asleep) (hgens : s.gens = #[])
    (hspec : ∀ args, c.pre args = true → WData.layableAll args = true →
      ∀ ord : List DictEntry → List DictEntry, (∀ l, (ord l).Perm l) →
      ∃ vs s₁, layAllW c.records (classAt s.heap) w.params ord args s = some (vs, s₁) ∧
        wpR (model c.prog w) callerA (tree vs) (fun fin s' => ∃ f, fin = .done f ∧ (c.Ends s args vs s₁ (.ok f) s' ∧ s'.os = s.os ∧ AllBare s'.gens ∧ kept s'.heap))
          (fun e s' => c.Ends s args vs s₁ (.error e) s' ∧ s'.os = s.os ∧ AllBare s'.gens ∧ kept s'.heap) s₁) :
    c.CallFrom (fun vs => ⟨tree vs, .builtin "claim.caller" {}, default, []⟩) w free gens kept s := by
  intro args hpre hlay ord hord
  obtain ⟨vs, s₁, hlaid, hcode⟩ := hspec args hpre hlay ord hord
  have hal := layAllW_rest _ _ _ hlaid
  obtain ⟨k, r, s', s'', hrun, hsched, hfo, hcase, hos, hkp⟩ := ends_R (prog := c.prog) (w := w) (t := tree vs) (s := s₁)
    (R := fun r s' => c.Ends s args vs s₁ r s' ∧ s'.os = s.os ∧ kept s'.heap)
    (Shared.asleep_of_life hal.2.2.2 hz)
    (wpR_mono hcode (by
      rintro fin s' ⟨f, e, h1, h2, h3, h4⟩
      exact ⟨f, e, ⟨h1, h2, h4⟩, leftWithCleanup_false_of_bare h3⟩) (by
      rintro e s' ⟨h1, h2, h3, h4⟩
      exact ⟨⟨h1, h2, h4⟩, leftWithCleanup_false_of_bare h3⟩))
  obtain ⟨eh, _, _, eo, _⟩ := Shared.forget_eq hfo
  have hcase := hcase.congr eh
  have hkp : kept s'.heap := by rw [eh]; exact hkp
  rw [← eo] at hos
  have hlife : s'.heap.life = s.heap.life := (runN_life _ _ _ hrun).trans hal.2.2.2
  refine ⟨vs, s₁, hlaid, k, _, s', hsched, ?_, (fun _ i x hx => by rw [hgens] at hx; simp at hx), hkp, by rw [hlife], Shared.rest_eq hos⟩
  rcases hcase with ⟨v, rfl, d1, d2, d3, d4, d5⟩ | ⟨e, ob, cls, rfl, d1, d2, d3, d4, d5⟩
  · exact .inl ⟨v, rfl, d1, d2, d3, fun b o y _ => d4 b o y, d5⟩
  · exact .inr ⟨e, ob, cls, rfl, d1, d2, d3, d4, fun b o y _ => d5 b o y⟩

theorem holds_R {l : OpenLaw} {q : Program} {N : Nat} {d : DefRec} {kwd : List (Str × Expr)} (said : l.wellSaid = true)
    (left : LeftO l.prog q [] (fun s => xlAt q [] s && recOk [] s) (fun _ => ()) (fun _ => ()) N)
    (hdef : defOf q l.name = some (d, kwd)) (hp : l.prog.theDef l.name = some (d.params, d.body, d.scope)) (hk : kwWritten? d.params.kwonlyargs d.params.kw_defaults = some kwd)
    (hwr : (!l.row.writes || l.row.records.isEmpty) = true)
    (ok : (chainsOk q && opensWell l.prog && (frees l.row.toRowW && l.row.within.isEmpty)) = true) (hb : l.prog.bare) (hw : l.row.toRowW.promised)
    (call : ∀ (w : World) (s₀ s₁ : Shared) (mg mb : Str → Option Value), Ground q [] [] (XL q []) w s₀ mg mb s₁.heap → ∀ (a : Addr) (o : Obj) (pm cd doc dV kV : Value), s₁.heap.get? a = some o →
      o.data = .func { docDef d.name d.params d.body d.scope pm cd doc with defaults := dV, kwdefaults := kV } → s₁.heap.CodeRec cd d.name → Dflts mg s₁.heap d.params kwd dV kV → mg d.name = some (.ref a) → s₁.gens = #[] →
      ∀ (args : List WData) (vals : List Value) (as : List Addr), l.row.toRowW.claim.pre args = true → WData.layableAll args = true → ReadsAllW [] (classAt s₀.heap) s₁.heap vals args as → WellAll w.params s₁.heap vals args → (∀ a ∈ as, (a == sysModules) = false) →
        wpR (model l.prog w) callerA (PySem.call (.ref a) vals) (fun v s' => GoodW l.row.toRowW.claim (classAt s₀.heap) (ExcName.means s₀.heap) args s₁ (.ok (.ret v)) s')
          (fun e s' => GoodW l.row.toRowW.claim (classAt s₀.heap) (ExcName.means s₀.heap) args s₁ (.error e) s') s₁) : l.Holds := by
  refine holds_law said fun k1 => ⟨k1, hw, ?_⟩
  obtain ⟨ok, k5⟩ := Bool.and_eq_true_iff.mp ok
  obtain ⟨hch, o1⟩ := Bool.and_eq_true_iff.mp ok
  obtain ⟨k5, k6⟩ := Bool.and_eq_true_iff.mp k5
  obtain ⟨hsame, hu, ha, hap, hm⟩ := frees_parts k5
  refine ⟨⟨hb, o1, rfl⟩, hw.witness, fun w => ⟨(left.behind (XP := XL q []) (fun s e => xl_of s (Bool.and_eq_true_iff.mp e).1) hch w).1, fun s' hs' => ?_⟩⟩
  obtain ⟨s₀, hf, hg0, s, hT, hz, hgens, hg, G00, y⟩ := (left.behind (XP := fun mg h => XL q [] mg h ∧ RecFacts [] h) (fun s hs => ⟨xl_of s (Bool.and_eq_true_iff.mp hs).1, recFacts_of (Bool.and_eq_true_iff.mp hs).2⟩) hch w).2 s' hs'
  have G0 : Ground q [] [] (XL q []) w s (s.heap.nsMap mainGlobals) (s.heap.nsMap builtinsNs) s.heap := ⟨G00.T, G00.B, G00.D, G00.TE, G00.TD, G00.W, G00.X.1, G00.cls, G00.has, G00.apart, G00.once, G00.K⟩
  have RF := G00.X.2
  have hT' := hT
  refine ⟨s₀, hf, hg0, s, hT, ?_, RF.1, RF.2.1, ?_⟩
  · intro n hn
    obtain rfl : n = l.name := by
      have hn' : n ∈ [l.name] := hn
      simpa using hn'
    exact pinned_of_view hg G0 hdef hp hk
  have hgens : s.gens = #[] := Array.eq_empty_of_size_eq_zero (beq_iff_eq.mp hgens)
  have G : Ground q [] [] (XL q []) w s _ _ s.heap := RF.ground G0
  refine callFrom_R (c := l.row.toRowW.claim) hz hgens fun args hpre hlay ord hord => ?_
  obtain ⟨⟨vs, s₁⟩, hlaid⟩ := Option.isSome_iff_exists.mp (layAllW_isSome (P := w.params) (ord := ord) G.has args l.row.toRowW.args s (pre_splitW hpre).1)
  have keeps := layAllW_keeps _ _ _ hlaid
  have hal := layAllW_rest _ _ _ hlaid
  obtain ⟨as, hrd, hin, hold⟩ := reads_layAllW hord _ _ _ hlaid hlay s₁.heap (fun _ _ e => e)
  have L : Laid [] w s s₁ args vs as := ⟨⟨ord, hord, hlaid⟩, hrd, hin, hold, keeps, hal.1.trans hgens, hal.2.2.1⟩
  have G₁ := G.keeps XL.keeps keeps
  obtain ⟨a, o, pm, cd, doc, dV, kV, h1, h2, h3, h4, h5⟩ := G₁.fn hdef
  have h := call w s s₁ _ _ G₁ a o pm cd doc dV kV h2 h3 h4 h5 (defOf_name hdef ▸ h1) L.gens args vs as hpre hlay L.reads L.well (L.low G.low)
  have hi := ident_freeW hu ha hap
  have hwi : l.row.toRowW.claim.within = [] := List.isEmpty_iff.mp k6
  refine ⟨vs, s₁, hlaid, ?_⟩
  show wpR (model l.prog w) callerA (do match ← nsGet mainNs l.name with
      | some f => do ret (← PySem.call f vs)
      | none => unsupported "claim.caller:no-such-global") _ _ s₁
  refine wpR_bind (wpR_of (wpAny_nsGet G₁.T.g ?_))
  rw [h1]
  refine wpR_bind (wpR_mono h (fun v s' g => wpR_pure ⟨_, rfl, ?_⟩) fun e s' g => ?_)
  · have z := g.toG.laid (c := l.row.toRowW.claim) hsame hwi hi L
    exact ⟨z.1, z.2.1, z.2.2, fun q => ⟨namesKept_of hT' hg l.own keeps g.toG.2.1.old, noTable hwr q⟩⟩
  · have z := g.toG.laid (c := l.row.toRowW.claim) hsame hwi hi L
    exact ⟨z.1, z.2.1, z.2.2, fun q => ⟨namesKept_of hT' hg l.own keeps g.toG.2.1.old, noTable hwr q⟩⟩
end Mine
end
section
open PySem PySem.W PyProof.Rows PySem.Calls
set_option Elab.async false
set_option maxRecDepth 100000
set_option linter.unusedVariables false
namespace Mine

/-- abstract values: identities of ints, strs, bytes are forgotten -/
inductive V where
  | int (i : Int)
  | bytes (ns : List Int)
  | str (x : Str)
  | raw (v : Value)
  | unk

def bInts (b : Array UInt8) : List Int := b.toList.map fun x => (x.toNat : Int)

def V.Is : V → Value → Prop
  | .int i, v => ∃ t, v = .int i t
  | .bytes ns, v => ∃ b t, v = .bytes b t ∧ bInts b = ns
  | .str x, v => ∃ t, v = .str x t
  | .raw u, v => v = u
  | .unk, _ => True

abbrev V.ref (a : Addr) : V := .raw (.ref a)
abbrev V.bool (b : Bool) : V := .raw (.bool b)
abbrev V.none : V := .raw .none

inductive All2 : List V → List Value → Prop
  | nil : All2 [] []
  | cons {u v us vs} : u.Is v → All2 us vs → All2 (u :: us) (v :: vs)

theorem All2.length {us vs} (h : All2 us vs) : us.length = vs.length := by
  induction h with
  | nil => rfl
  | cons _ _ ih => simp [ih]
theorem All2.get {us vs} (h : All2 us vs) : ∀ {i : Nat} {u : V}, us[i]? = some u → ∃ v, vs[i]? = some v ∧ u.Is v := by
  induction h with
  | nil => intro i u hu; simp at hu
  | cons h1 _ ih =>
    intro i u hu
    cases i with
    | zero => simp at hu; subst hu; exact ⟨_, rfl, h1⟩
    | succ i => simp at hu; simpa using ih hu
theorem All2.get' {us vs} (h : All2 us vs) : ∀ {i : Nat} {v : Value}, vs[i]? = some v → ∃ u, us[i]? = some u ∧ u.Is v := by
  induction h with
  | nil => intro i u hu; simp at hu
  | cons h1 _ ih =>
    intro i u hu
    cases i with
    | zero => simp at hu; subst hu; exact ⟨_, rfl, h1⟩
    | succ i => simp at hu; simpa using ih hu
theorem All2.append {us vs us' vs'} (h : All2 us vs) (h' : All2 us' vs') : All2 (us ++ us') (vs ++ vs') := by
  induction h with
  | nil => exact h'
  | cons h1 _ ih => exact .cons h1 ih
theorem All2.take {us vs} (h : All2 us vs) : ∀ n, All2 (us.take n) (vs.take n) := by
  induction h with
  | nil => intro n; simp; exact .nil
  | cons h1 _ ih => intro n; cases n with
    | zero => exact .nil
    | succ n => exact .cons h1 (ih n)
theorem All2.drop {us vs} (h : All2 us vs) : ∀ n, All2 (us.drop n) (vs.drop n) := by
  induction h with
  | nil => intro n; simp; exact .nil
  | cons h1 h2 ih => intro n; cases n with
    | zero => exact .cons h1 h2
    | succ n => exact ih n
theorem All2.set {us vs} (h : All2 us vs) {u v} (hu : u.Is v) : ∀ n, All2 (us.set n u) (vs.set n v) := by
  induction h with
  | nil => intro n; simp; exact .nil
  | cons h1 h2 ih => intro n; cases n with
    | zero => exact .cons hu h2
    | succ n => exact .cons h1 (ih n)
theorem All2.ints {ns : List Int} {vs} (h : All2 (ns.map V.int) vs) : IntsAre vs ns := by
  induction ns generalizing vs with
  | nil => cases h; exact .nil
  | cons n ns ih => cases h with | cons h1 h2 => obtain ⟨t, rfl⟩ := h1; exact .cons _ _ (ih h2)
theorem All2.of_ints {ns : List Int} {vs} (h : IntsAre vs ns) : All2 (ns.map V.int) vs := by
  induction h with
  | nil => exact .nil
  | cons _ _ _ ih => exact .cons ⟨_, rfl⟩ ih

inductive Cell where
  | list (vs : List V)
  | tup (vs : List V)
  | ba (ns : List Int)
  | obj (o : Obj)

abbrev Cell.ints (ns : List Int) : Cell := .list (ns.map V.int)

def Cell.Is : Cell → Obj → Prop
  | .list us, o => ∃ ws n, o = { cls := .type "list", data := .seq ws n } ∧ All2 us ws.toList
  | .tup us, o => ∃ ws, o = { cls := .type "tuple", data := .seq ws } ∧ All2 us ws.toList
  | .ba ns, o => ∃ b, o = { cls := .type "bytearray", data := .bytearray b 0 } ∧ bInts b = ns
  | .obj p, o => o = p

def At (h : Heap) (a : Addr) (c : Cell) : Prop := ∃ o, h.get? a = some o ∧ c.Is o
theorem At.keep {h h' : Heap} {a c} (x : At h a c) (k : ∀ o, h.get? a = some o → h'.get? a = some o) : At h' a c :=
  let ⟨o, ho, hc⟩ := x; ⟨o, k o ho, hc⟩
theorem At.lt {h : Heap} {a c} (x : At h a c) : a < h.objs.size := let ⟨_, ho, _⟩ := x; Heap.lt_size ho
theorem At.isList {h : Heap} {a us} (x : At h a (.list us)) : ∃ ws, h.IsList a ws ∧ All2 us ws.toList :=
  let ⟨_, ho, ws, n, e, hw⟩ := x; ⟨ws, ⟨_, ho, by rw [e], n, by rw [e]⟩, hw⟩
theorem At.isL {h : Heap} {a us} (x : At h a (.list us)) : ∃ ws n, IsL h a ws n ∧ All2 us ws.toList :=
  let ⟨_, ho, ws, n, e, hw⟩ := x; ⟨ws, n, by subst e; exact ho, hw⟩

structure Cx where
  prog : Program
  w : World
  A : Around
  L : Addr
  B : Heap
  os : OsState
  outs : List (Addr × (Str → Option Value))

structure St where
  loc : List (Str × V)
  own : List (Addr × Cell)

def LocIs (x : Option Value) (u : V) : Prop := u = .unk ∨ ∃ v, x = some v ∧ u.Is v

structure Sat (X : Cx) (ro : List (Addr × Cell)) (st : St) (R : Heap) (s : Shared) : Prop where
  base : ∀ b o, X.B.get? b = some o → R.get? b = some o
  ros : ∀ p ∈ ro, At R p.1 p.2
  fr : ∀ b o, R.get? b = some o → s.heap.get? b = some o
  frL : R.get? X.L = none
  own : ∀ p ∈ st.own, R.get? p.1 = none ∧ p.1 ≠ X.L ∧ At s.heap p.1 p.2
  nd : (st.own.map (·.1)).Nodup
  ns : ∃ m, s.heap.Ns X.L m ∧ ∀ p ∈ st.loc, LocIs (m p.1) p.2
  nl : (st.loc.map (·.1)).Nodup
  gens : s.gens = #[]
  oss : s.os = X.os
  outs : ∀ q ∈ X.outs, s.heap.Ns q.1 q.2 ∧ R.get? q.1 = none ∧ q.1 ≠ X.L
  apart : ∀ p ∈ st.own, ∀ q ∈ X.outs, p.1 ≠ q.1

abbrev Led := List (Addr × Cell)
abbrev Er := Heap → Value → Shared → Prop
def TT {α β : Type} (X : Cx) (ro : List (Addr × Cell)) (E : Heap → Value → Shared → Prop) (rel : β → α → Prop) (st : St) (t : Sem α) (Q : β → St → Prop) : Prop :=
  ∀ R s, Sat X ro st R s → wpR (model X.prog X.w) X.A t (fun a s' => ∃ b st', rel b a ∧ Sat X ro st' R s' ∧ Q b st') (E R) s

inductive Fl where
  | next | brk | cont
  | ret (u : V)
def Fl.Is : Fl → Flow → Prop
  | .next, f => f = .next
  | .brk, f => f = .brk
  | .cont, f => f = .cont
  | .ret u, f => ∃ v, f = .ret v ∧ u.Is v

abbrev TV (X : Cx) (ro : Led) (E : Er) (st : St) (t : Sem Value) (Q : V → St → Prop) : Prop := TT X ro E V.Is st t Q
abbrev TB (X : Cx) (ro : Led) (E : Er) (st : St) (t : Sem Bool) (Q : Bool → St → Prop) : Prop := TT X ro E (fun (b : Bool) a => a = b) st t Q
abbrev TU (X : Cx) (ro : Led) (E : Er) (st : St) (t : Sem Unit) (Q : St → Prop) : Prop := TT X ro E (fun (_ : Unit) (_ : Unit) => True) st t (fun _ => Q)
abbrev TF (X : Cx) (ro : Led) (E : Er) (st : St) (t : Sem Flow) (Q : Fl → St → Prop) : Prop := TT X ro E Fl.Is st t Q
abbrev TL (X : Cx) (ro : Led) (E : Er) (st : St) (t : Sem (List Value)) (Q : List V → St → Prop) : Prop := TT X ro E All2 st t Q

/-- reading and writing the two lists by place -/
inductive Has {α β : Type} (a : α) (c : β) : List (α × β) → Prop
  | head {r} : Has a c ((a, c) :: r)
  | tail {p r} : Has a c r → Has a c (p :: r)
theorem Has.mem {α β : Type} {a : α} {c : β} {l} (h : Has a c l) : (a, c) ∈ l := by
  induction h with
  | head => exact .head _
  | tail _ ih => exact .tail _ ih
theorem Has.of_mem {α β : Type} {a : α} {c : β} : ∀ {l : List (α × β)}, (a, c) ∈ l → Has a c l
  | _ :: _, .head _ => .head
  | _ :: _, .tail _ h => .tail (Has.of_mem h)
theorem Has.app_left {α β : Type} {a : α} {c : β} {l r} (h : Has a c l) : Has a c (l ++ r) := .of_mem (List.mem_append_left _ h.mem)
theorem Has.app_right {α β : Type} {a : α} {c : β} {l r} (h : Has a c r) : Has a c (l ++ r) := .of_mem (List.mem_append_right _ h.mem)

inductive Put {α β : Type} (a : α) (c c' : β) : List (α × β) → List (α × β) → Prop
  | head {r} : Put a c c' ((a, c) :: r) ((a, c') :: r)
  | tail {p r r'} : Put a c c' r r' → Put a c c' (p :: r) (p :: r')
theorem Put.has {α β : Type} {a : α} {c c' : β} {l l'} (h : Put a c c' l l') : Has a c l := by
  induction h with
  | head => exact .head
  | tail _ ih => exact .tail ih
theorem Put.keys {α β : Type} {a : α} {c c' : β} {l l'} (h : Put a c c' l l') : l'.map (·.1) = l.map (·.1) := by
  induction h with
  | head => rfl
  | tail _ ih => simp [ih]
theorem Put.mem {α β : Type} {a : α} {c c' : β} {l l'} (h : Put a c c' l l') (nd : (l.map (·.1)).Nodup) : ∀ p ∈ l', p = (a, c') ∨ (p ∈ l ∧ p.1 ≠ a) := by
  induction h with
  | head =>
    rename_i r
    intro p hp
    rcases List.mem_cons.mp hp with rfl | hp
    · exact .inl rfl
    · refine .inr ⟨.tail _ hp, fun e => ?_⟩
      simp only [List.map_cons, List.nodup_cons] at nd
      exact nd.1 (e ▸ List.mem_map.mpr ⟨p, hp, rfl⟩)
  | tail h ih =>
    rename_i q r r'
    simp only [List.map_cons, List.nodup_cons] at nd
    intro p hp
    rcases List.mem_cons.mp hp with rfl | hp
    · refine .inr ⟨.head _, fun e => nd.1 ?_⟩
      exact List.mem_map.mpr ⟨(a, c), h.has.mem, e.symm⟩
    · rcases ih nd.2 p hp with h1 | ⟨h1, h2⟩
      · exact .inl h1
      · exact .inr ⟨.tail _ h1, h2⟩

inductive Del {α β : Type} (a : α) (c : β) : List (α × β) → List (α × β) → Prop
  | head {r} : Del a c ((a, c) :: r) r
  | tail {p r r'} : Del a c r r' → Del a c (p :: r) (p :: r')

section
variable {X : Cx} {ro : List (Addr × Cell)} {E : Heap → Value → Shared → Prop} {st : St} {R : Heap} {s : Shared}

theorem Sat.lt (S : Sat X ro st R s) : X.L < s.heap.objs.size := by
  obtain ⟨m, ⟨o, _, _, ho, _⟩, _⟩ := S.ns
  exact Heap.lt_size ho
theorem Sat.keepB (S : Sat X ro st R s) : ∀ b o, X.B.get? b = some o → s.heap.get? b = some o := fun b o h => S.fr b o (S.base b o h)
theorem Sat.at_own (S : Sat X ro st R s) {a c} (h : Has a c st.own) : At s.heap a c := (S.own _ h.mem).2.2
theorem Sat.at_ro (S : Sat X ro st R s) {a c} (h : Has a c ro) : At s.heap a c := (S.ros _ h.mem).keep fun o e => S.fr _ o e

/-- everything kept: new tokens, new rubbish -/
theorem Sat.keeps (S : Sat X ro st R s) {h' : Heap} {tk : Nat} (k : ∀ b o, s.heap.get? b = some o → h'.get? b = some o) : Sat X ro st R { s with heap := h', toks := tk } where
  base := S.base
  ros := S.ros
  fr := fun b o e => k b o (S.fr b o e)
  frL := S.frL
  own := fun p hp => let ⟨h1, h2, h3⟩ := S.own p hp; ⟨h1, h2, h3.keep fun o e => k _ o e⟩
  nd := S.nd
  ns := let ⟨m, hm, hl⟩ := S.ns; ⟨m, hm.keeps k, hl⟩
  nl := S.nl
  gens := S.gens
  oss := S.oss
  outs := fun q hq => let ⟨h1, h2, h3⟩ := S.outs q hq; ⟨h1.keeps k, h2, h3⟩
  apart := S.apart
theorem Sat.toks (S : Sat X ro st R s) {tk : Nat} : Sat X ro st R { s with toks := tk } := S.keeps (h' := s.heap) fun _ _ e => e

/-- a new object onto the ledger; the rest is kept -/
theorem Sat.alloc (S : Sat X ro st R s) {h' : Heap} {tk : Nat} {a : Addr} {c : Cell} (hn : s.heap.get? a = none) (hc : At h' a c) (k : ∀ b o, s.heap.get? b = some o → h'.get? b = some o) :
    Sat X ro { st with own := (a, c) :: st.own } R { s with heap := h', toks := tk } where
  base := S.base
  ros := S.ros
  fr := fun b o e => k b o (S.fr b o e)
  frL := S.frL
  own := fun p hp => by
    rcases List.mem_cons.mp hp with rfl | hp
    · refine ⟨?_, ?_, hc⟩
      · cases h : R.get? a with
        | none => rfl
        | some o => have := S.fr _ _ h; rw [hn] at this; cases this
      · rintro rfl
        obtain ⟨m, ⟨o, _, _, ho, _⟩, _⟩ := S.ns
        rw [hn] at ho; cases ho
    · let ⟨h1, h2, h3⟩ := S.own p hp; exact ⟨h1, h2, h3.keep fun o e => k _ o e⟩
  nd := by
    simp only [List.map_cons, List.nodup_cons]
    refine ⟨fun hm => ?_, S.nd⟩
    obtain ⟨p, hp, rfl⟩ := List.mem_map.mp hm
    obtain ⟨o, ho, _⟩ := (S.own p hp).2.2
    rw [hn] at ho; cases ho
  ns := let ⟨m, hm, hl⟩ := S.ns; ⟨m, hm.keeps k, hl⟩
  nl := S.nl
  gens := S.gens
  oss := S.oss
  outs := fun q hq => let ⟨h1, h2, h3⟩ := S.outs q hq; ⟨h1.keeps k, h2, h3⟩
  apart := fun p hp q hq => by
    rcases List.mem_cons.mp hp with rfl | hp
    · intro e
      obtain ⟨o, _, _, ho, _⟩ := (S.outs q hq).1
      simp only at e
      rw [← e, hn] at ho; cases ho
    · exact S.apart p hp q hq
theorem size_none (h : Heap) : h.get? h.objs.size = none := by
  cases e : h.get? h.objs.size with
  | none => rfl
  | some o => exact absurd (Heap.lt_size e) (Nat.lt_irrefl _)
theorem Sat.push (S : Sat X ro st R s) {tk : Nat} {o : Obj} {c : Cell} (hc : c.Is o) (hf : o.isFreed = false := by rfl) :
    Sat X ro { st with own := (s.heap.objs.size, c) :: st.own } R { s with heap := s.heap.push o, toks := tk } :=
  S.alloc (size_none _) ⟨o, Heap.get?_push_size _ hf, hc⟩ fun _ _ e => Heap.get?_push_of_some _ e

/-- an object of the ledger changed -/
theorem Sat.upd (S : Sat X ro st R s) {h' : Heap} {tk : Nat} {a : Addr} {c c' : Cell} {own' : List (Addr × Cell)} (U : Put a c c' st.own own') (hc : At h' a c')
    (k : ∀ b o, b ≠ a → s.heap.get? b = some o → h'.get? b = some o) : Sat X ro { st with own := own' } R { s with heap := h', toks := tk } where
  base := S.base
  ros := S.ros
  fr := fun b o e => k b o (fun h => by subst h; have := (S.own _ U.has.mem).1; rw [e] at this; cases this) (S.fr b o e)
  frL := S.frL
  own := fun p hp => by
    rcases U.mem S.nd p hp with rfl | ⟨hp, hne⟩
    · exact ⟨(S.own _ U.has.mem).1, (S.own _ U.has.mem).2.1, hc⟩
    · let ⟨h1, h2, h3⟩ := S.own p hp; exact ⟨h1, h2, h3.keep fun o e => k _ o hne e⟩
  nd := by show (own'.map (·.1)).Nodup; rw [U.keys]; exact S.nd
  ns := by
    obtain ⟨m, hm, hl⟩ := S.ns
    exact ⟨m, hm.extBut (b := a) (fun b o hb e => k b o hb e) (fun h => (S.own _ U.has.mem).2.1 h.symm), hl⟩
  nl := S.nl
  gens := S.gens
  oss := S.oss
  outs := fun q hq => let ⟨h1, h2, h3⟩ := S.outs q hq; ⟨h1.extBut (b := a) (fun b o hb e => k b o hb e) (fun h => S.apart _ U.has.mem q hq h.symm), h2, h3⟩
  apart := fun p hp q hq => by
    rcases U.mem S.nd p hp with rfl | ⟨hp, _⟩
    · exact S.apart _ U.has.mem q hq
    · exact S.apart p hp q hq

/-- a local name stored -/
theorem Sat.put (S : Sat X ro st R s) {h' : Heap} {tk : Nat} {x : Str} {u u' : V} {v : Value} {loc' : List (Str × V)} (U : Put x u u' st.loc loc') (hv : u'.Is v)
    (hn : ∀ m, s.heap.Ns X.L m → h'.Ns X.L (fun y => if y = x then some v else m y)) (k : Heap.SameBut X.L s.heap h') :
    Sat X ro { st with loc := loc' } R { s with heap := h', toks := tk } where
  base := S.base
  ros := S.ros
  fr := fun b o e => (k.2 b (fun h => by subst h; rw [S.frL] at e; cases e)).trans (S.fr b o e)
  frL := S.frL
  own := fun p hp => let ⟨h1, h2, h3⟩ := S.own p hp; ⟨h1, h2, h3.keep fun o e => (k.2 _ h2).trans e⟩
  nd := S.nd
  ns := by
    obtain ⟨m, hm, hl⟩ := S.ns
    refine ⟨_, hn m hm, fun p hp => ?_⟩
    rcases U.mem S.nl p hp with rfl | ⟨hp, hne⟩
    · exact .inr ⟨v, by simp, hv⟩
    · simp only [hne, if_false]; exact hl p hp
  nl := by show (loc'.map (·.1)).Nodup; rw [U.keys]; exact S.nl
  gens := S.gens
  oss := S.oss
  outs := fun q hq => let ⟨h1, h2, h3⟩ := S.outs q hq; ⟨h1.at' fun o e => (k.2 _ h3).trans e, h2, h3⟩
  apart := S.apart

/-- the ledger in another order, or less of it -/
theorem Sat.perm (S : Sat X ro st R s) {own' : List (Addr × Cell)} (h : st.own.Perm own') : Sat X ro { st with own := own' } R s where
  base := S.base
  ros := S.ros
  fr := S.fr
  frL := S.frL
  own := fun p hp => S.own p (h.mem_iff.mpr hp)
  nd := ((h.map (·.1)).nodup_iff).mp S.nd
  ns := S.ns
  nl := S.nl
  gens := S.gens
  oss := S.oss
  outs := S.outs
  apart := fun p hp => S.apart p (h.mem_iff.mpr hp)
theorem Sat.sub (S : Sat X ro st R s) {own' : List (Addr × Cell)} (h : own'.Sublist st.own) : Sat X ro { st with own := own' } R s where
  base := S.base
  ros := S.ros
  fr := S.fr
  frL := S.frL
  own := fun p hp => S.own p (h.subset hp)
  nd := (h.map (·.1)).nodup S.nd
  ns := S.ns
  nl := S.nl
  gens := S.gens
  oss := S.oss
  outs := S.outs
  apart := fun p hp => S.apart p (h.subset hp)

/-- consequence -/
theorem TT.mono {α β : Type} {rel : β → α → Prop} {t : Sem α} {Q Q' : β → St → Prop} (h : TT X ro E rel st t Q) (hQ : ∀ b st', Q b st' → Q' b st') : TT X ro E rel st t Q' :=
  fun R s S => wpR_mono (h R s S) (fun _ _ ⟨b, st', h1, h2, h3⟩ => ⟨b, st', h1, h2, hQ b st' h3⟩) fun _ _ e => e
theorem TT.perm {α β : Type} {rel : β → α → Prop} {t : Sem α} {Q : β → St → Prop} {own' : List (Addr × Cell)} (hp : st.own.Perm own') (h : TT X ro E rel { st with own := own' } t Q) : TT X ro E rel st t Q :=
  fun R s S => h R s (S.perm hp)
end
end Mine
end
section
open PySem PySem.W PyProof.Rows PySem.Calls
set_option Elab.async false
set_option maxRecDepth 100000
set_option linter.unusedVariables false
namespace Mine

def V.known : V → Bool
  | .unk => false
  | _ => true

/-- a global or built-in name of the base heap -/
def Glo (X : Cx) (x : Str) (v : Value) : Prop :=
  ∃ mg mb, X.B.Ns mainGlobals mg ∧ X.B.Ns builtinsNs mb ∧ (mg x = some v ∨ (mg x = none ∧ mb x = some v))

section
variable {X : Cx} {ro : Led} {E : Er} {st : St} {nm : Str} {sc : Scope} {a : Addr} {cd : Value} {env : Env}

def Op1 (X : Cx) (ro : Led) (E : Er) (f : Value → Sem Value) (a : V) (st : St) (Q : V → St → Prop) : Prop := ∀ v, a.Is v → TV X ro E st (f v) Q
def Op2 (X : Cx) (ro : Led) (E : Er) (f : Value → Value → Sem Value) (a b : V) (st : St) (Q : V → St → Prop) : Prop := ∀ v w, a.Is v → b.Is w → TV X ro E st (f v w) Q
def OpB (X : Cx) (ro : Led) (E : Er) (f : Value → Sem Bool) (a : V) (st : St) (Q : Bool → St → Prop) : Prop := ∀ v, a.Is v → TB X ro E st (f v) Q
def OpN (X : Cx) (ro : Led) (E : Er) (f : List Value → Sem Value) (us : List V) (st : St) (Q : V → St → Prop) : Prop := ∀ vs, All2 us vs → TV X ro E st (f vs) Q

theorem name_local {x : Str} {pos : Pos} {u : V} {Q : V → St → Prop} (h : Has x u st.loc) (hq : Q u st) (hu : u.known = true := by rfl)
    (hk : sc.kind = .function := by rfl) (hl : (envOf nm sc X.L a cd).kindOf x = some .local := by rfl) (hd : (x == ("__debug__" : Str)) = false := by decide) :
    TV X ro E st (eval (.Name x pos) (envOf nm sc X.L a cd)) Q := fun R s S => by
  obtain ⟨m, hm, hl'⟩ := S.ns
  rcases hl' _ h.mem with e | ⟨v, hv, hi⟩
  · simp only at e; subst e; cases hu
  · exact wpR_of (wpAny_Name (wpAny_loadName_local hk hl hm hv ⟨u, st, hi, S, hq⟩) hd)

theorem load_local {x : Str} {u : V} {Q : V → St → Prop} (h : Has x u st.loc) (hq : Q u st) (hu : u.known = true := by rfl)
    (hk : sc.kind = .function := by rfl) (hl : (envOf nm sc X.L a cd).kindOf x = some .local := by rfl) :
    TV X ro E st (loadName (envOf nm sc X.L a cd) x) Q := fun R s S => by
  obtain ⟨m, hm, hl'⟩ := S.ns
  rcases hl' _ h.mem with e | ⟨v, hv, hi⟩
  · simp only at e; subst e; cases hu
  · exact wpR_of (wpAny_loadName_local hk hl hm hv ⟨u, st, hi, S, hq⟩)

theorem name_glo {x : Str} {pos : Pos} {v : Value} {Q : V → St → Prop} (g : Glo X x v) (hq : Q (.raw v) st)
    (hk : sc.kind = .function := by rfl) (hx : (envOf nm sc X.L a cd).kindOf x = some .globalImplicit := by rfl) (hd : (x == ("__debug__" : Str)) = false := by decide) :
    TV X ro E st (eval (.Name x pos) (envOf nm sc X.L a cd)) Q := fun R s S => by
  obtain ⟨mg, mb, hg, hb, h | ⟨h1, h2⟩⟩ := g
  · exact wpR_of (Name_function_global hk hx (loadGlobal_global (env := envOf nm sc X.L a cd) (hg.keeps S.keepB) h ⟨.raw v, st, rfl, S, hq⟩) hd)
  · exact wpR_of (Name_function_global hk hx (loadGlobal_builtin (env := envOf nm sc X.L a cd) (hg.keeps S.keepB) h1 (hb.keeps S.keepB) h2 ⟨.raw v, st, rfl, S, hq⟩) hd)

theorem store_local {x : Str} {u u' : V} {v : Value} {loc' : List (Str × V)} {Q : St → Prop} (U : Put x u u' st.loc loc') (hv : u'.Is v) (hq : Q { st with loc := loc' })
    (hk : sc.kind = .function := by rfl) (hl : (envOf nm sc X.L a cd).kindOf x = some .local := by rfl) :
    TU X ro E st (storeName (envOf nm sc X.L a cd) x v) Q := fun R s S => by
  obtain ⟨m, hm, hl'⟩ := S.ns
  refine wpR_of (wpAny_storeName_local hl hm (fun h' hn hs => ⟨(), _, trivial, S.put (v := v) U hv (fun m' hm' => ?_) hs, hq⟩) ?_)
  · have : m' = m := by
      rw [hm'.eq_nsMap, hm.eq_nsMap]
    subst this; exact hn
  · show (sc.kind == .class || (sc.kind == .module && X.L != mainGlobals)) = false
    rw [hk]; rfl

theorem TT.run {α β : Type} {rel : β → α → Prop} {t : Sem α} {Q : β → St → Prop} {P : α → Shared → Prop} {R : Heap} {s : Shared} (h : TT X ro E rel st t Q) (S : Sat X ro st R s)
    (k : ∀ a s' b st', rel b a → Sat X ro st' R s' → Q b st' → P a s') : wpR (model X.prog X.w) X.A t P (E R) s :=
  wpR_mono (h R s S) (fun a s' ⟨b, st', h1, h2, h3⟩ => k a s' b st' h1 h2 h3) fun _ _ e => e

theorem const_int {i : Int} {k pos} {Q : V → St → Prop} (hq : Q (.int i) st) : TV X ro E st (eval (.Constant (.int i) k pos) env) Q :=
  fun R s S => wpR_of (wpAny_Constant_int ⟨.int i, st, ⟨_, rfl⟩, S.toks, hq⟩)
theorem const_bool {b k pos} {Q : V → St → Prop} (hq : Q (.bool b) st) : TV X ro E st (eval (.Constant (.bool b) k pos) env) Q :=
  fun R s S => wpR_of (wpAny_Constant_bool ⟨.bool b, st, rfl, S, hq⟩)
theorem const_none {k pos} {Q : V → St → Prop} (hq : Q .none st) : TV X ro E st (eval (.Constant .none k pos) env) Q :=
  fun R s S => wpR_of (wpAny_Constant_none ⟨.none, st, rfl, S, hq⟩)

theorem BinOp' {l op r pos} {Q : V → St → Prop} (h : TV X ro E st (eval l env) fun a st₁ => TV X ro E st₁ (eval r env) fun b st₂ => Op2 X ro E (binaryOp op) a b st₂ Q) :
    TV X ro E st (eval (.BinOp l op r pos) env) Q := fun R s S =>
  wpR_BinOp (h.run S fun v s₁ a st₁ ha S₁ h₁ => h₁.run S₁ fun w s₂ b st₂ hb S₂ h₂ => h₂ v w ha hb R s₂ S₂)
theorem Compare' {l op r pos} {Q : V → St → Prop} (h : TV X ro E st (eval l env) fun a st₁ => TV X ro E st₁ (eval r env) fun b st₂ => Op2 X ro E (compareOp op) a b st₂ Q)
    (hm : behindInMarks op r = false := by with_unfolding_all rfl) :
    TV X ro E st (eval (.Compare l [op] [r] pos) env) Q := fun R s S =>
  wpR_Compare1 (h.run S fun v s₁ a st₁ ha S₁ h₁ => h₁.run S₁ fun w s₂ b st₂ hb S₂ h₂ => h₂ v w ha hb R s₂ S₂) hm
theorem UnaryOp' {op e pos} {Q : V → St → Prop} (h : TV X ro E st (eval e env) fun a st₁ => Op1 X ro E (unaryOp op) a st₁ Q) : TV X ro E st (eval (.UnaryOp op e pos) env) Q := fun R s S =>
  wpR_UnaryOp (h.run S fun v s₁ a st₁ ha S₁ h₁ => h₁ v ha R s₁ S₁)
theorem IfExp' {test body orelse pos} {Q : V → St → Prop} (h : TB X ro E st (isTrue test env (eval test env)) fun c st₁ => (c = true → TV X ro E st₁ (eval body env) Q) ∧ (c = false → TV X ro E st₁ (eval orelse env) Q)) :
    TV X ro E st (eval (.IfExp test body orelse pos) env) Q := fun R s S =>
  wpR_IfExp (h.run S fun c s₁ b st₁ e S₁ h₁ => by
    subst e
    cases c
    · exact h₁.2 rfl R s₁ S₁
    · exact h₁.1 rfl R s₁ S₁)

theorem isTrue_cmp {l op r pos whole} {Q : Bool → St → Prop} (h : TV X ro E st (eval l env) fun a st₁ => TV X ro E st₁ (eval r env) fun b st₂ => Op2 X ro E (compareOp op) a b st₂ fun c st₃ => OpB X ro E truthy c st₃ Q)
    (hm : behindInMarks op r = false := by with_unfolding_all rfl) : TB X ro E st (isTrue (.Compare l [op] [r] pos) env whole) Q := fun R s S =>
  wpR_isTrue_Compare1 (h.run S fun v s₁ a st₁ ha S₁ h₁ => h₁.run S₁ fun w s₂ b st₂ hb S₂ h₂ => (h₂ v w ha hb).run S₂ fun x s₃ c st₃ hc S₃ h₃ => h₃ x hc R s₃ S₃) hm
theorem isTrue_val {e whole} {Q : Bool → St → Prop} (h : TV X ro E st whole fun c st₁ => OpB X ro E truthy c st₁ Q)
    (he : isTrue e env whole = (do let v ← whole; standAt e.pos; holding [v] (truthy v)) := by rfl) : TB X ro E st (isTrue e env whole) Q := fun R s S =>
  wpR_isTrue_value (h.run S fun x s₃ c st₃ hc S₃ h₃ => h₃ x hc R s₃ S₃) he
theorem isTrue_not' {x pos whole} {Q : Bool → St → Prop} (h : TB X ro E st (isTrue x env (eval x env)) fun c st₁ => Q (!c) st₁) : TB X ro E st (isTrue (.UnaryOp .Not x pos) env whole) Q := fun R s S =>
  wpR_isTrue_not (h.run S fun c s₁ b st₁ e S₁ h₁ => ⟨!b, st₁, by rw [e], S₁, h₁⟩)
theorem isTrue_and_nil' {pos whole} {Q : Bool → St → Prop} (h : Q true st) : TB X ro E st (isTrue (.BoolOp .And [] pos) env whole) Q := fun R s S =>
  wpR_of (PyProof.Rows.isTrue_and_nil ⟨true, st, rfl, S, h⟩)
theorem isTrue_or_nil' {pos whole} {Q : Bool → St → Prop} (h : Q false st) : TB X ro E st (isTrue (.BoolOp .Or [] pos) env whole) Q := fun R s S =>
  wpR_of (PyProof.Rows.isTrue_or_nil ⟨false, st, rfl, S, h⟩)
theorem isTrue_and' {x rest pos whole} {Q : Bool → St → Prop}
    (h : TB X ro E st (isTrue x env (eval x env)) fun c st₁ => (c = true → TB X ro E st₁ (isTrue (.BoolOp .And rest pos) env whole) Q) ∧ (c = false → Q false st₁)) :
    TB X ro E st (isTrue (.BoolOp .And (x :: rest) pos) env whole) Q := fun R s S =>
  wpR_isTrue_and (h.run S fun c s₁ b st₁ e S₁ h₁ => by
    subst e
    cases c
    · exact ⟨false, st₁, rfl, S₁, h₁.2 rfl⟩
    · exact h₁.1 rfl R s₁ S₁)
theorem isTrue_or' {x rest pos whole} {Q : Bool → St → Prop}
    (h : TB X ro E st (isTrue x env (eval x env)) fun c st₁ => (c = true → Q true st₁) ∧ (c = false → TB X ro E st₁ (isTrue (.BoolOp .Or rest pos) env whole) Q)) :
    TB X ro E st (isTrue (.BoolOp .Or (x :: rest) pos) env whole) Q := fun R s S =>
  wpR_isTrue_or (h.run S fun c s₁ b st₁ e S₁ h₁ => by
    subst e
    cases c
    · exact h₁.2 rfl R s₁ S₁
    · exact ⟨true, st₁, rfl, S₁, h₁.1 rfl⟩)

theorem execs_nil' {Q : Fl → St → Prop} (h : Q .next st) : TF X ro E st (execs [] env) Q := fun R s S => wpR_of (wpAny_execs_nil ⟨.next, st, rfl, S, h⟩)
theorem execs_cons' {sm rest} {Q : Fl → St → Prop}
    (h : TF X ro E st (exec sm env) fun f st₁ => match f with | .next => TF X ro E st₁ (execs rest env) Q | f => Q f st₁) : TF X ro E st (execs (sm :: rest) env) Q := fun R s S =>
  wpR_execs_cons (h.run S fun f s₁ g st₁ e S₁ h₁ => by
    cases g with
    | next => cases e; exact h₁ R s₁ S₁
    | brk => cases e; exact ⟨.brk, st₁, rfl, S₁, h₁⟩
    | cont => cases e; exact ⟨.cont, st₁, rfl, S₁, h₁⟩
    | ret u => obtain ⟨v, rfl, hv⟩ := e; exact ⟨.ret u, st₁, ⟨v, rfl, hv⟩, S₁, h₁⟩)
theorem Assign' {x pos' value pos} {Q : Fl → St → Prop}
    (h : TV X ro E st (eval value (envOf nm sc X.L a cd)) fun u st₁ => ∃ u₀ loc', Put x u₀ u st₁.loc loc' ∧ Q .next { st₁ with loc := loc' })
    (hs : swapsWith value (some (.Name x pos')) pos.line (envOf nm sc X.L a cd) = pure false := by rfl)
    (hk : sc.kind = .function := by rfl) (hl : (envOf nm sc X.L a cd).kindOf x = some .local := by rfl) :
    TF X ro E st (exec (.Assign [.Name x pos'] value pos) (envOf nm sc X.L a cd)) Q := fun R s S =>
  wpR_Assign_Name (h.run S fun v s₁ u st₁ hu S₁ ⟨u₀, loc', hp, hq⟩ => (store_local hp hu hq hk hl).run S₁ fun _ s₂ _ st₂ _ S₂ h₂ => ⟨.next, st₂, rfl, S₂, h₂⟩) hs
theorem AugAssign' {x pos' op value pos} {u : V} {Q : Fl → St → Prop} (hu : Has x u st.loc)
    (h : TV X ro E st (eval value (envOf nm sc X.L a cd)) fun b st₁ => Op2 X ro E (inplaceOp op) u b st₁ fun r st₂ => ∃ u₀ loc', Put x u₀ r st₂.loc loc' ∧ Q .next { st₂ with loc := loc' })
    (hk' : u.known = true := by rfl)
    (hk : sc.kind = .function := by rfl) (hl : (envOf nm sc X.L a cd).kindOf x = some .local := by rfl) :
    TF X ro E st (exec (.AugAssign (.Name x pos') op value pos) (envOf nm sc X.L a cd)) Q := fun R s S =>
  wpR_AugAssign_Name ((load_local (Q := fun b st₁ => b = u ∧ st₁ = st) hu ⟨rfl, rfl⟩ hk' hk hl).run S fun v s₁ u' st₁ hv S₁ ⟨e1, e2⟩ => by
    subst e1 e2
    exact h.run S₁ fun w s₂ b st₂ hb S₂ h₂ => (h₂ v w hv hb).run S₂ fun r s₃ c st₃ hc S₃ ⟨u₀, loc', hp, hq⟩ => (store_local hp hc hq hk hl).run S₃ fun _ s₄ _ st₄ _ S₄ h₄ => ⟨.next, st₄, rfl, S₄, h₄⟩)
theorem If' {test body orelse pos} {Q : Fl → St → Prop}
    (h : TB X ro E st (isTrue test env (eval test env)) fun c st₁ => (c = true → TF X ro E st₁ (execs body env) Q) ∧ (c = false → TF X ro E st₁ (execs orelse env) Q)) :
    TF X ro E st (exec (.If test body orelse pos) env) Q := fun R s S =>
  wpR_If (h.run S fun c s₁ b st₁ e S₁ h₁ => by
    subst e
    cases c
    · exact h₁.2 rfl R s₁ S₁
    · exact h₁.1 rfl R s₁ S₁)
theorem Return' {e pos} {Q : Fl → St → Prop} (h : TV X ro E st (eval e env) fun u st₁ => Q (.ret u) st₁) : TF X ro E st (exec (.Return (some e) pos) env) Q := fun R s S =>
  wpR_Return_some (h.run S fun v s₁ u st₁ hu S₁ h₁ => ⟨.ret u, st₁, ⟨v, rfl, hu⟩, S₁, h₁⟩)
theorem Break' {pos} {Q : Fl → St → Prop} (h : Q .brk st) : TF X ro E st (exec (.Break pos) env) Q := fun R s S => wpR_of (wpAny_Break ⟨.brk, st, rfl, S, h⟩)
/-- an expression statement whose value is None -/
theorem Expr' {e pos} {Q : Fl → St → Prop} (h : TV X ro E st (eval e env) fun u st₁ => u = .none ∧ Q .next st₁)
    (hi : interactive env = false := by rfl) (hs : swapsWith e none pos.line env = pure false := by rfl) : TF X ro E st (exec (.Expr e pos) env) Q := fun R s S =>
  wpR_Expr (h.run S fun v s₁ u st₁ hu S₁ ⟨e, h₁⟩ => by subst e; cases hu; exact ⟨.next, st₁, rfl, S₁, h₁⟩) hi hs

/-- calls -/
theorem Call' {func args pos} {Q : V → St → Prop}
    (h : TV X ro E st (eval func env) fun f st₁ => ∀ v, f.Is v → TV X ro E st₁ (callWith pos v [] (backTo pos (starEach args env)) []) Q)
    (he : eval (.Call func args [] pos) env = (do callWith pos (← eval func env) [] (backTo pos (starEach args env)) (backToKw pos (keywordEach [] env))) := by rfl) :
    TV X ro E st (eval (.Call func args [] pos) env) Q := fun R s S =>
  wpR_Call (h.run S fun v s₁ f st₁ hf S₁ h₁ => h₁ v hf R s₁ S₁) he
theorem args_nil' {pos : Pos} {Q : List V → St → Prop} (h : Q [] st) : TL X ro E st (spliced (backTo pos (starEach [] env))) Q := fun R s S => wpR_of (args_nil ⟨[], st, .nil, S, h⟩)
theorem args_cons' {e : Expr} {rest : List Expr} {pos : Pos} {Q : List V → St → Prop}
    (h : TV X ro E st (eval e env) fun u st₁ => TL X ro E st₁ (spliced (backTo pos (starEach rest env))) fun us st₂ => Q (u :: us) st₂)
    (he : starEach (e :: rest) env = (false, eval e env) :: starEach rest env := by rfl) : TL X ro E st (spliced (backTo pos (starEach (e :: rest) env))) Q := fun R s S =>
  args_consR (h.run S fun v s₁ u st₁ hu S₁ h₁ => h₁.run S₁ fun vs s₂ us st₂ hus S₂ h₂ => ⟨u :: us, st₂, .cons hu hus, S₂, h₂⟩) he
theorem callT {T : String} {e : Expr} {rest : List Expr} {pos : Pos} {Q : V → St → Prop}
    (h : TL X ro E st (spliced (backTo pos (starEach (e :: rest) env))) fun us st₁ => OpN X ro E (fun vs => call (.type T) vs) us st₁ Q)
    (he : starEach (e :: rest) env = (false, eval e env) :: starEach rest env := by rfl)
    (hplain : (backTo pos (starEach rest env)).any (·.1) = false := by rfl) :
    ∀ v, (V.raw (.type T)).Is v → TV X ro E st (callWith pos v [] (backTo pos (starEach (e :: rest) env)) []) Q := fun v hv R s S => by
  cases hv
  rw [he] at h ⊢
  exact callWith_typeR (by show (false || (backTo pos (starEach rest env)).any (·.1)) = false; rw [hplain]; rfl) (evalArgs_plainR (h.run S fun vs s₁ us st₁ hus S₁ h₁ => h₁ vs hus R s₁ S₁))
theorem callT0 {T : String} {pos : Pos} {Q : V → St → Prop} (h : OpN X ro E (fun vs => call (.type T) vs) [] st Q) :
    ∀ v, (V.raw (.type T)).Is v → TV X ro E st (callWith pos v [] (backTo pos (starEach [] env)) []) Q := fun v hv R s S => by
  cases hv
  exact callWith_typeR rfl (wpR_of (evalArgs_nil3 (h [] .nil R s S)))
theorem callB {id : String} {e : Expr} {rest : List Expr} {pos : Pos} {Q : V → St → Prop}
    (h : TL X ro E st (spliced (backTo pos (starEach (e :: rest) env))) fun us st₁ => OpN X ro E (fun vs => call (.builtin id) vs) us st₁ Q)
    (he : starEach (e :: rest) env = (false, eval e env) :: starEach rest env := by rfl)
    (hplain : (backTo pos (starEach rest env)).any (·.1) = false := by rfl) :
    ∀ v, (V.raw (.builtin id)).Is v → TV X ro E st (callWith pos v [] (backTo pos (starEach (e :: rest) env)) []) Q := fun v hv R s S => by
  cases hv
  rw [he] at h ⊢
  exact callWith_builtinR (by show (false || (backTo pos (starEach rest env)).any (·.1)) = false; rw [hplain]; rfl) (evalArgs_plainR (h.run S fun vs s₁ us st₁ hus S₁ h₁ => h₁ vs hus R s₁ S₁))
theorem callF {f : Addr} {o : Obj} {fd : FuncData} {e : Expr} {rest : List Expr} {pos : Pos} {Q : V → St → Prop} (ho : X.B.get? f = some o) (hd : o.data = .func fd)
    (h : TL X ro E st (spliced (backTo pos (starEach (e :: rest) env))) fun us st₁ => OpN X ro E (fun vs => call (.ref f) vs) us st₁ Q)
    (he : starEach (e :: rest) env = (false, eval e env) :: starEach rest env := by rfl)
    (hplain : (backTo pos (starEach rest env)).any (·.1) = false := by rfl) :
    ∀ v, (V.raw (.ref f)).Is v → TV X ro E st (callWith pos v [] (backTo pos (starEach (e :: rest) env)) []) Q := fun v hv R s S => by
  cases hv
  rw [he] at h ⊢
  exact callWith_functionR (o := o) (fd := fd) (by show (false || (backTo pos (starEach rest env)).any (·.1)) = false; rw [hplain]; rfl) (evalArgs_plainR (h.run S fun vs s₁ us st₁ hus S₁ h₁ => ⟨⟨S₁.keepB _ _ ho, hd⟩, h₁ vs hus R s₁ S₁⟩))

/-- ints -/
theorem add_int' {i j : Int} {Q : V → St → Prop} (h : Q (.int (i + j)) st) : Op2 X ro E (binaryOp .Add) (.int i) (.int j) st Q := by
  rintro v w ⟨t, rfl⟩ ⟨u, rfl⟩ R s S
  exact wpR_of (PyProof.Rows.add_int ⟨.int (i + j), st, ⟨_, rfl⟩, S.toks, h⟩)
theorem iadd_int' {i j : Int} {Q : V → St → Prop} (h : Q (.int (i + j)) st) : Op2 X ro E (inplaceOp .Add) (.int i) (.int j) st Q := by
  rintro v w ⟨t, rfl⟩ ⟨u, rfl⟩ R s S
  exact wpR_of (PyProof.Rows.iadd_int ⟨.int (i + j), st, ⟨_, rfl⟩, S.toks, h⟩)
theorem sub_int' {i j : Int} {Q : V → St → Prop} (h : Q (.int (i - j)) st) : Op2 X ro E (binaryOp .Sub) (.int i) (.int j) st Q := by
  rintro v w ⟨t, rfl⟩ ⟨u, rfl⟩ R s S
  exact wpR_of (PyProof.Rows.sub_int ⟨.int (i - j), st, ⟨_, rfl⟩, S.toks, h⟩)
theorem div_int' {i j : Int} {Q : V → St → Prop} (hj : 0 < j ∧ j < 1073741824) (h : Q (.int (i / j)) st) : Op2 X ro E (binaryOp .FloorDiv) (.int i) (.int j) st Q := by
  rintro v w ⟨t, rfl⟩ ⟨u, rfl⟩ R s S
  refine wpR_of (PyProof.Rows.floordiv_int (by omega) ⟨.int (i / j), st, ⟨s.toks, ?_⟩, S.toks, h⟩ (.inl (PyProof.noPylong_small (by omega))))
  rw [Int.fdiv_eq_ediv_of_nonneg _ (by omega)]
theorem mod_int' {i j : Int} {Q : V → St → Prop} (hj : 0 < j) (h : Q (.int (i % j)) st) : Op2 X ro E (binaryOp .Mod) (.int i) (.int j) st Q := by
  rintro v w ⟨t, rfl⟩ ⟨u, rfl⟩ R s S
  refine wpR_of (PyProof.Rows.mod_int' (by omega) ⟨.int (i % j), st, ⟨s.toks, ?_⟩, S.toks, h⟩)
  rw [Int.fmod_eq_emod_of_nonneg _ (by omega)]
theorem eq_int' {i j : Int} {Q : V → St → Prop} (h : Q (.bool (decide (i = j))) st) : Op2 X ro E (compareOp .Eq) (.int i) (.int j) st Q := by
  rintro v w ⟨t, rfl⟩ ⟨u, rfl⟩ R s S
  refine wpR_of (PyProof.Rows.eq_int ⟨.bool (decide (i = j)), st, ?_, S, h⟩)
  show Value.bool (i == j) = Value.bool (decide (i = j)); rfl
theorem ne_int' {i j : Int} {Q : V → St → Prop} (h : Q (.bool (decide (i ≠ j))) st) : Op2 X ro E (compareOp .NotEq) (.int i) (.int j) st Q := by
  rintro v w ⟨t, rfl⟩ ⟨u, rfl⟩ R s S
  refine wpR_of (PyProof.Rows.ne_int ⟨.bool (decide (i ≠ j)), st, ?_, S, h⟩)
  show Value.bool (i != j) = Value.bool (decide (i ≠ j)); simp [bne, BEq.beq]
theorem lt_int' {i j : Int} {Q : V → St → Prop} (h : Q (.bool (decide (i < j))) st) : Op2 X ro E (compareOp .Lt) (.int i) (.int j) st Q := by
  rintro v w ⟨t, rfl⟩ ⟨u, rfl⟩ R s S
  exact wpR_of (PyProof.Rows.lt_int ⟨.bool (decide (i < j)), st, rfl, S, h⟩)
theorem gt_int' {i j : Int} {Q : V → St → Prop} (h : Q (.bool (decide (j < i))) st) : Op2 X ro E (compareOp .Gt) (.int i) (.int j) st Q := by
  rintro v w ⟨t, rfl⟩ ⟨u, rfl⟩ R s S
  exact wpR_of (PyProof.Rows.gt_int ⟨.bool (decide (j < i)), st, rfl, S, h⟩)
theorem neg_int' {i : Int} {Q : V → St → Prop} (h : Q (.int (-i)) st) : Op1 X ro E (unaryOp .USub) (.int i) st Q := by
  rintro v ⟨t, rfl⟩ R s S
  exact wpR_of (PyProof.Rows.neg_int ⟨.int (-i), st, ⟨_, rfl⟩, S.toks, h⟩)
theorem truthy_bool' {b : Bool} {Q : Bool → St → Prop} (h : Q b st) : OpB X ro E truthy (.bool b) st Q := by
  rintro v rfl R s S
  exact wpR_of (wpAny_truthy_bool ⟨b, st, rfl, S, h⟩)
end
end Mine
end
section
open PySem PySem.W PyProof.Rows PySem.Calls
set_option Elab.async false
set_option maxRecDepth 100000
set_option linter.unusedVariables false
namespace Mine

def Kn (ro : Led) (st : St) (a : Addr) (c : Cell) : Prop := Has a c st.own ∨ Has a c ro

/-- Python's slice without a step -/
def clipNat (v : Option Int) (d n : Nat) : Nat := match v with
  | none => d
  | some i => (max 0 (min (if i < 0 then i + n else i) n)).toNat
def pslice {α : Type} (lo hi : Option Int) (xs : List α) : List α :=
  (xs.drop (clipNat lo 0 xs.length)).take (clipNat hi xs.length xs.length - clipNat lo 0 xs.length)

theorem clip_nat (k d n : Nat) : clipNat (some (k : Int)) d n = min k n := by
  show (max 0 (min (if (k : Int) < 0 then (k : Int) + n else k) n)).toNat = min k n
  rw [if_neg (Int.not_lt.mpr (Int.natCast_nonneg k))]
  rcases Nat.le_total k n with h | h
  · rw [Int.min_eq_left (Int.ofNat_le.mpr h), Nat.min_eq_left h, Int.max_eq_right (Int.natCast_nonneg _), Int.toNat_natCast]
  · rw [Int.min_eq_right (Int.ofNat_le.mpr h), Nat.min_eq_right h, Int.max_eq_right (Int.natCast_nonneg _), Int.toNat_natCast]

theorem slicePick_eq (items : Array Value) (lo hi : Option Int) : slicePick items lo hi none = (pslice lo hi items.toList).toArray := by
  have e : sliceBounds lo hi none items.size = (((clipNat lo 0 items.size : Nat) : Int), ((clipNat hi items.size items.size : Nat) : Int), 1) := by
    unfold sliceBounds clipNat
    cases lo <;> cases hi <;> simp <;> omega
  unfold slicePick
  rw [e]
  simp only [sliceRange_one, pick_run]
  simp [pslice]

theorem pslice_length_le {α : Type} (lo hi : Option Int) (xs : List α) : (pslice lo hi xs).length ≤ xs.length := by
  simp only [pslice, List.length_take, List.length_drop]; omega
theorem pslice_map {α β : Type} (f : α → β) (lo hi : Option Int) (xs : List α) : pslice lo hi (xs.map f) = (pslice lo hi xs).map f := by
  simp [pslice, List.map_take, List.map_drop]
theorem All2.pslice {us vs} (h : All2 us vs) (lo hi : Option Int) : All2 (Mine.pslice lo hi us) (Mine.pslice lo hi vs) := by
  unfold Mine.pslice; rw [h.length]; exact (h.drop _).take _

/-- an index, as Python counts it -/
def pidx (k : Int) (n : Nat) : Nat := if k < 0 then (k + n).toNat else k.toNat

section
variable {X : Cx} {ro : Led} {E : Er} {st : St} {nm : Str} {sc : Scope} {a : Addr} {cd : Value} {env : Env} {R : Heap} {s : Shared}

theorem Sat.at (S : Sat X ro st R s) {a c} (h : Kn ro st a c) : At s.heap a c := h.elim S.at_own S.at_ro

theorem List' {elts pos} {Q : V → St → Prop} (h : TL X ro E st (spliced (backTo pos (starEach elts env))) fun us st₁ => us.length ≤ 16777216 ∧ ∀ l, Q (.ref l) { st₁ with own := (l, .list us) :: st₁.own }) :
    TV X ro E st (eval (.List elts pos) env) Q := fun R s S =>
  wpR_List (h.run S fun vs s₁ us st₁ hu S₁ ⟨hl, hq⟩ => ⟨by rw [← hu.length]; exact hl, ⟨.ref s₁.heap.objs.size, _, rfl, S₁.push (c := .list us) ⟨_, 0, rfl, by simpa using hu⟩, hq _⟩⟩)
theorem Tuple' {elts k pos} {Q : V → St → Prop} (h : TL X ro E st (spliced (backTo pos (starEach elts env))) fun us st₁ => us.length ≤ 16777216 ∧ ∀ l, Q (.ref l) { st₁ with own := (l, .tup us) :: st₁.own }) :
    TV X ro E st (eval (.Tuple elts k pos) env) Q := fun R s S =>
  wpR_Tuple (h.run S fun vs s₁ us st₁ hu S₁ ⟨hl, hq⟩ => ⟨by rw [← hu.length]; exact hl, ⟨.ref s₁.heap.objs.size, _, rfl, S₁.push (c := .tup us) ⟨_, rfl, by simpa using hu⟩, hq _⟩⟩)

/-- subscripts -/
def Sub (X : Cx) (ro : Led) (E : Er) (o i : V) (st : St) (Q : V → St → Prop) : Prop :=
  ∀ vo vi, o.Is vo → i.Is vi → ∀ R s, Sat X ro st R s → (∃ T id, s.TypeIs vo T ∧ typeLookup (.type T) "__getitem__" = pure (some (.builtin id))) ∧
    wpR (model X.prog X.w) X.A (getItem vo vi) (fun a s' => ∃ b st', V.Is b a ∧ Sat X ro st' R s' ∧ Q b st') (E R) s
theorem Subscript' {value slice pos} {Q : V → St → Prop} (h : TV X ro E st (eval value env) fun o st₁ => TV X ro E st₁ (eval slice env) fun i st₂ => Sub X ro E o i st₂ Q)
    (hs : ∀ o i, subscripted slice false o i = operate [o, i] (getItem o i) := by intro _ _; rfl) :
    TV X ro E st (eval (.Subscript value slice pos) env) Q := fun R s S =>
  SubscriptR (h.run S fun vo s₁ o st₁ ho S₁ h₁ => h₁.run S₁ fun vi s₂ i st₂ hi S₂ h₂ => by
    obtain ⟨⟨T, id, hT, hl⟩, hg⟩ := h₂ vo vi ho hi R s₂ S₂
    unfold subscriptTail
    refine wpR_bind ?_
    rw [getitemInPython_of_ne hT.not_modules]
    refine wpR_bind (wpR_of (wpAny_specialOf hT hl ?_))
    have fin : wpR (model X.prog X.w) X.A (subscripted slice false vo vi) (fun r s₃ => wpR (model X.prog X.w) X.A (letTemporaryGo value vo r >>= fun _ => pure r) (fun a s' => ∃ b st', V.Is b a ∧ Sat X ro st' R s' ∧ Q b st') (E R) s₃) (E R) s₂ := by
      rw [hs]
      exact wpR_operate (wpR_mono hg (fun r s₃ h₃ => wpR_bind (wpR_of (wpAny_letTemporaryGo (wpR_pure h₃)))) fun _ _ x => x)
    first
      | exact wpR_pure (wpR_bind fin)
      | exact wpR_bind (wpR_pure (wpR_bind fin))
      | exact wpR_bind fin)

def Part (X : Cx) (ro : Led) (E : Er) (env : Env) (e : Option Expr) (st : St) (Q : Option Int → St → Prop) : Prop := match e with
  | none => Q none st
  | some e => TV X ro E st (eval e env) fun u st₁ => ∃ i, u = .int i ∧ Q (some i) st₁
def SubS (X : Cx) (ro : Led) (E : Er) (o : V) (lo hi : Option Int) (st : St) (Q : V → St → Prop) : Prop :=
  ∀ vo vl vu sl, o.Is vo → IsPart vl lo → IsPart vu hi → ∀ R s, Sat X ro st R s → s.heap.IsSliceOf sl vl vu .none → (∃ T id, s.TypeIs vo T ∧ typeLookup (.type T) "__getitem__" = pure (some (.builtin id))) ∧
    wpR (model X.prog X.w) X.A (getItem vo (.ref sl)) (fun a s' => ∃ b st', V.Is b a ∧ Sat X ro st' R s' ∧ Q b st') (E R) s
theorem Part.run {e : Option Expr} {Q : Option Int → St → Prop} {P : Value → Shared → Prop} (h : Part X ro E env e st Q) (S : Sat X ro st R s)
    (k : ∀ v s' i st', IsPart v i → Sat X ro st' R s' → Q i st' → P v s') : wpR (model X.prog X.w) X.A (evalPart e env) P (E R) s := by
  cases e with
  | none => exact wpR_pure (k _ _ none st .none S h)
  | some e => exact TT.run h S fun v s' u st' hu S' ⟨i, e', hq⟩ => by subst e'; obtain ⟨t, rfl⟩ := hu; exact k _ _ (some i) st' (.int i t) S' hq
theorem SubSlice' {value lower upper p pos} {Q : V → St → Prop} (h : TV X ro E st (eval value env) fun o st₁ => Part X ro E env lower st₁ fun lo st₂ => Part X ro E env upper st₂ fun hi st₃ => SubS X ro E o lo hi st₃ Q) :
    TV X ro E st (eval (.Subscript value (.Slice lower upper none p) pos) env) Q := fun R s S =>
  SubscriptR (h.run S fun vo s₁ o st₁ ho S₁ h₁ => wpR_Slice (h₁.run S₁ fun vl s₂ lo st₂ hl S₂ h₂ => h₂.run S₂ fun vu s₃ hi st₃ hu S₃ h₃ => by
    rw [evalPart_none]
    refine wpR_pure ?_
    have S₄ : Sat X ro st₃ R { s₃ with heap := s₃.heap.push { cls := .type "slice", data := .fields #[vl, vu, .none] } } := S₃.keeps (tk := s₃.toks) fun b o e => Heap.get?_push_of_some _ e
    obtain ⟨⟨T, id, hT, hl'⟩, hg⟩ := h₃ vo vl vu _ ho hl hu R _ S₄ (Heap.IsSliceOf.new ..)
    unfold subscriptTail
    refine wpR_bind ?_
    rw [getitemInPython_of_ne hT.not_modules]
    refine wpR_bind (wpR_of (wpAny_specialOf hT hl' ?_))
    have fin : wpR (model X.prog X.w) X.A (operate [.ref s₃.heap.objs.size, vo] (getItem vo (.ref s₃.heap.objs.size))) (fun r s₃ => wpR (model X.prog X.w) X.A (letTemporaryGo value vo r >>= fun _ => pure r) (fun a s' => ∃ b st', V.Is b a ∧ Sat X ro st' R s' ∧ Q b st') (E R) s₃) (E R) _ :=
      wpR_operate (wpR_mono hg (fun r s₃ h₃ => wpR_bind (wpR_of (wpAny_letTemporaryGo (wpR_pure h₃)))) fun _ _ x => x)
    first
      | exact wpR_pure (wpR_bind fin)
      | exact wpR_bind (wpR_pure (wpR_bind fin))
      | exact wpR_bind fin))

theorem get_list {l : Addr} {us : List V} {k : Int} {u : V} {Q : V → St → Prop} (hl : Kn ro st l (.list us)) (hk : -4294967296 ≤ k ∧ k < 4294967296) (h0 : -(us.length : Int) ≤ k)
    (hx : us[pidx k us.length]? = some u) (hq : Q u st) {vi : Value} (hi : (V.int k).Is vi) (S : Sat X ro st R s) :
    s.TypeIs (.ref l) "list" ∧ wpR (model X.prog X.w) X.A (getItem (.ref l) vi) (fun a s' => ∃ b st', V.Is b a ∧ Sat X ro st' R s' ∧ Q b st') (E R) s := by
  obtain ⟨t, rfl⟩ := hi
  obtain ⟨ws, hL, hw⟩ := (S.at hl).isList
  refine ⟨hL.typeIs, ?_⟩
  obtain ⟨v, hv, hu⟩ := hw.get hx
  have hn : us.length = ws.size := by simpa using hw.length
  rw [Array.getElem?_toList] at hv
  by_cases h : k < 0
  · refine wpR_of (wpAny_getItem_list_neg hL h (by omega) (by omega) ?_ ⟨u, st, hu, S, hq⟩)
    rw [pidx, if_pos h, hn] at hv; exact hv
  · refine wpR_of (wpAny_getItem_list hL (by omega) (by omega) ?_ ⟨u, st, hu, S, hq⟩)
    rw [pidx, if_neg h] at hv; exact hv
theorem sub_list {l : Addr} {us : List V} {k : Int} {u : V} {Q : V → St → Prop} (hl : Kn ro st l (.list us)) (hk : -4294967296 ≤ k ∧ k < 4294967296) (h0 : -(us.length : Int) ≤ k)
    (hx : us[pidx k us.length]? = some u) (hq : Q u st) : Sub X ro E (.ref l) (.int k) st Q := by
  rintro vo vi rfl hi R s S
  obtain ⟨h1, h2⟩ := get_list (E := E) hl hk h0 hx hq hi S
  exact ⟨⟨_, _, h1, slot_list_getitem.lookup⟩, h2⟩
theorem subs_list {l : Addr} {us : List V} {lo hi : Option Int} {Q : V → St → Prop} (hl : Kn ro st l (.list us)) (hsz : us.length ≤ 16777216)
    (hq : ∀ l', Q (.ref l') { st with own := (l', .list (pslice lo hi us)) :: st.own }) : SubS X ro E (.ref l) lo hi st Q := by
  rintro vo vl vu sl rfl pl pu R s S hs
  obtain ⟨ws, hL, hw⟩ := (S.at hl).isList
  have hn : us.length = ws.size := by simpa using hw.length
  refine ⟨⟨_, _, hL.typeIs, slot_list_getitem.lookup⟩, wpR_of (wpAny_getItem_list_slice hL hs pl pu .none (by simp) ?_ (by rw [← hn]; exact hsz))⟩
  refine ⟨.ref s.heap.objs.size, _, rfl, S.push (c := .list (pslice lo hi us)) ⟨_, 0, rfl, ?_⟩, hq _⟩
  rw [slicePick_eq]; simpa using hw.pslice lo hi

/-- storing an item -/
theorem set_list {l : Addr} {us : List V} {k : Int} {u : V} {own' : Led} {Q : St → Prop} (U : Put l (.list us) (.list (us.set (pidx k us.length) u)) st.own own') (hk : -4294967296 ≤ k ∧ k < 4294967296) (h0 : -(us.length : Int) ≤ k) (h1 : k < us.length)
    (hq : Q { st with own := own' }) {vi v : Value} (hi : (V.int k).Is vi) (hv : u.Is v) (S : Sat X ro st R s) :
    wpR (model X.prog X.w) X.A (setItem (.ref l) vi v) (fun _ s' => ∃ st', Sat X ro st' R s' ∧ Q st') (E R) s := by
  obtain ⟨t, rfl⟩ := hi
  obtain ⟨ws, n, hl, hw⟩ := (S.at_own U.has).isL
  have hL := hl.isList
  have hn : us.length = ws.size := by simpa using hw.length
  have fin : ∀ j, j = pidx k us.length → ∃ st', Sat X ro st' R { s with heap := s.heap.update l (Obj.mapSeq (·.setIfInBounds j v)) } ∧ Q st' := by
    rintro j rfl
    refine ⟨_, S.upd U ⟨_, Heap.get?_update_self _ hl rfl, ⟨_, _, rfl, ?_⟩⟩ (fun b o hb e => (Heap.get?_update_other _ _ (Ne.symm hb)).trans e) (tk := s.toks), hq⟩
    rw [Array.toList_setIfInBounds]
    exact hw.set hv _
  obtain ⟨o, ho, hc, ne, hd⟩ := id hL
  refine wpR_of ?_
  unfold setItem
  try with_reducible refine wpAny_holding ?_
  first | refine wpAny_bind (wpAny_pure ?_) | skip
  refine wpAny_bind (wpAny_sequenceKey hL.typeIs (by decide) ?_)
  refine wpAny_bind (wpAny_callSpecial?_slot (name := Str.ofString "__setitem__") hL.typeIs slot_list_setitem
    (wpAny_call_entry slot_list_setitem hL.typeIs entry_list_setitem ?_ (args_list_setitem _ _ _)))
  show wpAny _ _ (Builtin.List.listSubscript? (.int k t) >>= _) _ _ s
  by_cases h : k < 0
  · refine wpAny_bind (wpAny_listSubscript_int (fitsIndex_neg h (by omega)) ?_)
    have hidx := seqIndex_neg h (n := ws.size) (by omega)
    have hp : pidx k us.length = (k + ws.size).toNat := by rw [pidx, if_pos h, hn]
    obtain ⟨j, rfl⟩ : ∃ j : Nat, k = Int.negSucc j := by
      cases k with
      | ofNat n => exact absurd h (Int.not_lt.mpr (Int.natCast_nonneg n))
      | negSucc n => exact ⟨n, rfl⟩
    show wpAny _ _ ((Builtin.List.listItems (.ref l) >>= fun xs => pure ((seqIndex? (Int.negSucc j) xs.size).bind fun i => xs[i]?.map (i, ·))) >>= _) _ _ s
    refine wpAny_bind (wpAny_bind ?_)
    show wpAny _ _ (seqItems? (.ref l) >>= _) _ _ s
    refine wpAny_bind (wpAny_seqItems ho hd (wpAny_pure (wpAny_pure ?_)))
    rw [hidx]
    have hlt : (Int.negSucc j + ws.size).toNat < ws.size := by omega
    simp only [Option.bind_some, Array.getElem?_eq_getElem hlt, Option.map_some]
    show wpAny _ _ (setSeqItemAt l _ v >>= _) _ _ s
    refine wpAny_bind (wpAny_setSeqItemAt ho hd ?_)
    first
      | exact wpAny_bind (wpAny_pure (wpAny_pure ⟨.none, rfl, wpAny_pure (fin _ hp.symm)⟩))
      | exact wpAny_pure ⟨.none, rfl, wpAny_pure (fin _ hp.symm)⟩
  · refine wpAny_bind (wpAny_listSubscript_int (fitsIndex_of (by omega) (by omega)) ?_)
    have hp : pidx k us.length = k.toNat := by rw [pidx, if_neg h]
    obtain ⟨j, rfl⟩ := Int.eq_ofNat_of_zero_le (Int.not_lt.mp h)
    have hj : j < ws.size := by omega
    have hx' : ws[j]? = some ws[j] := Array.getElem?_eq_getElem hj
    show wpAny _ _ ((seqItemAt l j >>= fun r => pure (r.map (j, ·))) >>= _) _ _ s
    refine wpAny_bind (wpAny_bind (wpAny_seqItemAt ho hd (wpAny_pure ?_)))
    rw [hx']
    show wpAny _ _ (setSeqItemAt l j v >>= _) _ _ s
    refine wpAny_bind (wpAny_setSeqItemAt ho hd ?_)
    first
      | exact wpAny_bind (wpAny_pure (wpAny_pure ⟨.none, rfl, wpAny_pure (fin _ hp.symm)⟩))
      | exact wpAny_pure ⟨.none, rfl, wpAny_pure (fin _ hp.symm)⟩

/-- xs[k] op= value, for a list -/
theorem AugSub' {o i value tpos pos op} {Q : Fl → St → Prop}
    (h : TV X ro E st (eval o env) fun ov st₁ => TV X ro E st₁ (eval i env) fun iv st₂ => ∃ l us k u, ov = .ref l ∧ iv = .int k ∧ Kn ro st₂ l (.list us) ∧ (-4294967296 ≤ k ∧ k < 4294967296) ∧ -(us.length : Int) ≤ k ∧ us[pidx k us.length]? = some u ∧
      TV X ro E st₂ (eval value env) fun b st₃ => Op2 X ro E (inplaceOp op) u b st₃ fun r st₄ => ∃ us' own', Put l (.list us') (.list (us'.set (pidx k us'.length) r)) st₄.own own' ∧ -(us'.length : Int) ≤ k ∧ k < us'.length ∧ Q .next { st₄ with own := own' })
    (hi : ∀ ov iv new, augStore i ov iv new = (do holding [new, ov, iv] (setItem ov iv new); release [new, ov, iv] []; pure .next) := by intros; rfl) :
    TF X ro E st (exec (.AugAssign (.Subscript o i tpos) op value pos) env) Q := fun R s S =>
  wpR_AugAssign_Sub (h.run S fun vo s₁ ov st₁ ho S₁ h₁ => h₁.run S₁ fun vi s₂ iv st₂ hi S₂ h₂ => by
    obtain ⟨l, us, k, u, rfl, rfl, hl, hk, h0, hx, h₃⟩ := h₂
    cases ho
    refine wpR_mono (get_list (E := E) (Q := fun b st' => b = u ∧ st' = st₂) hl hk h0 hx ⟨rfl, rfl⟩ hi S₂).2 (fun old s₃ h => ?_) fun _ _ e => e
    obtain ⟨b, st', hb, S₃, rfl, rfl⟩ := h
    exact h₃.run S₃ fun w s₄ b st₄ hw S₄ h₄ => (h₄ old w hb hw).run S₄ fun new s₅ r st₅ hr S₅ ⟨us', own', U, h0', h1', hq⟩ =>
      wpR_mono (set_list (E := E) (Q := fun st' => Q .next st') U hk h0' h1' hq hi hr S₅) (fun _ s' ⟨st', S', hq'⟩ => ⟨.next, st', rfl, S', hq'⟩) fun _ _ e => e) hi

/-- methods of one argument -/
theorem append_list' {o e apos pos} {pl : Sem Bool} {Q : V → St → Prop}
    (h : TV X ro E st (eval o env) fun ov st₁ => ∃ l us, ov = .ref l ∧ Kn ro st₁ l (.list us) ∧ TV X ro E st₁ (eval e env) fun u st₂ => ∃ us own', Put l (.list us) (.list (us ++ [u])) st₂.own own' ∧ us.length ≤ 16777216 ∧ Q .none { st₂ with own := own' })
    (he : starEach [e] env = (false, eval e env) :: starEach [] env := by rfl)
    (he' : eval (.Call (.Attribute o "append" apos) [e] [] pos) env = (do
      let ov ← eval o env
      standAt apos.atName
      let (f, first) ← holding [ov] (getMethod ov "append" pl)
      callWith pos f first (backTo pos (starEach [e] env)) []) := by rfl) :
    TV X ro E st (eval (.Call (.Attribute o "append" apos) [e] [] pos) env) Q := fun R s S =>
  MethodCallR (pl := pl) (h.run S fun vo s₁ ov st₁ ho S₁ ⟨l, us₀, e1, hl, h₁⟩ => by
    subst e1
    cases ho
    obtain ⟨ws, n, hL, hw⟩ := (S₁.at hl).isL
    refine wpR_of (getMethod_list_append hL rfl rfl ?_)
    rw [he]
    refine callWith_builtinR rfl ?_
    refine evalArgs_plainR (spliced_consR (h₁.run S₁ fun v s₂ u st₂ hu S₂ ⟨us, own', U, hsz, hq⟩ => wpR_of (spliced_nil ?_)))
    obtain ⟨ws, n, hL, hw⟩ := (S₂.at_own U.has).isL
    have hn : us.length = ws.size := by simpa using hw.length
    refine wpR_of (call_meets F.slot_list_append ⟨_, hL, rfl⟩ F.entry_list_append (F.args_list_append_2 _ _) (PySem.list_append l ws n v (by rw [← hn]; exact hsz)) ⟨hL, .none, _, rfl, S₂.upd U ⟨_, Heap.get?_update_self _ hL rfl, ⟨_, _, rfl, ?_⟩⟩ (fun b o hb e => (Heap.get?_update_other _ _ (Ne.symm hb)).trans e), hq⟩)
    rw [Array.toList_push]; exact hw.append (.cons hu .nil)) he'
end
end Mine
end
section
open PySem PySem.W PyProof.Rows PySem.Calls
set_option Elab.async false
set_option maxRecDepth 100000
set_option linter.unusedVariables false
namespace Mine
section
variable {prog : Program} {w : World} {A : Around} {E : Value → Shared → Prop} {s : Shared}
/-- a binary operation that no number slot takes, for two types -/
theorem binaryOp1_none2 {M : Model} {a b : Value} {T U nm : String} {Q : Option Value → Shared → Prop} (ha : s.TypeIs a T) (hb : s.TypeIs b U)
    (hfa : fillsNumberSlot (.type T) nm = pure false) (hfb : fillsNumberSlot (.type U) nm = pure false) (h : Q none s) : wpAny M A (binaryOp1 nm a b) Q E s := by
  unfold binaryOp1
  refine wpAny_bind (wpAny_typeOf ha (wpAny_bind (wpAny_typeOf hb (wpAny_bind (wpAny_of_eq hfa ?_)))))
  by_cases h1 : (Value.type T == Value.type U) = true
  · rw [if_pos h1]
    refine wpAny_bind (wpAny_pure ?_)
    show wpAny M A (pure none) Q E s
    exact wpAny_pure h
  · rw [if_neg h1]
    refine wpAny_bind (wpAny_of_eq hfb ?_)
    show wpAny M A (pure none) Q E s
    exact wpAny_pure h
theorem inplaceOp_seq {a b : Value} {T U id : String} {Q : Value → Shared → Prop} (ha : s.TypeIs a T) (hb : s.TypeIs b U)
    (hI : typeLookup (.type T) (dunderI "add") = pure (some (.builtin id))) (hS : isSeqSlot (some (.builtin id)) = true)
    (hfa : fillsNumberSlot (.type T) "add" = pure false) (hfb : fillsNumberSlot (.type U) "add" = pure false)
    (hc : wpAny (model prog w) A (call (.builtin id) [a, b]) Q E s) : wpAny (model prog w) A (inplaceOp .Add a b) Q E s := by
  unfold inplaceOp
  refine wpAny_holding ?_
  have hfi : fillsInplaceSlot (.type T) "add" (Operator.Add == .Add) = pure false := by
    unfold fillsInplaceSlot
    show (typeLookup (.type T) (dunderI "add") >>= fun fi => pure (fi.isSome && !isSeqSlot fi)) = pure false
    rw [hI, pure_bind, hS]; rfl
  have hsi : seqSlot? (.type T) (dunderI "add") = pure (some (.builtin id)) := by
    simp only [seqSlot?, hI, pure_bind, hS]; rfl
  refine wpAny_bind (wpAny_typeOf ha (wpAny_bind (wpAny_of_eq hfi ?_)))
  show wpAny _ A (if false = true then _ else _) Q E s
  rw [if_neg Bool.false_ne_true]
  refine wpAny_bind (binaryOp1_none2 (nm := "add") ha hb hfa hfb ?_)
  refine wpAny_bind (wpAny_of_eq hsi ?_)
  exact wpAny_bind (wpAny_rule hc)
end

section
variable {X : Cx} {ro : Led} {E : Er} {st : St} {nm : Str} {sc : Scope} {a : Addr} {cd : Value} {env : Env} {R : Heap} {s : Shared}

theorem add_list' {l b : Addr} {us vs : List V} {Q : V → St → Prop} (hl : Kn ro st l (.list us)) (hb : Kn ro st b (.list vs)) (hsz : us.length + vs.length ≤ 16777216)
    (hq : ∀ l', Q (.ref l') { st with own := (l', .list (us ++ vs)) :: st.own }) : Op2 X ro E (binaryOp .Add) (.ref l) (.ref b) st Q := by
  rintro v w rfl rfl R s S
  obtain ⟨ws, n, hL, hw⟩ := (S.at hl).isL
  obtain ⟨ws2, n2, hL2, hw2⟩ := (S.at hb).isL
  have hn : us.length = ws.size := by simpa using hw.length
  have hn2 : vs.length = ws2.size := by simpa using hw2.length
  refine wpR_of (P.add_list hL hL2 ⟨.ref s.heap.objs.size, _, rfl, S.push (c := .list (us ++ vs)) ⟨_, 0, rfl, ?_⟩, hq _⟩ (by rw [← hn, ← hn2]; exact hsz))
  rw [Array.toList_append]; exact hw.append hw2

theorem iadd_list' {l b : Addr} {us vs : List V} {own' : Led} {Q : V → St → Prop} (U : Put l (.list us) (.list (us ++ vs)) st.own own') (hb : Kn ro st b (.list vs)) (hsz : us.length + vs.length ≤ 16777216)
    (hq : Q (.ref l) { st with own := own' }) : Op2 X ro E (inplaceOp .Add) (.ref l) (.ref b) st Q := by
  rintro v w rfl rfl R s S
  obtain ⟨ws, n, hL, hw⟩ := (S.at_own U.has).isL
  obtain ⟨ws2, n2, hL2, hw2⟩ := (S.at hb).isL
  have hn : us.length = ws.size := by simpa using hw.length
  have hn2 : vs.length = ws2.size := by simpa using hw2.length
  refine wpR_of ?_
  refine inplaceOp_seq (T := "list") (U := "list") ⟨_, hL, rfl⟩ ⟨_, hL2, rfl⟩ F.slot_list_iadd.lookup (by decide +kernel) noFill_list_add noFill_list_add ?_
  refine call_meets F.slot_list_iadd ⟨_, hL, rfl⟩ F.entry_list_iadd (F.args_list_iadd_2 _ _) (AutoSeq1.list___iadd___list_list_0 l ws n b ws2 n2 ?_ ?_ ?_) ⟨hL, hL2, ?_⟩
  · have : Builtin.List.listTooLong (ws.size + ws2.size) = false := by simp only [Builtin.List.listTooLong, sizeLine]; simp; omega
    rw [this]; simp
  · rw [sizeLine_eq]; omega
  · rw [sizeLine_eq]; omega
  · refine ⟨.ref l, _, rfl, S.upd U ⟨_, Heap.get?_update_self _ hL rfl, ⟨_, _, rfl, ?_⟩⟩ (fun b o hb e => (Heap.get?_update_other _ _ (Ne.symm hb)).trans e), hq⟩
    rw [Array.toList_append]; exact hw.append hw2

theorem All2.replicate {us vs} (h : All2 us vs) : ∀ n, All2 (List.replicate n us).flatten (List.replicate n vs).flatten
  | 0 => .nil
  | n + 1 => by simp only [List.replicate_succ, List.flatten_cons]; exact h.append (All2.replicate h n)
theorem foldl_app (xs : List (Array Value)) (acc : Array Value) : (xs.foldl (fun x1 x2 => x1 ++ x2) acc).toList = acc.toList ++ (xs.map (·.toList)).flatten := by
  induction xs generalizing acc with
  | nil => simp
  | cons x xs ih => rw [List.foldl_cons, ih]; simp
theorem mul_list' {l : Addr} {us : List V} {x : Int} {Q : V → St → Prop} (hl : Kn ro st l (.list us)) (hx : 0 ≤ x ∧ x < 4294967296) (hsz : us.length * x.toNat ≤ 16777216)
    (hq : ∀ l', Q (.ref l') { st with own := (l', .list (List.replicate x.toNat us).flatten) :: st.own }) : Op2 X ro E (binaryOp .Mult) (.ref l) (.int x) st Q := by
  rintro v w rfl ⟨u, rfl⟩ R s S
  obtain ⟨ws, n, hL, hw⟩ := (S.at hl).isL
  have hn : us.length = ws.size := by simpa using hw.length
  refine wpR_of ?_
  refine wpAny_binaryOp_repeat_ref (T := "list") (U := "int") (by decide) ⟨_, hL, rfl⟩ (fun s' => typeIs_int s' x u) noFill_list_mul F.fills_int_mul F.slot_int_rmul repeat_list F.slot_int_index.lookup
    (call_meets F.slot_int_rmul (typeIs_int s x u) F.entry_int_rmul (F.args_int_rmul_2 _ _) (int___rmul___int_list x u l ws n)
      ⟨hL, rfl, ⟨_, hL, rfl⟩, call_meets F.slot_list_mul ⟨_, hL, rfl⟩ F.entry_list_mul (F.args_list_mul_2 _ _)
        (AutoListH.list___mul___list_int_3 l ws n x u (by simp [Builtin.List.listFitsIndex]; omega) ?_ ?_)
        ⟨hL, .ref s.heap.objs.size, _, rfl, S.push (c := .list (List.replicate x.toNat us).flatten) ⟨_, 0, rfl, ?_⟩, hq _⟩⟩)
  · rw [← hn]; omega
  · simp only [Builtin.List.listTooLong, sizeLine]; rw [← hn]; simp; omega
  · rw [foldl_app]
    by_cases he : ws.isEmpty = true
    · have : us = [] := by
        have : us.length = 0 := by rw [hn]; simpa using he
        exact List.eq_nil_of_length_eq_zero this
      subst this
      simp [he]; exact .nil
    · simp only [he, Bool.false_eq_true, if_false, List.nil_append, List.map_replicate]
      exact hw.replicate _

theorem len_list' {l : Addr} {us : List V} {Q : V → St → Prop} (hl : Kn ro st l (.list us)) (hsz : us.length ≤ 16777216) (hq : Q (.int us.length) st) :
    OpN X ro E (fun vs => call (.builtin "len") vs) [.ref l] st Q := by
  rintro vs (_ | ⟨rfl, (_ | _)⟩) R s S
  obtain ⟨ws, hL, hw⟩ := (S.at hl).isList
  have hn : us.length = ws.size := by simpa using hw.length
  refine wpR_of (call_len_list hL (by omega) ⟨.int us.length, st, ⟨s.toks + 1, ?_⟩, S.toks, hq⟩)
  rw [hn]
theorem max_int' {i j : Int} {Q : V → St → Prop} (hh : X.A.handled = none) (hq : Q (.int (max i j)) st) : OpN X ro E (fun vs => call (.builtin "max") vs) [.int i, .int j] st Q := by
  rintro vs (_ | ⟨⟨t, rfl⟩, (_ | ⟨⟨u, rfl⟩, (_ | _)⟩)⟩) R s S
  refine wpR_of (max_two_ints hh fun h' tk hk => ⟨.int (max i j), st, ?_, S.keeps hk, hq⟩)
  split
  · rename_i h; exact ⟨u, by rw [Int.max_eq_right (by omega)]⟩
  · rename_i h; exact ⟨t, by rw [Int.max_eq_left (by omega)]⟩
theorem min_int' {i j : Int} {Q : V → St → Prop} (hh : X.A.handled = none) (hq : Q (.int (min i j)) st) : OpN X ro E (fun vs => call (.builtin "min") vs) [.int i, .int j] st Q := by
  rintro vs (_ | ⟨⟨t, rfl⟩, (_ | ⟨⟨u, rfl⟩, (_ | _)⟩)⟩) R s S
  refine wpR_of (min_two_ints hh fun h' tk hk => ⟨.int (min i j), st, ?_, S.keeps hk, hq⟩)
  split
  · rename_i h; exact ⟨u, by rw [Int.min_eq_right (by omega)]⟩
  · rename_i h; exact ⟨t, by rw [Int.min_eq_left (by omega)]⟩
end
end Mine
end
section
open PySem PySem.W PyProof.Rows PySem.Calls
set_option Elab.async false
set_option maxRecDepth 100000
set_option linter.unusedVariables false
namespace Mine

def ErOk (X : Cx) (env : Env) (E : Er) : Prop :=
  (∀ R R' e s, (∀ b o, R.get? b = some o → R'.get? b = some o) → E R' e s → E R e s) ∧ ∀ R e s, E R e s → notedR (model X.prog X.w) X.A env (cameBackR (model X.prog X.w) X.A env (E R)) e s
abbrev noE : Er := fun _ _ _ => False
theorem ErOk.none {X : Cx} {env : Env} : ErOk X env noE := ⟨fun _ _ _ _ _ h => h.elim, fun _ _ _ h => h.elim⟩

section
variable {X : Cx} {ro : Led} {E : Er} {st : St} {nm : Str} {sc : Scope} {a : Addr} {cd : Value} {env : Env} {R : Heap} {s : Shared}

def St.hid (X : Cx) (st : St) (h : Heap) : Heap := hideAll h (X.L :: (st.own.map (·.1) ++ X.outs.map (·.1)))
theorem Sat.wide (S : Sat X ro st R s) : ∀ b o, R.get? b = some o → (st.hid X s.heap).get? b = some o := fun b o e => by
  refine hideAll_get _ (S.fr b o e) fun hm => ?_
  rcases List.mem_cons.mp hm with rfl | hm
  · rw [S.frL] at e; cases e
  · rcases List.mem_append.mp hm with hm | hm
    · obtain ⟨p, hp, rfl⟩ := List.mem_map.mp hm
      rw [(S.own p hp).1] at e; cases e
    · obtain ⟨p, hp, rfl⟩ := List.mem_map.mp hm
      rw [(S.outs p hp).2.1] at e; cases e
theorem Sat.widen (S : Sat X ro st R s) : Sat X ro st (st.hid X s.heap) s where
  base := fun b o e => S.wide b o (S.base b o e)
  ros := fun p hp => (S.ros p hp).keep fun o e => S.wide _ o e
  fr := fun b o e => of_hideAll _ e
  frL := hideAll_none _ (.head _)
  own := fun p hp => ⟨hideAll_none _ (.tail _ (List.mem_append_left _ (List.mem_map.mpr ⟨p, hp, rfl⟩))), (S.own p hp).2⟩
  nd := S.nd
  ns := S.ns
  nl := S.nl
  gens := S.gens
  oss := S.oss
  outs := fun q hq => ⟨(S.outs q hq).1, hideAll_none _ (.tail _ (List.mem_append_right _ (List.mem_map.mpr ⟨q, hq, rfl⟩))), (S.outs q hq).2.2⟩
  apart := S.apart
theorem Sat.narrow {R' : Heap} (S : Sat X ro st R' s) (hb : ∀ b o, X.B.get? b = some o → R.get? b = some o) (hr : ∀ p ∈ ro, At R p.1 p.2) (h : ∀ b o, R.get? b = some o → R'.get? b = some o) : Sat X ro st R s where
  base := hb
  ros := hr
  fr := fun b o e => S.fr b o (h b o e)
  frL := by
    cases e : R.get? X.L with
    | none => rfl
    | some o => have := h _ _ e; rw [S.frL] at this; cases this
  own := fun p hp => by
    refine ⟨?_, (S.own p hp).2⟩
    cases e : R.get? p.1 with
    | none => rfl
    | some o => have := h _ _ e; rw [(S.own p hp).1] at this; cases this
  nd := S.nd
  ns := S.ns
  nl := S.nl
  gens := S.gens
  oss := S.oss
  outs := fun q hq => by
    refine ⟨(S.outs q hq).1, ?_, (S.outs q hq).2.2⟩
    cases e : R.get? q.1 with
    | none => rfl
    | some o => have := h _ _ e; rw [(S.outs q hq).2.1] at this; cases this
  apart := S.apart

/-- all but the addresses fp kept, where fp is off the state -/
theorem Sat.off (S : Sat X ro st R s) {h' : Heap} {tk : Nat} {fp : List Addr} (hR : ∀ b ∈ fp, R.get? b = none) (hL : X.L ∉ fp) (hX : ∀ q ∈ X.outs, q.1 ∉ fp) (hO : ∀ p ∈ st.own, p.1 ∉ fp)
    (k : ∀ b o, b ∉ fp → s.heap.get? b = some o → h'.get? b = some o) : Sat X ro st R { s with heap := h', toks := tk } where
  base := S.base
  ros := S.ros
  fr := fun b o e => k b o (fun hm => by rw [hR b hm] at e; cases e) (S.fr b o e)
  frL := S.frL
  own := fun p hp => let ⟨h1, h2, h3⟩ := S.own p hp; ⟨h1, h2, h3.keep fun o e => k _ o (hO p hp) e⟩
  nd := S.nd
  ns := let ⟨m, hm, hl⟩ := S.ns; ⟨m, hm.at' fun o e => k _ o hL e, hl⟩
  nl := S.nl
  gens := S.gens
  oss := S.oss
  outs := fun q hq => let ⟨h1, h2, h3⟩ := S.outs q hq; ⟨h1.at' fun o e => k _ o (hX q hq) e, h2, h3⟩
  apart := S.apart

theorem Sat.outs_off (S : Sat X ro st R s) {i : Addr} (hi : s.heap.objs.size ≤ i) : ∀ q ∈ X.outs, q.1 ∉ [i] := fun q hq hm => by
  obtain ⟨o, _, _, ho, _⟩ := (S.outs q hq).1
  have := Heap.lt_size ho
  rw [List.mem_singleton.mp hm] at this
  exact absurd this (Nat.not_lt.mpr hi)

def Tgt (X : Cx) (ro : Led) (E : Er) (env : Env) (target : Expr) (u : V) (st : St) (Q : St → Prop) : Prop := ∀ v, u.Is v → TU X ro E st (assign target env v) Q
theorem tgt_name {x p} {u₀ u : V} {loc' : List (Str × V)} {Q : St → Prop} (U : Put x u₀ u st.loc loc') (hq : Q { st with loc := loc' })
    (hk : sc.kind = .function := by rfl) (hl : (envOf nm sc X.L a cd).kindOf x = some .local := by rfl) : Tgt X ro E (envOf nm sc X.L a cd) (.Name x p) u st Q := fun v hv R s S =>
  wpR_assign_Name (store_local U hv hq hk hl R s S)

/-- what a turn's end owes -/
def LoopQ (Q : Fl → St → Prop) (J : St → Prop) (f : Fl) (st : St) : Prop := match f with
  | .next => J st
  | .cont => J st
  | .brk => Q .next st
  | .ret u => Q (.ret u) st

/-- the loop over an iterator whose objects fp lie off the state: Z its state, J what holds between the turns -/
theorem for_core {target : Expr} {body : List Stmt} {it : Value} {fp : List Addr} (Z : Nat → Heap → Prop) (n : Nat) (item : Nat → V) (J : Nat → St → Prop) {Q : Fl → St → Prop}
    (hE : ErOk X env E) (S : Sat X ro st R s) (hz : Z 0 s.heap) (hj : J 0 st) (hR : ∀ b ∈ fp, R.get? b = none) (hL : X.L ∉ fp) (hX : ∀ q ∈ X.outs, q.1 ∉ fp) (hO : ∀ p ∈ st.own, p.1 ∉ fp)
    (live : ∀ i h, Z i h → ∀ b ∈ fp, ∃ o, h.get? b = some o)
    (frame : ∀ i h h', Z i h → (∀ b ∈ fp, ∀ o, h.get? b = some o → h'.get? b = some o) → Z i h')
    (next : ∀ i st' R' s' (P : Option Value → Shared → Prop) (E' : Value → Shared → Prop), i < n → Sat X ro st' R' s' → J i st' → Z i s'.heap → (∀ p ∈ st'.own, p.1 ∉ fp) →
      (∀ v h' tk, (item i).Is v → Z (i + 1) h' → (∀ b o, b ∉ fp → s'.heap.get? b = some o → h'.get? b = some o) → P (some v) { s' with heap := h', toks := tk }) →
      wpAny (model X.prog X.w) X.A (pyNext it) P E' s')
    (stop : ∀ st' R' s' (P : Option Value → Shared → Prop) (E' : Value → Shared → Prop), Sat X ro st' R' s' → J n st' → Z n s'.heap → (∀ p ∈ st'.own, p.1 ∉ fp) →
      (∀ h' tk, (∀ b o, b ∉ fp → s'.heap.get? b = some o → h'.get? b = some o) → P none { s' with heap := h', toks := tk }) →
      wpAny (model X.prog X.w) X.A (pyNext it) P E' s')
    (turn : ∀ i st', i < n → J i st' → Tgt X ro E env target (item i) st' fun st₂ => TF X ro E st₂ (execs body env) (LoopQ Q (J (i + 1))))
    (done : ∀ st', J n st' → Q .next st')
    (ht : ∀ v, letOwnedTupleGo target it v = pure () := by intro _; rfl) :
    codeR (model X.prog X.w) X.A (.forLoop target it body [] env) (fun r s' => match r with | .ok f => ∃ g st', Fl.Is g f ∧ Sat X ro st' R s' ∧ Q g st' | .error e => cameBackR (model X.prog X.w) X.A env (E R) e s') s := by
  refine codeR_forLoop (fun k s' => ∃ i st', k = n - i ∧ i ≤ n ∧ Sat X ro st' R s' ∧ J i st' ∧ Z i s'.heap ∧ (∀ p ∈ st'.own, p.1 ∉ fp)) ?_ n ⟨0, st, by omega, by omega, S, hj, hz, hO⟩
  rintro k s' ⟨i, st', rfl, hi, S', hJ, hZ, hO'⟩
  by_cases hlt : i < n
  · refine wpR_of (next i st' R s' _ _ hlt S' hJ hZ hO' fun v h' tk hv hZ' hk => ?_)
    refine wpR_of_eq (ht v) ?_
    have S₁ : Sat X ro st' R { s' with heap := h', toks := tk } := S'.off hR hL hX hO' hk
    have inR : ∀ b ∈ fp, ∃ o, (st'.hid X h').get? b = some o ∧ h'.get? b = some o := fun b hb => by
      obtain ⟨o, ho⟩ := live _ _ hZ' b hb
      refine ⟨o, hideAll_get _ ho fun hm => ?_, ho⟩
      rcases List.mem_cons.mp hm with e | hm
      · exact hL (e ▸ hb)
      · rcases List.mem_append.mp hm with hm | hm
        · obtain ⟨p, hp, rfl⟩ := List.mem_map.mp hm
          exact hO' p hp hb
        · obtain ⟨p, hp, rfl⟩ := List.mem_map.mp hm
          exact hX p hp hb
    have T := turn i st' hlt hJ v hv _ _ S₁.widen
    refine wpR_mono T (fun _ s₂ h₂ => ?_) fun e s₂ h₂ => hE.2 R e s₂ (hE.1 R _ e s₂ S₁.wide h₂)
    obtain ⟨_, st₂, _, S₂, h₂⟩ := h₂
    refine wpR_mono (h₂ _ _ S₂) (fun f s₃ h₃ => ?_) fun e s₃ h₃ => hE.2 R e s₃ (hE.1 R _ e s₃ S₁.wide h₃)
    obtain ⟨g, st₃, hg, S₃, hq⟩ := h₃
    have S₃' : Sat X ro st₃ R s₃ := S₃.narrow S'.base S'.ros S₁.wide
    have hZ₃ : Z (i + 1) s₃.heap := frame _ _ _ hZ' fun b hb o ho => by
      obtain ⟨o', h1, h2⟩ := inR b hb
      rw [h2] at ho; cases ho
      exact S₃.fr _ _ h1
    have hO₃ : ∀ p ∈ st₃.own, p.1 ∉ fp := fun p hp hb => by
      obtain ⟨o', h1, _⟩ := inR _ hb
      rw [(S₃.own p hp).1] at h1; cases h1
    cases g with
    | next => cases hg; exact ⟨n - (i + 1), by omega, i + 1, st₃, rfl, hlt, S₃', hq, hZ₃, hO₃⟩
    | cont => cases hg; exact ⟨n - (i + 1), by omega, i + 1, st₃, rfl, hlt, S₃', hq, hZ₃, hO₃⟩
    | brk => cases hg; exact ⟨.next, st₃, rfl, S₃', hq⟩
    | ret u => obtain ⟨v, rfl, hv⟩ := hg; exact ⟨.ret u, st₃, ⟨v, rfl, hv⟩, S₃', hq⟩
  · obtain rfl : i = n := by omega
    refine wpR_of (stop st' R s' _ _ S' hJ hZ hO' fun h' tk hk => wpR_of (wpAny_execs_nil ?_))
    exact ⟨.next, st', rfl, S'.off hR hL hX hO' hk, done st' hJ⟩

theorem For' {target iter : Expr} {body : List Stmt} {pos : Pos} {Q : Fl → St → Prop}
    (h : TV X ro E st (eval iter env) fun u st₁ => ∀ v, u.Is v → ∀ R s, Sat X ro st₁ R s → wpR (model X.prog X.w) X.A (pyIter v) (fun it s₂ =>
      codeR (model X.prog X.w) X.A (.forLoop target it body [] env) (fun r s' => match r with | .ok f => ∃ g st', Fl.Is g f ∧ Sat X ro st' R s' ∧ Q g st' | .error e => cameBackR (model X.prog X.w) X.A env (E R) e s') s₂) (E R) s)
    (hs : ∀ x, foldedSetIterable iter env x = pure x := by intro _; rfl) : TF X ro E st (exec (.For target iter body [] pos) env) Q := fun R s S =>
  wpR_For (h.run S fun v s₁ u st₁ hu S₁ h₁ => h₁ v hu R s₁ S₁) hs

def ForOver (X : Cx) (ro : Led) (E : Er) (env : Env) (target : Expr) (body : List Stmt) (Q : Fl → St → Prop) (u : V) (st : St) : Prop :=
  ∀ v, u.Is v → ∀ R s, Sat X ro st R s → wpR (model X.prog X.w) X.A (pyIter v) (fun it s₂ =>
      codeR (model X.prog X.w) X.A (.forLoop target it body [] env) (fun r s' => match r with | .ok f => ∃ g st', Fl.Is g f ∧ Sat X ro st' R s' ∧ Q g st' | .error e => cameBackR (model X.prog X.w) X.A env (E R) e s') s₂) (E R) s

/-- over a list, that each turn leaves as it is -/
theorem for_list {target : Expr} {body : List Stmt} {l : Addr} {us : List V} (J : Nat → St → Prop) {Q : Fl → St → Prop} (hE : ErOk X env E) (hh : X.A.handled = none)
    (hl : ∀ i st', J i st' → Kn ro st' l (.list us)) (hj : J 0 st)
    (turn : ∀ i st' u, us[i]? = some u → J i st' → Tgt X ro E env target u st' fun st₂ => TF X ro E st₂ (execs body env) (LoopQ Q (J (i + 1))))
    (done : ∀ st', J us.length st' → Q .next st')
    (ht : ∀ it v, letOwnedTupleGo target it v = pure () := by intro _ _; rfl) :
    ForOver X ro E env target body Q (.ref l) st := by
  rintro v rfl R s S
  obtain ⟨ws, hL, hw⟩ := (S.at (hl 0 st hj)).isList
  refine wpR_of (wpAny_pyIter_list hL ?_)
  have S₁ : Sat X ro st R { s with heap := s.heap.push { cls := .type "list_iterator", data := .fields #[.ref l, rawInt 0] } } := S.keeps (tk := s.toks) fun b o e => Heap.get?_push_of_some _ e
  have hlt : ∀ {b c}, At s.heap b c → b ≠ s.heap.objs.size := fun h => Nat.ne_of_lt h.lt
  refine for_core (fp := [s.heap.objs.size]) (fun i h => h.IsListIter s.heap.objs.size l i) us.length (fun i => us.getD i .unk) J hE S₁ ⟨_, Heap.get?_push_size _ rfl, rfl, rfl⟩ hj ?_ ?_ (S.outs_off (Nat.le_refl _)) ?_ ?_ ?_ ?_ ?_ ?_ done (ht _)
  · intro b hb; rw [List.mem_singleton.mp hb]
    cases e : R.get? s.heap.objs.size with
    | none => rfl
    | some o => exact absurd (Heap.lt_size (S.fr _ _ e)) (Nat.lt_irrefl _)
  · intro hm; exact absurd S.lt (by rw [List.mem_singleton.mp hm]; exact Nat.lt_irrefl _)
  · intro p hp hm; exact hlt (S.own p hp).2.2 (List.mem_singleton.mp hm)
  · rintro i h ⟨o, ho, _⟩ b hb; rw [List.mem_singleton.mp hb]; exact ⟨o, ho⟩
  · intro i h h' hz hk; exact hz.at fun o e => hk _ (List.mem_singleton.mpr rfl) o e
  · intro i st' R' s' P E' hi S' hJ hZ hO hP
    obtain ⟨ws', hL', hw'⟩ := (S'.at (hl i st' hJ)).isList
    have hx : us[i]? = some us[i] := List.getElem?_eq_getElem hi
    obtain ⟨v, hv, hu⟩ := hw'.get hx
    refine wpAny_pyNext_list_item hZ hL' (x := v) (by rw [← Array.getElem?_toList]; exact hv) fun h' hit hs => hP v h' s'.toks ?_ hit fun b o hb e => hs.extBut b o (fun h => hb (List.mem_singleton.mpr h)) e
    show (us.getD i .unk).Is v
    rw [List.getD_eq_getElem?_getD, hx]; exact hu
  · intro st' R' s' P E' S' hJ hZ hO hP
    obtain ⟨ws', hL', hw'⟩ := (S'.at (hl _ st' hJ)).isList
    have hn : us.length = ws'.size := by simpa using hw'.length
    exact wpAny_pyNext_list_end hh hZ hL' (by rw [hn]; simp) fun h' he => hP h' s'.toks fun b o hb e => he b o (fun h => hb (List.mem_singleton.mpr h)) e
  · intro i st' hi hJ
    have hx : us[i]? = some us[i] := List.getElem?_eq_getElem hi
    have := turn i st' us[i] hx hJ
    show Tgt X ro E env target (us.getD i .unk) st' _
    rw [List.getD_eq_getElem?_getD, hx]; exact this
end
end Mine
end
section
open PySem PySem.W PyProof.Rows PySem.Calls
open PySem.Sem (wp)
open PySem.Builtin.Bytes (decodersThatHold exported exportsOf checkResize payload payload? write byteValue sameRef)
set_option Elab.async false
set_option maxRecDepth 100000
set_option linter.unusedVariables false
namespace Mine
namespace B
theorem slot_append : Slot "bytearray" "append" "bytearray.append" :=
  .of (owner := "bytearray") (n := "append") (by rw [typeLookup_type, builtinLookup_eq_fast]; kernel_rfl) (by decide +kernel) (by decide +kernel) (by decide +kernel)
    (by first | exact .inl (by decide +kernel) | exact .inr (by decide +kernel)) (by rw [isSubtype_type]; kernel_rfl)
theorem slot_iadd : Slot "bytearray" (dunderI "add") "bytearray.__iadd__" :=
  .of (owner := "bytearray") (n := "__iadd__") (by rw [typeLookup_type, builtinLookup_eq_fast]; kernel_rfl) (by decide +kernel) (by decide +kernel) (by decide +kernel)
    (by first | exact .inl (by decide +kernel) | exact .inr (by decide +kernel)) (by rw [isSubtype_type]; kernel_rfl)
theorem slot_init : Slot "bytearray" "__init__" "bytearray.__init__" :=
  .of (owner := "bytearray") (n := "__init__") (by rw [typeLookup_type, builtinLookup_eq_fast]; kernel_rfl) (by decide +kernel) (by decide +kernel) (by decide +kernel)
    (by first | exact .inl (by decide +kernel) | exact .inr (by decide +kernel)) (by rw [isSubtype_type]; kernel_rfl)
theorem entry_append : entryFor table "bytearray.append" = some Builtin.«bytearray.append» := by first | exact entryFor_of_fast (by kernel_rfl) | exact entryFor_of_tree (by kernel_rfl)
theorem entry_iadd : entryFor table "bytearray.__iadd__" = some Builtin.«bytearray.__iadd__» := by first | exact entryFor_of_fast (by kernel_rfl) | exact entryFor_of_tree (by kernel_rfl)
theorem entry_init : entryFor table "bytearray.__init__" = some Builtin.«bytearray.__init__» := by first | exact entryFor_of_fast (by kernel_rfl) | exact entryFor_of_tree (by kernel_rfl)
theorem args_append (a b : Value) : argsOk "bytearray.append" ⟨[a, b], []⟩ := by unfold argsOk; kernel_rfl
theorem args_iadd (a b : Value) : argsOk "bytearray.__iadd__" ⟨[a, b], []⟩ := by unfold argsOk; kernel_rfl
theorem args_init (a : Value) : argsOk "bytearray.__init__" ⟨[a], []⟩ := by unfold argsOk; kernel_rfl
theorem getattribute : typeLookup (.type "bytearray") "__getattribute__" = pure (some (.builtin "bytearray.__getattribute__")) := by rw [typeLookup_type, builtinLookup_eq_fast]; kernel_rfl
theorem canon_ga : (Manifest.canonical "bytearray.__getattribute__" != "object.__getattribute__") = false := by decide +kernel
theorem getattr_none : typeLookup (.type "bytearray") "__getattr__" = pure none := by rw [typeLookup_type, builtinLookup_eq_fast]; kernel_rfl
theorem type_append : typeOf (.builtin "bytearray.append") = pure (.type "method_descriptor") := by show builtinType _ = _; rw [builtinType_eq_fast]; kernel_rfl
theorem buf_ba : typeLookup (.type "bytearray") "__buffer__" = pure (some (.builtin "bytearray.__buffer__")) := by rw [typeLookup_type, builtinLookup_eq_fast]; kernel_rfl
theorem buf_b : typeLookup (.type "bytes") "__buffer__" = pure (some (.builtin "bytes.__buffer__")) := by rw [typeLookup_type, builtinLookup_eq_fast]; kernel_rfl
theorem rel_ba : typeLookup (.type "bytearray") "__release_buffer__" = pure (some (.builtin "bytearray.__release_buffer__")) := by rw [typeLookup_type, builtinLookup_eq_fast]; kernel_rfl
theorem rel_b : typeLookup (.type "bytes") "__release_buffer__" = pure none := by rw [typeLookup_type, builtinLookup_eq_fast]; kernel_rfl
theorem noFill_ba : fillsNumberSlot (.type "bytearray") "add" = pure false := PySem.fillsNumberSlot_seq (id := "bytearray.__add__") (r := none) (by rw [typeLookup_type, builtinLookup_eq_fast]; kernel_rfl) (by decide +kernel) (by rw [typeLookup_type, builtinLookup_eq_fast]; kernel_rfl) rfl
theorem noFill_b : fillsNumberSlot (.type "bytes") "add" = pure false := PySem.fillsNumberSlot_seq (id := "bytes.__add__") (r := none) (by rw [typeLookup_type, builtinLookup_eq_fast]; kernel_rfl) (by decide +kernel) (by rw [typeLookup_type, builtinLookup_eq_fast]; kernel_rfl) rfl
end B
section
variable {prog : Program} {w : World} {M : Model} {A : Around} {E : Value → Shared → Prop} {s : Shared}

theorem exported_R {self : Value} {Q : Bool → Shared → Prop} (hg : A.guards = some []) (h : Q false s) : wpR M A (exported self) Q E s := fun Γ p hΓ hn => by
  show Q (((Γ.code, p) :: Γ.below).any _) s
  rw [show (((Γ.code, p) :: Γ.below).any _) = false from ?_]
  · exact h
  rw [List.any_eq_false]
  intro x hx
  have hgd : guardsOf ((Γ.code, p) :: Γ.below) = [] := by rw [guardsOf_cons]; exact hΓ.2.2.2.1 [] hg
  have h1 : x.1.isGuard = false := by
    cases hc : x.1.isGuard with
    | false => rfl
    | true =>
      have : x.1 ∈ guardsOf ((Γ.code, p) :: Γ.below) := List.mem_filter.mpr ⟨List.mem_map.mpr ⟨x, hx, rfl⟩, hc⟩
      rw [hgd] at this; cases this
  have h2 : decCode x.1 = false := by
    rcases List.mem_cons.mp hx with rfl | hx
    · exact hn.1
    · exact hn.2 x hx
  obtain ⟨c, pp⟩ := x
  simp only at h1 h2
  split <;> (try (rename_i heq; cases heq))
  · exact absurd (show guardIds.contains "bytearray.__contains__" = false from h1) (by decide +kernel)
  · exact absurd (show guardIds.contains "bytearray.__mod__" = false from h1) (by decide +kernel)
  · exact absurd (show guardIds.contains "bytearray.__rmod__" = false from h1) (by decide +kernel)
  · exact absurd (show guardIds.contains "_struct.pack_into.held" = false from h1) (by decide +kernel)
  · exact absurd (show guardIds.contains "bytearray.find.held" = false from h1) (by decide +kernel)
  · rw [show decodersThatHold.contains _ = false from h2]; simp
  · simp
end
end Mine
end
section
open PySem PySem.W PyProof.Rows PySem.Calls
open PySem.Sem (wp)
open PySem.Builtin.Bytes (decodersThatHold exported exportsOf checkResize payload payload? write byteValue sameRef)
set_option Elab.async false
set_option maxRecDepth 100000
set_option linter.unusedVariables false
namespace Mine
def IsBa (h : Heap) (a : Addr) (b : Array UInt8) : Prop := h.get? a = some { cls := .type "bytearray", data := .bytearray b 0 }
theorem At.isBa {h : Heap} {a ns} (x : At h a (.ba ns)) : ∃ b, IsBa h a b ∧ bInts b = ns :=
  let ⟨_, ho, b, e, hb⟩ := x; ⟨b, by subst e; exact ho, hb⟩
theorem bInts_length (b : Array UInt8) : (bInts b).length = b.size := by simp [bInts]
theorem bInts_push (b : Array UInt8) {n : Int} (h0 : 0 ≤ n) (h1 : n < 256) : bInts (b.push n.toNat.toUInt8) = bInts b ++ [n] := by
  have : ((n.toNat.toUInt8.toNat : Nat) : Int) = n := by
    rw [show n.toNat.toUInt8.toNat = n.toNat % 256 from rfl, Nat.mod_eq_of_lt (by omega)]; omega
  simp only [bInts, Array.toList_push, List.map_append, List.map_cons, List.map_nil, this]
theorem bInts_append (b c : Array UInt8) : bInts (b ++ c) = bInts b ++ bInts c := by simp [bInts]
section
variable {prog : Program} {w : World} {M : Model} {A : Around} {E : Value → Shared → Prop} {s : Shared} {a : Addr} {b : Array UInt8}
theorem IsBa.typeIs (h : IsBa s.heap a b) : s.TypeIs (.ref a) "bytearray" := ⟨_, h, rfl⟩
theorem payload_ba {Q : Array UInt8 → Shared → Prop} (h : IsBa s.heap a b) (hq : Q b s) : wpAny M A (payload (.ref a)) Q E s := by
  unfold payload payload?
  refine wpAny_bind (wpAny_bind (wpAny_load h ?_))
  exact wpAny_pure (wpAny_pure hq)
theorem checkResize_R {Q : Unit → Shared → Prop} (hg : A.guards = some []) (h : IsBa s.heap a b) (hq : Q () s) : wpR M A (checkResize (.ref a)) Q E s := by
  unfold checkResize
  refine wpR_bind (wpR_bind (exported_R hg ?_))
  show wpR M A (do return decide ((← exportsOf (.ref a)) > 0)) _ _ s
  refine wpR_bind (wpR_of ?_)
  unfold exportsOf
  refine wpAny_bind (wpAny_load h ?_)
  refine wpAny_pure ?_
  exact wpR_pure (wpR_pure hq)
theorem write_ba {f : Array UInt8 → Array UInt8} {Q : Unit → Shared → Prop} (h : IsBa s.heap a b) (hz : (f b).size ≤ 16777216)
    (hq : ∀ h', IsBa h' a (f b) → Heap.SameBut a s.heap h' → Q () { s with heap := h' }) : wpAny M A (write (.ref a) f) Q E s := by
  show wpAny M A (updateBytearray a f) Q E s
  unfold updateBytearray
  refine wpAny_bind (wpAny_load h ?_)
  refine wpAny_bind (wpAny_update h ?_)
  have h2 : (s.heap.update a (Obj.mapBytearray f)).get? a = some { cls := .type "bytearray", data := .bytearray (f b) 0 } := Heap.get?_update_self (Obj.mapBytearray f) h rfl
  refine wpAny_lookBehind h2 ?_ (hq _ h2 (Heap.SameBut.update ..))
  show (if (f b).size > sizeLine then some "bytearray:memory" else none) = none
  rw [if_neg]; rw [sizeLine_eq]; omega
theorem byteValue_int {n : Int} {t : Tok} {Q : UInt8 → Shared → Prop} (h0 : 0 ≤ n) (h1 : n < 256) (hq : Q n.toNat.toUInt8 s) : wpAny M A (byteValue (.int n t)) Q E s := by
  unfold byteValue
  refine wpAny_bind (wpAny_of_eq (a := n) rfl ?_)
  have : (decide (n < 0) || decide (n ≥ 256)) = false := by simp; omega
  rw [if_neg (by rw [this]; exact Bool.false_ne_true)]
  exact wpAny_pure hq
theorem call_append_ba {n : Int} {t : Tok} {Q : Value → Shared → Prop} (hg : A.guards = some []) (h : IsBa s.heap a b) (h0 : 0 ≤ n) (h1 : n < 256) (hz : b.size + 1 ≤ 16777216)
    (hq : ∀ h', IsBa h' a (b.push n.toNat.toUInt8) → Heap.SameBut a s.heap h' → Q .none { s with heap := h' }) : wpR (model prog w) A (call (.builtin "bytearray.append") [.ref a, .int n t]) Q E s := by
  refine callR_slot B.slot_append h.typeIs (by decide +kernel) B.entry_append (B.args_append _ _) ?_
  unfold Builtin.«bytearray.append»
  refine wpR_bind (m := selfAndOne "bytearray.append" _) (wpR_of_eq (a := (.ref a, .int n t)) rfl ?_)
  refine wpR_bind (wpR_of (byteValue_int h0 h1 ?_))
  refine wpR_bind (checkResize_R hg h ?_)
  refine wpR_bind (wpR_of (write_ba h (by rw [Array.size_push]; exact hz) fun h' hb hs => wpR_pure ⟨_, rfl, hq h' hb hs⟩))
theorem getMethod_ba_append {pl : Sem Bool} {Q : Value × List Value → Shared → Prop} (ho : IsBa s.heap a b)
    (h : Q (.builtin "bytearray.append", [.ref a]) s) : wpAny M A (getMethod (.ref a) "append" pl) Q E s := by
  have hT : s.TypeIs (.ref a) "bytearray" := ho.typeIs
  unfold getMethod
  refine wpAny_bind (wpAny_specialOf hT B.getattribute ?_)
  show wpAny M A (if (Manifest.canonical "bytearray.__getattribute__" != "object.__getattribute__") = true then _ else _) Q E s
  rw [B.canon_ga, if_neg Bool.false_ne_true]
  refine wpAny_bind (wpAny_specialOf hT B.getattr_none ?_)
  refine wpAny_bind (wpAny_specialOf hT B.slot_append.lookup ?_)
  refine wpAny_bind (wpAny_of_eq B.type_append ?_)
  refine wpAny_bind (wpAny_load ho ?_)
  exact wpAny_bind (wpAny_rule (wpAny_pure h))
end

section
variable {X : Cx} {ro : Led} {E : Er} {st : St} {nm : Str} {sc : Scope} {a : Addr} {cd : Value} {env : Env} {R : Heap} {s : Shared}
theorem append_ba' {o e apos pos} {pl : Sem Bool} {Q : V → St → Prop} (hg : X.A.guards = some [])
    (h : TV X ro E st (eval o env) fun ov st₁ => ∃ l ms, ov = .ref l ∧ Kn ro st₁ l (.ba ms) ∧ TV X ro E st₁ (eval e env) fun u st₂ => ∃ ns own' n, u = .int n ∧ (0 ≤ n ∧ n < 256) ∧ Put l (.ba ns) (.ba (ns ++ [n])) st₂.own own' ∧ ns.length < 16777216 ∧ Q .none { st₂ with own := own' })
    (he : starEach [e] env = (false, eval e env) :: starEach [] env := by rfl)
    (he' : eval (.Call (.Attribute o "append" apos) [e] [] pos) env = (do
      let ov ← eval o env
      standAt apos.atName
      let (f, first) ← holding [ov] (getMethod ov "append" pl)
      callWith pos f first (backTo pos (starEach [e] env)) []) := by rfl) :
    TV X ro E st (eval (.Call (.Attribute o "append" apos) [e] [] pos) env) Q := fun R s S =>
  MethodCallR (pl := pl) (h.run S fun vo s₁ ov st₁ ho S₁ ⟨l, ms, e1, hl, h₁⟩ => by
    subst e1
    cases ho
    obtain ⟨b, hB, hb⟩ := (S₁.at hl).isBa
    refine wpR_of (getMethod_ba_append hB ?_)
    rw [he]
    refine callWith_builtinR rfl ?_
    refine evalArgs_plainR (spliced_consR (h₁.run S₁ fun v s₂ u st₂ hu S₂ ⟨ns, own', n, e2, ⟨h0, h1⟩, U, hsz, hq⟩ => wpR_of (spliced_nil ?_)))
    subst e2
    obtain ⟨t, rfl⟩ := hu
    obtain ⟨b, hB, hb⟩ := (S₂.at_own U.has).isBa
    have hn : ns.length = b.size := by rw [← hb, bInts_length]
    refine call_append_ba hg hB h0 h1 (by omega) fun h' hb' hs => ?_
    refine ⟨.none, _, rfl, S₂.upd U ⟨_, hb', ⟨_, rfl, ?_⟩⟩ (fun c o hc e => hs.extBut c o hc e) (tk := s₂.toks), hq⟩
    rw [bInts_push b h0 h1, hb]) he'
end
end Mine
end
section
open PySem PySem.W PyProof.Rows PySem.Calls
open PySem.Sem (wp)
open PySem.Builtin.Bytes (decodersThatHold exported exportsOf checkResize payload payload? write byteValue slotIsOwn ownRelease buffer? takeBuffer? takeBufferQuiet? thenGiveBack tooLong)
set_option Elab.async false
set_option maxRecDepth 100000
set_option linter.unusedVariables false
set_option linter.deprecated false
namespace Mine
namespace B
theorem sub_ba : isSubtype (.type "bytearray") (.type "bytearray") = pure true := by rw [isSubtype_type]; kernel_rfl
theorem sub_b : isSubtype (.type "bytes") (.type "bytes") = pure true := by rw [isSubtype_type]; kernel_rfl
end B
section
variable {prog : Program} {w : World} {M : Model} {A : Around} {E : Value → Shared → Prop} {s : Shared} {a : Addr} {b : Array UInt8} {t : Tok}
theorem slotIsOwn_of {v : Value} {T id name : String} {Q : Bool → Shared → Prop} (hT : s.TypeIs v T) (hl : typeLookup (.type T) (name : Str) = pure (some (.builtin id)))
    (he : id.endsWith ("." ++ name) = true) (hd : id.dropRight (name.length + 1) = T) (hs : isSubtype (.type T) (.type T) = pure true) (hq : Q true s) : wpAny M A (slotIsOwn v name) Q E s := by
  unfold slotIsOwn
  refine wpAny_bind (wpAny_specialOf hT hl ?_)
  show wpAny M A (if (!id.endsWith ("." ++ name)) = true then _ else _) Q E s
  rw [he, if_neg (by simp), hd]
  exact wpAny_isInstance hT hs hq
theorem own_buf_ba {Q : Bool → Shared → Prop} (h : IsBa s.heap a b) (hq : Q true s) : wpAny M A (slotIsOwn (.ref a) "__buffer__") Q E s :=
  slotIsOwn_of h.typeIs B.buf_ba (by decide +kernel) (by decide +kernel) B.sub_ba hq
theorem own_buf_b {Q : Bool → Shared → Prop} (hq : Q true s) : wpAny M A (slotIsOwn (.bytes b t) "__buffer__") Q E s :=
  slotIsOwn_of (typeIs_bytes s b t) B.buf_b (by decide +kernel) (by decide +kernel) B.sub_b hq
theorem ownRelease_ba {Q : Bool → Shared → Prop} (h : IsBa s.heap a b) (hq : Q false s) : wpAny M A (ownRelease (.ref a)) Q E s := by
  unfold ownRelease
  exact wpAny_bind (slotIsOwn_of h.typeIs B.rel_ba (by decide +kernel) (by decide +kernel) B.sub_ba (wpAny_pure hq))
theorem ownRelease_b {Q : Bool → Shared → Prop} (hq : Q false s) : wpAny M A (ownRelease (.bytes b t)) Q E s := by
  unfold ownRelease slotIsOwn
  exact wpAny_bind (wpAny_bind (wpAny_specialOf (typeIs_bytes s b t) B.rel_b (wpAny_pure (wpAny_pure hq))))
theorem buffer_ba {id : String} {full : Bool} {Q : Option (Array UInt8) → Shared → Prop} (h : IsBa s.heap a b) (hq : Q (some b) s) : wpAny M A (buffer? id (.ref a) full) Q E s := by
  unfold buffer?
  refine wpAny_bind (wpAny_specialOf h.typeIs B.buf_ba ?_)
  refine wpAny_bind (own_buf_ba h ?_)
  refine wpAny_bind (wpAny_specialOf h.typeIs B.buf_ba ?_)
  refine wpAny_bind (ownRelease_ba h ?_)
  refine wpAny_bind (payload_ba h ?_)
  exact wpAny_pure hq
theorem buffer_b {id : String} {full : Bool} {Q : Option (Array UInt8) → Shared → Prop} (hq : Q (some b) s) : wpAny M A (buffer? id (.bytes b t) full) Q E s := by
  unfold buffer?
  refine wpAny_bind (wpAny_specialOf (typeIs_bytes s b t) B.buf_b ?_)
  refine wpAny_bind (own_buf_b ?_)
  refine wpAny_bind (wpAny_specialOf (typeIs_bytes s b t) B.buf_b ?_)
  refine wpAny_bind (ownRelease_b ?_)
  refine wpAny_bind (wpAny_of_eq (a := b) rfl ?_)
  exact wpAny_pure hq
/-- what hands its octets over: bytes, or a bytearray -/
inductive Octets (h : Heap) : Value → Array UInt8 → String → Prop
  | bytes (b : Array UInt8) (t : Tok) : Octets h (.bytes b t) b "bytes"
  | ba {a : Addr} {b : Array UInt8} : IsBa h a b → Octets h (.ref a) b "bytearray"
theorem take_oct {id : String} {v : Value} {T : String} {Q : Option (Array UInt8 × Option Value) → Shared → Prop} (h : Octets s.heap v b T) (hq : Q (some (b, none)) s) : wpAny M A (takeBufferQuiet? id v 0) Q E s := by
  unfold takeBufferQuiet? takeBuffer?
  refine wpAny_bind (wpAny_attempt ?_)
  cases h with
  | bytes b t =>
    refine wpAny_bind (wpAny_specialOf (typeIs_bytes s _ _) B.buf_b ?_)
    refine wpAny_bind (own_buf_b ?_)
    refine wpAny_bind (wpAny_specialOf (typeIs_bytes s _ _) B.buf_b ?_)
    refine wpAny_bind (buffer_b ?_)
    exact wpAny_pure (wpAny_pure hq)
  | ba h =>
    refine wpAny_bind (wpAny_specialOf h.typeIs B.buf_ba ?_)
    refine wpAny_bind (own_buf_ba h ?_)
    refine wpAny_bind (wpAny_specialOf h.typeIs B.buf_ba ?_)
    refine wpAny_bind (buffer_ba h ?_)
    exact wpAny_pure (wpAny_pure hq)
theorem call_iadd_ba {v : Value} {c : Array UInt8} {T : String} {Q : Value → Shared → Prop} (hg : A.guards = some []) (h : IsBa s.heap a b) (hv : Octets s.heap v c T) (hne : v ≠ .ref a) (hz : b.size + c.size ≤ 16777216)
    (hq : ∀ h', IsBa h' a (b ++ c) → Heap.SameBut a s.heap h' → Q (.ref a) { s with heap := h' }) : wpR (model prog w) A (call (.builtin "bytearray.__iadd__") [.ref a, v]) Q E s := by
  refine callR_slot B.slot_iadd h.typeIs (by decide +kernel) B.entry_iadd (B.args_iadd _ _) ?_
  unfold Builtin.«bytearray.__iadd__»
  refine wpR_bind (m := slotArgs "__iadd__" 1 _) (wpR_of_eq (a := (.ref a, [v])) rfl ?_)
  refine wpR_bind (wpR_of (take_oct hv ?_))
  have fin : wpR (model prog w) A.in1 (do
      if tooLong ((← payload (.ref a)).size + c.size) then unsupported "bytearray.__iadd__:memory"
      write (.ref a) (· ++ c)
      ret (.ref a)) (fun fin s' => ∃ v, fin = .done (.ret v) ∧ Q v s') E s := by
    refine wpR_bind (wpR_of (payload_ba h ?_))
    have : tooLong (b.size + c.size) = false := by simp only [tooLong, sizeLine]; simp; omega
    rw [if_neg (by rw [this]; exact Bool.false_ne_true)]
    refine wpR_bind (wpR_of (write_ba (f := (· ++ c)) h (by rw [Array.size_append]; exact hz) fun h' hb hs => wpR_pure ⟨_, rfl, hq h' hb hs⟩))
  show wpR (model prog w) A.in1 (if (!c.isEmpty) = true then (if Builtin.Bytes.sameRef (.ref a) v = true then _ else _) else _) _ _ s
  split
  · have hs : Builtin.Bytes.sameRef (.ref a) v = false := by
      cases hv with
      | bytes => rfl
      | ba => 
        simp only [Builtin.Bytes.sameRef]
        rw [beq_eq_false_iff_ne]
        rintro rfl; exact hne rfl
    rw [if_neg (by rw [hs]; exact Bool.false_ne_true)]
    exact wpR_bind (checkResize_R hg h fin)
  · exact fin
end
end Mine
end
section
open PySem PySem.W PyProof.Rows PySem.Calls
open PySem.Sem (wp)
open PySem.Builtin.Bytes (decodersThatHold exported exportsOf checkResize payload payload? write byteValue slotIsOwn ownRelease buffer? takeBuffer? takeBufferQuiet? thenGiveBack tooLong containsIn)
set_option Elab.async false
set_option maxRecDepth 100000
set_option linter.unusedVariables false
set_option linter.deprecated false
namespace Mine
namespace B
theorem slot_b_in : Slot "bytes" "__contains__" "bytes.__contains__" :=
  .of (owner := "bytes") (n := "__contains__") (by rw [typeLookup_type, builtinLookup_eq_fast]; kernel_rfl) (by decide +kernel) (by decide +kernel) (by decide +kernel)
    (by first | exact .inl (by decide +kernel) | exact .inr (by decide +kernel)) (by rw [isSubtype_type]; kernel_rfl)
theorem entry_b_in : entryFor table "bytes.__contains__" = some Builtin.«bytes.__contains__» := by first | exact entryFor_of_fast (by kernel_rfl) | exact entryFor_of_tree (by kernel_rfl)
theorem args_b_in (a b : Value) : argsOk "bytes.__contains__" ⟨[a, b], []⟩ := by unfold argsOk; kernel_rfl
theorem ty_str : typeOf (.type "str") = pure (.type "type") := by kernel_rfl
theorem ty_bytes : typeOf (.type "bytes") = pure (.type "type") := by kernel_rfl
theorem sub_b_str : isSubtype (.type "bytes") (.type "str") = pure false := by rw [isSubtype_type]; kernel_rfl
end B
section
variable {prog : Program} {w : World} {M : Model} {A : Around} {E : Value → Shared → Prop} {s : Shared}
/-- as inplaceOp_seq, for the stacks without a decoder -/
theorem inplaceOp_seqR {a b : Value} {T U id : String} {Q : Value → Shared → Prop} (ha : s.TypeIs a T) (hb : s.TypeIs b U)
    (hI : typeLookup (.type T) (dunderI "add") = pure (some (.builtin id))) (hS : isSeqSlot (some (.builtin id)) = true)
    (hfa : fillsNumberSlot (.type T) "add" = pure false) (hfb : fillsNumberSlot (.type U) "add" = pure false)
    (hc : wpR (model prog w) A (call (.builtin id) [a, b]) Q E s) : wpR (model prog w) A (inplaceOp .Add a b) Q E s := by
  unfold inplaceOp
  refine wpR_holding ?_
  have hfi : fillsInplaceSlot (.type T) "add" (Operator.Add == .Add) = pure false := by
    unfold fillsInplaceSlot
    show (typeLookup (.type T) (dunderI "add") >>= fun fi => pure (fi.isSome && !isSeqSlot fi)) = pure false
    rw [hI, pure_bind, hS]; rfl
  have hsi : seqSlot? (.type T) (dunderI "add") = pure (some (.builtin id)) := by
    simp only [seqSlot?, hI, pure_bind, hS]; rfl
  refine wpR_bind (wpR_of (wpAny_typeOf ha (wpR_bind (wpR_of_eq hfi ?_))))
  show wpR _ A (if false = true then _ else _) Q E s
  rw [if_neg Bool.false_ne_true]
  refine wpR_bind (wpR_of (binaryOp1_none2 (nm := "add") ha hb hfa hfb ?_))
  refine wpR_bind (wpR_of_eq hsi ?_)
  exact wpR_bind (wpR_of (wpAny_rule hc))
theorem contains_bytes {b : Array UInt8} {t u : Tok} {n : Int} {Q : Value → Shared → Prop} (h0 : 0 ≤ n) (h1 : n < 256) (hq : Q (.bool (b.contains n.toNat.toUInt8)) s) :
    wpAny (model prog w) A (compareOp .In (.int n u) (.bytes b t)) Q E s := by
  show wpAny _ _ (do return .bool (← contains (.bytes b t) (.int n u))) Q E s
  refine wpAny_bind (PyProof.Rows.contains_slot (typeIs_bytes s b t) B.slot_b_in (wpAny_call_entry B.slot_b_in (typeIs_bytes s b t) B.entry_b_in ?_ (B.args_b_in _ _)))
  unfold Builtin.«bytes.__contains__»
  refine wpAny_bind (m := slotArgs "__contains__" 1 _) (wpAny_of_eq (a := (.bytes b t, [.int n u])) rfl ?_)
  unfold containsIn
  refine wpAny_bind (wpAny_bind (wpAny_attempt (wpAny_of_eq (a := n) rfl ?_)))
  refine wpAny_bind (buffer_b ?_)
  have : (decide (n < 0) || decide (n ≥ 256)) = false := by simp; omega
  show wpAny _ _ (if (decide (n < 0) || decide (n ≥ 256)) = true then _ else _) _ _ s
  rw [if_neg (by rw [this]; exact Bool.false_ne_true)]
  refine wpAny_pure (wpAny_pure ⟨_, rfl, wpAny_truthy_bool (wpAny_pure hq)⟩)
theorem isi_bytes_str {b : Array UInt8} {t : Tok} {Q : Value → Shared → Prop} (hq : Q (.bool false) { s with toks := s.toks + 1 }) : wpAny (model prog w) A (call (.builtin "isinstance") [.bytes b t, .type "str"]) Q E s := by
  refine call_isinstance (S := fun _ R s => R (.ok (.ret (.bool false))) { s with toks := s.toks + 1 }) (fun _ _ _ _ s hs => ?_) hq
  obtain ⟨h, g, d, tk, os⟩ := s
  exact isinstance_outer (isinstance_nested_false_bytes (by decide) B.ty_str B.sub_b_str hs)
theorem isi_bytes_bytes {b : Array UInt8} {t : Tok} {Q : Value → Shared → Prop} (hq : Q (.bool true) s) : wpAny (model prog w) A (call (.builtin "isinstance") [.bytes b t, .type "bytes"]) Q E s :=
  call_isinstance (isinstance_true B.ty_bytes B.sub_b) ⟨typeIs_bytes s b t, hq⟩
end

theorem bInts_inj {b c : Array UInt8} : bInts b = bInts c ↔ b.toList = c.toList := by
  constructor
  · intro h
    have hinj : ∀ x y : UInt8, (x.toNat : Int) = (y.toNat : Int) → x = y := fun x y e => UInt8.toNat_inj.mp (by omega)
    have : ∀ l l' : List UInt8, (l.map fun x => (x.toNat : Int)) = (l'.map fun x => (x.toNat : Int)) → l = l' := by
      intro l
      induction l with
      | nil => intro l' h; cases l' with
        | nil => rfl
        | cons _ _ => simp at h
      | cons x l ih => intro l' h; cases l' with
        | nil => simp at h
        | cons y l' => simp only [List.map_cons, List.cons.injEq] at h; rw [hinj _ _ h.1, ih _ h.2]
    exact this _ _ h
  · intro h; unfold bInts; rw [h]
theorem bInts_contains {b : Array UInt8} {n : Int} (h0 : 0 ≤ n) (h1 : n < 256) : b.contains n.toNat.toUInt8 = decide (n ∈ bInts b) := by
  have key : ((n.toNat.toUInt8.toNat : Nat) : Int) = n := by
    rw [show n.toNat.toUInt8.toNat = n.toNat % 256 from rfl, Nat.mod_eq_of_lt (by omega)]; omega
  rw [Bool.eq_iff_iff]
  simp only [Array.contains_iff, decide_eq_true_eq, bInts, List.mem_map, Array.mem_toList_iff]
  constructor
  · intro h; exact ⟨_, h, key⟩
  · rintro ⟨x, hx, e⟩
    have : x = n.toNat.toUInt8 := UInt8.toNat_inj.mp (by omega)
    rw [← this]; exact hx

section
variable {X : Cx} {ro : Led} {E : Er} {st : St} {nm : Str} {sc : Scope} {a : Addr} {cd : Value} {env : Env} {R : Heap} {s : Shared}
theorem iadd_ba_b {l : Addr} {ns ms : List Int} {own' : Led} {Q : V → St → Prop} (hg : X.A.guards = some []) (U : Put l (.ba ns) (.ba (ns ++ ms)) st.own own') (hsz : ns.length + ms.length ≤ 16777216)
    (hq : Q (.ref l) { st with own := own' }) : Op2 X ro E (inplaceOp .Add) (.ref l) (.bytes ms) st Q := by
  rintro v w rfl ⟨c, t, rfl, hc⟩ R s S
  obtain ⟨b, hB, hb⟩ := (S.at_own U.has).isBa
  have hn : ns.length = b.size := by rw [← hb, bInts_length]
  have hm : ms.length = c.size := by rw [← hc, bInts_length]
  refine inplaceOp_seqR (T := "bytearray") (U := "bytes") hB.typeIs (typeIs_bytes _ _ _) B.slot_iadd.lookup (by decide +kernel) B.noFill_ba B.noFill_b ?_
  refine call_iadd_ba hg hB (.bytes c t) (by intro e; cases e) (by omega) fun h' hb' hs => ?_
  refine ⟨.ref l, _, rfl, S.upd U ⟨_, hb', ⟨_, rfl, ?_⟩⟩ (fun c o hc e => hs.extBut c o hc e) (tk := s.toks), hq⟩
  rw [bInts_append, hb, hc]
theorem len_bytes' {ns : List Int} {Q : V → St → Prop} (hsz : ns.length ≤ 16777216) (hq : Q (.int ns.length) st) : OpN X ro E (fun vs => call (.builtin "len") vs) [.bytes ns] st Q := by
  rintro vs (_ | ⟨⟨b, t, rfl, hb⟩, (_ | _)⟩) R s S
  exact wpR_of (KBw.len_K hb (by omega) ⟨.int ns.length, st, ⟨_, rfl⟩, S.toks, hq⟩)
theorem sub_bytes {ns : List Int} {k : Int} {n : Int} {Q : V → St → Prop} (hsz : ns.length ≤ 16777216) (h0 : 0 ≤ k) (hx : ns[k.toNat]? = some n) (hq : Q (.int n) st) : Sub X ro E (.bytes ns) (.int k) st Q := by
  rintro vo vi ⟨b, t, rfl, hb⟩ ⟨u, rfl⟩ R s S
  refine ⟨⟨_, _, typeIs_bytes _ _ _, FB.slot_bytes_getitem.lookup⟩, ?_⟩
  have hlt : k.toNat < ns.length := (List.getElem?_eq_some_iff.mp hx).1
  have hbl : ns.length = b.size := by rw [← hb, bInts_length]
  have e : b.toList.toArray = b := Array.toArray_toList
  rw [← e]
  refine wpR_of (getItem_bytes (l := b.toList) (by simp; omega) h0 (by simp; omega) ⟨.int n, st, ⟨s.toks, ?_⟩, S.toks, hq⟩)
  rw [KBw.getD_ints]
  have : (b.toList.map fun c => (c.toNat : Int)) = ns := hb
  rw [this, List.getD_eq_getElem?_getD, hx]; rfl
theorem clip_eq (n : Nat) (v : Option Int) (d : Nat) : v.elim d (clipAt n) = clipNat v d n := by
  cases v with
  | none => rfl
  | some i => simp only [Option.elim, clipAt, clipNat]
theorem subs_bytes {ns : List Int} {lo hi : Option Int} {Q : V → St → Prop} (hsz : ns.length ≤ 16777216) (hq : Q (.bytes (pslice lo hi ns)) st) : SubS X ro E (.bytes ns) lo hi st Q := by
  rintro vo vl vu sl ⟨b, t, rfl, hb⟩ pl pu R s S hs
  refine ⟨⟨_, _, typeIs_bytes _ _ _, FB.slot_bytes_getitem.lookup⟩, wpR_of (getItem_meets (typeIs_bytes _ _ _) (by decide) FB.slot_bytes_getitem FB.entry_bytes_getitem (FB.args_bytes_getitem_2 _ _) (KBc.meets_slice2 b t _ pl pu) ⟨hs, ?_, fun t' k => ?_⟩)⟩
  · refine Nat.le_trans (KBc.size_picked_le b lo hi) ?_
    rw [← bInts_length, hb, sizeLine_eq]; exact hsz
  · refine ⟨.bytes (pslice lo hi ns), st, ⟨_, _, rfl, ?_⟩, S.toks, hq⟩
    have := KBc.ints_picked (b := b) (ks := ns) hb lo hi
    show KBw.bInts _ = _
    rw [this, clip_eq, clip_eq]; rfl
theorem ne_bytes' {ns ms : List Int} {Q : V → St → Prop} (hq : Q (.bool (decide (ns ≠ ms))) st) : Op2 X ro E (compareOp .NotEq) (.bytes ns) (.bytes ms) st Q := by
  rintro v w ⟨b, t, rfl, hb⟩ ⟨c, u, rfl, hc⟩ R s S
  refine wpR_of (PySem.W.ne_bytes ⟨.bool (decide (ns ≠ ms)), st, ?_, S, hq⟩)
  show Value.bool _ = Value.bool _
  congr 1
  rw [Bool.eq_iff_iff, bne_iff_ne, decide_eq_true_eq, ← hb, ← hc]
  exact not_congr bInts_inj.symm
theorem in_bytes' {n : Int} {ns : List Int} {Q : V → St → Prop} (h : 0 ≤ n ∧ n < 256) (hq : Q (.bool (decide (n ∈ ns))) st) : Op2 X ro E (compareOp .In) (.int n) (.bytes ns) st Q := by
  rintro v w ⟨t, rfl⟩ ⟨b, u, rfl, hb⟩ R s S
  refine wpR_of (contains_bytes h.1 h.2 ⟨.bool (decide (n ∈ ns)), st, ?_, S, hq⟩)
  rw [bInts_contains h.1 h.2, hb]; rfl
theorem isi_b_str {ns : List Int} {Q : V → St → Prop} (hq : Q (.bool false) st) : OpN X ro E (fun vs => call (.builtin "isinstance") vs) [.bytes ns, .raw (.type "str")] st Q := by
  rintro vs (_ | ⟨⟨b, t, rfl, hb⟩, (_ | ⟨rfl, (_ | _)⟩)⟩) R s S
  exact wpR_of (isi_bytes_str ⟨.bool false, st, rfl, S.toks, hq⟩)
theorem isi_b_b {ns : List Int} {Q : V → St → Prop} (hq : Q (.bool true) st) : OpN X ro E (fun vs => call (.builtin "isinstance") vs) [.bytes ns, .raw (.type "bytes")] st Q := by
  rintro vs (_ | ⟨⟨b, t, rfl, hb⟩, (_ | ⟨rfl, (_ | _)⟩)⟩) R s S
  exact wpR_of (isi_bytes_bytes ⟨.bool true, st, rfl, S, hq⟩)
theorem bytes_list' {l : Addr} {ns : List Int} {Q : V → St → Prop} (hh : X.A.handled = none) (hl : Kn ro st l (.ints ns)) (hr : ∀ n ∈ ns, 0 ≤ n ∧ n < 256) (hsz : ns.length ≤ 16777216) (hq : Q (.bytes ns) st) :
    OpN X ro E (fun vs => call (.type "bytes") vs) [.ref l] st Q := by
  rintro vs (_ | ⟨rfl, (_ | _)⟩) R s S
  obtain ⟨ws, hL, hw⟩ := (S.at hl).isList
  have e : ws.toList.toArray = ws := Array.toArray_toList
  rw [← e] at hL
  have hi := hw.ints
  refine wpR_of (call_bytes_ints hL hi hr (by rw [hi.length, sizeLine_eq]; exact hsz) hh fun h' t k hk => ⟨.bytes ns, st, ⟨_, _, rfl, ?_⟩, S.keeps hk, hq⟩)
  exact KBa.ints_make hr
/-- over bytes -/
theorem for_bytes {target : Expr} {body : List Stmt} {ns : List Int} (J : Nat → St → Prop) {Q : Fl → St → Prop} (hE : ErOk X env E) (hh : X.A.handled = none) (hj : J 0 st)
    (turn : ∀ i st' n, ns[i]? = some n → J i st' → Tgt X ro E env target (.int n) st' fun st₂ => TF X ro E st₂ (execs body env) (LoopQ Q (J (i + 1))))
    (done : ∀ st', J ns.length st' → Q .next st')
    (ht : ∀ it v, letOwnedTupleGo target it v = pure () := by intro _ _; rfl) :
    ForOver X ro E env target body Q (.bytes ns) st := by
  rintro v ⟨b, t, rfl, hb⟩ R s S
  refine wpR_of (KBw.pyIter_bytes ?_)
  have S₁ : Sat X ro st R { s with heap := s.heap.push { cls := .type "bytes_iterator", data := .fields #[.bytes b t, .int 0 0] } } := S.keeps (tk := s.toks) fun b o e => Heap.get?_push_of_some _ e
  have hlt : ∀ {b c}, At s.heap b c → b ≠ s.heap.objs.size := fun h => Nat.ne_of_lt h.lt
  have hbl : ns.length = b.size := by rw [← hb, bInts_length]
  refine for_core (fp := [s.heap.objs.size]) (fun i h => KBw.IsBytesIter h s.heap.objs.size b t i) ns.length (fun i => .int (ns.getD i 0)) J hE S₁ ⟨_, Heap.get?_push_size _ rfl, rfl, rfl⟩ hj ?_ ?_ (S.outs_off (Nat.le_refl _)) ?_ ?_ ?_ ?_ ?_ ?_ done (ht _)
  · intro b hb; rw [List.mem_singleton.mp hb]
    cases e : R.get? s.heap.objs.size with
    | none => rfl
    | some o => exact absurd (Heap.lt_size (S.fr _ _ e)) (Nat.lt_irrefl _)
  · intro hm; exact absurd S.lt (by rw [List.mem_singleton.mp hm]; exact Nat.lt_irrefl _)
  · intro p hp hm; exact hlt (S.own p hp).2.2 (List.mem_singleton.mp hm)
  · rintro i h ⟨o, ho, _⟩ b hb; rw [List.mem_singleton.mp hb]; exact ⟨o, ho⟩
  · rintro i h h' ⟨o, ho, r⟩ hk; exact ⟨o, hk _ (List.mem_singleton.mpr rfl) o ho, r⟩
  · intro i st' R' s' P E' hi S' hJ hZ hO hP
    have hx : b[i]? = some b[i] := Array.getElem?_eq_getElem (by omega)
    refine KBw.next_item hZ hx fun h' hit hs => hP _ h' _ ?_ hit fun b o hb e => hs.extBut b o (fun h => hb (List.mem_singleton.mpr h)) e
    have := KBw.ints_get hx
    have hb' : KBw.bInts b = ns := hb
    rw [hb'] at this
    refine ⟨s'.toks, ?_⟩
    rw [List.getD_eq_getElem?_getD, this]; rfl
  · intro st' R' s' P E' S' hJ hZ hO hP
    exact KBw.next_end hh hZ (by rw [hbl]; simp) fun h' he => hP h' s'.toks fun b o hb e => he b o (fun h => hb (List.mem_singleton.mpr h)) e
  · intro i st' hi hJ
    have hx : ns[i]? = some ns[i] := List.getElem?_eq_getElem hi
    have := turn i st' ns[i] hx hJ
    show Tgt X ro E env target (.int (ns.getD i 0)) st' _
    rw [List.getD_eq_getElem?_getD, hx]; exact this
end
end Mine
end
section
open PySem PySem.W PyProof.Rows PySem.Calls
open PySem.Sem (wp)
open PySem.Builtin.Bytes (decodersThatHold exported exportsOf checkResize payload payload? write byteValue slotIsOwn ownRelease buffer? takeBuffer? takeBufferQuiet? thenGiveBack tooLong containsIn)
set_option Elab.async false
set_option maxRecDepth 100000
set_option linter.unusedVariables false
set_option linter.deprecated false
namespace Mine
namespace B
theorem mro_ba : mroOf (.type "bytearray") = pure [.type "bytearray", .type "object"] := by rw [mroOf_type]; kernel_rfl
theorem lookup_new : typeLookup (.type "bytearray") "__new__" = pure (some (.builtin "bytearray.__new__")) := by rw [typeLookup_type, builtinLookup_eq_fast]; kernel_rfl
theorem called_ba : TypeCalled "bytearray" "bytearray.__new__" "bytearray.__init__" :=
  ⟨by decide +kernel, by decide +kernel, ⟨_, _, mro_ba⟩, madeBy_type mro_ba lookup_new (by decide +kernel), by decide +kernel, by rw [isSubtype_type]; kernel_rfl, slot_init⟩
theorem typeCall0 : checkTypeCall "bytearray" ⟨[], []⟩ = pure () := by kernel_rfl
theorem newCall0 : checkBuiltinCall "bytearray.__new__" ⟨[.type "bytearray"], []⟩ = pure () := by kernel_rfl
theorem entry_new : entryFor table "bytearray.__new__" = some Builtin.«list.__new__» := by
  exact entryFor_alias (id' := "list.__new__") (by kernel_rfl) rfl (by decide +kernel) (by kernel_rfl)
theorem plain_new : plainId "bytearray.__new__" = true := by decide +kernel
set_option maxRecDepth 1000000 in
set_option maxHeartbeats 4000000 in
theorem owner_new : ("bytearray.__new__".splitOn ".__new__").headD "" = "bytearray" := by simp +decide [String.splitOn, String.splitOnAux]
end B
section
variable {prog : Program} {w : World} {A : Around} {E : Value → Shared → Prop} {s : Shared}
theorem code_ba_new (args : List Value) (hc : checkBuiltinCall "bytearray.__new__" ⟨.type "bytearray" :: args, []⟩ = pure ()) {Q₁ : Value → Shared → Prop}
    (h : Q₁ (.ref s.heap.objs.size) { s with heap := s.heap.push { cls := .type "bytearray", data := .bytearray #[] 0 } }) :
    codeAny (model prog w) A (.call (.builtin "bytearray.__new__") ⟨.type "bytearray" :: args, []⟩) (wants Q₁ E) s := by
  refine codeAny_of_tree ?_
  show wpAny _ A.in1 (do checkBuiltinCall "bytearray.__new__" ⟨.type "bytearray" :: args, []⟩; again (.builtin "bytearray.__new__" ⟨.type "bytearray" :: args, []⟩)) _ _ s
  refine wpAny_bind (wpAny_of_eq hc (wpAny_pure ⟨plainId_quiet B.plain_new _, codeAny_builtin_stack B.entry_new rfl fun p st => ?_⟩))
  rw [Around.under_plainId B.plain_new _]
  have hsub := B.sub_ba
  have hown := B.owner_new
  obtain ⟨hp, g, d, tk, os⟩ := s
  simp only [hown]
  wp_walk
  exact h
theorem codeR_builtin {R : Result → Shared → Prop} {id : String} {args : Args} {b : Builtin} (hd : decodersThatHold.contains id = false) (hb : entryFor table id = some b)
    (h : wpR (model prog w) (A.under (.builtin id args)) (b args)
      (fun fin s' => match fin with | .done f => R (.ok f) s' | .again c' => c'.quiet = true ∧ codeR (model prog w) A c' R s') (fun e s' => R (.error e) s') s) :
    codeR (model prog w) A (.builtin id args) R s := by
  refine codeR_of_tree hd ?_
  show wpR _ _ (match entryFor table id with | some b => b args | none => unsupported ((withoutEnding? id "#data").getD id)) _ _ s
  rw [hb]; exact h
/-- a type's call whose __init__ asks the stack -/
theorem callType_R {T newId initId : String} {Bi : Builtin} {args : List Value} {Q Q₁ : Value → Shared → Prop} (ft : TypeCalled T newId initId)
    (hct : checkTypeCall T ⟨args, []⟩ = pure ()) (hdec : decodersThatHold.contains initId = false) (entryI : entryFor table initId = some Bi)
    (hnew : codeAny (model prog w) A.in1 (.call (.builtin newId) ⟨.type T :: args, []⟩) (wants Q₁ E) s)
    (hnext : ∀ obj s₁, Q₁ obj s₁ → s₁.TypeIs obj T ∧ argsOk initId ⟨obj :: args, []⟩ ∧
      wpR (model prog w) A.in1.in1 (Bi ⟨obj :: args, []⟩) (fun fin s' => match fin with | .done f => wants (fun r s₂ => r = .none ∧ Q obj s₂) E (.ok f) s' | .again c' => c'.quiet = true ∧ codeR (model prog w) A.in1 c' (wants (fun r s₂ => r = .none ∧ Q obj s₂) E) s')
        (fun e s' => wants (fun r s₂ => r = .none ∧ Q obj s₂) E (.error e) s') s₁) :
    wpR (model prog w) A (call (.type T) args) Q E s := by
  obtain ⟨c, tl, hmro⟩ := ft.mro
  refine wpR_call (codeR_of_tree rfl ?_)
  show wpR _ _ (callAny (.type T) _) _ _ _
  refine wpR_pure ⟨Code.quiet_builtin _ (by decide +kernel), codeR_builtin (by decide +kernel) F.entry_type_call ?_⟩
  rw [Around.under_plain (weight_type_call_type T args []) (units_type_call_type T args [])]
  unfold Builtin.«type.__call__»
  dsimp only
  rw [if_neg (by rw [ft.notType]; exact Bool.false_ne_true)]
  have hcc := ft.canCreate
  rw [if_neg (by rw [hcc]; exact Bool.false_ne_true)]
  refine wpR_bind (wpR_of_eq hct ?_)
  refine wpR_bind (wpR_of_eq hmro ?_)
  rw [if_neg (by simp)]
  refine wpR_bind (wpR_of_eq ft.made ?_)
  refine wpR_bind (wpR_pure ?_)
  refine wpR_bind (wpR_holding (wpR_call (codeR_of (codeAny_mono hnew fun r s₁ hr => ?_))))
  cases r with
  | error e => exact hr
  | ok fl =>
    cases fl with
    | ret obj =>
      obtain ⟨hT, hok, hi⟩ := hnext _ _ hr
      refine wpR_bind (wpR_of (wpAny_isInstance hT ft.sub ?_))
      rw [if_neg (by simp)]
      refine wpR_bind (wpR_holding ?_)
      unfold callSpecial?
      refine wpR_bind (wpR_of (wpAny_specialOf hT ft.init.lookup ?_))
      refine wpR_holding (wpR_bind (wpR_of_eq (ft.init.bind obj) (wpR_bind ?_)))
      refine wpR_call (codeR_mono (codeR_call_builtin hdec ft.init.plain entryI (ft.init.check _ _ _ _ _ _ _ _ hT hok hi)) fun r₂ s₂ hr₂ => ?_)
      cases r₂ with
      | error e => exact hr₂
      | ok fl₂ =>
        cases fl₂ with
        | ret r =>
          obtain ⟨rfl, hq⟩ := hr₂
          refine wpR_pure ?_
          show wpR _ _ (if (Value.none != Value.none) = true then _ else _) _ _ s₂
          rw [if_neg (by decide)]
          exact wpR_pure hq
        | _ => exact hr₂.elim
    | _ => exact hr.elim
theorem call_ba_empty {Q : Value → Shared → Prop} (hg : A.guards = some []) (hq : ∀ h', IsBa h' s.heap.objs.size #[] → (∀ b o, s.heap.get? b = some o → h'.get? b = some o) → Q (.ref s.heap.objs.size) { s with heap := h' }) :
    wpR (model prog w) A (call (.type "bytearray") []) Q E s := by
  refine callType_R (Q₁ := fun obj s₁ => obj = .ref s.heap.objs.size ∧ s₁ = { s with heap := s.heap.push { cls := .type "bytearray", data := .bytearray #[] 0 } }) B.called_ba B.typeCall0 (by decide +kernel) B.entry_init
    (code_ba_new [] B.newCall0 ⟨rfl, rfl⟩) fun obj s₁ h₁ => ?_
  obtain ⟨rfl, rfl⟩ := h₁
  have hB : IsBa (s.heap.push { cls := .type "bytearray", data := .bytearray #[] 0 }) s.heap.objs.size #[] := Heap.get?_push_size _ rfl
  refine ⟨IsBa.typeIs (s := { s with heap := s.heap.push { cls := .type "bytearray", data := .bytearray #[] 0 } }) hB, B.args_init _, ?_⟩
  unfold Builtin.«bytearray.__init__»
  dsimp only
  refine wpR_bind (wpR_of (ownRelease_ba (s := { s with heap := s.heap.push { cls := .type "bytearray", data := .bytearray #[] 0 } }) hB ?_))
  rw [if_neg Bool.false_ne_true]
  refine wpR_bind (wpR_of_eq (a := [none, none, none]) (by kernel_rfl) ?_)
  refine wpR_bind (wpR_of_eq (a := ()) rfl ?_)
  refine wpR_bind (wpR_of_eq (a := ()) rfl ?_)
  refine wpR_bind (wpR_bind (exported_R hg ?_))
  show wpR _ _ (do return decide ((← exportsOf (.ref s.heap.objs.size)) > 0)) _ _ _
  refine wpR_bind (wpR_of ?_)
  unfold exportsOf
  refine wpAny_bind (wpAny_load hB ?_)
  refine wpAny_pure ?_
  refine wpR_pure ?_
  rw [if_neg (by decide)]
  refine wpR_bind (wpR_of (write_ba (s := { s with heap := s.heap.push { cls := .type "bytearray", data := .bytearray #[] 0 } }) hB (by decide) fun h' hb hs => ?_))
  refine wpR_pure ⟨rfl, ?_⟩
  exact hq h' hb fun b o e => hs.extBut b o (Nat.ne_of_lt (Heap.lt_size e)) (Heap.get?_push_of_some _ e)
end
end Mine
end
section
open PySem PySem.W PyProof.Rows PySem.Calls
open PySem.Sem (wp)
open PySem.Builtin.Bytes (payload payload? buffer?)
set_option Elab.async false
set_option maxRecDepth 100000
set_option linter.unusedVariables false
set_option linter.deprecated false
namespace Mine
namespace B
theorem no_bytes_ba : typeLookup (.type "bytearray") "__bytes__" = pure none := by rw [typeLookup_type, builtinLookup_eq_fast]; kernel_rfl
theorem no_index_ba : typeLookup (.type "bytearray") "__index__" = pure none := by rw [typeLookup_type, builtinLookup_eq_fast]; kernel_rfl
theorem len_b : typeLookup (.type "bytes") "__len__" = pure (some (.builtin "bytes.__len__")) := by rw [typeLookup_type, builtinLookup_eq_fast]; kernel_rfl
end B
section
variable {prog : Program} {w : World} {A : Around} {E : Value → Shared → Prop} {s : Shared}
theorem bytes_new_ba {a : Addr} {b : Array UInt8} {Q : Value → Shared → Prop} (hB : IsBa s.heap a b) (hz : b.size ≤ 16777216) (hQ : ∀ t k, Q (.bytes b t) { s with toks := k }) :
    codeAny (model prog w) A (.call (.builtin "bytes.__new__") ⟨[.type "bytes", .ref a], []⟩) (wants Q E) s := by
  refine codeAny_of_tree ?_
  show wpAny _ A.in1 (do checkBuiltinCall "bytes.__new__" ⟨[.type "bytes", .ref a], []⟩; again (.builtin "bytes.__new__" ⟨[.type "bytes", .ref a], []⟩)) _ _ s
  refine wpAny_bind (wpAny_of_eq (F.bm_newCall _) (wpAny_pure ⟨plainId_quiet F.bm_plain _, codeAny_builtin F.bm_entry ?_⟩))
  rw [Around.under_plainId F.bm_plain _]
  have hT := hB.typeIs
  unfold Builtin.«bytes.__new__»
  refine wpAny_bind (wpAny_of_eq (a := true) rfl ?_)
  refine bm_if_false rfl ?_
  refine wpAny_bind (wpAny_of_eq F.bm_sub ?_)
  refine bm_if_false rfl ?_
  refine wpAny_bind (wpAny_of_eq (F.bm_bind _) ?_)
  refine wpAny_bind (wpAny_of_eq (a := ()) rfl ?_)
  refine wpAny_bind (wpAny_of_eq (a := ()) rfl ?_)
  refine bm_if_false rfl ?_
  refine wpAny_bind (wpAny_specialOf hT B.no_bytes_ba ?_)
  refine wpAny_bind (wpAny_bind ?_)
  show wpAny _ _ (load a >>= _) _ _ _
  refine wpAny_bind (wpAny_load hB ?_)
  refine wpAny_pure (wpAny_pure ?_)
  refine bm_if_false rfl ?_
  refine wpAny_bind (wpAny_specialOf hT B.no_index_ba ?_)
  refine bm_if_true rfl ?_
  first
    | show wpAny _ _ (buffer? "bytes.__new__" (.ref a) true >>= _) _ _ _
    | (refine wpAny_bind ?_; show wpAny _ _ (buffer? "bytes.__new__" (.ref a) true >>= _) _ _ _)
  refine wpAny_bind (buffer_ba hB ?_)
  refine wpAny_bind (wpAny_rule ?_)
  have hm : wpAny (model prog w) A.in1 (mkBytes b) (fun v s' => ∃ t k, v = .bytes b t ∧ s' = { s with toks := k }) (fun e s' => wants Q E (.error e) s') s := by
    unfold mkBytes
    rw [if_neg (by rw [sizeLine_eq]; omega)]
    refine wpAny_bind (wpAny_fresh' ?_)
    exact wpAny_pure ⟨_, _, rfl, rfl⟩
  refine wpAny_bind (wpAny_mono hm (fun v s' ⟨t, k, e1, e2⟩ => ?_) fun _ _ e => e)
  subst e1 e2
  first
    | exact wpAny_pure (hQ _ _)
    | exact wpAny_pure (wpAny_pure (hQ _ _))
theorem call_bytes_ba {a : Addr} {b : Array UInt8} {Q : Value → Shared → Prop} (hB : IsBa s.heap a b) (hz : b.size ≤ 16777216) (hQ : ∀ t k, Q (.bytes b t) { s with toks := k }) :
    wpAny (model prog w) A (call (.type "bytes") [.ref a]) Q E s := by
  refine callType_codes (Q₁ := fun obj s₁ => s₁.TypeIs obj "bytes" ∧ Q obj s₁) F.bm_called (F.bm_typeCall _) F.entry_object_init
    (bytes_new_ba hB hz fun t k => ⟨PySem.W.typeIs_bytes _ _ _, hQ t k⟩) fun obj s₁ h₁ => ?_
  exact ⟨h₁.1, F.args_object_init_2 obj _, object_init_meets F.bm_called.init.lookup F.bm_called.made (by decide) prog w A.in1 _ s₁ ⟨h₁.1, rfl, h₁.2⟩⟩
end
end Mine
end
section
open PySem PySem.W PyProof.Rows PySem.Calls
open PySem.Sem (wp)
open PySem.Builtin.Bytes (payload payload? buffer?)
set_option Elab.async false
set_option maxRecDepth 100000
set_option linter.unusedVariables false
set_option linter.deprecated false
namespace Mine
section
variable {prog : Program} {w : World} {A : Around} {E : Value → Shared → Prop} {s : Shared}
theorem extend_bytes {R : Result → Shared → Prop} (hh : A.handled = none) (x : Array UInt8) (t : Tok) (S : Addr) (res : Value) (c₀ : Nat) (hS : s.heap.get? S = some { cls := .type "list", data := .seq #[] c₀ })
    (hR : ∀ h' tk acc' c', (∀ b o, b ≠ S → s.heap.get? b = some o → h'.get? b = some o) → h'.get? S = some { cls := .type "list", dict := none, data := .seq acc' c', slots := #[] } →
      ItemsOf (fun i v => ∃ c u, x[i]? = some c ∧ v = .int (c.toNat : Int) u) acc' x.size → R (.ok (.ret res)) { s with heap := h', toks := tk }) (hn : x.size ≤ sizeLine) :
    wpAny (model prog w) A.in1 (Builtin.List.listExtendWith (.ref S) (.bytes x t) res)
      (fun fin s' => match fin with | .done f => R (.ok f) s' | .again c' => c'.quiet = true ∧ codeAny (model prog w) A c' R s') (fun e s' => R (.error e) s') s := by
  have hSI : S ≠ s.heap.objs.size := Nat.ne_of_lt (Heap.lt_size hS)
  have hSf : S ∉ [s.heap.objs.size] := fun hm => hSI (List.mem_singleton.mp hm)
  unfold Builtin.List.listExtendWith
  refine wpAny_bind (wpAny_typeOf (T := "bytes") (v := .bytes x t) rfl ?_)
  have h1 : Builtin.List.listSameRef (.ref S) (.bytes x t) = false := rfl
  have h2 : (Value.type "bytes" == Value.type "list") = false := by decide
  have h3 : (Value.type "bytes" == Value.type "tuple") = false := by decide
  simp only [h1, h2, h3, Bool.or_false, Bool.false_eq_true, if_false]
  refine wpAny_bind (KBw.pyIter_bytes ?_)
  refine wpAny_bind (wpAny_holding ?_)
  unfold Builtin.List.listLengthHint
  refine wpAny_bind (wpAny_specialOf (T := "bytes") (v := .bytes x t) rfl B.len_b ?_)
  wp_delta
  refine wpAny_bind (wpAny_isInstance (T := "bytes") (v := .bytes x t) (b := true) rfl (by rw [isSubtype_type]; kernel_rfl) ?_)
  show wpAny _ _ (typeOf (Value.bytes x t) >>= _) _ _ _
  refine wpAny_bind (wpAny_typeOf (T := "bytes") (v := .bytes x t) rfl ?_)
  refine wpAny_pure ?_
  rw [if_neg (by decide)]
  refine wpAny_pure ⟨plainId_quiet F.plain_extend_loop _, codeAny_extend_loopS (KBw.walks (A := A.in1) hh s.heap.objs.size x t).toS hn _ hSf _ x.size 0 _ _ _ rfl (Nat.zero_le _) ⟨_, Heap.get?_push_size _ rfl, rfl, rfl⟩ (Heap.get?_push_of_some _ hS) (ItemsOf.nil _) fun s' acc' c' hm hS' hacc => ?_⟩
  rw [Moved.eq_with hm]
  refine hR s'.heap s'.toks acc' c' (fun b ob hb e => hm.heap b ob (fun hmem => ?_) (Heap.get?_push_of_some _ e)) hS' hacc
  rcases List.mem_cons.mp hmem with e' | hmem
  · exact hb e'
  · exact absurd (Heap.lt_size e) (by rw [List.mem_singleton.mp hmem]; exact Nat.lt_irrefl _)
theorem call_list_bytes {Q : Value → Shared → Prop} (hh : A.handled = none) (x : Array UInt8) (t : Tok)
    (hQ : ∀ h' tk acc' c', (∀ b o, s.heap.get? b = some o → h'.get? b = some o) →
      h'.get? s.heap.objs.size = some { cls := .type "list", dict := none, data := .seq acc' c', slots := #[] } → ItemsOf (fun i v => ∃ c u, x[i]? = some c ∧ v = .int (c.toNat : Int) u) acc' x.size → Q (.ref s.heap.objs.size) { s with heap := h', toks := tk }) (hn : x.size ≤ sizeLine) :
    wpAny (model prog w) A (call (.type "list") [.bytes x t]) Q E s := by
  refine callType_codes (Q₁ := fun obj s₁ => obj = .ref s.heap.objs.size ∧ s₁ = { s with heap := s.heap.push { cls := .type "list", data := .seq #[] } }) F.called_list (F.typeCall_list_1 _) F.entry_list_init
    (code_list_new _ ⟨rfl, rfl⟩) fun obj s₁ h₁ => ?_
  obtain ⟨rfl, rfl⟩ := h₁
  have hS : (s.heap.push { cls := .type "list", data := .seq #[] }).get? s.heap.objs.size = some { cls := .type "list", data := .seq #[] } := Heap.get?_push_size _ rfl
  refine ⟨⟨_, hS, rfl⟩, F.args_list_init_2 _ _, ?_⟩
  show wpAny _ _ (do let old ← Builtin.List.listItems (.ref s.heap.objs.size); Builtin.List.listUpdate (.ref s.heap.objs.size) (fun _ => #[]); letGo old.toList.reverse; Builtin.List.listExtendWith (.ref s.heap.objs.size) (.bytes x t) .none) _ _ _
  refine wpAny_bind ?_
  unfold Builtin.List.listItems
  refine wpAny_bind (wpAny_seqItems hS rfl (wpAny_pure ?_))
  show wpAny _ _ (updateSeq s.heap.objs.size (fun _ => #[]) >>= fun _ => letGo (#[] : Array Value).toList.reverse >>= fun _ => Builtin.List.listExtendWith (.ref s.heap.objs.size) (.bytes x t) .none) _ _ _
  refine wpAny_bind (wpAny_updateSeq hS rfl ?_)
  have hS₂ := Heap.get?_update_self (Obj.mapSeq (fun _ => (#[] : Array Value))) hS rfl
  refine wpAny_bind (wpAny_letGo ?_)
  refine extend_bytes (A := A.in1) (R := wants (fun r s₂ => r = .none ∧ Q (.ref s.heap.objs.size) s₂) E) (hn := hn) hh x t _ .none _ hS₂ fun h' tk acc' c' hk hS' hacc => ?_
  exact ⟨rfl, hQ h' tk acc' c' (fun b o e => hk b o (Nat.ne_of_lt (Heap.lt_size e)) ((Heap.get?_update_other _ _ (Ne.symm (Nat.ne_of_lt (Heap.lt_size e)))).trans (Heap.get?_push_of_some _ e))) hS' hacc⟩
end

theorem items_all2 {ns : List Int} {acc : Array Value} (h : ItemsOf (fun i v => ∃ t, v = .int (ns.getD i 0) t) acc ns.length) : All2 (ns.map V.int) acc.toList := by
  obtain ⟨h1, h2⟩ := h
  have key : ∀ (us : List V) (vs : List Value), us.length = vs.length → (∀ (i : Nat) u v, us[i]? = some u → vs[i]? = some v → u.Is v) → All2 us vs := by
    intro us
    induction us with
    | nil => intro vs h _; cases vs with
      | nil => exact .nil
      | cons _ _ => simp at h
    | cons u us ih => intro vs h hi; cases vs with
      | nil => simp at h
      | cons v vs => exact .cons (hi 0 u v rfl rfl) (ih vs (by simpa using h) fun i a b ha hb => hi (i + 1) a b (by simpa using ha) (by simpa using hb))
  refine key _ _ (by simp [h1]) fun i u v hu hv => ?_
  rw [Array.getElem?_toList] at hv
  obtain ⟨t, rfl⟩ := h2 i v hv
  rw [List.getElem?_map] at hu
  cases hn : ns[i]? with
  | none => rw [hn] at hu; cases hu
  | some n =>
    rw [hn] at hu
    cases hu
    exact ⟨t, by rw [List.getD_eq_getElem?_getD, hn]; rfl⟩

/-- range's ints -/
def rng (a b : Int) : List Int := (List.range (b - a).toNat).map fun i => a + (i : Nat)
theorem rng_length (a b : Int) : (rng a b).length = (b - a).toNat := by simp [rng]
theorem rng_getD {a b : Int} {i : Nat} (h : i < (b - a).toNat) : (rng a b).getD i 0 = a + i := by
  simp [rng, List.getD_eq_getElem?_getD, List.getElem?_map, List.getElem?_range h]

section
variable {X : Cx} {ro : Led} {E : Er} {st : St} {nm : Str} {sc : Scope} {a : Addr} {cd : Value} {env : Env} {R : Heap} {s : Shared}
theorem list_bytes' {ns : List Int} {Q : V → St → Prop} (hh : X.A.handled = none) (hsz : ns.length ≤ 16777216) (hq : ∀ l, Q (.ref l) { st with own := (l, .ints ns) :: st.own }) :
    OpN X ro E (fun vs => call (.type "list") vs) [.bytes ns] st Q := by
  rintro vs (_ | ⟨⟨b, t, rfl, hb⟩, (_ | _)⟩) R s S
  have hbl : ns.length = b.size := by rw [← hb, bInts_length]
  refine wpR_of (call_list_bytes hh b t (fun h' tk acc c hk hS hacc => ⟨.ref s.heap.objs.size, _, rfl, S.alloc (c := .ints ns) (size_none _) ⟨_, hS, ⟨acc, c, rfl, ?_⟩⟩ hk, hq _⟩) (by rw [sizeLine_eq]; omega))
  refine items_all2 ⟨by rw [hacc.1, hbl], fun j v hj => ?_⟩
  obtain ⟨c, u, hx, rfl⟩ := hacc.2 j v hj
  refine ⟨u, ?_⟩
  have := KBw.ints_get hx
  have hb' : KBw.bInts b = ns := hb
  rw [hb'] at this
  rw [List.getD_eq_getElem?_getD, this]; rfl
theorem eq_ints' {l m : Addr} {ns ms : List Int} {Q : V → St → Prop} (hu : X.A.units + 64 < cLine) (hl : Kn ro st l (.ints ns)) (hm : Kn ro st m (.ints ms)) (hq : Q (.bool (decide (ns = ms))) st) :
    Op2 X ro E (compareOp .Eq) (.ref l) (.ref m) st Q := by
  rintro v w rfl rfl R s S
  obtain ⟨ws, hL, hw⟩ := (S.at hl).isList
  obtain ⟨ws2, hL2, hw2⟩ := (S.at hm).isList
  rw [← Array.toArray_toList (xs := ws)] at hL
  rw [← Array.toArray_toList (xs := ws2)] at hL2
  exact wpR_of (eq_intsK hL hw.ints hL2 hw2.ints hu ⟨.bool (decide (ns = ms)), st, rfl, S, hq⟩)
/-- list(range(a, b)), list(range(b)): both calls at once -/
theorem list_range2 {i j : Int} {Q : V → St → Prop} (hh : X.A.handled = none) (hi : -4294967296 ≤ i ∧ i < 4294967296) (hj : -4294967296 ≤ j ∧ j < 4294967296) (hsz : j - i ≤ 16777216)
    (hq : ∀ l, Q (.ref l) { st with own := (l, .ints (rng i j)) :: st.own }) :
    OpN X ro E (fun vs => call (.type "range") vs) [.int i, .int j] st fun u st₁ => OpN X ro E (fun vs => call (.type "list") vs) [u] st₁ Q := by
  rintro vs (_ | ⟨⟨t, rfl⟩, (_ | ⟨⟨u, rfl⟩, (_ | _)⟩)⟩) R s S
  have S₁ : Sat X ro st R { s with heap := s.heap.push { cls := .type "range", data := .fields #[.int i t, .int j u, .int 1 s.toks] }, toks := s.toks + 1 } := S.keeps fun b o e => Heap.get?_push_of_some _ e
  have hn : Builtin.Range.rangeSize i j 1 = ((j - i).toNat : Nat) := by rw [rangeSize_one]; split <;> omega
  refine wpR_of (call_range_2 ⟨.ref s.heap.objs.size, { st with own := (s.heap.objs.size, .obj { cls := .type "range", data := .fields #[.int i t, .int j u, .int 1 s.toks] }) :: st.own }, rfl, S.push rfl, ?_⟩)
  rintro vs (_ | ⟨rfl, (_ | _)⟩) R s₂ S₂
  obtain ⟨o, ho, e⟩ := S₂.at_own Has.head
  cases e
  have S₃ := S₂.sub (own' := st.own) (List.sublist_cons_self _ _)
  refine wpR_of (call_list_range hh (a := i) (b := j) (c := 1) (t := t) (u := u) (v := s.toks) (n := (j - i).toNat) ho (small_one (by omega) (by omega) (by omega) (by omega)) hn (by omega)
    fun h' tk acc c hk hS hacc => ⟨.ref s₂.heap.objs.size, _, rfl, S₃.alloc (c := .ints (rng i j)) (size_none _) ⟨_, hS, ⟨acc, c, rfl, ?_⟩⟩ hk, hq _⟩)
  refine items_all2 ⟨by rw [hacc.1, rng_length], fun k v hk => ?_⟩
  obtain ⟨t', rfl⟩ := hacc.2 k v hk
  have hlt : k < (j - i).toNat := by
    have := (Array.getElem?_eq_some_iff.mp hk).1
    rw [hacc.1] at this; exact this
  exact ⟨t', by rw [rng_getD hlt, Int.mul_one]⟩
/-- over range(n) -/
theorem for_range1 {target : Expr} {body : List Stmt} {n : Int} (J : Nat → St → Prop) {Q : Fl → St → Prop} (hE : ErOk X env E) (hh : X.A.handled = none) (hn : -4294967296 ≤ n ∧ n < 4294967296) (hj : J 0 st)
    (turn : ∀ (i : Nat) st', i < n.toNat → J i st' → Tgt X ro E env target (.int i) st' fun st₂ => TF X ro E st₂ (execs body env) (LoopQ Q (J (i + 1))))
    (done : ∀ st', J n.toNat st' → Q .next st')
    (ht : ∀ it v, letOwnedTupleGo target it v = pure () := by intro _ _; rfl) :
    OpN X ro E (fun vs => call (.type "range") vs) [.int n] st fun u st₁ => ForOver X ro E env target body Q u st₁ := by
  rintro vs (_ | ⟨⟨t, rfl⟩, (_ | _)⟩) R s S
  refine wpR_of (call_range_1 ⟨.ref s.heap.objs.size, { st with own := (s.heap.objs.size, .obj { cls := .type "range", data := .fields #[.int 0 s.toks, .int n t, .int 1 (s.toks + 1)] }) :: st.own }, rfl, S.push rfl, ?_⟩)
  rintro v rfl R s₂ S₂
  obtain ⟨o, ho, e⟩ := S₂.at_own Has.head
  cases e
  have S₃ := S₂.sub (own' := st.own) (List.sublist_cons_self _ _)
  have hsz : Builtin.Range.rangeSize 0 n 1 = (n.toNat : Nat) := by rw [rangeSize_one]; split <;> omega
  refine wpR_of (wpAny_pyIter_range (a := 0) (b := n) (c := 1) ho (small_one (by omega) (by omega) (by omega) (by omega)) ?_)
  rw [hsz]
  have S₁ : Sat X ro st R { s₂ with heap := s₂.heap.push { cls := .type "range_iterator", data := .fields #[rawInt 0, rawInt (n.toNat : Nat), rawInt 1] } } := S₃.keeps (tk := s₂.toks) fun b o e => Heap.get?_push_of_some _ e
  have hlt : ∀ {b c}, At s₂.heap b c → b ≠ s₂.heap.objs.size := fun h => Nat.ne_of_lt h.lt
  refine for_core (fp := [s₂.heap.objs.size]) (fun i h => IsRangeIter h s₂.heap.objs.size (i : Nat) ((n.toNat : Int) - (i : Nat)) 1) n.toNat (fun i => .int i) J hE S₁ ?_ hj ?_ ?_ (S₂.outs_off (Nat.le_refl _)) ?_ ?_ ?_ ?_ ?_ turn done (ht _)
  · show IsRangeIter _ _ _ _ _
    simpa using Heap.get?_push_size _ rfl
  · intro b hb; rw [List.mem_singleton.mp hb]
    cases e : R.get? s₂.heap.objs.size with
    | none => rfl
    | some o => exact absurd (Heap.lt_size (S₂.fr _ _ e)) (Nat.lt_irrefl _)
  · intro hm; exact absurd S₂.lt (by rw [List.mem_singleton.mp hm]; exact Nat.lt_irrefl _)
  · intro p hp hm; exact hlt (S₃.own p hp).2.2 (List.mem_singleton.mp hm)
  · intro i h hz b hb; rw [List.mem_singleton.mp hb]; exact ⟨_, hz⟩
  · intro i h h' hz hk; exact hk _ (List.mem_singleton.mpr rfl) _ hz
  · intro i st' R' s' P E' hi S' hJ hZ hO hP
    refine wpAny_pyNext_range_item hZ (by omega) fun h' hit hs => hP _ h' _ ⟨_, rfl⟩ ?_ fun b o hb e => hs.extBut b o (fun h => hb (List.mem_singleton.mpr h)) e
    have e1 : ((i + 1 : Nat) : Int) = (i : Int) + 1 := by omega
    have e2 : (n.toNat : Int) - ((i + 1 : Nat) : Int) = (n.toNat : Int) - (i : Int) - 1 := by omega
    show IsRangeIter _ _ _ _ _
    rw [e2, e1]; exact hit
  · intro st' R' s' P E' S' hJ hZ hO hP
    exact wpAny_pyNext_range_end hh hZ (by omega) fun h' he => hP h' s'.toks fun b o hb e => he b o (fun h => hb (List.mem_singleton.mpr h)) e
end
end Mine
end
section
open PySem PySem.W PyProof.Rows PySem.Calls
open PySem.Sem (wp)
set_option Elab.async false
set_option maxRecDepth 100000
set_option linter.unusedVariables false
set_option linter.deprecated false
namespace Mine
theorem sum_bnd {B : Int} (hB : 0 ≤ B) : ∀ {ks : List Int}, (∀ k ∈ ks, 0 ≤ k ∧ k ≤ B) → 0 ≤ ks.sum ∧ ks.sum ≤ B * (ks.length : Int)
  | [], _ => by simp
  | k :: r, h => by
    have h1 := h k List.mem_cons_self
    have h2 := sum_bnd hB (ks := r) fun x hx => h x (List.mem_cons_of_mem _ hx)
    simp only [List.sum_cons, List.length_cons]
    have e : B * ((r.length + 1 : Nat) : Int) = B * (r.length : Int) + B := by push_cast; rw [Int.mul_add, Int.mul_one]
    rw [e]; omega
section
variable {X : Cx} {ro : Led} {E : Er} {st : St} {nm : Str} {sc : Scope} {a : Addr} {cd : Value} {env : Env} {R : Heap} {s : Shared}
theorem sum_ints' {l : Addr} {ns : List Int} {Q : V → St → Prop} (hh : X.A.handled = none) (hl : Kn ro st l (.ints ns)) (hr : ∀ n ∈ ns, 0 ≤ n ∧ n ≤ 1073741824) (hsz : ns.length ≤ 1048576) (hq : Q (.int ns.sum) st) :
    OpN X ro E (fun vs => call (.builtin "sum") vs) [.ref l] st Q := by
  rintro vs (_ | ⟨rfl, (_ | _)⟩) R s S
  obtain ⟨ws, hL, hw⟩ := (S.at hl).isList
  have hn : ns.length = ws.size := by simpa using hw.length
  obtain ⟨ol, hol, _⟩ := id hL
  have hlt : l < s.heap.objs.size := Heap.lt_size hol
  refine wpR_of (call_sum_walk (wpAny_pyIter_list hL ?_))
  refine ⟨s.heap.objs.size, [s.heap.objs.size, l], [s.heap.objs.size], ws.size, _, _, fun j => ns.getD j 0, rfl, Walks.list (A := X.A.in1) hh s.heap.objs.size l (Nat.ne_of_lt hlt) ws,
    ⟨⟨_, Heap.get?_push_size _ rfl, rfl, rfl⟩, hL.push _⟩, ?_, ?_, ?_, ?_⟩
  · intro b hb
    rw [Heap.size_push]
    rcases List.mem_cons.mp hb with rfl | hb
    · exact Nat.lt_succ_self _
    · rw [List.mem_singleton.mp hb]; exact Nat.lt_succ_of_lt hlt
  · intro i v hv
    rw [← Array.getElem?_toList] at hv
    obtain ⟨u, hu, hi⟩ := hw.get' hv
    rw [List.getElem?_map] at hu
    cases hx : ns[i]? with
    | none => rw [hx] at hu; cases hu
    | some n =>
      rw [hx] at hu; cases hu
      obtain ⟨t, rfl⟩ := hi
      exact ⟨t, by show Value.int n t = Value.int (ns.getD i 0) t; rw [List.getD_eq_getElem?_getD, hx]; rfl⟩
  · intro j hj
    have hj' : j + 1 ≤ ns.length := by omega
    have h2 := KBmo.pre_take ns (j + 1) hj'
    have h3 := sum_bnd (B := 1073741824) (by decide) (ks := ns.take (j + 1)) fun k hk => hr k (List.mem_of_mem_take hk)
    have h4 : (ns.take (j + 1)).length ≤ ns.length := by rw [List.length_take]; exact Nat.min_le_right _ _
    have hx : ns[j]? = some ns[j] := List.getElem?_eq_getElem (by omega)
    have h1 := hr ns[j] (List.mem_of_getElem? hx)
    unfold InLong
    rw [h2]
    have hd : ns.getD j 0 = ns[j] := by rw [List.getD_eq_getElem?_getD, hx]; rfl
    refine ⟨⟨?_, ?_⟩, ?_, ?_⟩ <;> (try dsimp only) <;> (try rw [hd]) <;> omega
  · intro h' tk t' hk'
    have e : preSum (fun j => ns.getD j 0) ws.size = ns.sum := by
      rw [← hn, KBmo.pre_take _ _ (Nat.le_refl _), List.take_length]
    rw [e]
    have keep : ∀ a o, s.heap.get? a = some o → h'.get? a = some o := fun a o ha => hk' a o (fun hm => absurd (Heap.lt_size ha) (by rw [List.mem_singleton.mp hm]; exact Nat.lt_irrefl _)) (Heap.get?_push_of_some _ ha)
    exact ⟨.int ns.sum, st, ⟨t', rfl⟩, S.keeps keep, hq⟩

/-- while, by a measure -/
def WhileQ (Q : Fl → St → Prop) (J : St → Prop) (f : Fl) (st : St) : Prop := LoopQ Q J f st
theorem While' {test : Expr} {body : List Stmt} {pos : Pos} (J : Nat → St → Prop) (n : Nat) {Q : Fl → St → Prop} (hE : ErOk X env E) (hj : J n st)
    (turn : ∀ n st', J n st' → TB X ro E st' (isTrue test env (eval test env)) fun b st₂ => (b = true → TF X ro E st₂ (execs body env) (LoopQ Q fun st₃ => ∃ m, m < n ∧ J m st₃)) ∧ (b = false → Q .next st₂)) :
    TF X ro E st (exec (.While test body [] pos) env) Q := fun R s S => by
  refine wpR_While (codeR_whileLoop (fun k s' => ∃ st', Sat X ro st' R s' ∧ J k st') ?_ n ⟨st, S, hj⟩)
  rintro k s' ⟨st', S', hJ⟩
  refine wpR_mono (turn k st' hJ R s' S') (fun b s₂ h => ?_) fun e s₂ h => hE.2 R e s₂ h
  obtain ⟨b', st₂, e, S₂, h₂⟩ := h
  subst e
  cases b with
  | false =>
    simp only [Bool.false_eq_true, if_false]
    exact wpR_of (wpAny_execs_nil ⟨.next, st₂, rfl, S₂, h₂.2 rfl⟩)
  | true =>
    simp only [if_true]
    refine wpR_mono (h₂.1 rfl R s₂ S₂) (fun f s₃ h => ?_) fun e s₃ h => hE.2 R e s₃ h
    obtain ⟨g, st₃, hg, S₃, hq⟩ := h
    cases g with
    | next => cases hg; obtain ⟨m, hm, hJ'⟩ := hq; exact ⟨m, hm, st₃, S₃, hJ'⟩
    | cont => cases hg; obtain ⟨m, hm, hJ'⟩ := hq; exact ⟨m, hm, st₃, S₃, hJ'⟩
    | brk => cases hg; exact ⟨.next, st₃, rfl, S₃, hq⟩
    | ret u => obtain ⟨v, rfl, hv⟩ := hg; exact ⟨.ret u, st₃, ⟨v, rfl, hv⟩, S₃, hq⟩

/-- calls of the text's own defs -/
structure FnOk (B : Heap) (f : Addr) (name : Str) (params : Arguments) (body : List Stmt) (scope : Scope) (pm cd doc : Value) : Prop where
  at_ : ∃ o, B.get? f = some o ∧ o.data = .func (docDef name params body scope pm cd doc)
  code : B.CodeRec cd name
def Cx.call (X : Cx) (env : Env) (L' : Addr) (m : Str → Option Value) : Cx := { X with A := X.A.deeper env, L := L', outs := (X.L, m) :: X.outs }
/-- the heap but the frames' own tables -/
def Cx.off (X : Cx) (h : Heap) : Heap := hideAll h (X.L :: X.outs.map (·.1))
theorem Sat.off_get (S : Sat X ro st R s) {b : Addr} {o : Obj} (e : R.get? b = some o) : (X.off s.heap).get? b = some o := by
  refine hideAll_get _ (S.fr b o e) fun hm => ?_
  rcases List.mem_cons.mp hm with rfl | hm
  · rw [S.frL] at e; cases e
  · obtain ⟨q, hq, rfl⟩ := List.mem_map.mp hm
    rw [(S.outs q hq).2.1] at e; cases e
theorem Sat.off_own (S : Sat X ro st R s) {p : Addr × Cell} (hp : p ∈ st.own) : At (X.off s.heap) p.1 p.2 := by
  obtain ⟨o, ho, hc⟩ := (S.own p hp).2.2
  refine ⟨o, hideAll_get _ ho fun hm => ?_, hc⟩
  rcases List.mem_cons.mp hm with e | hm
  · exact (S.own p hp).2.1 e
  · obtain ⟨q, hq, e⟩ := List.mem_map.mp hm
    exact S.apart p hp q hq e.symm
def retV : Fl → V
  | .ret u => u
  | _ => .none
theorem call_fn {f : Addr} {name : Str} {params : Arguments} {body : List Stmt} {scope : Scope} {pm cd doc : Value} {x : Str} {u : V} {locs : List (Str × V)} {Ec : Addr → (Str → Option Value) → Er} {Q : V → St → Prop}
    (F : FnOk X.B f name params body scope pm cd doc) (hlim : X.B.NoLimit) (hroom : X.A.depth < recursionLimit)
    (hnd : ((x, u) :: locs).map (·.1) |>.Nodup) (hunk : ∀ p ∈ locs, p.2 = .unk)
    (h : ∀ L' m, TF (X.call (envOf name scope L' f cd) L' m) (st.own ++ ro) (Ec L' m) ⟨(x, u) :: locs, []⟩ (execs body (envOf name scope L' f cd)) fun fl st' => Q (retV fl) ⟨st.loc, st'.own ++ st.own⟩)
    (hErr : ∀ L' m R s e s', Sat X ro st R s → L' = s.heap.objs.size → s.heap.Ns X.L m → (∀ p ∈ st.loc, LocIs (m p.1) p.2) → Ec L' m (X.off s.heap) e s' → wpR (model X.prog X.w) (X.A.deeper (envOf name scope L' f cd)) (leaving (envOf name scope L' f cd) e) (fun _ s'' => E R e s'') (fun e' s'' => E R e' s'') s')
    (hbind : ∀ v, bindArgs (docDef name params body scope pm cd doc) ⟨[v], []⟩ = pure [(x, v)] := by intro _; rfl)
    (hloc : scope.names.lookup x = some .local := by rfl)
    (hco : scope.isCoroutine = false := by rfl) (hgen : scope.isGenerator = false := by rfl) (hk : scope.kind = .function := by rfl)
    (hcell : ∀ x ∈ scope.names, x.2 ≠ .cell := by decide) :
    OpN X ro E (fun vs => call (.ref f) vs) [u] st Q := by
  rintro vs (_ | ⟨hv, (_ | _)⟩) R s S
  rename_i v
  obtain ⟨o, ho, hd⟩ := F.at_
  refine wpR_call (codeR_call_function hroom (S.keepB _ _ ho) hd hco hgen rfl (F.code.keeps S.keepB) ?_)
  rw [hbind]
  refine wpAny_pure (wpAny_newFunctionEnv hcell (fun y hy => by rw [List.mem_singleton.mp hy]; exact hloc) (fun h₁ hns hsb => ⟨(hlim.keeps S.keepB).fresh _ hsb, ?_⟩) hk)
  show codeR _ _ (.func body (envOf name scope s.heap.objs.size f cd)) _ _
  have keep : ∀ b o, s.heap.get? b = some o → h₁.get? b = some o := fun b o e => hsb.extBut b o (Nat.ne_of_lt (Heap.lt_size e)) (Heap.get?_push_of_some _ e)
  obtain ⟨m, hm, hml⟩ := S.ns
  have S₁ : Sat (X.call (envOf name scope s.heap.objs.size f cd) s.heap.objs.size m) (st.own ++ ro) ⟨(x, u) :: locs, []⟩ (X.off s.heap) { s with heap := h₁, toks := s.toks + 1 } :=
    { base := fun b o e => S.off_get (S.base b o e)
      ros := fun p hp => (List.mem_append.mp hp).elim (fun h => S.off_own h) fun h => (S.ros p h).keep fun o e => S.off_get e
      fr := fun b o e => keep b o (of_hideAll _ e)
      frL := by
        show (X.off s.heap).get? s.heap.objs.size = none
        cases e : (X.off s.heap).get? s.heap.objs.size with
        | none => rfl
        | some o => exact absurd (Heap.lt_size (of_hideAll _ e)) (Nat.lt_irrefl _)
      own := fun p hp => nomatch hp
      nd := .nil
      ns := ⟨_, hns, fun p hp => by
        rcases List.mem_cons.mp hp with rfl | hp
        · exact .inr ⟨v, by simp, hv⟩
        · exact .inl (hunk p hp)⟩
      nl := hnd
      gens := S.gens
      oss := S.oss
      outs := fun q hq => by
        rcases List.mem_cons.mp hq with rfl | hq
        · exact ⟨hm.keeps keep, hideAll_none _ (.head _), Nat.ne_of_lt S.lt⟩
        · refine ⟨(S.outs q hq).1.keeps keep, hideAll_none _ (.tail _ (List.mem_map.mpr ⟨q, hq, rfl⟩)), ?_⟩
          obtain ⟨o, _, _, ho, _⟩ := (S.outs q hq).1
          exact Nat.ne_of_lt (Heap.lt_size ho)
      apart := fun p hp => nomatch hp }
  refine codeR_func (wpR_mono (h s.heap.objs.size m _ _ S₁) (fun fl s' h' => ?_) fun e s' h' => hErr _ m R s e s' S rfl hm hml h')
  obtain ⟨g, st', hg, S', hq⟩ := h'
  have S'' : Sat X ro ⟨st.loc, st'.own ++ st.own⟩ R s' :=
    { base := S.base
      ros := S.ros
      fr := fun b o e => S'.fr b o (S.off_get e)
      frL := S.frL
      own := fun p hp => by
        rcases List.mem_append.mp hp with hp | hp
        · obtain ⟨h1, h2, h3⟩ := S'.own p hp
          refine ⟨?_, fun e => S'.apart p hp (X.L, m) (.head _) e, h3⟩
          cases e : R.get? p.1 with
          | none => rfl
          | some o => have := S.off_get e; rw [h1] at this; cases this
        · obtain ⟨h1, h2, h3⟩ := S.own p hp
          exact ⟨h1, h2, (S.off_own hp).keep fun o e => S'.fr _ o e⟩
      nd := by
        rw [List.map_append, List.nodup_append]
        refine ⟨S'.nd, S.nd, fun a ha b hb e => ?_⟩
        obtain ⟨p, hp, rfl⟩ := List.mem_map.mp ha
        obtain ⟨q, hq, rfl⟩ := List.mem_map.mp hb
        obtain ⟨o, ho, _⟩ := S.off_own hq
        rw [← e, (S'.own p hp).1] at ho; cases ho
      ns := ⟨m, (S'.outs (X.L, m) (.head _)).1, hml⟩
      nl := S.nl
      gens := S'.gens
      oss := S'.oss
      outs := fun q hq => ⟨(S'.outs q (.tail _ hq)).1, (S.outs q hq).2⟩
      apart := fun p hp q hq => by
        rcases List.mem_append.mp hp with hp | hp
        · exact S'.apart p hp q (.tail _ hq)
        · exact S.apart p hp q hq }
  cases g with
  | next => cases hg; exact ⟨V.none, _, (rfl : Value.none = Value.none), S'', hq⟩
  | brk => cases hg; exact ⟨V.none, _, (rfl : Value.none = Value.none), S'', hq⟩
  | cont => cases hg; exact ⟨V.none, _, (rfl : Value.none = Value.none), S'', hq⟩
  | ret u' => obtain ⟨w, rfl, hw⟩ := hg; exact ⟨u', _, hw, S'', hq⟩
end
end Mine
end
section
open PySem PySem.W PyProof.Rows PySem.Calls
open PySem.Sem (wp)
set_option Elab.async false
set_option maxRecDepth 100000
set_option linter.unusedVariables false
set_option linter.deprecated false
namespace Mine
section
variable {X : Cx} {ro : Led} {E : Er} {st : St} {nm : Str} {sc : Scope} {a : Addr} {cd : Value} {env : Env} {R : Heap} {s : Shared}
theorem newba' {Q : V → St → Prop} (hg : X.A.guards = some []) (hq : ∀ l, Q (.ref l) { st with own := (l, .ba []) :: st.own }) : OpN X ro E (fun vs => call (.type "bytearray") vs) [] st Q := by
  rintro vs (_ | _) R s S
  exact call_ba_empty hg fun h' hb hk => ⟨.ref s.heap.objs.size, _, rfl, S.alloc (c := .ba []) (size_none _) ⟨_, hb, ⟨#[], rfl, rfl⟩⟩ hk (tk := s.toks), hq _⟩
theorem bytes_ba' {l : Addr} {ns : List Int} {Q : V → St → Prop} (hl : Kn ro st l (.ba ns)) (hsz : ns.length ≤ 16777216) (hq : Q (.bytes ns) st) : OpN X ro E (fun vs => call (.type "bytes") vs) [.ref l] st Q := by
  rintro vs (_ | ⟨rfl, (_ | _)⟩) R s S
  obtain ⟨b, hB, hb⟩ := (S.at hl).isBa
  have hn : ns.length = b.size := by rw [← hb, bInts_length]
  exact wpR_of (call_bytes_ba hB (by omega) fun t k => ⟨.bytes ns, st, ⟨b, t, rfl, hb⟩, S.toks, hq⟩)

theorem paired_all2 {F : Value → Value → Prop} {f : Int → Int} (hF : ∀ n t y, F (.int n t) y → ∃ u, y = .int (f n) u) : ∀ {ns : List Int} {vs ys : List Value}, All2 (ns.map V.int) vs → Paired F vs ys → All2 ((ns.map f).map V.int) ys
  | [], _, _, .nil, .nil => .nil
  | n :: ns, _, _, .cons h1 h2, .cons p1 p2 => by
    obtain ⟨t, rfl⟩ := h1
    exact .cons (hF _ _ _ p1) (paired_all2 hF h2 p2)

theorem comp_core {elt : Expr} {x : Str} {scope : Scope} {l : Addr} {W : Array Value} {ms : List Int} (f : Int → Int) {Q : Value → Shared → Prop} {E' : Value → Shared → Prop}
    (hh : X.A.handled = none) (S : Sat X ro st R s) (hL : s.heap.IsList l W) (hw : All2 (ms.map V.int) W.toList) (hsz : ms.length ≤ 16777216)
    (helt : ∀ C n t s₂ m₂ E', s₂.heap.Ns C m₂ → m₂ x = some (.int n t) → (∀ b o, X.B.get? b = some o → s₂.heap.get? b = some o) →
      wpAny (model X.prog X.w) X.A (eval elt (compEnv scope C env)) (fun y s₃ => (∃ u, y = .int (f n) u) ∧ Keeps s₂ s₃) E' s₂)
    (hq : ∀ D h' tk ys, s.heap.get? D = none → h'.PlainList D ys → All2 ((ms.map f).map V.int) ys.toList → (∀ b o, s.heap.get? b = some o → h'.get? b = some o) → Q (.ref D) { s with heap := h', toks := tk }) :
    wpAny (model X.prog X.w) X.A (pyIter (.ref l)) (fun it s₂ => ∃ I fp wr n P St, it = .ref I ∧ Walks X.prog X.w X.A I fp wr n P St ∧ n ≤ sizeLine ∧ St 0 s₂.heap ∧ (∀ b ∈ fp, b < s₂.heap.objs.size) ∧
      QuietOn X.prog X.w X.A env scope x [] elt wr P (fun _ => true) (fun v y => ∃ n t u, v = .int n t ∧ y = .int (f n) u) s₂ ∧
      (∀ D h' tk ys (vs : List Value), s₂.heap.get? D = none → h'.IsList D ys → h'.PlainList D ys → vs.length = n → (∀ j v, vs[j]? = some v → P j v) → Paired (fun v y => ∃ n t u, v = .int n t ∧ y = .int (f n) u) (vs.filter fun _ => true) ys.toList →
        (∀ b o, b ∉ wr → s₂.heap.get? b = some o → h'.get? b = some o) → Q (.ref D) { s₂ with heap := h', toks := tk })) E' s := by
  refine wpAny_pyIter_list hL ?_
  obtain ⟨ol, hol, _⟩ := id hL
  have hlt : l < s.heap.objs.size := Heap.lt_size hol
  have hn : ms.length = W.size := by simpa using hw.length
  have off : ∀ {b o}, s.heap.get? b = some o → b ∉ [s.heap.objs.size] := fun e hm => absurd (Heap.lt_size e) (by rw [List.mem_singleton.mp hm]; exact Nat.lt_irrefl _)
  refine ⟨s.heap.objs.size, [s.heap.objs.size, l], [s.heap.objs.size], W.size, _, _, rfl, Walks.list hh s.heap.objs.size l (Nat.ne_of_lt hlt) W, by rw [sizeLine_eq]; omega,
    ⟨⟨_, Heap.get?_push_size _ rfl, rfl, rfl⟩, hL.push _⟩, ?_, ⟨?_, ?_⟩, ?_⟩
  · intro b hb
    rw [Heap.size_push]
    rcases List.mem_cons.mp hb with rfl | hb
    · exact Nat.lt_succ_self _
    · rw [List.mem_singleton.mp hb]; exact Nat.lt_succ_of_lt hlt
  · intro C i v s₃ m₃ E'' hv hns hm hk htk
    exact wpAny_pure ⟨rfl, s₃.heap, s₃.toks, rfl, fun _ _ e => e⟩
  · intro C i v s₃ m₃ E'' hv _ hns hm hk htk
    rw [← Array.getElem?_toList] at hv
    obtain ⟨u, hu, hi⟩ := hw.get' hv
    rw [List.getElem?_map] at hu
    cases hx : ms[i]? with
    | none => rw [hx] at hu; cases hu
    | some n =>
      rw [hx] at hu; cases hu
      obtain ⟨t, rfl⟩ := hi
      refine wpAny_mono (helt C n t s₃ m₃ E'' hns hm fun b o e => hk b o (off (S.keepB _ _ e)) (Heap.get?_push_of_some _ (S.keepB _ _ e))) (fun y s₄ ⟨⟨u, hu⟩, hk'⟩ => ⟨⟨n, t, u, rfl, hu⟩, hk'⟩) fun _ _ e => e
  · intro D h' tk ys vs hD _ hpl hlen hP hF hk
    rw [List.filter_eq_self.mpr (by intros; rfl)] at hF
    have hvs : vs = W.toList := by
      apply List.ext_getElem?
      intro i
      cases hv : vs[i]? with
      | none =>
        have h1 := List.getElem?_eq_none_iff.mp hv
        exact (List.getElem?_eq_none_iff.mpr (by simpa [hlen] using h1)).symm
      | some v => have := hP i v hv; rw [← Array.getElem?_toList] at this; exact this.symm
    subst hvs
    refine hq D h' tk ys ?_ hpl (paired_all2 (f := f) ?_ hw hF) fun b o e => hk b o (off e) (Heap.get?_push_of_some _ e)
    · cases e : s.heap.get? D with
      | none => rfl
      | some o => rw [Heap.get?_push_of_some _ e] at hD; cases hD
    · rintro n t y ⟨n', t', u, e1, e2⟩
      cases e1; exact ⟨u, e2⟩

/-- [elt for x in xs[lo:hi]] over a list of ints, elt an int that hangs on x alone -/
theorem comp_slice {elt : Expr} {xs x : Str} {px p1 p2 p3 pos : Pos} {lower upper : Option Expr} {scope : Scope} {l : Addr} {ns : List Int} {lo hi : Option Int} (f : Int → Int) {Q : V → St → Prop}
    (hh : X.A.handled = none) (hxs : Has xs (.ref l) st.loc) (hl : Kn ro st l (.ints ns)) (hsz : ns.length ≤ 16777216)
    (hlo : ∀ (s : Shared) (Q : Value → Shared → Prop) E', (∀ v tk, IsPart v lo → Q v { s with toks := tk }) → wpAny (model X.prog X.w) X.A (evalPart lower (envOf nm sc X.L a cd)) Q E' s)
    (hhi : ∀ (s : Shared) (Q : Value → Shared → Prop) E', (∀ v tk, IsPart v hi → Q v { s with toks := tk }) → wpAny (model X.prog X.w) X.A (evalPart upper (envOf nm sc X.L a cd)) Q E' s)
    (helt : ∀ C n t s₂ m₂ E', s₂.heap.Ns C m₂ → m₂ x = some (.int n t) → (∀ b o, X.B.get? b = some o → s₂.heap.get? b = some o) →
      wpAny (model X.prog X.w) X.A (eval elt (compEnv scope C (envOf nm sc X.L a cd))) (fun y s₃ => (∃ u, y = .int (f n) u) ∧ Keeps s₂ s₃) E' s₂)
    (hq : ∀ l', Q (.ref l') { st with own := (l', .ints ((pslice lo hi ns).map f)) :: st.own })
    (hk : sc.kind = .function := by rfl) (hll : (envOf nm sc X.L a cd).kindOf xs = some .local := by rfl) (hd : (xs == ("__debug__" : Str)) = false := by decide)
    (hfree : ∀ y ∈ scope.names, y.2 ≠ .free := by decide) (hcell : ∀ y ∈ scope.names, y.2 ≠ .cell := by decide) (hkind : scope.kind = .function := by rfl)
    (hnames : ∀ y ∈ scope.names, y.2 = .local → scope.names.lookup y.1 = some .local := by decide) (hx : scope.names.lookup x = some .local := by rfl)
    (hs : ∀ x, foldedSetIterable (.Subscript (.Name xs p1) (.Slice lower upper none p2) p3) (envOf nm sc X.L a cd) x = pure x := by intro _; rfl) :
    TV X ro E st (eval (.ListComp elt [⟨.Name x px, .Subscript (.Name xs p1) (.Slice lower upper none p2) p3, [], 0⟩] scope pos) (envOf nm sc X.L a cd)) Q := fun R s S => by
  refine wpR_of (wpAny_ListComp_walk (fun _ => true) (fun v y => ∃ n t u, v = .int n t ∧ y = .int (f n) u) hfree hcell hkind hnames hx ?_ hs)
  obtain ⟨m, hm, hl'⟩ := S.ns
  rcases hl' _ hxs.mem with e | ⟨v, hv, hi'⟩
  · cases e
  cases hi'
  refine wpAny_Subscript_list_slice (wpAny_Name (wpAny_loadName_local hk hll hm hv ?_) hd)
  refine hlo _ _ _ fun vl tk1 pl => hhi _ _ _ fun vu tk2 pu => ?_
  obtain ⟨ws, hL, hw⟩ := (S.at hl).isList
  have hn : ns.length = ws.size := by simpa using hw.length
  refine ⟨l, ws, lo, hi, rfl, hL, by rw [sizeLine_eq]; omega, pl, pu, ?_⟩
  rw [slicePick_eq]
  generalize hW : (pslice lo hi ws.toList).toArray = W
  have hw' : All2 ((pslice lo hi ns).map V.int) W.toList := by rw [← hW, ← pslice_map]; exact hw.pslice lo hi
  have hWn : (pslice lo hi ns).length = W.size := by simpa using hw'.length
  have hpl := pslice_length_le lo hi ns
  have S₁ : Sat X ro st R { s with heap := (s.heap.push { cls := .type "slice", data := .fields #[vl, vu, .none] }).push { cls := .type "list", data := .seq W }, toks := tk2 } :=
    S.keeps fun b o e => Heap.get?_push_of_some _ (Heap.get?_push_of_some _ e)
  have hg1 : ((s.heap.push { cls := .type "slice", data := .fields #[vl, vu, .none] }).push { cls := .type "list", data := .seq W }).get? (s.heap.objs.size + 1) = some { cls := .type "list", data := .seq W } := by
    have := Heap.get?_push_size (s.heap.push { cls := .type "slice", data := .fields #[vl, vu, .none] }) (o := { cls := .type "list", data := .seq W }) rfl
    rwa [Heap.size_push] at this
  dsimp only
  refine comp_core (env := envOf nm sc X.L a cd) (l := s.heap.objs.size + 1) (Q := fun v s' => ∃ b st', V.Is b v ∧ Sat X ro st' R s' ∧ Q b st') f hh S₁ (W := W) ⟨_, hg1, rfl, _, rfl⟩ hw' (by omega) helt fun D h' tk ys hD hpl ha hk => ?_
  have old : ∀ b o, s.heap.get? b = some o → h'.get? b = some o := fun b o e => hk b o (Heap.get?_push_of_some _ (Heap.get?_push_of_some _ e))
  obtain ⟨n, hn'⟩ := hpl
  refine ⟨.ref D, _, rfl, S.alloc (c := .ints ((pslice lo hi ns).map f)) (a := D) ?_ ⟨_, hn', ⟨ys, n, rfl, ha⟩⟩ old, hq _⟩
  cases e : s.heap.get? D with
  | none => rfl
  | some o => rw [Heap.get?_push_of_some _ (Heap.get?_push_of_some _ e)] at hD; cases hD
end
end Mine
end
section
open PySem PySem.W PyProof.Rows PySem.Calls
open PySem.Sem (wp)
set_option Elab.async false
set_option maxRecDepth 100000
set_option linter.unusedVariables false
set_option linter.deprecated false
namespace Mine
inductive Fs2 : List Env → List (Addr × (Str → Option Value)) → Prop
  | nil : Fs2 [] []
  | cons {e q es qs} : e.frame = some q.1 → e.scope.kind ≠ .module → Fs2 es qs → Fs2 (e :: es) (q :: qs)
structure FrOk (X : Cx) (env : Env) (fs : List Env) : Prop where
  stack : X.A.frames = some (env :: fs)
  fr : env.frame = some X.L
  kind : env.scope.kind ≠ .module
  rest : Fs2 fs X.outs
theorem FrOk.call {X : Cx} {env : Env} {fs : List Env} {name : Str} {scope : Scope} {L' f : Addr} {cd : Value} {m : Str → Option Value} (F : FrOk X env fs) (hk : scope.kind = .function) :
    FrOk (X.call (envOf name scope L' f cd) L' m) (envOf name scope L' f cd) (env :: fs) where
  stack := Around.frames_deeper F.stack
  fr := rfl
  kind := by show scope.kind ≠ .module; rw [hk]; decide
  rest := .cons F.fr F.kind F.rest
theorem Fs2.frames {h base : Heap} : ∀ {fs qs}, Fs2 fs qs → (∀ q ∈ qs, h.Ns q.1 q.2 ∧ base.get? q.1 = none) → h.FunFrames base fs
  | _, _, .nil, _ => trivial
  | _, _, .cons hf hk r, hq => Heap.FunFrames.cons hk hf (hq _ (.head _)).1 (hq _ (.head _)).2 (r.frames fun q h => hq q (.tail _ h))

/-- an exception on its way: the heap R and the frames' tables stand -/
structure Ex0 (X : Cx) (R : Heap) (a : Addr) (s : Shared) : Prop where
  gens : s.gens = #[]
  oss : s.os = X.os
  stay : ∀ b o, R.get? b = some o → s.heap.get? b = some o
  new : R.get? a = none
  frL : R.get? X.L = none
  ns : ∃ m, s.heap.Ns X.L m
  outs : ∀ q ∈ X.outs, s.heap.Ns q.1 q.2 ∧ R.get? q.1 = none
def RawE (h : Heap) (a : Addr) (cls : Value) : Prop := ∃ oe vs t, h.get? a = some oe ∧ oe.cls = cls ∧ oe.data = .fields vs ∧ vs[0]? = some t ∧ vs[1]? = some .none
def Ex (X : Cx) (C : Addr) : Er := fun R e s => ∃ a, e = .ref a ∧ Ex0 X R a s ∧ (RawE s.heap a (.ref C) ∨ ∃ t, s.heap.TracedAtW R a (.ref C) t (rawInt X.L))

section
variable {X : Cx} {ro : Led} {E : Er} {st : St} {nm : Str} {sc : Scope} {a : Addr} {cd : Value} {env : Env} {R : Heap} {s : Shared} {fs : List Env} {C : Addr}
theorem Ex0.frames (h : Ex0 X R a s) (F : FrOk X env fs) : s.heap.FunFrames R (env :: fs) :=
  let ⟨_, hm⟩ := h.ns
  Heap.FunFrames.cons F.kind F.fr hm h.frL (F.rest.frames h.outs)
theorem Ex0.slots (h : Ex0 X R a s) {h' : Heap} (hs : ∀ b o, R.get? b = some o → h'.get? b = some o) (hu : s.heap.UpToSlots h') : Ex0 X R a { s with heap := h' } where
  gens := h.gens
  oss := h.oss
  stay := hs
  new := h.new
  frL := h.frL
  ns := let ⟨m, hm⟩ := h.ns; ⟨m, hu.ns hm⟩
  outs := fun q hq => ⟨hu.ns (h.outs q hq).1, (h.outs q hq).2⟩
theorem note_first {M : Model} {A : Around} {E : Value → Shared → Prop} {L e : Addr} {outer : List Env} {cls : Value} {Q : Unit → Shared → Prop}
    (hfr : A.frames = some (env :: outer)) (hl : s.heap.FunFrames R (env :: outer)) (hf : env.frame = some L)
    (hkb : R.StaysIn s.heap) (hen : R.get? e = none) (hr : RawE s.heap e cls)
    (h : ∀ h' t, Heap.NotedW R (env :: outer) e cls t (rawInt L) s.heap h' → Q () { s with heap := h' }) : wpAny M A (noteFrame (.ref e) env) Q E s := by
  obtain ⟨oe, vs, t, he, rfl, hd, h0, h1⟩ := hr
  unfold noteFrame
  simp only [hf]
  refine wpAny_bind (wpAny_field he hd h1 ?_)
  rw [if_neg (by decide)]
  exact wpAny_entryW hfr hl hf he hkb hen hd (Array.getElem?_eq_some_iff.mp h1).1 h0 fun h' hn => h h' t hn
theorem fly_some {M : Model} {A : Around} {E : Value → Shared → Prop} {base : Heap} {l : List Env} {e L : Addr} {cls a0 fl : Value} {Q : Unit → Shared → Prop}
    (hkb : base.StaysIn s.heap) (ht : s.heap.TracedAtW base e cls a0 fl)
    (h : ∀ h', base.StaysIn h' → h'.TracedAtW base e cls a0 (rawInt L) → s.heap.UpToSlots h' → Q () { s with heap := h' }) :
    wpAny M A (do
      if (← field (.ref e) 1) == .none then unsupported "frame.own-activation:exception-without-traceback"
      setFlight (.ref e) (some L)) Q E s := by
  obtain ⟨oe, vs, T, oT, ts, he, hcls, hd, h1, hnT, hTe, hT, hdT, h3⟩ := ht
  have hsz3 : 3 < ts.size := (Array.getElem?_eq_some_iff.mp h3).1
  have other : ∀ b, b ≠ T → (s.heap.update T (Obj.mapFields (·.setIfInBounds 3 ((some L : Option Addr).elim Value.none fun f => rawInt f)))).get? b = s.heap.get? b :=
    fun b hb => Heap.get?_update_other _ _ (Ne.symm hb)
  have noRecord : ∀ b o, s.heap.get? b = some o → (∀ vs, o.data ≠ .fields vs) → b ≠ T := fun b o hb hnf q => by
    rw [q, hT] at hb; injection hb with hb; subst hb; exact hnf ts hdT
  refine wpAny_bind (wpAny_field he hd h1 ?_)
  rw [if_neg (show ¬ ((Value.ref T == Value.none) = true) from by simp)]
  unfold setFlight
  refine wpAny_bind (wpAny_field he hd h1 ?_)
  rw [if_pos (show (Value.ref T != Value.none) = true from by simp)]
  refine wpAny_setField hT hdT hsz3 (h _ (fun b o hbo => (other b fun q => by rw [q, hnT] at hbo; cases hbo).trans (hkb b o hbo)) ?_ fun b o hb hnf => ⟨o.slots, (other b (noRecord b o hb hnf)).trans hb⟩)
  exact ⟨oe, vs, T, _, _, (other e (Ne.symm hTe)).trans he, hcls, hd, h1, hnT, hTe, Heap.get?_update_self _ hT (Obj.isFreed_of_fields (Obj.data_mapFields hdT _)), Obj.data_mapFields hdT _, by simp [hsz3]⟩
theorem Ex.back {e : Addr} {t : Value} (F : FrOk X env fs) (h0 : Ex0 X R e s) (ht : s.heap.TracedAtW R e (.ref C) t (rawInt X.L)) : cameBackR (model X.prog X.w) X.A env (Ex X C R) (.ref e) s := by
  unfold cameBackR
  rw [F.fr]
  exact wpR_of (fly_some (l := env :: fs) h0.stay ht fun h' k1 k2 k3 => ⟨e, rfl, h0.slots k1 k3, .inr ⟨t, k2⟩⟩)
theorem Ex.ok (F : FrOk X env fs) : ErOk X env (Ex X C) := by
  refine ⟨fun R R' e s hR => ?_, fun R e s => ?_⟩
  · rintro ⟨a, rfl, h, hr⟩
    refine ⟨a, rfl, ⟨h.gens, h.oss, fun b o q => h.stay b o (hR b o q), PySem.W.fresh_of_stays hR h.new, PySem.W.fresh_of_stays hR h.frL, h.ns, fun q hq => ⟨(h.outs q hq).1, PySem.W.fresh_of_stays hR (h.outs q hq).2⟩⟩, hr.imp id ?_⟩
    rintro ⟨t, oe, vs, T, oT, ts, a1, a2, a3, a4, a5, a6⟩
    exact ⟨t, oe, vs, T, oT, ts, a1, a2, a3, a4, PySem.W.fresh_of_stays hR a5, a6⟩
  · rintro ⟨a, rfl, h, hr | ⟨t, ht⟩⟩
    · exact wpR_of (note_first F.stack (h.frames F) F.fr h.stay h.new hr fun h' t hn => Ex.back F (h.slots hn.1 hn.2.2.2) hn.2.2.1)
    · exact wpR_of (wpAny_noteFrame_againW F.fr ht (Ex.back F h ht))

theorem TT.err {α β : Type} {rel : β → α → Prop} {t : Sem α} {Q : β → St → Prop} {E' : Er} (h : TT X ro E rel st t Q) (hE : ∀ R e s, E R e s → E' R e s) : TT X ro E' rel st t Q :=
  fun R s S => wpR_mono (h R s S) (fun _ _ q => q) fun e s' q => hE R e s' q
theorem ErOk.and {E : Er} {P : Prop} (h : ErOk X env E) : ErOk X env (fun R e s => P ∧ E R e s) := by
  refine ⟨fun R R' e s hR q => ⟨q.1, h.1 R R' e s hR q.2⟩, fun R e s q => ?_⟩
  have up : ∀ e s, cameBackR (model X.prog X.w) X.A env (E R) e s → cameBackR (model X.prog X.w) X.A env (fun e s => P ∧ E R e s) e s := fun e s c => wpR_mono c (fun _ _ x => ⟨q.1, x⟩) fun _ _ x => ⟨q.1, x⟩
  exact wpR_mono (h.2 R e s q.2) (fun _ _ c => up _ _ c) fun _ _ c => up _ _ c
theorem Raise' {x : Str} {bm : List Value} {newId B initId : String} {mg : Str → Option Value} {xs : Str} {k : Nat} {p0 np cpos pos : Pos} {Q : Fl → St → Prop} (O : OwnClsQ x C bm newId mg X.B) (hg : X.B.Ns mainGlobals mg) (FB : ExcBaseFacts B newId initId bm) (hh : X.A.handled = none)
    (hk : sc.kind = .function := by rfl) (hx : (envOf nm sc X.L a cd).kindOf x = some .globalImplicit := by rfl) (hd : (x == ("__debug__" : Str)) = false := by decide) :
    TF X ro (Ex X C) st (exec (.Raise (some (.Call (.Name x np) [.Constant (.str xs) k p0] [] cpos)) none pos) (envOf nm sc X.L a cd)) Q := fun R s S => by
  have O' := O.own
  obtain ⟨tl, N, nm', q, bs, hdct, sn, sub, ab, col, dd, k0, k1, k2, k3, k5, mN, hC, hN, hni, T⟩ := O'.obj
  refine wpR_of ?_
  refine wpAny_Raise_call_subT (C := C) (nm := nm') (q := q) (N := N) (bs := bs) (bm := tl) (hdct := hdct) (sn := sn) (sub := sub) (ab := ab) (col := col) (dd := dd) (k0 := k0) (k1 := k1) (k2 := k2) (k3 := k3) (k5 := k5)
    FB (mN := mN) (T.hasType FB.hasBase) hh rfl hni (Name_function_global hk hx (loadGlobal_global (env := envOf nm sc X.L a cd) (hg.keeps S.keepB) O.bound ⟨rfl, ?_⟩) hd)
  refine Calls.evalArgs_plain (Calls.spliced_cons (wpAny_Constant_str (k := k) (pos := p0) (Calls.spliced_nil ?_)))
  refine ⟨rfl, (show 1 ≤ sizeLine by decide +kernel), S.keepB _ _ hC, hN.keeps S.keepB, T.keeps S.keepB, fun h' e hx => ?_⟩
  obtain ⟨t, he, _, _⟩ := hx.there
  obtain ⟨m, hm, _⟩ := S.ns
  refine ⟨e, rfl, ⟨S.gens, S.oss, fun b o q => hx.keeps b o (S.fr b o q), ?_, S.frL, ⟨m, hm.keeps hx.keeps⟩, fun q hq => ⟨(S.outs q hq).1.keeps hx.keeps, (S.outs q hq).2.1⟩⟩, .inl ⟨_, _, _, he, rfl, rfl, rfl, rfl⟩⟩
  cases e' : R.get? e with
  | none => rfl
  | some o => have := S.fr _ _ e'; rw [hx.new] at this; cases this

/-- thrown by a call: the caller's state stands -/
def Thr (X : Cx) (ro : Led) (st : St) (env : Env) (fs : List Env) (C : Addr) : Er := fun R e s => ∃ a, e = .ref a ∧ Sat X ro st R s ∧ ∃ B t, Heap.FlyingW B (env :: fs) a (.ref C) t s.heap ∧
  (∀ b o, R.get? b = some o → B.get? b = some o) ∧ (∀ p ∈ st.own, At B p.1 p.2) ∧ B.get? X.L = none ∧ ∀ q ∈ X.outs, B.get? q.1 = none
theorem Ex.leave {name : Str} {scope : Scope} {L' f : Addr} {m : Str → Option Value} {e : Value} {s' : Shared} (F : FrOk X env fs) (hkk : scope.kind = .function) (S : Sat X ro st R s) (hml : ∀ p ∈ st.loc, LocIs (m p.1) p.2)
    (h : Ex (X.call (envOf name scope L' f cd) L' m) C (X.off s.heap) e s') :
    wpR (model X.prog X.w) (X.A.deeper (envOf name scope L' f cd)) (leaving (envOf name scope L' f cd) e) (fun _ s'' => Thr X ro st env fs C R e s'') (fun e' s'' => Thr X ro st env fs C R e' s'') s' := by
  obtain ⟨a, rfl, h0, hr⟩ := h
  have F' : FrOk (X.call (envOf name scope L' f cd) L' m) (envOf name scope L' f cd) (env :: fs) := F.call hkk
  have fin : ∀ h' t, (X.off s.heap).StaysIn h' → Heap.FlyingW (X.off s.heap) (env :: fs) a (.ref C) t h' → s'.heap.UpToSlots h' → Thr X ro st env fs C R (.ref a) { s' with heap := h' } := by
    intro h' t k1 k2 hu
    refine ⟨a, rfl, ⟨S.base, S.ros, fun b o q => k1 b o (S.off_get q), S.frL, fun p hp => ⟨(S.own p hp).1, (S.own p hp).2.1, (S.off_own hp).keep fun o q => k1 _ o q⟩, S.nd, ⟨m, hu.ns (h0.outs (X.L, m) (.head _)).1, hml⟩, S.nl, h0.gens, h0.oss,
      fun q hq => ⟨hu.ns (h0.outs q (.tail _ hq)).1, (S.outs q hq).2⟩, S.apart⟩, X.off s.heap, t, k2, fun b o q => S.off_get q, fun p hp => S.off_own hp, hideAll_none _ (.head _), fun q hq => hideAll_none _ (.tail _ (List.mem_map.mpr ⟨q, hq, rfl⟩))⟩
  refine wpR_of ?_
  rcases hr with ⟨oe, vs, t, he, hc, hd, hv0, hv1⟩ | ⟨t, ht⟩
  · refine wpAny_leaving_firstW (base := X.off s.heap) F'.stack (h0.frames F') F'.fr he h0.stay h0.new hd hv1 hv0 fun h' hL => ?_
    obtain ⟨k1, ⟨_, _, k2⟩, k3, k4⟩ := hL
    rw [hc] at k3
    exact fin h' t k1 ⟨k1, h0.new, k2, k3⟩ k4
  · unfold leaving
    refine wpAny_bind (wpAny_noteFrame_againW F'.fr ht (wpAny_landsW ⟨h0.stay, h0.new, h0.frames F', ht⟩ fun h' hfl hup => ?_))
    obtain ⟨k1, k2, ⟨_, _, k3⟩, k4⟩ := hfl
    exact fin h' t k1 ⟨k1, k2, k3, k4⟩ hup

theorem wpR_Try_except {body orelse : List Stmt} {h₀ : ExceptHandler} {hs : List ExceptHandler} {pos : Pos} {prog : Program} {w : World} {A : Around} {E : Value → Shared → Prop} {Q : Flow → Shared → Prop}
    (h : wpR (model prog w) A (execs body env) (fun f s₁ => match f with | .next => wpR (model prog w) A (execs orelse env) Q E s₁ | f => Q f s₁)
      (fun e s₁ => wpR (model prog w) A (noteFrame e env) (fun _ s₂ => wpR (model prog w) A (setFlight e none) (fun _ s₃ => wpR (model prog w) A (handleBy e env (h₀ :: hs)) Q E s₃) E s₂) E s₁) s) :
    wpR (model prog w) A (exec (.Try body (h₀ :: hs) orelse [] pos) env) Q E s := by
  rw [arm_exec_Try]
  refine wpR_bind (wpR_standAt ?_)
  unfold tryStmt
  simp only [List.isEmpty_nil, if_true, List.isEmpty_cons, Bool.false_and, Bool.false_eq_true, if_false]
  refine wpR_bind (wpR_attempt (wpR_mono h (fun f s₁ h₁ => ?_) fun e s₁ h₁ => ?_))
  · cases f <;> first | exact h₁ | exact wpR_pure h₁
  · exact wpR_bind (wpR_mono h₁ (fun _ _ h₂ => wpR_bind h₂) fun _ _ x => x)

/-- try: body  except X: suite, for the text's own exception class -/
theorem Try' {body : List Stmt} {b₀ : Stmt} {suite : List Stmt} {x : Str} {np hpos pos : Pos} {bm : List Value} {newId : String} {mg : Str → Option Value} {Q : Fl → St → Prop} (F : FrOk X (envOf nm sc X.L a cd) fs)
    (O : OwnClsQ x C bm newId mg X.B) (hg : X.B.Ns mainGlobals mg) (hbm : bm.contains (.type "BaseException") = true)
    (hb : TF X ro (Thr X ro st (envOf nm sc X.L a cd) fs C) st (execs body (envOf nm sc X.L a cd)) Q)
    (hs : ∀ e R s, Sat X ro st R s → wpAny (model X.prog X.w) (X.A.mark (some (.ref e))) (execs (b₀ :: suite) (envOf nm sc X.L a cd)) (fun f s' => ∃ g st', Fl.Is g f ∧ Sat X ro st' R s' ∧ Q g st') (fun _ _ => False) s)
    (hk : sc.kind = .function := by rfl) (hx : (envOf nm sc X.L a cd).kindOf x = some .globalImplicit := by rfl) (hd : (x == ("__debug__" : Str)) = false := by decide) :
    TF X ro E st (exec (.Try body [.ExceptHandler (some (.Name x np)) none (b₀ :: suite) hpos] [] [] pos) (envOf nm sc X.L a cd)) Q := fun R s S => by
  refine wpR_Try_except (wpR_mono (hb R s S) (fun f s₁ h₁ => ?_) fun e s₁ h₁ => ?_)
  · obtain ⟨g, st', hg', S', hq⟩ := h₁
    cases g with
    | next => cases hg'; exact wpR_of (wpAny_execs_nil ⟨.next, st', rfl, S', hq⟩)
    | brk => cases hg'; exact ⟨.brk, st', rfl, S', hq⟩
    | cont => cases hg'; exact ⟨.cont, st', rfl, S', hq⟩
    | ret u => obtain ⟨v, rfl, hv⟩ := hg'; exact ⟨.ret u, st', ⟨v, rfl, hv⟩, S', hq⟩
  · obtain ⟨e, rfl, S₁, B, t, hfl, hRB, hOB, hLB, hXB⟩ := h₁
    have slot : ∀ (s₂ : Shared) (h' : Heap), Sat X ro st R s₂ → B.StaysIn h' → s₂.heap.UpToSlots h' → Sat X ro st R { s₂ with heap := h' } := fun s₂ h' S₂ k1 hu =>
      ⟨S₂.base, S₂.ros, fun b o q => k1 b o (hRB b o q), S₂.frL, fun p hp => ⟨(S₂.own p hp).1, (S₂.own p hp).2.1, (hOB p hp).keep fun o q => k1 _ o q⟩, S₂.nd, let ⟨m, hm, hl⟩ := S₂.ns; ⟨m, hu.ns hm, hl⟩, S₂.nl, S₂.gens, S₂.oss, fun q hq => ⟨hu.ns (S₂.outs q hq).1, (S₂.outs q hq).2⟩, S₂.apart⟩
    refine wpR_of (wpAny_looks_onW F.stack F.fr hfl fun h₄ hheld hsm₄ => ?_)
    have S₄ := slot s₁ h₄ S₁ hheld.1 hsm₄
    refine wpR_of (wpAny_landsW hheld fun h₅ hfl₅ hsm₅ => ?_)
    have S₅ := slot _ h₅ S₄ hfl₅.1 hsm₅
    obtain ⟨ob, hob, hobc⟩ := hfl₅.there
    refine wpR_of (handleBy_own (C := C) (x := x) hbm (Name_function_global hk hx (loadGlobal_global (env := envOf nm sc X.L a cd) (hg.keeps S₅.keepB) O.bound ⟨rfl, O.keeps S₅.keepB, ⟨ob, hob, hobc⟩, ?_⟩) hd))
    refine lands_againW hfl₅ fun h₆ hfl₆ hsm₆ => ?_
    have S₆ := slot _ h₆ S₅ hfl₆.1 hsm₆
    exact wpAny_mono (hs e R _ S₆) (fun _ _ h => h) fun _ _ h => h.elim
/-- the two suites -/
theorem suite_none {x : Str} {px p1 pos : Pos} {k : Nat} {u : V} {loc' : List (Str × V)} {Q : Fl → St → Prop} (U : Put x u .none st.loc loc') (hq : Q .next { st with loc := loc' })
    (hk : sc.kind = .function := by rfl) (hl : (envOf nm sc X.L a cd).kindOf x = some .local := by rfl) (hs : swapsWith (.Constant .none k p1) (some (.Name x px)) pos.line (envOf nm sc X.L a cd) = pure false := by rfl) :
    ∀ e R s, Sat X ro st R s → wpAny (model X.prog X.w) (X.A.mark (some (.ref e))) (execs [.Assign [.Name x px] (.Constant .none k p1) pos] (envOf nm sc X.L a cd)) (fun f s' => ∃ g st', Fl.Is g f ∧ Sat X ro st' R s' ∧ Q g st') (fun _ _ => False) s := by
  intro e R s S
  refine wpAny_execs_cons (wpAny_Assign_Name (wpAny_Constant_none ?_) hs)
  obtain ⟨m, hm, hl'⟩ := S.ns
  refine wpAny_storeName_local hl hm (fun h' hn hs' => ?_) ?_
  · refine wpAny_execs_nil ⟨.next, _, rfl, S.put (v := .none) U rfl (fun m' hm' => ?_) hs', hq⟩
    have : m' = m := by rw [hm'.eq_nsMap, hm.eq_nsMap]
    subst this; exact hn
  · show (sc.kind == .class || (sc.kind == .module && X.L != mainGlobals)) = false
    rw [hk]; rfl
end
end Mine
end
section
open PySem PySem.W PyProof.Rows PySem.Calls
open PySem.Sem (wp)
set_option Elab.async false
set_option maxRecDepth 100000
set_option linter.unusedVariables false
set_option linter.deprecated false
namespace Mine
/-- weaker posts -/
theorem TT.post {X : Cx} {ro : Led} {E : Er} {st : St} {α β : Type} {rel : β → α → Prop} {t : Sem α} {Q Q' : β → St → Prop} (h : TT X ro E rel st t Q)
    (hQ : ∀ b st' R s, Sat X ro st' R s → Q b st' → ∃ st'', Sat X ro st'' R s ∧ Q' b st'') : TT X ro E rel st t Q' :=
  fun R s S => wpR_mono (h R s S) (fun _ _ ⟨b, st', h1, h2, h3⟩ => let ⟨st'', h4, h5⟩ := hQ b st' _ _ h2 h3; ⟨b, st'', h1, h4, h5⟩) fun _ _ e => e
theorem TT.post_own {X : Cx} {ro : Led} {E : Er} {st : St} {α β : Type} {rel : β → α → Prop} {t : Sem α} {Q Q' : β → St → Prop} (h : TT X ro E rel st t Q)
    (hQ : ∀ b st', Q b st' → ∃ own', own'.Sublist st'.own ∧ Q' b { st' with own := own' }) : TT X ro E rel st t Q' :=
  h.post fun b st' R s S q => let ⟨own', h1, h2⟩ := hQ b st' q; ⟨_, S.sub h1, h2⟩
section
variable {X : Cx} {ro : Led} {E : Er} {st : St} {nm : Str} {sc : Scope} {a : Addr} {cd : Value} {env : Env} {R : Heap} {s : Shared}
/-- a loop whose items are seen in the heap (tuples that are unpacked at once) -/
theorem for_coreT {target : Expr} {body : List Stmt} {it : Value} {fp : List Addr} (Z : Nat → Heap → Prop) (n : Nat) (It : Nat → Value → Heap → Prop) (J : Nat → St → Prop) {Q : Fl → St → Prop}
    (hE : ErOk X env E) (S : Sat X ro st R s) (hz : Z 0 s.heap) (hj : J 0 st) (hR : ∀ b ∈ fp, R.get? b = none) (hL : X.L ∉ fp) (hX : ∀ q ∈ X.outs, q.1 ∉ fp) (hO : ∀ p ∈ st.own, p.1 ∉ fp)
    (live : ∀ i h, Z i h → ∀ b ∈ fp, ∃ o, h.get? b = some o)
    (frame : ∀ i h h', Z i h → (∀ b ∈ fp, ∀ o, h.get? b = some o → h'.get? b = some o) → Z i h')
    (next : ∀ i st' R' s' (P : Value → Shared → Prop) (E' : Value → Shared → Prop), i < n → Sat X ro st' R' s' → J i st' → Z i s'.heap → (∀ p ∈ st'.own, p.1 ∉ fp) →
      (∀ v h' tk, It i v h' → Z (i + 1) h' → (∀ b o, b ∉ fp → s'.heap.get? b = some o → h'.get? b = some o) → P v { s' with heap := h', toks := tk }) →
      wpAny (model X.prog X.w) X.A (pyNext it) (fun r s₁ => ∃ v, r = some v ∧ wpAny (model X.prog X.w) X.A (letOwnedTupleGo target it v) (fun _ s₂ => P v s₂) E' s₁) E' s')
    (stop : ∀ st' R' s' (P : Option Value → Shared → Prop) (E' : Value → Shared → Prop), Sat X ro st' R' s' → J n st' → Z n s'.heap → (∀ p ∈ st'.own, p.1 ∉ fp) →
      (∀ h' tk, (∀ b o, b ∉ fp → s'.heap.get? b = some o → h'.get? b = some o) → P none { s' with heap := h', toks := tk }) →
      wpAny (model X.prog X.w) X.A (pyNext it) P E' s')
    (turn : ∀ i st' v R s, i < n → J i st' → It i v s.heap → Sat X ro st' R s → wpR (model X.prog X.w) X.A (assign target env v) (fun _ s₂ => ∃ st₂, Sat X ro st₂ R s₂ ∧ TF X ro E st₂ (execs body env) (LoopQ Q (J (i + 1)))) (E R) s)
    (done : ∀ st', J n st' → Q .next st') :
    codeR (model X.prog X.w) X.A (.forLoop target it body [] env) (fun r s' => match r with | .ok f => ∃ g st', Fl.Is g f ∧ Sat X ro st' R s' ∧ Q g st' | .error e => cameBackR (model X.prog X.w) X.A env (E R) e s') s := by
  refine codeR_forLoop (fun k s' => ∃ i st', k = n - i ∧ i ≤ n ∧ Sat X ro st' R s' ∧ J i st' ∧ Z i s'.heap ∧ (∀ p ∈ st'.own, p.1 ∉ fp)) ?_ n ⟨0, st, by omega, by omega, S, hj, hz, hO⟩
  rintro k s' ⟨i, st', rfl, hi, S', hJ, hZ, hO'⟩
  by_cases hlt : i < n
  · refine wpR_mono (wpR_of (next i st' R s' (fun v s₂ => wpR (model X.prog X.w) X.A (assign target env v) (fun _ s₂ => wpR (model X.prog X.w) X.A (execs body env) (fun f s₃ => match f with
          | .next | .cont => ∃ m, m < n - i ∧ (∃ i st', m = n - i ∧ i ≤ n ∧ Sat X ro st' R s₃ ∧ J i st' ∧ Z i s₃.heap ∧ (∀ p ∈ st'.own, p.1 ∉ fp))
          | .brk => ∃ g st', Fl.Is g .next ∧ Sat X ro st' R s₃ ∧ Q g st'
          | .ret v => ∃ g st', Fl.Is g (.ret v) ∧ Sat X ro st' R s₃ ∧ Q g st') (notedR (model X.prog X.w) X.A env fun e s' => cameBackR (model X.prog X.w) X.A env (E R) e s') s₂) (notedR (model X.prog X.w) X.A env fun e s' => cameBackR (model X.prog X.w) X.A env (E R) e s') s₂)
        (notedR (model X.prog X.w) X.A env fun e s' => cameBackR (model X.prog X.w) X.A env (E R) e s') hlt S' hJ hZ hO' fun v h' tk hv hZ' hk => ?_)) (fun r s₁ h₁ => ?_) fun _ _ x => x
    · have S₁ : Sat X ro st' R { s' with heap := h', toks := tk } := S'.off hR hL hX hO' hk
      have inR : ∀ b ∈ fp, ∃ o, (st'.hid X h').get? b = some o ∧ h'.get? b = some o := fun b hb => by
        obtain ⟨o, ho⟩ := live _ _ hZ' b hb
        refine ⟨o, hideAll_get _ ho fun hm => ?_, ho⟩
        rcases List.mem_cons.mp hm with e | hm
        · exact hL (e ▸ hb)
        · rcases List.mem_append.mp hm with hm | hm
          · obtain ⟨p, hp, rfl⟩ := List.mem_map.mp hm
            exact hO' p hp hb
          · obtain ⟨p, hp, rfl⟩ := List.mem_map.mp hm
            exact hX p hp hb
      refine wpR_mono (turn i st' v _ _ hlt hJ hv S₁.widen) (fun _ s₂ h₂ => ?_) fun e s₂ h₂ => hE.2 R e s₂ (hE.1 R _ e s₂ S₁.wide h₂)
      obtain ⟨st₂, S₂, h₂⟩ := h₂
      refine wpR_mono (h₂ _ _ S₂) (fun f s₃ h₃ => ?_) fun e s₃ h₃ => hE.2 R e s₃ (hE.1 R _ e s₃ S₁.wide h₃)
      obtain ⟨g, st₃, hg, S₃, hq⟩ := h₃
      have S₃' : Sat X ro st₃ R s₃ := S₃.narrow S'.base S'.ros S₁.wide
      have hZ₃ : Z (i + 1) s₃.heap := frame _ _ _ hZ' fun b hb o ho => by
        obtain ⟨o', h1, h2⟩ := inR b hb
        rw [h2] at ho; cases ho
        exact S₃.fr _ _ h1
      have hO₃ : ∀ p ∈ st₃.own, p.1 ∉ fp := fun p hp hb => by
        obtain ⟨o', h1, _⟩ := inR _ hb
        rw [(S₃.own p hp).1] at h1; cases h1
      cases g with
      | next => cases hg; exact ⟨n - (i + 1), by omega, i + 1, st₃, rfl, hlt, S₃', hq, hZ₃, hO₃⟩
      | cont => cases hg; exact ⟨n - (i + 1), by omega, i + 1, st₃, rfl, hlt, S₃', hq, hZ₃, hO₃⟩
      | brk => cases hg; exact ⟨.next, st₃, rfl, S₃', hq⟩
      | ret u => obtain ⟨v, rfl, hv⟩ := hg; exact ⟨.ret u, st₃, ⟨v, rfl, hv⟩, S₃', hq⟩
    · obtain ⟨v, rfl, h₂⟩ := h₁
      exact wpR_of h₂
  · obtain rfl : i = n := by omega
    refine wpR_of (stop st' R s' _ _ S' hJ hZ hO' fun h' tk hk => wpR_of (wpAny_execs_nil ?_))
    exact ⟨.next, st', rfl, S'.off hR hL hX hO' hk, done st' hJ⟩

/-- x, y = a tuple of two -/
theorem assign_pair {x y : Str} {p1 p2 pos : Pos} {k : Nat} {T : Addr} {v1 v2 : Value} {u u' w w' : V} {l1 l2 : List (Str × V)} (hh : X.A.handled = none) (S : Sat X ro st R s) (ht : s.heap.IsTuple T #[v1, v2])
    (U1 : Put x u u' st.loc l1) (U2 : Put y w w' l1 l2) (h1 : u'.Is v1) (h2 : w'.Is v2)
    (hk : sc.kind = .function := by rfl) (hx : (envOf nm sc X.L a cd).kindOf x = some .local := by rfl) (hy : (envOf nm sc X.L a cd).kindOf y = some .local := by rfl) :
    wpR (model X.prog X.w) X.A (assign (.Tuple [.Name x p1, .Name y p2] k pos) (envOf nm sc X.L a cd) (.ref T)) (fun _ s₂ => Sat X ro { st with loc := l2 } R s₂) (E R) s := by
  refine wpR_of (wpAny_assign_Tuple hh ht rfl rfl fun h' hx' => ?_)
  have S₁ : Sat X ro st R { s with heap := h' } := S.keeps (tk := s.toks) fun b o e => hx' b o (Nat.ne_of_lt (Heap.lt_size e)) e
  have kn : (sc.kind == .class || (sc.kind == .module && X.L != mainGlobals)) = false := by rw [hk]; rfl
  show wpAny _ _ (do holding [v2] (assign (.Name x p1) (envOf nm sc X.L a cd) v1); assignInOrder [assign (.Name y p2) (envOf nm sc X.L a cd)] [v2]) _ _ _
  obtain ⟨m, hm, _⟩ := S₁.ns
  refine wpAny_bind (wpAny_holding (wpAny_assign_Name (wpAny_storeName_local hx hm (fun h₁ hn hs => ?_) kn)))
  have S₂ : Sat X ro { st with loc := l1 } R { s with heap := h₁, toks := s.toks + 1 } := S₁.put (v := v1) U1 h1 (fun m' hm' => by
    have : m' = m := by rw [hm'.eq_nsMap, hm.eq_nsMap]
    subst this; exact hn) hs
  obtain ⟨m₂, hm₂, _⟩ := S₂.ns
  show wpAny _ _ (do holding [] (assign (.Name y p2) (envOf nm sc X.L a cd) v2); pure ()) _ _ _
  refine wpAny_bind (wpAny_holding (wpAny_assign_Name (wpAny_storeName_local hy hm₂ (fun h₂ hn₂ hs₂ => ?_) kn)))
  exact wpAny_pure (S₂.put (v := v2) U2 h2 (fun m' hm' => by
    have : m' = m₂ := by rw [hm'.eq_nsMap, hm₂.eq_nsMap]
    subst this; exact hn₂) hs₂)

end
end Mine
end
section
open PySem PySem.W PyProof.Rows PySem.Calls
open PySem.Sem (wp)
set_option Elab.async false
set_option maxRecDepth 100000
set_option linter.unusedVariables false
set_option linter.deprecated false
namespace Mine
section
variable {X : Cx} {ro : Led} {E : Er} {st : St} {nm : Str} {sc : Scope} {a : Addr} {cd : Value} {env : Env} {R : Heap} {s : Shared}
theorem in_ints' {l : Addr} {n : Int} {ns : List Int} {Q : V → St → Prop} (hl : Kn ro st l (.ints ns)) (hq : Q (.bool (decide (n ∈ ns))) st) : Op2 X ro E (compareOp .In) (.int n) (.ref l) st Q := by
  rintro v w ⟨t, rfl⟩ rfl R s S
  obtain ⟨ws, hL, hw⟩ := (S.at hl).isList
  rw [← Array.toArray_toList (xs := ws)] at hL
  refine wpR_of (in_list_ints hL hw.ints ⟨.bool (decide (n ∈ ns)), st, ?_, S, hq⟩)
  show Value.bool _ = Value.bool _
  congr 1
  rw [Bool.eq_iff_iff]
  simp [List.any_eq_true]
theorem isnot_none_none {Q : V → St → Prop} (hq : Q (.bool false) st) : Op2 X ro E (compareOp .IsNot) .none .none st Q := by
  rintro v w rfl rfl R s S
  exact wpR_of (wpAny_isNot_plain rfl ⟨.bool false, st, rfl, S, hq⟩)
theorem isnot_bytes_none {ns : List Int} {Q : V → St → Prop} (hq : Q (.bool true) st) : Op2 X ro E (compareOp .IsNot) (.bytes ns) .none st Q := by
  rintro v w ⟨b, t, rfl, hb⟩ rfl R s S
  exact wpR_of (wpAny_isNot_plain rfl ⟨.bool true, st, rfl, S, hq⟩)
theorem add_ints' {l b : Addr} {ns ms : List Int} {Q : V → St → Prop} (hl : Kn ro st l (.ints ns)) (hb : Kn ro st b (.ints ms)) (hsz : ns.length + ms.length ≤ 16777216)
    (hq : ∀ l', Q (.ref l') { st with own := (l', .ints (ns ++ ms)) :: st.own }) : Op2 X ro E (binaryOp .Add) (.ref l) (.ref b) st Q := by
  refine add_list' hl hb (by rw [List.length_map, List.length_map]; exact hsz) fun l' => ?_
  have := hq l'
  rw [Cell.ints, List.map_append] at this
  exact this

end
/-- states up to dropped and reordered objects -/
def Upto (J : St → Prop) (st : St) : Prop := ∃ (own₁ own' : Led), own₁.Sublist st.own ∧ own₁.Perm own' ∧ J ⟨st.loc, own'⟩
theorem Upto.of {J : St → Prop} {st : St} (h : J st) : Upto J st := ⟨_, _, .refl _, .refl _, h⟩
section
variable {X : Cx} {ro : Led} {E : Er} {st : St} {R : Heap} {s : Shared}
theorem Sat.upto {J : St → Prop} (S : Sat X ro st R s) (h : Upto J st) : ∃ st', Sat X ro st' R s ∧ J st' :=
  let ⟨own₁, own', h1, h2, h3⟩ := h; ⟨_, (S.sub h1).perm h2, h3⟩
theorem TT.upto {α β : Type} {rel : β → α → Prop} {t : Sem α} {Q : β → St → Prop} {J : St → Prop} (h : Upto J st) (k : ∀ st', J st' → TT X ro E rel st' t Q) : TT X ro E rel st t Q := fun R s S =>
  let ⟨st', S', hj⟩ := S.upto h; k st' hj R s S'
theorem loop_upto {t : Sem Flow} {Q : Fl → St → Prop} {J : St → Prop} (h : TF X ro E st t (LoopQ Q (Upto J))) : TF X ro E st t (LoopQ Q J) := h.post fun f st' R s S q => by
  cases f with
  | next => exact S.upto (J := J) q
  | cont => exact S.upto (J := J) q
  | brk => exact ⟨st', S, q⟩
  | ret u => exact ⟨st', S, q⟩
end
end Mine
end
section
open PySem PySem.W PyProof.Rows PySem.Calls
open PySem.Sem (wp)
set_option Elab.async false
set_option maxRecDepth 100000
set_option linter.unusedVariables false
set_option linter.deprecated false
namespace Mine
section
variable {X : Cx} {ro : Led} {E : Er} {st : St} {R : Heap} {s : Shared}
/-- own objects that are only read from now on -/
theorem TT.freeze {α β : Type} {rel : β → α → Prop} {t : Sem α} {Q : β → St → Prop} {loc : List (Str × V)} {c own own' : Led} (hE : ∀ R R' e s, (∀ b o, R.get? b = some o → R'.get? b = some o) → E R' e s → E R e s) (hp : own'.Perm (c ++ own))
    (h : TT X (c ++ ro) E rel ⟨loc, own⟩ t Q) : TT X ro E rel ⟨loc, own'⟩ t Q := fun R s S => by
  have S1 : Sat X ro ⟨loc, c ++ own⟩ R s := S.perm hp
  have S2 : Sat X ro ⟨loc, own⟩ R s := S1.sub (List.sublist_append_right _ _)
  have hc : ∀ p ∈ c, At (St.hid X ⟨loc, own⟩ s.heap) p.1 p.2 := fun p hp => by
    obtain ⟨o, ho, hc⟩ := (S1.own p (List.mem_append_left _ hp)).2.2
    refine ⟨o, hideAll_get _ ho fun hm => ?_, hc⟩
    rcases List.mem_cons.mp hm with e | hm
    · exact (S1.own p (List.mem_append_left _ hp)).2.1 e
    rcases List.mem_append.mp hm with hm | hm
    · have hnd := S1.nd
      rw [List.map_append, List.nodup_append] at hnd
      exact hnd.2.2 p.1 (List.mem_map.mpr ⟨p, hp, rfl⟩) p.1 hm rfl
    · obtain ⟨q, hq, e⟩ := List.mem_map.mp hm
      exact S1.apart p (List.mem_append_left _ hp) q hq e.symm
  have W := S2.widen
  have S3 : Sat X (c ++ ro) ⟨loc, own⟩ (St.hid X ⟨loc, own⟩ s.heap) s :=
    ⟨W.base, fun p hp => (List.mem_append.mp hp).elim (hc p) (W.ros p), W.fr, W.frL, W.own, W.nd, W.ns, W.nl, W.gens, W.oss, W.outs, W.apart⟩
  refine wpR_mono (h _ s S3) (fun a s' h' => ?_) fun e s' h' => hE _ _ _ _ S2.wide h'
  obtain ⟨b, st', hb, S', hq⟩ := h'
  have S4 : Sat X [] st' (St.hid X ⟨loc, own⟩ s.heap) s' := ⟨S'.base, (fun p hp => nomatch hp), S'.fr, S'.frL, S'.own, S'.nd, S'.ns, S'.nl, S'.gens, S'.oss, S'.outs, S'.apart⟩
  have S5 := S4.narrow S.base (fun p hp => nomatch hp) S2.wide
  exact ⟨b, st', hb, ⟨S5.base, S.ros, S5.fr, S5.frL, S5.own, S5.nd, S5.ns, S5.nl, S5.gens, S5.oss, S5.outs, S5.apart⟩, hq⟩
end
end Mine
end
section
open PySem PySem.W PyProof.Rows PySem.Calls
open PySem.Sem (wp)
set_option Elab.async false
set_option maxRecDepth 100000
set_option linter.unusedVariables false
set_option linter.deprecated false
namespace Mine
section
variable {X : Cx} {ro : Led} {E : Er} {st : St} {nm : Str} {sc : Scope} {a : Addr} {cd : Value} {env : Env} {R : Heap} {s : Shared}
/-- several new objects at once -/
theorem Sat.news (S : Sat X ro st R s) {h' : Heap} {tk : Nat} {cs : Led} (hn : ∀ p ∈ cs, s.heap.objs.size ≤ p.1) (hd : (cs.map (·.1)).Nodup) (hc : ∀ p ∈ cs, At h' p.1 p.2)
    (k : ∀ b o, s.heap.get? b = some o → h'.get? b = some o) : Sat X ro { st with own := cs ++ st.own } R { s with heap := h', toks := tk } where
  base := S.base
  ros := S.ros
  fr := fun b o e => k b o (S.fr b o e)
  frL := S.frL
  own := fun p hp => by
    rcases List.mem_append.mp hp with hp | hp
    · refine ⟨?_, fun e => ?_, hc p hp⟩
      · cases h : R.get? p.1 with
        | none => rfl
        | some o => exact absurd (Heap.lt_size (S.fr _ _ h)) (Nat.not_lt.mpr (hn p hp))
      · exact absurd S.lt (Nat.not_lt.mpr (e ▸ hn p hp))
    · let ⟨h1, h2, h3⟩ := S.own p hp; exact ⟨h1, h2, h3.keep fun o e => k _ o e⟩
  nd := by
    rw [List.map_append, List.nodup_append]
    refine ⟨hd, S.nd, fun x hx y hy e => ?_⟩
    obtain ⟨p, hp, rfl⟩ := List.mem_map.mp hx
    obtain ⟨q, hq, rfl⟩ := List.mem_map.mp hy
    exact absurd (S.own q hq).2.2.lt (Nat.not_lt.mpr (e ▸ hn p hp))
  ns := let ⟨m, hm, hl⟩ := S.ns; ⟨m, hm.keeps k, hl⟩
  nl := S.nl
  gens := S.gens
  oss := S.oss
  outs := fun q hq => let ⟨h1, h2, h3⟩ := S.outs q hq; ⟨h1.keeps k, h2, h3⟩
  apart := fun p hp q hq => by
    rcases List.mem_append.mp hp with hp | hp
    · intro e
      obtain ⟨o, _, _, ho, _⟩ := (S.outs q hq).1
      exact absurd (Heap.lt_size ho) (Nat.not_lt.mpr (e ▸ hn p hp))
    · exact S.apart p hp q hq
/-- for x, y in zip(two lists of one length) -/
theorem for_zip {x y : Str} {p1 p2 pos : Pos} {k : Nat} {body : List Stmt} {l1 l2 : Addr} {us ws : List V} (J : Nat → St → Prop) {Q : Fl → St → Prop} (hE : ErOk X (envOf nm sc X.L a cd) E) (hh : X.A.handled = none) (hlen : us.length = ws.length)
    (hl : ∀ i st', J i st' → Kn ro st' l1 (.list us) ∧ Kn ro st' l2 (.list ws)) (hj : J 0 st)
    (turn : ∀ i st' u w, us[i]? = some u → ws[i]? = some w → J i st' → ∃ u₁ u₂ m1 m2, Put x u₁ u st'.loc m1 ∧ Put y u₂ w m1 m2 ∧ TF X ro E { st' with loc := m2 } (execs body (envOf nm sc X.L a cd)) (LoopQ Q (J (i + 1))))
    (done : ∀ st', J us.length st' → Q .next st')
    (hk : sc.kind = .function := by rfl) (hx : (envOf nm sc X.L a cd).kindOf x = some .local := by rfl) (hy : (envOf nm sc X.L a cd).kindOf y = some .local := by rfl) :
    OpN X ro E (fun vs => call (.type "zip") vs) [.ref l1, .ref l2] st fun u st₁ => ForOver X ro E (envOf nm sc X.L a cd) (.Tuple [.Name x p1, .Name y p2] k pos) body Q u st₁ := by
  rintro vs (_ | ⟨rfl, (_ | ⟨rfl, (_ | _)⟩)⟩) R s S
  obtain ⟨ws1, hL1, hw1⟩ := (S.at (hl 0 st hj).1).isList
  obtain ⟨ws2, hL2, hw2⟩ := (S.at (hl 0 st hj).2).isList
  refine wpR_of (call_zip_2 hL1 hL2 fun h₁ hz hTI hTO hi1 hi2 hsz hk₁ => ?_)
  obtain ⟨o1, ho1, hc1, hd1⟩ := hi1
  obtain ⟨o2, ho2, hc2, hd2⟩ := hi2
  have hlt1 : @LT.lt Nat _ l1 s.heap.objs.size := by obtain ⟨o, ho, _⟩ := hL1; exact Heap.lt_size ho
  have hlt2 : @LT.lt Nat _ l2 s.heap.objs.size := by obtain ⟨o, ho, _⟩ := hL2; exact Heap.lt_size ho
  generalize hB : s.heap.objs.size = B at *
  have D : ZipApart (B + 4) (B + 2) (B + 3) B (B + 1) l1 l2 := by constructor <;> (intro e; have e' : @Eq Nat _ _ := e; omega)
  have hnd5 : [B + 4, B + 2, B + 3, B, B + 1].Nodup := by simp
  generalize hcs : [(B + 4, Cell.obj { cls := .type "zip", dict := none, data := .fields #[.none, .bool false, .bool false, .ref (B + 2), .ref (B + 3)], slots := #[] }), (B + 2, Cell.obj { cls := .type "tuple", data := .seq #[.ref B, .ref (B + 1)] }), (B + 3, Cell.obj { cls := .type "tuple", data := .seq #[.none, .none] }), (B, Cell.obj o1), (B + 1, Cell.obj o2)] = cs
  have hfp : cs.map (·.1) = [B + 4, B + 2, B + 3, B, B + 1] := by rw [← hcs]; rfl
  refine ⟨.ref (B + 4), { st with own := cs ++ st.own }, rfl, S.news (tk := s.toks) (fun p hp => ?_) (by rw [hfp]; exact hnd5) (fun p hp => ?_) hk₁, ?_⟩
  · have : p.1 ∈ [B + 4, B + 2, B + 3, B, B + 1] := hfp ▸ List.mem_map.mpr ⟨p, hp, rfl⟩
    have key : ∀ q : Nat, q ∈ [B + 4, B + 2, B + 3, B, B + 1] → B ≤ q := fun q hq => by
      simp at hq
      omega
    rw [hB]
    exact key p.1 this
  · subst hcs
    simp only [List.mem_cons, List.not_mem_nil, or_false] at hp
    rcases hp with rfl | rfl | rfl | rfl | rfl
    · exact ⟨_, hz, rfl⟩
    · exact ⟨_, hTI, rfl⟩
    · exact ⟨_, hTO, rfl⟩
    · exact ⟨_, ho1, rfl⟩
    · exact ⟨_, ho2, rfl⟩
  clear hz hTI hTO ho1 ho2 hk₁ hsz
  have hget : ∀ {s₂ : Shared} {R : Heap}, Sat X ro { st with own := cs ++ st.own } R s₂ → ∀ {b c}, (b, c) ∈ cs → At s₂.heap b c := fun S₂ _ _ h => (S₂.own _ (List.mem_append_left _ h)).2.2
  have m1 : (B + 4, Cell.obj { cls := .type "zip", dict := none, data := .fields #[.none, .bool false, .bool false, .ref (B + 2), .ref (B + 3)], slots := #[] }) ∈ cs := by rw [← hcs]; exact .head _
  have m2 : (B + 2, Cell.obj { cls := .type "tuple", data := .seq #[.ref B, .ref (B + 1)] }) ∈ cs := by rw [← hcs]; exact .tail _ (.head _)
  have m3 : (B + 3, Cell.obj { cls := .type "tuple", data := .seq #[.none, .none] }) ∈ cs := by rw [← hcs]; exact .tail _ (.tail _ (.head _))
  have m4 : (B, Cell.obj o1) ∈ cs := by rw [← hcs]; exact .tail _ (.tail _ (.tail _ (.head _)))
  have m5 : (B + 1, Cell.obj o2) ∈ cs := by rw [← hcs]; exact .tail _ (.tail _ (.tail _ (.tail _ (.head _))))
  clear hcs hlt1 hlt2 hB hnd5
  generalize B + 4 = z at *
  generalize B + 2 = TI at *
  generalize B + 3 = TO at *
  generalize B + 1 = i2 at *
  rintro v rfl R s₂ S₂
  obtain ⟨_, hz, e⟩ := hget S₂ m1
  cases e
  obtain ⟨_, hTI, e⟩ := hget S₂ m2
  cases e
  obtain ⟨_, hTO, e⟩ := hget S₂ m3
  cases e
  obtain ⟨_, ho1, e⟩ := hget S₂ m4
  cases e
  obtain ⟨_, ho2, e⟩ := hget S₂ m5
  cases e
  have hin : ∀ b ∈ [z, TI, TO, B, i2], ∃ p ∈ cs, p.1 = b := fun b hb => by
    rw [← hfp] at hb
    obtain ⟨p, hp, e⟩ := List.mem_map.mp hb
    exact ⟨p, hp, e⟩
  have S₃ := S₂.sub (own' := st.own) (List.sublist_append_right _ _)
  have hnd := S₂.nd
  rw [List.map_append, List.nodup_append] at hnd
  refine wpR_of (wpAny_pyIter_zip hz ?_)
  refine for_coreT (fp := [z, TI, TO, B, i2]) (fun i h => IsZip h z TI TO .none ∧ IsPair h TI (.ref B) (.ref i2) ∧ (∃ a b, IsPair h TO a b) ∧ h.IsListIter B l1 i ∧ h.IsListIter i2 l2 i) us.length
    (fun i v h => ∃ T x y, v = .ref T ∧ h.IsTuple T #[x, y] ∧ (us.getD i .unk).Is x ∧ (ws.getD i .unk).Is y) J hE S₃ ⟨hz, hTI, ⟨_, _, hTO⟩, ⟨_, ho1, hc1, hd1⟩, ⟨_, ho2, hc2, hd2⟩⟩ hj ?_ ?_ ?_ ?_ ?_ ?_ ?_ ?_ ?_ done
  · intro b hb
    obtain ⟨p, hp, rfl⟩ := hin b hb
    exact (S₂.own p (List.mem_append_left _ hp)).1
  · intro hm
    obtain ⟨p, hp, e⟩ := hin _ hm
    exact (S₂.own p (List.mem_append_left _ hp)).2.1 e
  · intro q hq hm
    obtain ⟨p, hp, e⟩ := hin _ hm
    exact S₂.apart p (List.mem_append_left _ hp) q hq e
  · intro p hp hm
    rw [← hfp] at hm
    exact hnd.2.2 _ hm _ (List.mem_map.mpr ⟨p, hp, rfl⟩) rfl
  · rintro i h ⟨h1, h2, ⟨_, _, h3⟩, ⟨o4, h4, _⟩, ⟨o5, h5, _⟩⟩ b hb
    simp only [List.mem_cons, List.not_mem_nil, or_false] at hb
    rcases hb with rfl | rfl | rfl | rfl | rfl
    · exact ⟨_, h1⟩
    · exact ⟨_, h2⟩
    · exact ⟨_, h3⟩
    · exact ⟨_, h4⟩
    · exact ⟨_, h5⟩
  · rintro i h h' ⟨h1, h2, ⟨a', b', h3⟩, h4, h5⟩ hk
    exact ⟨hk _ (by simp) _ h1, hk _ (by simp) _ h2, ⟨a', b', hk _ (by simp) _ h3⟩, h4.at fun o e => hk _ (by simp) o e, h5.at fun o e => hk _ (by simp) o e⟩
  · rintro i st' R' s' P E' hi S' hJ ⟨h1, h2, h3, h4, h5⟩ hO hP
    obtain ⟨w1, hL1', hw1'⟩ := (S'.at (hl i st' hJ).1).isList
    obtain ⟨w2, hL2', hw2'⟩ := (S'.at (hl i st' hJ).2).isList
    have n1 : us.length = w1.size := by simpa using hw1'.length
    have n2 : ws.length = w2.size := by simpa using hw2'.length
    have W := WalksT.zip2 (prog := X.prog) (w := X.w) (A := X.A) hh z TI TO B i2 l1 l2 D w1 w2
    have sub : ∀ {b}, b ∉ [z, TI, TO, B, i2] → b ∉ [z, TO, B, i2] := fun hb hm => hb (by simp at hm ⊢; rcases hm with h | h | h | h <;> simp [h])
    refine W.item i s' _ _ (by omega) ⟨h1, h2, h3, h4, h5, hL1', hL2'⟩ fun T vals h' tk hPt hT hTup hMid hk => ⟨.ref T, rfl, ?_⟩
    obtain ⟨vx, vy, hvx, hvy, rfl⟩ := hPt
    refine W.go _ _ _ i T { s' with heap := h', toks := tk } _ _ hMid fun h'' hSt hk' => ?_
    have hTw := W.apart i T h' hMid
    refine hP (.ref T) h'' tk ⟨T, vx, vy, rfl, ?_, ?_, ?_⟩ ⟨hSt.1, hSt.2.1, hSt.2.2.1, hSt.2.2.2.1, hSt.2.2.2.2.1⟩ fun b o hb e => hk' b o (sub hb) (hk b o (sub hb) e)
    · obtain ⟨o, ho, r⟩ := hTup; exact ⟨o, hk' _ _ hTw ho, r⟩
    · rw [← Array.getElem?_toList] at hvx
      obtain ⟨u, hu, hi'⟩ := hw1'.get' hvx
      rw [List.getD_eq_getElem?_getD, hu]; exact hi'
    · rw [← Array.getElem?_toList] at hvy
      obtain ⟨u, hu, hi'⟩ := hw2'.get' hvy
      rw [List.getD_eq_getElem?_getD, hu]; exact hi'
  · rintro st' R' s' P E' S' hJ ⟨h1, h2, h3, h4, h5⟩ hO hP
    obtain ⟨w1, hL1', hw1'⟩ := (S'.at (hl _ st' hJ).1).isList
    obtain ⟨w2, hL2', hw2'⟩ := (S'.at (hl _ st' hJ).2).isList
    have n1 : us.length = w1.size := by simpa using hw1'.length
    have n2 : ws.length = w2.size := by simpa using hw2'.length
    have W := WalksT.zip2 (prog := X.prog) (w := X.w) (A := X.A) hh z TI TO B i2 l1 l2 D w1 w2
    have sub : ∀ {b}, b ∉ [z, TI, TO, B, i2] → b ∉ [z, TO, B, i2] := fun hb hm => hb (by simp at hm ⊢; rcases hm with h | h | h | h <;> simp [h])
    have hmin : min w1.size w2.size = us.length := by omega
    refine W.done s' _ _ (by rw [hmin]; exact ⟨h1, h2, h3, h4, h5, hL1', hL2'⟩) fun h' tk hk => hP h' tk fun b o hb e => hk b o (sub hb) e
  · rintro i st' v R s hi hJ ⟨T, vx, vy, rfl, hTup, hu, hw⟩ S'
    have hxi : us[i]? = some us[i] := List.getElem?_eq_getElem hi
    have hyi : ws[i]? = some (ws[i]'(by omega)) := List.getElem?_eq_getElem (by omega)
    rw [List.getD_eq_getElem?_getD, hxi] at hu
    rw [List.getD_eq_getElem?_getD, hyi] at hw
    obtain ⟨u, u₀, m1, m2, U1, U2, hb⟩ := turn i st' us[i] (ws[i]'(by omega)) hxi hyi hJ
    exact wpR_mono (assign_pair (E := E) hh S' hTup U1 U2 hu hw hk hx hy) (fun _ s₂ S₂ => ⟨_, S₂, hb⟩) fun _ _ e => e
end
end Mine
end
section
open PySem PySem.W PyProof.Rows PySem.Calls
open PySem.Sem (wp)
set_option Elab.async false
set_option maxRecDepth 100000
set_option linter.unusedVariables false
set_option linter.deprecated false
namespace Mine
theorem valueAt_stored (kvs : List (Int × Value)) (k x : Int) (v : Value) : valueAt (stored kvs k v) x = if x = k then some v else valueAt kvs x := by
  unfold stored
  by_cases h : (kvs.any fun kv => decide (kv.1 = k)) = true
  · rw [if_pos h]
    induction kvs with
    | nil => simp at h
    | cons p r ih =>
      simp only [valueAt, List.map_cons, List.find?_cons] at ih ⊢
      by_cases hp : p.1 = k
      · simp only [hp, if_true]
        by_cases hx : k = x
        · simp [hx]
        · simp only [hx, decide_false, if_neg (Ne.symm hx)]
          by_cases hr : (r.any fun kv => decide (kv.1 = k)) = true
          · have := ih hr
            rw [if_neg (Ne.symm hx)] at this
            simpa using this
          · have e : r.map (fun kv => if kv.1 = k then (kv.1, v) else kv) = r := by
              conv => rhs; rw [← List.map_id r]
              apply List.map_congr_left
              intro q hq
              rw [if_neg (fun e => hr (List.any_eq_true.mpr ⟨q, hq, by simpa using e⟩))]; rfl
            rw [e]
      · simp only [hp, if_false]
        have hr : (r.any fun kv => decide (kv.1 = k)) = true := by simpa [hp] using h
        have := ih hr
        by_cases hx : p.1 = x
        · have : ¬ x = k := fun e => hp (hx.trans e)
          simp [hx, this]
        · simp only [hx, decide_false]
          exact this
  · rw [if_neg h]
    simp only [valueAt, List.find?_append]
    by_cases hx : x = k
    · subst hx
      have : kvs.find? (fun kv => decide (kv.1 = x)) = none := by
        rw [List.find?_eq_none]
        intro q hq e
        exact h (List.any_eq_true.mpr ⟨q, hq, e⟩)
      rw [this]; simp
    · rw [if_neg hx]
      cases hf : kvs.find? (fun kv => decide (kv.1 = x)) with
      | none => simp [Ne.symm hx]
      | some q => simp
def DictO (prog : Program) (w : World) (o : Obj) (kvs : List (Int × Value)) : Prop := ∀ (h : Heap) (a : Addr), h.get? a = some o → h.DictOf (intKind prog w) a kvs
theorem DictO.of {prog : Program} {w : World} {h : Heap} {a : Addr} {kvs : List (Int × Value)} (x : h.DictOf (intKind prog w) a kvs) : ∃ o, h.get? a = some o ∧ DictO prog w o kvs :=
  let ⟨o, es, ep, ho, r⟩ := x; ⟨o, ho, fun h' a' e => ⟨o, es, ep, e, r⟩⟩
/-- a dict with int keys: what is known of its items -/
def DictV (X : Cx) (o : Obj) (n : Nat) (G : Int → Option V) : Prop := ∃ kvs, DictO X.prog X.w o kvs ∧ kvs.length ≤ n ∧ ∀ k u, G k = some u → ∃ v, valueAt kvs k = some v ∧ u.Is v
section
variable {X : Cx} {ro : Led} {E : Er} {st : St} {nm : Str} {sc : Scope} {a : Addr} {cd : Value} {env : Env} {R : Heap} {s : Shared}
theorem dict_new {pos : Pos} {Q : V → St → Prop} (hlim : X.B.NoLimit) (hq : ∀ l o, (l == sysModules) = false → DictV X o 0 (fun _ => none) → Q (.ref l) { st with own := (l, .obj o) :: st.own }) : TV X ro E st (eval (.Dict [] [] pos) env) Q := fun R s S => by
  refine wpR_of (wpAny_Dict_empty ⟨.ref s.heap.objs.size, _, rfl, S.push (tk := s.toks) (c := .obj _) rfl, hq _ _ ?_ ?_⟩)
  · have := modules_low (hlim.keeps S.keepB)
    rw [beq_eq_false_iff_ne]
    exact fun e => absurd this (by rw [← e]; exact Nat.lt_irrefl _)
  · exact ⟨[], fun h a e => ⟨_, #[], 0, e, ⟨rfl, rfl, rfl⟩, rfl, fun _ he => by simp at he, .nil, .nil⟩, Nat.le_refl _, fun _ _ h => nomatch h⟩
theorem AssignSubD {o i pos' value pos} {Q : Fl → St → Prop}
    (h : TV X ro E st (eval value env) fun u st₁ => TV X ro E st₁ (eval o env) fun ov st₂ => TV X ro E st₂ (eval i env) fun iv st₃ =>
      ∃ l ob n k G, ov = .ref l ∧ iv = .int k ∧ DictV X ob n G ∧ n ≤ 16777215 ∧ Has l (.obj ob) st₃.own ∧ ∀ ob', DictV X ob' (n + 1) (fun x => if x = k then some u else G x) → ∃ own', Put l (.obj ob) (.obj ob') st₃.own own' ∧ Q .next { st₃ with own := own' })
    (hs : swapsWith value (some (.Subscript o i pos')) pos.line env = pure false := by rfl) :
    TF X ro E st (exec (.Assign [.Subscript o i pos'] value pos) env) Q := fun R s S =>
  wpR_Assign_Subscript (h.run S fun v s₁ u st₁ hu S₁ h₁ => h₁.run S₁ fun vo s₂ ov st₂ ho S₂ h₂ => h₂.run S₂ fun vi s₃ iv st₃ hi S₃ h₃ => by
    obtain ⟨l, ob, n, k, G, rfl, rfl, ⟨kvs, hD, hn, hG⟩, hn', hl, hq⟩ := h₃
    cases ho
    obtain ⟨t, rfl⟩ := hi
    obtain ⟨_, hob, e⟩ := S₃.at_own hl
    cases e
    refine wpR_of (wpAny_setItem_pairs (knd := intKind X.prog X.w) (k := k) (by simp [intKind, Value.isInt]) (hD _ _ hob) (fun h' hm' hs' => ?_) (by rw [sizeLine_eq]; omega))
    obtain ⟨ob', hob', hD'⟩ := DictO.of hm'
    obtain ⟨own', U, hQ⟩ := hq ob' ⟨_, hD', by have := stored_length_le kvs k v; omega, fun x w hw => by
      rw [valueAt_stored]
      dsimp only at hw
      by_cases hx : x = k
      · rw [if_pos hx] at hw ⊢
        cases hw
        exact ⟨v, rfl, hu⟩
      · rw [if_neg hx] at hw ⊢
        exact hG x w hw⟩
    exact ⟨.next, _, rfl, S₃.upd U ⟨ob', hob', rfl⟩ (fun b o hb e => hs'.extBut b o hb e), hQ⟩) hs
/-- d.get(k), for a key that is there -/
theorem get_dict' {o e apos pos} {pl : Sem Bool} {Q : V → St → Prop}
    (h : TV X ro E st (eval o env) fun ov st₁ => ∃ l ob n G, ov = .ref l ∧ (l == sysModules) = false ∧ DictV X ob n G ∧ Kn ro st₁ l (.obj ob) ∧ TV X ro E st₁ (eval e env) fun u st₂ => ∃ k r, u = .int k ∧ Kn ro st₂ l (.obj ob) ∧ G k = some r ∧ Q r st₂)
    (he : starEach [e] env = (false, eval e env) :: starEach [] env := by rfl)
    (he' : eval (.Call (.Attribute o "get" apos) [e] [] pos) env = (do
      let ov ← eval o env
      standAt apos.atName
      let (f, first) ← holding [ov] (getMethod ov "get" pl)
      callWith pos f first (backTo pos (starEach [e] env)) []) := by rfl) :
    TV X ro E st (eval (.Call (.Attribute o "get" apos) [e] [] pos) env) Q := fun R s S =>
  MethodCallR (pl := pl) (h.run S fun vo s₁ ov st₁ ho S₁ ⟨l, ob, n, G, e1, hsm, ⟨kvs, hD, hn, hG⟩, hl, h₁⟩ => by
    subst e1
    cases ho
    obtain ⟨_, hob, e⟩ := S₁.at hl
    cases e
    have hd := hD _ _ hob
    refine wpR_of (getMethod_builtin hd.typeIs PySem.F.plainAttrs_dict PySem.F.slot_dict_get PySem.F.type_dict_get hd.mapOf.noDict ?_)
    rw [he]
    refine callWith_builtinR rfl ?_
    refine evalArgs_plainR (spliced_consR (h₁.run S₁ fun v s₂ u st₂ hu S₂ ⟨k, r, e2, hl2, hr, hq⟩ => wpR_of (spliced_nil ?_)))
    subst e2
    obtain ⟨t, rfl⟩ := hu
    obtain ⟨_, hob2, e⟩ := S₂.at hl2
    cases e
    have hd2 := hD _ _ hob2
    obtain ⟨v, hv, hi⟩ := hG k r hr
    refine wpR_of (call_meetsIn PySem.F.slot_dict_get hd2.typeIs PySem.F.entry_dict_get (PySem.F.args_dict_get_2 _ _) (meets_dict_get (intKind X.prog X.w) l (k := k) (by simp [intKind, Value.isInt]) hsm) ⟨_, hd2.mapOf, ?_⟩)
    rw [hv]
    exact ⟨r, st₂, hi, S₂.toks, hq⟩) he'
theorem sub_tup {T : Addr} {us : List V} {k : Int} {u : V} {Q : V → St → Prop} (hl : Kn ro st T (.tup us)) (hk : 0 ≤ k ∧ k < 4294967296) (hx : us[k.toNat]? = some u) (hq : Q u st) : Sub X ro E (.ref T) (.int k) st Q := by
  rintro vo vi rfl ⟨t, rfl⟩ R s S
  obtain ⟨o, ho, ws, e, hw⟩ := S.at hl
  subst e
  have hT : IsTup s.heap T ws := ⟨_, ho, rfl, 0, rfl⟩
  obtain ⟨v, hv, hu⟩ := hw.get hx
  rw [Array.getElem?_toList] at hv
  have hlt : k.toNat < ws.size := (Array.getElem?_eq_some_iff.mp hv).1
  refine ⟨⟨_, _, hT.typeIs, slot_tuple_getitem.lookup⟩, wpR_of (getItem_tuple hT (by omega) (by omega) (j := k.toNat) ?_ hv ⟨u, st, hu, S, hq⟩)⟩
  obtain ⟨j, rfl⟩ := Int.eq_ofNat_of_zero_le hk.1
  unfold seqIndex?
  simp at hlt ⊢
  omega
theorem isub_int' {i j : Int} {Q : V → St → Prop} (h : Q (.int (i - j)) st) : Op2 X ro E (inplaceOp .Sub) (.int i) (.int j) st Q := by
  rintro v w ⟨t, rfl⟩ ⟨u, rfl⟩ R s S
  exact wpR_of (PyProof.Rows.isub_int ⟨.int (i - j), st, ⟨_, rfl⟩, S.toks, h⟩)
theorem ne_none_none' {Q : V → St → Prop} (h : Q (.bool false) st) : Op2 X ro E (compareOp .NotEq) .none .none st Q := by
  rintro v w rfl rfl R s S
  exact wpR_of (PySem.EqNone.ne_none_none ⟨.bool false, st, rfl, S, h⟩)
theorem list_range1 {j : Int} {pos : Pos} {Q : V → St → Prop} (hh : X.A.handled = none) (hj : -4294967296 ≤ j ∧ j < 4294967296) (hsz : j ≤ 16777216)
    (hq : ∀ l, Q (.ref l) { st with own := (l, .ints (rng 0 j)) :: st.own }) :
    OpN X ro E (fun vs => call (.type "range") vs) [.int j] st fun u st₁ => TL X ro E st₁ (spliced (backTo pos (starEach [] env))) fun us st₂ => OpN X ro E (fun vs => call (.type "list") vs) (u :: us) st₂ Q := by
  rintro vs (_ | ⟨⟨u, rfl⟩, (_ | _)⟩) R s S
  have hn : Builtin.Range.rangeSize 0 j 1 = ((j - 0).toNat : Nat) := by rw [rangeSize_one]; split <;> omega
  refine wpR_of (call_range_1 ⟨.ref s.heap.objs.size, { st with own := (s.heap.objs.size, .obj { cls := .type "range", data := .fields #[.int 0 s.toks, .int j u, .int 1 (s.toks + 1)] }) :: st.own }, rfl, S.push rfl, ?_⟩)
  refine args_nil' ?_
  rintro vs (_ | ⟨rfl, (_ | _)⟩) R s₂ S₂
  obtain ⟨o, ho, e⟩ := S₂.at_own Has.head
  cases e
  have S₃ := S₂.sub (own' := st.own) (List.sublist_cons_self _ _)
  refine wpR_of (call_list_range hh (a := 0) (b := j) (c := 1) (t := s.toks) (u := u) (v := s.toks + 1) (n := (j - 0).toNat) ho (small_one (by omega) (by omega) (by omega) (by omega)) hn (by omega)
    fun h' tk acc c hk hS hacc => ⟨.ref s₂.heap.objs.size, _, rfl, S₃.alloc (c := .ints (rng 0 j)) (size_none _) ⟨_, hS, ⟨acc, c, rfl, ?_⟩⟩ hk, hq _⟩)
  refine items_all2 ⟨by rw [hacc.1, rng_length], fun k v hk => ?_⟩
  obtain ⟨t', rfl⟩ := hacc.2 k v hk
  have hlt : k < (j - 0).toNat := by
    have := (Array.getElem?_eq_some_iff.mp hk).1
    rw [hacc.1] at this; exact this
  exact ⟨t', by rw [rng_getD hlt, Int.mul_one]⟩
end
end Mine
end
section
open PySem PySem.W PyProof.Rows PySem.Calls
open PySem.Sem (wp)
set_option Elab.async false
set_option maxRecDepth 100000
set_option linter.unusedVariables false
set_option linter.deprecated false
namespace Mine
def fParams : Option Stmt → Arguments
  | some (.FunctionDef _ a _ _ _ _ _ _ _ _) => a
  | _ => ⟨[], [], none, [], [], none, []⟩
def fBody : Option Stmt → List Stmt
  | some (.FunctionDef _ _ b _ _ _ _ _ _ _) => b
  | _ => []
def fScope : Option Stmt → Scope
  | some (.FunctionDef _ _ _ _ _ _ s _ _ _) => s
  | _ => ⟨.function, [], false, false, []⟩
def fPos : Option Stmt → Pos
  | some (.FunctionDef _ _ _ _ _ _ _ _ _ p) => p
  | _ => default
theorem pslice_mid {α : Type} {p c r : List α} {a b : Int} (ha : a = p.length) (hb : b = p.length + c.length) : pslice (some a) (some b) (p ++ c ++ r) = c := by
  subst ha hb
  have e1 : clipNat (some (p.length : Int)) 0 (p ++ c ++ r).length = p.length := by rw [clip_nat, List.append_assoc, List.length_append]; exact Nat.min_eq_left (Nat.le_add_right _ _)
  have e2 : clipNat (some ((p.length : Int) + c.length)) (p ++ c ++ r).length (p ++ c ++ r).length = p.length + c.length := by rw [← Int.natCast_add, clip_nat, List.length_append, List.length_append]; exact Nat.min_eq_left (Nat.le_add_right _ _)
  rw [pslice, e1, e2, List.append_assoc, List.drop_left, Nat.add_sub_cancel_left, List.take_left]

theorem loop_next {Q : Fl → St → Prop} {J : St → Prop} {st : St} (h : J st) : LoopQ Q J .next st := h
theorem loop_brk {Q : Fl → St → Prop} {J : St → Prop} {st : St} (h : Q .next st) : LoopQ Q J .brk st := h
theorem loop_ret {Q : Fl → St → Prop} {J : St → Prop} {st : St} {u : V} (h : Q (.ret u) st) : LoopQ Q J (.ret u) st := h
theorem ForO {X : Cx} {ro : Led} {E : Er} {st : St} {env : Env} {target iter : Expr} {body : List Stmt} {pos : Pos} {Q : Fl → St → Prop}
    (h : TV X ro E st (eval iter env) fun u st₁ => ForOver X ro E env target body Q u st₁)
    (hs : ∀ x, foldedSetIterable iter env x = pure x := by intro _; rfl) : TF X ro E st (exec (.For target iter body [] pos) env) Q := For' h hs
/-- encode, as it runs -/
def encGo (fz : Bool) (out cur : List Int) : List Int → List Int
  | [] => if cur.length ≠ 0 ∨ fz = true then out ++ [(cur.length : Int) + 1] ++ cur else out
  | c :: r => if c = 0 then encGo true (out ++ [(cur.length : Int) + 1] ++ cur) [] r
    else if cur.length = 253 then encGo false (out ++ [255] ++ (cur ++ [c])) [] r
    else encGo fz out (cur ++ [c]) r
def enc (ns : List Int) : List Int := encGo true [] [] ns
theorem drop_dec (L : Int) (r : List Int) : (r.drop (L - 1).toNat).length < (L :: r).length := by rw [List.length_drop, List.length_cons]; omega
/-- decode, as it runs -/
def decGo (out : List Int) (rest : List Int) : Option (List Int) := match rest with
  | [] => none
  | L :: r => if L = 0 then none else if 0 ∈ r.take (L - 1).toNat then none else if r.length < (L - 1).toNat then none
    else if (L - 1).toNat < r.length then decGo (out ++ r.take (L - 1).toNat ++ if L < 255 then [0] else []) (r.drop (L - 1).toNat)
    else some (out ++ r.take (L - 1).toNat)
termination_by rest.length
decreasing_by exact drop_dec ..
def dec (ns : List Int) : Option (List Int) := if ns.length = 0 then some [] else decGo [] ns
theorem pslice_tail {α : Type} {p r : List α} {a b k : Int} (ha : a = p.length) (hb : b = p.length + k) (hk : 0 ≤ k) : pslice (some a) (some b) (p ++ r) = r.take k.toNat := by
  subst ha hb
  have e1 : clipNat (some (p.length : Int)) 0 (p ++ r).length = p.length := by rw [clip_nat, List.length_append]; exact Nat.min_eq_left (Nat.le_add_right _ _)
  rw [pslice, e1, List.drop_left]
  obtain ⟨j, rfl⟩ := Int.eq_ofNat_of_zero_le hk
  have e2 : clipNat (some ((p.length : Int) + j)) (p ++ r).length (p ++ r).length - p.length = min (j : Int).toNat r.length := by
    rw [← Int.natCast_add, clip_nat, List.length_append, Int.toNat_natCast, Nat.add_min_add_left, Nat.add_sub_cancel_left]
  rw [e2, Int.toNat_natCast, List.take_eq_take_iff, Nat.min_assoc, Nat.min_self]
end Mine
end
section
open PySem PySem.W PyProof.Rows PySem.Calls
set_option Elab.async false
set_option maxRecDepth 100000
namespace Mine
def q1 : Program := view PySem.Challenge.pw_nc0006_02 [1, 2, 3, 5, 6]
def stE : Option Stmt := PySem.Challenge.pw_nc0006_02.main.body[2]?
def dE : DefRec := ⟨"encode", fParams stE, fBody stE, fScope stE, fPos stE⟩
theorem dE_mem : dE ∈ recsOf q1 := List.mem_of_getElem? (i := 0) (by kernel_rfl)
def stD : Option Stmt := PySem.Challenge.pw_nc0006_02.main.body[3]?
def dD : DefRec := ⟨"decode", fParams stD, fBody stD, fScope stD, fPos stD⟩
theorem dD_mem : dD ∈ recsOf q1 := List.mem_of_getElem? (i := 1) (by kernel_rfl)
def stR : Option Stmt := PySem.Challenge.pw_nc0006_02.main.body[5]?
def dR : DefRec := ⟨"_law_read", fParams stR, fBody stR, fScope stR, fPos stR⟩
theorem dR_mem : dR ∈ recsOf q1 := List.mem_of_getElem? (i := 2) (by kernel_rfl)
def stL : Option Stmt := PySem.Challenge.pw_nc0006_02.main.body[6]?
def dL : DefRec := ⟨"law", fParams stL, fBody stL, fScope stL, fPos stL⟩
theorem dL_mem : dL ∈ recsOf q1 := List.mem_of_getElem? (i := 3) (by kernel_rfl)
end Mine
end
section
open PySem PySem.W PyProof.Rows PySem.Calls
set_option Elab.async false
set_option maxRecDepth 100000
set_option maxHeartbeats 8000000
namespace Mine

theorem left1 : LeftO PySem.Challenge.pw_nc0006_02 q1 [] (fun s => xlAt q1 [] s && recOk [] s) (fun _ => ()) (fun _ => ()) 900 := fun w => by kernel_rfl
end Mine
end
section
open PySem PySem.W PyProof.Rows PySem.Calls
open PySem.Sem (wp)
set_option Elab.async false
set_option maxRecDepth 100000
set_option linter.unusedVariables false
set_option linter.deprecated false
namespace Mine
section
variable {X : Cx} {ro : Led} {E : Er} {st : St} {nm : Str} {sc : Scope} {a : Addr} {cd : Value} {env : Env} {R : Heap} {s : Shared}
/-- a list as the caller laid it: read only -/
def RawInts (o : Obj) (ns : List Int) : Prop := o.cls = .type "list" ∧ ∃ ws n, o.data = .seq ws n ∧ All2 (ns.map V.int) ws.toList
theorem subs_raw {l : Addr} {o : Obj} {ns : List Int} {lo hi : Option Int} {Q : V → St → Prop} (ho : RawInts o ns) (hl : Kn ro st l (.obj o)) (hsz : ns.length ≤ 16777216)
    (hq : ∀ l', Q (.ref l') { st with own := (l', .ints (pslice lo hi ns)) :: st.own }) : SubS X ro E (.ref l) lo hi st Q := by
  rintro vo vl vu sl rfl pl pu R s S hs
  obtain ⟨hc, ws, n, hd, hw⟩ := ho
  obtain ⟨o', ho', e⟩ := S.at hl
  cases e
  have hL : s.heap.IsList l ws := ⟨o, ho', hc, n, hd⟩
  have hn : ns.length = ws.size := by simpa using hw.length
  refine ⟨⟨_, _, hL.typeIs, slot_list_getitem.lookup⟩, wpR_of (wpAny_getItem_list_slice hL hs pl pu .none (by simp) ?_ (by rw [sizeLine_eq]; omega))⟩
  refine ⟨.ref s.heap.objs.size, _, rfl, S.push (c := .ints (pslice lo hi ns)) ⟨_, 0, rfl, ?_⟩, hq _⟩
  rw [slicePick_eq, ← pslice_map]; simpa using hw.pslice lo hi
/-- += with a new list, that is let go -/
theorem iadd_list_drop {l b : Addr} {us vs : List V} {loc : List (Str × V)} {own own' : Led} {Q : V → St → Prop} (U : Put l (.list us) (.list (us ++ vs)) own own') (hsz : us.length + vs.length ≤ 16777216)
    (hq : Q (.ref l) ⟨loc, own'⟩) : Op2 X ro E (inplaceOp .Add) (.ref l) (.ref b) ⟨loc, (b, .list vs) :: own⟩ Q := fun v w hv hw =>
  (iadd_list' (Q := fun u st' => u = .ref l ∧ st' = ⟨loc, (b, .list vs) :: own'⟩) (U.tail (p := (b, .list vs))) (.inl .head) hsz ⟨rfl, rfl⟩ v w hv hw).post_own fun u st' ⟨e1, e2⟩ => by
    subst e1 e2
    exact ⟨own', List.sublist_cons_self _ _, hq⟩
theorem list_range_arg {i j : Int} {pos : Pos} {Q : V → St → Prop} (hh : X.A.handled = none) (hi : -4294967296 ≤ i ∧ i < 4294967296) (hj : -4294967296 ≤ j ∧ j < 4294967296) (hsz : j - i ≤ 16777216)
    (hq : ∀ l, Q (.ref l) { st with own := (l, .ints (rng i j)) :: st.own }) :
    OpN X ro E (fun vs => call (.type "range") vs) [.int i, .int j] st fun u st₁ => TL X ro E st₁ (spliced (backTo pos (starEach [] env))) fun us st₂ => OpN X ro E (fun vs => call (.type "list") vs) (u :: us) st₂ Q := fun vs hv =>
  (list_range2 hh hi hj hsz hq vs hv).mono fun u st₁ h => args_nil' h

/-- lists of ints -/
theorem mul_ints' {l : Addr} {ns : List Int} {x : Int} {Q : V → St → Prop} (hl : Kn ro st l (.ints ns)) (hx : 0 ≤ x ∧ x < 4294967296) (hsz : ns.length * x.toNat ≤ 16777216)
    (hq : ∀ l', Q (.ref l') { st with own := (l', .ints (List.replicate x.toNat ns).flatten) :: st.own }) : Op2 X ro E (binaryOp .Mult) (.ref l) (.int x) st Q := by
  refine mul_list' hl hx (by rw [List.length_map]; exact hsz) fun l' => ?_
  have := hq l'
  rw [Cell.ints, List.map_flatten, List.map_replicate] at this
  exact this
theorem subs_ints {l : Addr} {ns : List Int} {lo hi : Option Int} {Q : V → St → Prop} (hl : Kn ro st l (.ints ns)) (hsz : ns.length ≤ 16777216)
    (hq : ∀ l', Q (.ref l') { st with own := (l', .ints (pslice lo hi ns)) :: st.own }) : SubS X ro E (.ref l) lo hi st Q :=
  subs_list hl (by rw [List.length_map]; exact hsz) fun l' => by rw [pslice_map]; exact hq l'
theorem sub_ints {l : Addr} {ns : List Int} {k n : Int} {Q : V → St → Prop} (hl : Kn ro st l (.ints ns)) (hk : -4294967296 ≤ k ∧ k < 4294967296) (h0 : -(ns.length : Int) ≤ k)
    (hx : ns[pidx k ns.length]? = some n) (hq : Q (.int n) st) : Sub X ro E (.ref l) (.int k) st Q :=
  sub_list hl hk (by rw [List.length_map]; exact h0) (by rw [List.length_map, List.getElem?_map, hx]; rfl) hq
theorem append_ints {o e apos pos} {pl : Sem Bool} {Q : V → St → Prop}
    (h : TV X ro E st (eval o env) fun ov st₁ => ∃ l ns, ov = .ref l ∧ Kn ro st₁ l (.ints ns) ∧ TV X ro E st₁ (eval e env) fun u st₂ => ∃ ns n own', u = .int n ∧ Put l (.ints ns) (.ints (ns ++ [n])) st₂.own own' ∧ ns.length ≤ 16777216 ∧ Q .none { st₂ with own := own' })
    (he : starEach [e] env = (false, eval e env) :: starEach [] env := by rfl)
    (he' : eval (.Call (.Attribute o "append" apos) [e] [] pos) env = (do
      let ov ← eval o env
      standAt apos.atName
      let (f, first) ← holding [ov] (getMethod ov "append" pl)
      callWith pos f first (backTo pos (starEach [e] env)) []) := by rfl) :
    TV X ro E st (eval (.Call (.Attribute o "append" apos) [e] [] pos) env) Q :=
  append_list' (h.mono fun ov st₁ ⟨l, ns, e1, hk, h₁⟩ => ⟨l, _, e1, hk, h₁.mono fun u st₂ ⟨ns, n, own', e2, hp, hz, hq⟩ => ⟨ns.map V.int, own', by subst e2; rw [Cell.ints, Cell.ints, List.map_append] at hp; exact hp, by rw [List.length_map]; exact hz, hq⟩⟩) he he'
theorem iadd_ints_drop {l b : Addr} {ns ms : List Int} {loc : List (Str × V)} {own own' : Led} {Q : V → St → Prop} (U : Put l (.ints ns) (.ints (ns ++ ms)) own own') (hsz : ns.length + ms.length ≤ 16777216)
    (hq : Q (.ref l) ⟨loc, own'⟩) : Op2 X ro E (inplaceOp .Add) (.ref l) (.ref b) ⟨loc, (b, .ints ms) :: own⟩ Q :=
  iadd_list_drop (by rw [Cell.ints, Cell.ints, List.map_append] at U; exact U) (by rw [List.length_map, List.length_map]; exact hsz) hq
theorem AugSubI {o i value tpos pos op} {Q : Fl → St → Prop}
    (h : TV X ro E st (eval o env) fun ov st₁ => TV X ro E st₁ (eval i env) fun iv st₂ => ∃ l ns k n, ov = .ref l ∧ iv = .int k ∧ Kn ro st₂ l (.ints ns) ∧ (-4294967296 ≤ k ∧ k < 4294967296) ∧ -(ns.length : Int) ≤ k ∧ ns[pidx k ns.length]? = some n ∧
      TV X ro E st₂ (eval value env) fun b st₃ => Op2 X ro E (inplaceOp op) (.int n) b st₃ fun r st₄ => ∃ ns' m own', r = .int m ∧ Put l (.ints ns') (.ints (ns'.set (pidx k ns'.length) m)) st₄.own own' ∧ -(ns'.length : Int) ≤ k ∧ k < ns'.length ∧ Q .next { st₄ with own := own' })
    (hi : ∀ ov iv new, augStore i ov iv new = (do holding [new, ov, iv] (setItem ov iv new); release [new, ov, iv] []; pure .next) := by intros; rfl) :
    TF X ro E st (exec (.AugAssign (.Subscript o i tpos) op value pos) env) Q :=
  AugSub' (h.mono fun ov st₁ h₁ => h₁.mono fun iv st₂ ⟨l, ns, k, n, e1, e2, hk, hb, h0, hx, h₂⟩ => ⟨l, _, k, .int n, e1, e2, hk, hb, by rw [List.length_map]; exact h0, by rw [List.length_map, List.getElem?_map, hx]; rfl,
    h₂.mono fun b st₃ h₃ v w hv hw => (h₃ v w hv hw).mono fun r st₄ ⟨ns', m, own', e3, hp, b0, b1, hq⟩ => ⟨ns'.map V.int, own', by subst e3; rw [Cell.ints, Cell.ints, List.map_set] at hp; rw [List.length_map]; exact hp, by rw [List.length_map]; exact b0, by rw [List.length_map]; exact b1, hq⟩⟩) hi
theorem len_ints' {l : Addr} {ns : List Int} {Q : V → St → Prop} (hl : Kn ro st l (.ints ns)) (hsz : ns.length ≤ 16777216) (hq : Q (.int ns.length) st) :
    OpN X ro E (fun vs => call (.builtin "len") vs) [.ref l] st Q := len_list' hl (by rw [List.length_map]; exact hsz) (by rw [List.length_map]; exact hq)
theorem elt_div {scope : Scope} {x : Str} {p1 p2 p3 : Pos} {k : Nat} {c : Int} (hc : 0 < c ∧ c < 1073741824) (hk : scope.kind = .function := by rfl) (hx : scope.names.lookup x = some .local := by rfl) (hd : (x == ("__debug__" : Str)) = false := by decide) :
    ∀ C n t s₂ m₂ E', s₂.heap.Ns C m₂ → m₂ x = some (.int n t) → (∀ b o, X.B.get? b = some o → s₂.heap.get? b = some o) →
      wpAny (model X.prog X.w) X.A (eval (.BinOp (.Name x p1) .FloorDiv (.Constant (.int c) k p2) p3) (compEnv scope C env)) (fun y s₃ => (∃ u, y = .int (n / c) u) ∧ Keeps s₂ s₃) E' s₂ := by
  intro C n t s₂ m₂ E' hn hm _
  refine wpAny_BinOp (wpAny_Name (wpAny_loadName_local hk hx hn hm (wpAny_Constant_int (PyProof.Rows.floordiv_int (by omega) ⟨⟨_, by rw [Int.fdiv_eq_ediv_of_nonneg _ (by omega)]⟩, s₂.heap, _, rfl, fun _ _ e => e⟩ (.inl (PyProof.noPylong_small (by omega)))))) hd)
theorem part_none {Q : Value → Shared → Prop} {E' : Value → Shared → Prop} (h : ∀ v tk, IsPart v none → Q v { s with toks := tk }) : wpAny (model X.prog X.w) X.A (evalPart none env) Q E' s := wpAny_pure (h _ s.toks .none)
theorem part_neg {c : Int} {k : Nat} {p1 p2 : Pos} {Q : Value → Shared → Prop} {E' : Value → Shared → Prop} (h : ∀ v tk, IsPart v (some (-c)) → Q v { s with toks := tk }) :
    wpAny (model X.prog X.w) X.A (evalPart (some (.UnaryOp .USub (.Constant (.int c) k p1) p2)) env) Q E' s := by
  rw [evalPart_some]
  exact wpAny_UnaryOp (wpAny_Constant_int (PyProof.Rows.neg_int (h _ _ (.int _ _))))
theorem ListI {elts pos} {Q : V → St → Prop} (h : TL X ro E st (spliced (backTo pos (starEach elts env))) fun us st₁ => ∃ ns : List Int, us = ns.map V.int ∧ ns.length ≤ 16777216 ∧ ∀ l, Q (.ref l) { st₁ with own := (l, .ints ns) :: st₁.own }) :
    TV X ro E st (eval (.List elts pos) env) Q :=
  List' (h.mono fun us st₁ ⟨ns, e, hz, hq⟩ => by subst e; exact ⟨by rw [List.length_map]; exact hz, hq⟩)
end
end Mine
end
section
open PySem PySem.W PyProof.Rows PySem.Calls
open PySem.Sem (wp)
set_option maxRecDepth 100000
set_option linter.unusedVariables false
set_option linter.deprecated false
set_option linter.unusedSimpArgs false
namespace Mine
local macro_rules | `(tactic| walk_at "m:has") => `(tactic| first | with_reducible exact Has.head | (with_reducible apply Has.tail; walk_at "m:has"))
local macro_rules | `(tactic| walk_at "m:put") => `(tactic| first | with_reducible exact Put.head | (with_reducible apply Put.tail; walk_at "m:put"))
local macro_rules | `(tactic| walk_at "m:kn") => `(tactic| first | exact Or.inl (by walk_at "m:has") | exact Or.inr (by walk_at "m:has") | exact Or.inr (by assumption) | assumption)
local macro_rules | `(tactic| walk_at "m:show") => `(tactic| first | with_reducible show TV _ _ _ _ _ _ | unfold Part)
local macro_rules | `(tactic| walk_at "m:case") => `(tactic| (refine ⟨fun h => ?_, fun h => ?_⟩ <;> first | cases h | replace h := of_decide_eq_true h | replace h := of_decide_eq_false h | skip))
local macro_rules | `(tactic| walk_at "m:arith") => `(tactic| first | assumption | omega | (refine Nat.le_trans (Nat.add_le_add (pslice_length_le _ _ _) (pslice_length_le _ _ _)) ?_; simp only [List.length_cons, List.length_nil]; omega) | (simp only [List.length_append, List.length_cons, List.length_nil]; omega) | (simp; omega) | (simp only [List.length_append, List.length_cons, List.length_nil]; refine Nat.le_trans (Nat.add_le_add_left (pslice_length_le _ _ _) _) ?_; omega) | (refine Nat.le_trans (Nat.add_le_add_left (pslice_length_le _ _ _) _) ?_; first | omega | (simp; omega)) | (simp only [List.length_append, List.length_cons, List.length_nil]; refine Nat.lt_of_le_of_lt (Nat.add_le_add_left (pslice_length_le _ _ _) _) ?_; omega))
local macro_rules | `(tactic| walk_at "m:meth") => `(tactic| first
  | (refine append_ba' (by assumption) ?_; walk_at "m"; walk_at "m")
  | (refine append_ints ?_; walk_at "m"; walk_at "m"))
local macro_rules | `(tactic| walk_at "m:callF") => `(tactic| first | (refine callF (by assumption) (by assumption) ?_))
local macro_rules | `(tactic| walk_at "m:call") => `(tactic| first
  | refine call_enc (by assumption) (by assumption) (by assumption) (by assumption) (by assumption) (by assumption) (by assumption) (by assumption) (by assumption) (by assumption) (by walk_at "m:arith") ?_
  | refine call_dec (by assumption) (by assumption) (by assumption) (by assumption) (by assumption) (by assumption) (by assumption) (by assumption) (by assumption) (by assumption) (by assumption) (by walk_at "m:arith") (by assumption) ?_)
local macro_rules | `(tactic| walk_at "m:TF") => `(tactic| first
  | ((with_reducible show TF _ _ _ _ (execs [] _) _); refine execs_nil' ?_)
  | ((with_reducible show TF _ _ _ _ (execs (_ :: _) _) _); refine execs_cons' ?_)
  | ((with_reducible show TF _ _ _ _ (exec (Stmt.Assign [Expr.Name _ _] _ _) _) _); refine Assign' ?_)
  | ((with_reducible show TF _ _ _ _ (exec (Stmt.AugAssign (Expr.Name _ _) _ _ _) _) _); refine AugAssign' (by walk_at "m:has") ?_)
  | ((with_reducible show TF _ _ _ _ (exec (Stmt.AugAssign (Expr.Subscript _ _ _) _ _ _) _) _); refine AugSubI ?_)
  | ((with_reducible show TF _ _ _ _ (exec (Stmt.If _ _ _ _) _) _); refine If' ?_)
  | ((with_reducible show TF _ _ _ _ (exec (Stmt.Return (some _) _) _) _); refine Return' ?_)
  | ((with_reducible show TF _ _ _ _ (exec (Stmt.Break _) _) _); refine Break' ?_)
  | ((with_reducible show TF _ _ _ _ (exec (Stmt.Expr _ _) _) _); refine Expr' ?_)
  | ((with_reducible show TF _ _ _ _ (exec (Stmt.For _ _ _ [] _) _) _); refine ForO ?_))
local macro_rules | `(tactic| walk_at "m:TB") => `(tactic| first
  | ((with_reducible show TB _ _ _ _ (PySem.isTrue (Expr.Compare _ _ _ _) _ _) _); refine isTrue_cmp ?_)
  | ((with_reducible show TB _ _ _ _ (PySem.isTrue (Expr.UnaryOp UnaryOp.Not _ _) _ _) _); refine isTrue_not' ?_)
  | ((with_reducible show TB _ _ _ _ (PySem.isTrue (Expr.BoolOp BoolOp.And [] _) _ _) _); refine isTrue_and_nil' ?_)
  | ((with_reducible show TB _ _ _ _ (PySem.isTrue (Expr.BoolOp BoolOp.Or [] _) _ _) _); refine isTrue_or_nil' ?_)
  | ((with_reducible show TB _ _ _ _ (PySem.isTrue (Expr.BoolOp BoolOp.And (_ :: _) _) _ _) _); refine isTrue_and' ?_)
  | ((with_reducible show TB _ _ _ _ (PySem.isTrue (Expr.BoolOp BoolOp.Or (_ :: _) _) _ _) _); refine isTrue_or' ?_)
  | ((with_reducible show TB _ _ _ _ (PySem.isTrue (Expr.Call _ _ _ _) _ _) _); refine isTrue_val ?_)
  | ((with_reducible show TB _ _ _ _ (PySem.isTrue (Expr.Name _ _) _ _) _); refine isTrue_val ?_)
  | ((with_reducible show TB _ _ _ _ (PySem.isTrue (Expr.Constant _ _ _) _ _) _); refine isTrue_val ?_))
local macro_rules | `(tactic| walk_at "m:TV") => `(tactic| first
  | ((with_reducible show TV _ _ _ _ (eval (Expr.Constant (Const.int _) _ _) _) _); refine const_int ?_)
  | ((with_reducible show TV _ _ _ _ (eval (Expr.Constant (Const.bool _) _ _) _) _); refine const_bool ?_)
  | ((with_reducible show TV _ _ _ _ (eval (Expr.Name _ _) _) _); first | refine name_local (by walk_at "m:has") ?_ | refine name_glo (by assumption) ?_)
  | ((with_reducible show TV _ _ _ _ (eval (Expr.BinOp _ _ _ _) _) _); refine BinOp' ?_)
  | ((with_reducible show TV _ _ _ _ (eval (Expr.Compare _ [_] [_] _) _) _); refine Compare' ?_)
  | ((with_reducible show TV _ _ _ _ (eval (Expr.UnaryOp _ _ _) _) _); refine UnaryOp' ?_)
  | ((with_reducible show TV _ _ _ _ (eval (Expr.IfExp _ _ _ _) _) _); refine IfExp' ?_)
  | ((with_reducible show TV _ _ _ _ (eval (Expr.Subscript _ (Expr.Slice _ _ none _) _) _) _); refine SubSlice' ?_)
  | ((with_reducible show TV _ _ _ _ (eval (Expr.Subscript _ _ _) _) _); refine Subscript' ?_)
  | ((with_reducible show TV _ _ _ _ (eval (Expr.List (Expr.Name _ _ :: _ :: _) _) _) _); refine List' ?_)
  | ((with_reducible show TV _ _ _ _ (eval (Expr.List _ _) _) _); refine ListI ?_)
  | ((with_reducible show TV _ _ _ _ (eval (Expr.Tuple _ _ _) _) _); refine Tuple' ?_)
  | ((with_reducible show TV _ _ _ _ (eval (Expr.Call (Expr.Attribute _ _ _) [Expr.List _ _] _ _) _) _); (refine append_list' ?_; walk_at "m"; refine ⟨_, _, rfl, by walk_at "m:kn", ?_⟩))
  | ((with_reducible show TV _ _ _ _ (eval (Expr.Call (Expr.Attribute (Expr.Subscript _ _ _) _ _) _ _ _) _) _); refine append_ints ?_)
  | ((with_reducible show TV _ _ _ _ (eval (Expr.Call (Expr.Attribute _ _ _) _ _ _) _) _); walk_at "m:meth")
  | ((with_reducible show TV _ _ _ _ (eval (Expr.Call _ _ _ _) _) _); refine Call' ?_)
  | ((with_reducible show TV _ _ _ _ (eval (Expr.ListComp _ _ _ _) _) _); (refine comp_slice (fun x => x / 254) (by assumption) (by walk_at "m:has") (by walk_at "m:kn") (by walk_at "m:arith") (fun s Q E' h => part_none h) (fun s Q E' h => part_neg h) (elt_div (by decide)) ?_; intro))
  | ((with_reducible show TV _ _ _ _ (eval (Expr.Constant Const.none _ _) _) _); refine const_none ?_))
local macro_rules | `(tactic| walk_at "m:rest") => `(tactic| first
  | ((with_reducible show Part _ _ _ _ none _ _); walk_at "m:show")
  | ((with_reducible show Part _ _ _ _ (some _) _ _); walk_at "m:show")
  | ((with_reducible show ∀ v, V.Is (V.raw (Value.type _)) v → TV _ _ _ _ (callWith _ v [] (backTo _ (starEach [] _)) []) _); refine callT0 ?_)
  | ((with_reducible show ∀ v, V.Is (V.raw (Value.type _)) v → TV _ _ _ _ (callWith _ v [] (backTo _ (starEach (_ :: _) _)) []) _); refine callT ?_)
  | ((with_reducible show ∀ v, V.Is (V.raw (Value.builtin _)) v → TV _ _ _ _ (callWith _ v [] (backTo _ (starEach (_ :: _) _)) []) _); refine callB ?_)
  | ((with_reducible show Tgt _ _ _ _ (Expr.Name _ _) _ _ _); refine tgt_name (by walk_at "m:put") ?_)
  | ((with_reducible show ∃ l ms, V.raw (Value.ref _) = V.ref l ∧ Kn _ _ l (Cell.ba ms) ∧ _); refine ⟨_, _, rfl, by walk_at "m:kn", ?_⟩)
  | ((with_reducible show ∃ l ns, V.raw (Value.ref _) = V.ref l ∧ Kn _ _ l (Cell.ints ns) ∧ _); refine ⟨_, _, rfl, by walk_at "m:kn", ?_⟩)
  | ((with_reducible show ∃ ns own' n, V.int _ = V.int n ∧ _ ∧ Put _ (Cell.ba ns) _ _ own' ∧ _); refine ⟨_, _, _, rfl, by walk_at "m:arith", by walk_at "m:put", by walk_at "m:arith", ?_⟩)
  | ((with_reducible show ∃ us own', Put _ (Cell.list us) _ _ own' ∧ _); refine ⟨_, _, by walk_at "m:put", by walk_at "m:arith", ?_⟩)
  | ((with_reducible show _ ≤ 16777216 ∧ ∀ _, _); (refine ⟨by simp, ?_⟩; intro))
  | ((with_reducible show ∃ ns n own', V.int _ = V.int n ∧ Put _ (Cell.ints ns) (Cell.ints (ns ++ [n])) _ own' ∧ _); refine ⟨_, _, _, rfl, by walk_at "m:put", by walk_at "m:arith", ?_⟩)
  | ((with_reducible show ∃ l ns k n, V.raw (Value.ref _) = V.ref l ∧ V.int _ = V.int k ∧ Kn _ _ l (Cell.ints ns) ∧ _); refine ⟨_, _, _, _, rfl, rfl, by walk_at "m:kn", by omega, by walk_at "m:arith", by assumption, ?_⟩)
  | ((with_reducible show ∃ ns' m own', V.int _ = V.int m ∧ Put _ (Cell.ints ns') (Cell.ints (List.set ns' _ m)) _ own' ∧ _ ∧ _ ∧ _); refine ⟨_, _, _, rfl, by walk_at "m:put", by walk_at "m:arith", by walk_at "m:arith", ?_⟩)
  | ((with_reducible show ∃ l ns k n own', V.raw (Value.ref _) = V.ref l ∧ V.int _ = V.int k ∧ V.int _ = V.int n ∧ Put l _ _ _ own' ∧ _); refine ⟨_, _, _, _, _, rfl, rfl, rfl, by walk_at "m:put", by omega, by walk_at "m:arith", by walk_at "m:arith", ?_⟩)
  | ((with_reducible show ∀ v, V.Is (V.raw (Value.ref _)) v → TV _ _ _ _ (callWith _ v [] (backTo _ (starEach (_ :: _) _)) []) _); walk_at "m:callF")
  | ((with_reducible show ∃ ns, [] = List.map V.int ns ∧ _ ∧ _); (refine ⟨[], rfl, by simp, ?_⟩; intro))
  | ((with_reducible show ∃ ns, [_] = List.map V.int ns ∧ _ ∧ _); (refine ⟨[_], rfl, by simp, ?_⟩; intro))
  | ((with_reducible show ∃ ns, [_, _] = List.map V.int ns ∧ _ ∧ _); (refine ⟨[_, _], rfl, by simp, ?_⟩; intro))
  | ((with_reducible show ∃ ns, [_, _, _] = List.map V.int ns ∧ _ ∧ _); (refine ⟨[_, _, _], rfl, by simp, ?_⟩; intro))
  | ((with_reducible show ∃ ns, [_, _, _, _] = List.map V.int ns ∧ _ ∧ _); (refine ⟨[_, _, _, _], rfl, by simp, ?_⟩; intro))
  | ((with_reducible show (_ = true → _) ∧ (_ = false → _)); walk_at "m:case")
  | ((with_reducible show ∃ u₀ loc', Put _ u₀ _ _ loc' ∧ _); refine ⟨_, _, by walk_at "m:put", ?_⟩)
  | ((with_reducible show ∃ i, V.int _ = V.int i ∧ _); refine ⟨_, rfl, ?_⟩)
  | ((with_reducible show V.raw Value.none = V.none ∧ _); refine ⟨rfl, ?_⟩))
local macro_rules | `(tactic| walk_at "m:TL") => `(tactic| first
  | ((with_reducible show TL _ _ _ _ (spliced (backTo _ (starEach [] _))) _); refine args_nil' ?_)
  | ((with_reducible show TL _ _ _ _ (spliced (backTo _ (starEach (_ :: _) _))) _); refine args_cons' ?_))
local macro_rules | `(tactic| walk_at "m:Op2") => `(tactic| first
  | ((with_reducible show Op2 _ _ _ (binaryOp Operator.Add) (V.int _) (V.int _) _ _); refine add_int' ?_)
  | ((with_reducible show Op2 _ _ _ (inplaceOp Operator.Add) (V.int _) (V.int _) _ _); refine iadd_int' ?_)
  | ((with_reducible show Op2 _ _ _ (binaryOp Operator.Sub) (V.int _) (V.int _) _ _); refine sub_int' ?_)
  | ((with_reducible show Op2 _ _ _ (binaryOp Operator.FloorDiv) (V.int _) (V.int _) _ _); refine div_int' (by decide) ?_)
  | ((with_reducible show Op2 _ _ _ (binaryOp Operator.Mod) (V.int _) (V.int _) _ _); refine mod_int' (by first | decide | omega) ?_)
  | ((with_reducible show Op2 _ _ _ (compareOp CmpOp.Eq) (V.int _) (V.int _) _ _); refine eq_int' ?_)
  | ((with_reducible show Op2 _ _ _ (compareOp CmpOp.NotEq) (V.int _) (V.int _) _ _); refine ne_int' ?_)
  | ((with_reducible show Op2 _ _ _ (compareOp CmpOp.Lt) (V.int _) (V.int _) _ _); refine lt_int' ?_)
  | ((with_reducible show Op2 _ _ _ (compareOp CmpOp.Gt) (V.int _) (V.int _) _ _); refine gt_int' ?_)
  | ((with_reducible show Op2 _ _ _ (compareOp CmpOp.NotEq) (V.bytes _) (V.bytes _) _ _); refine ne_bytes' ?_)
  | ((with_reducible show Op2 _ _ _ (compareOp CmpOp.In) (V.int _) (V.bytes _) _ _); refine in_bytes' (by decide) ?_)
  | ((with_reducible show Op2 _ _ _ (inplaceOp Operator.Add) (V.raw (Value.ref _)) (V.bytes _) _ _); refine iadd_ba_b (by assumption) (by walk_at "m:put") (by walk_at "m:arith") ?_)
  | ((with_reducible show Op2 _ _ _ (binaryOp Operator.Mult) (V.raw (Value.ref _)) (V.int _) _ _); (refine mul_ints' (by walk_at "m:kn") (by decide) (by decide) ?_; intro))
  | ((with_reducible show Op2 _ _ _ (inplaceOp Operator.Add) (V.raw (Value.ref _)) (V.raw (Value.ref _)) _ _); refine iadd_ints_drop (by walk_at "m:put") (by walk_at "m:arith") ?_)
  | ((with_reducible show Op2 _ _ _ (compareOp CmpOp.Eq) (V.raw (Value.ref _)) (V.raw (Value.ref _)) _ _); refine eq_ints' (by assumption) (by walk_at "m:kn") (by walk_at "m:kn") ?_)
  | ((with_reducible show Op2 _ _ _ (compareOp CmpOp.In) (V.int _) (V.raw (Value.ref _)) _ _); refine in_ints' (by walk_at "m:kn") ?_)
  | ((with_reducible show Op2 _ _ _ (binaryOp Operator.Add) (V.raw (Value.ref _)) (V.raw (Value.ref _)) _ _); (refine add_ints' (by walk_at "m:kn") (by walk_at "m:kn") (by walk_at "m:arith") ?_; intro))
  | ((with_reducible show Op2 _ _ _ (compareOp CmpOp.IsNot) _ _ _ _); first | refine isnot_none_none ?_ | refine isnot_bytes_none ?_))
local macro_rules | `(tactic| walk_at "m:Op1") => `(tactic| first
  | ((with_reducible show Op1 _ _ _ (unaryOp UnaryOp.USub) (V.int _) _ _); refine neg_int' ?_))
local macro_rules | `(tactic| walk_at "m:OpB") => `(tactic| first
  | ((with_reducible show OpB _ _ _ truthy (V.raw (Value.bool _)) _ _); refine truthy_bool' ?_))
local macro_rules | `(tactic| walk_at "m:OpN") => `(tactic| first
  | ((with_reducible show OpN _ _ _ (fun vs => call (Value.builtin "isinstance") vs) [V.bytes _, V.raw (Value.type "str")] _ _); refine isi_b_str ?_)
  | ((with_reducible show OpN _ _ _ (fun vs => call (Value.builtin "isinstance") vs) [V.bytes _, V.raw (Value.type "bytes")] _ _); refine isi_b_b ?_)
  | ((with_reducible show OpN _ _ _ (fun vs => call (Value.builtin "len") vs) [V.bytes _] _ _); refine len_bytes' (by walk_at "m:arith") ?_)
  | ((with_reducible show OpN _ _ _ (fun vs => call (Value.type "bytearray") vs) [] _ _); (refine newba' (by assumption) ?_; intro))
  | ((with_reducible show OpN _ _ _ (fun vs => call (Value.type "bytes") vs) [V.raw (Value.ref _)] _ _); first | refine bytes_list' (by assumption) (by walk_at "m:kn") (by assumption) (by walk_at "m:arith") ?_ | refine bytes_ba' (by walk_at "m:kn") (by walk_at "m:arith") ?_)
  | ((with_reducible show OpN _ _ _ (fun vs => call (Value.type "range") vs) [V.int _, V.int _] _ _); (refine list_range_arg (by assumption) (by decide) (by decide) (by decide) ?_; intro))
  | ((with_reducible show OpN _ _ _ (fun vs => call (Value.builtin "len") vs) [V.raw (Value.ref _)] _ _); first | refine len_ints' (by walk_at "m:kn") (by walk_at "m:arith") ?_ | refine len_list' (by walk_at "m:kn") (by walk_at "m:arith") ?_)
  | ((with_reducible show OpN _ _ _ (fun vs => call (Value.builtin "max") vs) [V.int _, V.int _] _ _); refine max_int' (by assumption) ?_)
  | ((with_reducible show OpN _ _ _ (fun vs => call (Value.builtin "min") vs) [V.int _, V.int _] _ _); refine min_int' (by assumption) ?_)
  | ((with_reducible show OpN _ _ _ (fun vs => call (Value.type "list") vs) [V.bytes _] _ _); (refine list_bytes' (by assumption) (by walk_at "m:arith") ?_; intro))
  | ((with_reducible show OpN _ _ _ (fun vs => call (Value.ref _) vs) [_] _ _); walk_at "m:call")
  | ((with_reducible show OpN _ _ _ (fun vs => call (Value.builtin "sum") vs) [V.raw (Value.ref _)] _ _); refine sum_ints' (by assumption) (by walk_at "m:kn") (by assumption) (by walk_at "m:arith") ?_))
local macro_rules | `(tactic| walk_at "m:SubS") => `(tactic| first
  | ((with_reducible show SubS _ _ _ (V.bytes _) _ _ _ _); refine subs_bytes (by walk_at "m:arith") ?_)
  | ((with_reducible show SubS _ _ _ (V.raw (Value.ref _)) _ _ _ _); first | (refine subs_raw (by assumption) (by walk_at "m:kn") (by walk_at "m:arith") ?_; intro) | (refine subs_ints (by walk_at "m:kn") (by walk_at "m:arith") ?_; intro)))
local macro_rules | `(tactic| walk_at "m:LoopQ") => `(tactic| first
  | ((with_reducible show LoopQ _ _ Fl.next _); refine loop_next ?_)
  | ((with_reducible show LoopQ _ _ Fl.brk _); refine loop_brk ?_)
  | ((with_reducible show LoopQ _ _ (Fl.ret _) _); refine loop_ret ?_))
local macro_rules | `(tactic| walk_at "m:Sub") => `(tactic| first
  | ((with_reducible show Sub _ _ _ (V.bytes _) (V.int _) _ _); refine sub_bytes (by walk_at "m:arith") (by omega) (by assumption) ?_)
  | ((with_reducible show Sub _ _ _ (V.raw (Value.ref _)) (V.int _) _ _); first | refine sub_list (by walk_at "m:kn") (by omega) (by walk_at "m:arith") (by assumption) ?_ | refine sub_ints (by walk_at "m:kn") (by omega) (by walk_at "m:arith") (by assumption) ?_))
local macro_rules | `(tactic| walk_at "m") => `(tactic| first
  | ((with_reducible show TF _ _ _ _ _ _); walk_at "m:TF")
  | ((with_reducible show TV _ _ _ _ _ _); walk_at "m:TV")
  | ((with_reducible show TB _ _ _ _ _ _); walk_at "m:TB")
  | ((with_reducible show TL _ _ _ _ _ _); walk_at "m:TL")
  | ((with_reducible show Op2 _ _ _ _ _ _ _ _); walk_at "m:Op2")
  | ((with_reducible show OpN _ _ _ _ _ _ _); walk_at "m:OpN")
  | ((with_reducible show OpB _ _ _ _ _ _ _); walk_at "m:OpB")
  | ((with_reducible show Op1 _ _ _ _ _ _ _); walk_at "m:Op1")
  | ((with_reducible show SubS _ _ _ _ _ _ _ _); walk_at "m:SubS")
  | ((with_reducible show Sub _ _ _ _ _ _ _); walk_at "m:Sub")
  | ((with_reducible show LoopQ _ _ _ _); walk_at "m:LoopQ")
  | walk_at "m:rest")
section
def encJ (ns : List Int) (l : Addr) (i : Nat) (st : St) : Prop := ∃ (fz : Bool) (out pre cur : List Int) (u : V),
  st = ⟨[("in_bytes", .bytes ns), ("in_bytes_mv", .bytes ns), ("final_zero", .bool fz), ("out_bytes", .ref l), ("idx", .int i), ("search_start_idx", .int pre.length), ("in_char", u)], [(l, .ba out)]⟩ ∧
    ns.take i = pre ++ cur ∧ cur.length ≤ 253 ∧ out.length ≤ 2 * pre.length ∧ encGo fz out cur (ns.drop i) = enc ns
set_option maxHeartbeats 2000000 in
theorem enc_walk {X : Cx} {ro : Led} {f : Addr} {cd : Value} {ns : List Int} (hh : X.A.handled = none) (hg : X.A.guards = some []) (g1 : Glo X "isinstance" (.builtin "isinstance")) (g2 : Glo X "str" (.type "str"))
    (g3 : Glo X "bytearray" (.type "bytearray")) (g4 : Glo X "bytes" (.type "bytes")) (hns : ∀ n ∈ ns, 0 ≤ n ∧ n < 256) (hsz : ns.length ≤ 1000000) :
    TF X ro noE ⟨[("in_bytes", .bytes ns), ("in_bytes_mv", .unk), ("final_zero", .unk), ("out_bytes", .unk), ("idx", .unk), ("search_start_idx", .unk), ("in_char", .unk)], []⟩ (execs (fBody stE) (envOf "encode" (fScope stE) X.L f cd))
      fun fl st' => fl = .ret (.bytes (enc ns)) := by
  refine execs_cons' ?_
  repeat' walk_at "m"
  rename_i l
  with_reducible show ForOver _ _ _ _ _ _ _ _ _
  refine for_bytes (encJ ns l) .none hh ⟨true, [], [], [], .unk, rfl, by simp, by simp, by simp, rfl⟩ ?_ ?_
  · rintro i st' n hi ⟨fz, out, pre, cur, u, rfl, htk, hcl, hol, hgo⟩
    have hlt : i < ns.length := (List.getElem?_eq_some_iff.mp hi).1
    have hdr : ns.drop i = n :: ns.drop (i + 1) := by
      rw [List.drop_eq_getElem_cons hlt, (List.getElem?_eq_some_iff.mp hi).2]
    have htk' : ns.take (i + 1) = pre ++ (cur ++ [n]) := by rw [List.take_succ, hi, htk]; simp
    have hil : i = pre.length + cur.length := by
      have := congrArg List.length htk
      simp only [List.length_take, List.length_append] at this; omega
    have hne : ns = pre ++ cur ++ n :: ns.drop (i + 1) := by rw [← htk, ← hdr, List.take_append_drop]
    have hsl : pslice (some (pre.length : Int)) (some (i : Int)) ns = cur := by
      conv => lhs; rw [hne]
      exact pslice_mid rfl (by omega)
    have hsl' : pslice (some (pre.length : Int)) (some ((i : Int) + 1)) ns = cur ++ [n] := by
      have e : ns = pre ++ (cur ++ [n]) ++ ns.drop (i + 1) := by rw [← htk', List.take_append_drop]
      conv => lhs; rw [e]
      exact pslice_mid rfl (by simp; omega)
    rw [hdr, encGo] at hgo
    repeat' walk_at "m"
    · rename_i hn
      rw [if_pos hn] at hgo
      refine ⟨true, _, pre ++ (cur ++ [n]), [], .int n, ?_, by rw [htk']; simp, by simp, ?_, hgo⟩
      · simp only [hsl, St.mk.injEq, List.cons.injEq, Prod.mk.injEq, V.int.injEq, Cell.ba.injEq, true_and, and_true, List.length_append, List.length_cons, List.length_nil]
        refine ⟨⟨?_, ?_⟩, ?_⟩
        · omega
        · omega
        · congr 3; omega
      · simp; omega
    · rename_i hn hc
      rw [if_neg hn, if_pos (by omega)] at hgo
      refine ⟨false, _, pre ++ (cur ++ [n]), [], .int n, ?_, by rw [htk']; simp, by simp, ?_, hgo⟩
      · simp only [hsl', St.mk.injEq, List.cons.injEq, Prod.mk.injEq, V.int.injEq, Cell.ba.injEq, true_and, and_true, List.length_append, List.length_cons, List.length_nil]
        omega
      · simp; omega
    · rename_i hn hc
      rw [if_neg hn, if_neg (by omega)] at hgo
      refine ⟨fz, out, pre, cur ++ [n], .int n, rfl, htk', by simp; omega, hol, hgo⟩
  · rintro st' ⟨fz, out, pre, cur, u, rfl, htk, hcl, hol, hgo⟩
    rw [List.take_length] at htk
    rw [List.drop_length, encGo] at hgo
    have hil : ns.length = pre.length + cur.length := by rw [htk]; simp
    have hsl : pslice (some (pre.length : Int)) (some (ns.length : Int)) ns = cur := by
      conv => lhs; rw [show ns = pre ++ cur ++ [] by simp [← htk]]
      exact pslice_mid rfl (by simp)
    repeat' walk_at "m"
    · rename_i hc
      rw [if_pos (.inl (by omega))] at hgo
      show Fl.ret _ = Fl.ret _
      rw [← hgo, hsl, show (ns.length : Int) - pre.length = cur.length by omega]
    · rename_i hc
      rw [if_pos (.inr rfl)] at hgo
      show Fl.ret _ = Fl.ret _
      rw [← hgo, hsl, show (ns.length : Int) - pre.length = cur.length by omega]
    · rename_i hc
      rw [if_neg (by simp; exact List.eq_nil_of_length_eq_zero (by omega))] at hgo
      show Fl.ret _ = Fl.ret _
      rw [hgo]
end
section
set_option Elab.async false
set_option linter.unusedVariables false
set_option linter.unusedSimpArgs false
def flat0 (Bs : List (List Int)) : List Int := (Bs.map fun B => (0 : Int) :: B).flatten
def flat1 (Bs : List (List Int)) : List Int := (Bs.map fun B => ((B.length : Int) + 1) :: B).flatten
def bodyOf (Bs : List (List Int)) : List Int := (Bs.map fun B => B ++ if B.length < 254 then [(0 : Int)] else []).flatten
theorem flat1_snoc (Bs B) : flat1 (Bs ++ [B]) = flat1 Bs ++ ((B.length : Int) + 1) :: B := by simp [flat1]
theorem body_snoc (Bs B) : bodyOf (Bs ++ [B]) = bodyOf Bs ++ (B ++ if B.length < 254 then [(0 : Int)] else []) := by simp [bodyOf]

/-- the row in blocks, a new one begun where another octet follows a full one -/
def blkGo (Bs : List (List Int)) (B : List Int) : List Int → List (List Int)
  | [] => Bs ++ [B]
  | c :: r => if B.length = 254 then (if c = 0 then blkGo (Bs ++ [B] ++ [[]]) [] r else blkGo (Bs ++ [B]) [c] r)
    else if c = 0 then blkGo (Bs ++ [B]) [] r else blkGo Bs (B ++ [c]) r
def blk (ns : List Int) : List (List Int) := blkGo [] [] ns

theorem enc_blkGo : ∀ (r : List Int) (fz : Bool) (out cur : List Int) (Bs : List (List Int)) (B : List Int),
    ((B = cur ∧ out = flat1 Bs ∧ (fz = true ∨ cur ≠ []) ∧ cur.length ≤ 253) ∨ (fz = false ∧ cur = [] ∧ B.length = 254 ∧ out = flat1 Bs ++ 255 :: B)) →
    encGo fz out cur r = flat1 (blkGo Bs B r) := by
  intro r
  induction r with
  | nil =>
    rintro fz out cur Bs B (⟨rfl, rfl, h, hl⟩ | ⟨rfl, rfl, hl, rfl⟩)
    · rw [encGo, if_pos, blkGo, flat1_snoc]
      · simp
      · rcases h with h | h
        · exact .inr h
        · exact .inl fun e => h (List.eq_nil_of_length_eq_zero e)
    · rw [encGo, if_neg (by simp), blkGo, flat1_snoc, hl]; rfl
  | cons c r ih =>
    rintro fz out cur Bs B (⟨rfl, rfl, h, hl⟩ | ⟨rfl, rfl, hl, rfl⟩)
    · rw [encGo, blkGo, if_neg (show ¬ B.length = 254 by omega)]
      by_cases hc : c = 0
      · rw [if_pos hc, if_pos hc]
        refine ih _ _ _ _ _ ?_
        refine .inl ⟨rfl, ?_, .inl rfl, by simp⟩
        rw [flat1_snoc]; simp
      · rw [if_neg hc, if_neg hc]
        by_cases h3 : B.length = 253
        · rw [if_pos h3]
          refine ih _ _ _ _ _ ?_
          exact .inr ⟨rfl, rfl, by simp [h3], by simp⟩
        · rw [if_neg h3]
          refine ih _ _ _ _ _ ?_
          exact .inl ⟨rfl, rfl, .inr (by simp), by simp; omega⟩
    · rw [encGo, blkGo, if_pos hl]
      by_cases hc : c = 0
      · rw [if_pos hc, if_pos hc]
        refine ih _ _ _ _ _ ?_
        refine .inl ⟨rfl, ?_, .inl rfl, by simp⟩
        rw [flat1_snoc, flat1_snoc, hl]; simp
      · rw [if_neg hc, if_neg hc, if_neg (by simp)]
        refine ih _ _ _ _ _ ?_
        refine .inl ⟨rfl, ?_, .inr (by simp), by simp⟩
        rw [flat1_snoc, hl]; rfl
theorem enc_blk (ns : List Int) : enc ns = flat1 (blk ns) := enc_blkGo ns true [] [] [] [] (.inl ⟨rfl, rfl, .inl rfl, by simp⟩)

def GoodB (B : List Int) : Prop := B.length ≤ 254 ∧ ∀ n ∈ B, n ≠ 0
theorem blkGo_good : ∀ (r : List Int) (Bs : List (List Int)) (B : List Int), (∀ C ∈ Bs, GoodB C) → GoodB B → ∃ Bs' B', blkGo Bs B r = Bs' ++ [B'] ∧ (∀ C ∈ Bs', GoodB C) ∧ GoodB B' ∧ bodyOf Bs' ++ B' = bodyOf Bs ++ B ++ r := by
  intro r
  induction r with
  | nil => intro Bs B h1 h2; exact ⟨Bs, B, rfl, h1, h2, by simp⟩
  | cons c r ih =>
    intro Bs B h1 h2
    have h3 : ∀ C ∈ Bs ++ [B], GoodB C := by
      intro C hC
      rcases List.mem_append.mp hC with h | h
      · exact h1 C h
      · rw [List.mem_singleton.mp h]; exact h2
    have h0 : GoodB [] := ⟨by simp, by simp⟩
    rw [blkGo]
    by_cases hl : B.length = 254
    · rw [if_pos hl]
      by_cases hc : c = 0
      · rw [if_pos hc]
        obtain ⟨Bs', B', e, g1, g2, g3⟩ := ih (Bs ++ [B] ++ [[]]) [] (by
          intro C hC
          rcases List.mem_append.mp hC with h | h
          · exact h3 C h
          · rw [List.mem_singleton.mp h]; exact h0) h0
        refine ⟨Bs', B', e, g1, g2, ?_⟩
        rw [g3, body_snoc, body_snoc, hc]; simp [hl]
      · rw [if_neg hc]
        obtain ⟨Bs', B', e, g1, g2, g3⟩ := ih (Bs ++ [B]) [c] h3 ⟨by simp, by simpa using hc⟩
        refine ⟨Bs', B', e, g1, g2, ?_⟩
        rw [g3, body_snoc]; simp [hl]
    · rw [if_neg hl]
      have hlt : B.length < 254 := by have := h2.1; omega
      by_cases hc : c = 0
      · rw [if_pos hc]
        obtain ⟨Bs', B', e, g1, g2, g3⟩ := ih (Bs ++ [B]) [] h3 h0
        refine ⟨Bs', B', e, g1, g2, ?_⟩
        rw [g3, body_snoc, if_pos hlt, hc]; simp
      · rw [if_neg hc]
        obtain ⟨Bs', B', e, g1, g2, g3⟩ := ih Bs (B ++ [c]) h1 ⟨by simp; omega, by
          intro n hn
          rcases List.mem_append.mp hn with h | h
          · exact h2.2 n h
          · rw [List.mem_singleton.mp h]; exact hc⟩
        exact ⟨Bs', B', e, g1, g2, by rw [g3]; simp⟩
theorem blk_good (ns : List Int) : ∃ Bs B, blk ns = Bs ++ [B] ∧ (∀ C ∈ Bs, GoodB C) ∧ GoodB B ∧ bodyOf Bs ++ B = ns := by
  obtain ⟨Bs, B, h1, h2, h3, h4⟩ := blkGo_good ns [] [] (by simp) ⟨by simp, by simp⟩
  exact ⟨Bs, B, h1, h2, h3, by simpa [bodyOf] using h4⟩

theorem decGo_blocks : ∀ (Bs : List (List Int)) (B out : List Int), (∀ C ∈ Bs, GoodB C) → GoodB B → decGo out (flat1 (Bs ++ [B])) = some (out ++ bodyOf Bs ++ B) := by
  intro Bs
  induction Bs with
  | nil =>
    intro B out _ h
    have e : ((B.length : Int) + 1 - 1).toNat = B.length := by omega
    rw [show flat1 ([] ++ [B]) = ((B.length : Int) + 1) :: B by simp [flat1], decGo, e, if_neg (by omega), List.take_length, if_neg (fun h0 => h.2 0 h0 rfl), if_neg (by omega), if_neg (by omega)]
    simp [bodyOf]
  | cons C Bs ih =>
    intro B out h1 h2
    have hC := h1 C List.mem_cons_self
    have e : ((C.length : Int) + 1 - 1).toNat = C.length := by omega
    have hpos : 0 < (flat1 (Bs ++ [B])).length := by rw [flat1_snoc]; simp; omega
    rw [show flat1 ((C :: Bs) ++ [B]) = ((C.length : Int) + 1) :: (C ++ flat1 (Bs ++ [B])) by simp [flat1], decGo, e, if_neg (by omega), List.take_left, if_neg (fun h0 => hC.2 0 h0 rfl), if_neg (by simp), if_pos (by rw [List.length_append]; omega), List.drop_left,
      ih B _ (fun D hD => h1 D (List.mem_cons_of_mem _ hD)) h2]
    congr 1
    by_cases hl : C.length < 254
    · rw [if_pos (by omega)]; simp [bodyOf, hl]
    · rw [if_neg (by omega)]; simp [bodyOf, hl]
theorem dec_enc (ns : List Int) : dec (enc ns) = some ns := by
  obtain ⟨Bs, B, h1, h2, h3, h4⟩ := blk_good ns
  have hpos : (flat1 (Bs ++ [B])).length ≠ 0 := by simp [flat1]
  rw [enc_blk, h1, dec, if_neg hpos, decGo_blocks Bs B [] h2 h3, List.nil_append, h4]

/-- octets stay octets -/
theorem flat1_bytes {Bs : List (List Int)} (h : ∀ C ∈ Bs, GoodB C ∧ ∀ n ∈ C, 0 ≤ n ∧ n < 256) : ∀ n ∈ flat1 Bs, 0 ≤ n ∧ n < 256 := by
  intro n hn
  simp only [flat1, List.mem_flatten, List.mem_map] at hn
  obtain ⟨l, ⟨C, hC, rfl⟩, hl⟩ := hn
  rcases List.mem_cons.mp hl with rfl | hl
  · have := (h C hC).1.1; omega
  · exact (h C hC).2 n hl
theorem mem_body {Bs : List (List Int)} {C : List Int} {n : Int} (hC : C ∈ Bs) (hn : n ∈ C) : n ∈ bodyOf Bs := by
  simp only [bodyOf, List.mem_flatten, List.mem_map]
  exact ⟨_, ⟨C, hC, rfl⟩, List.mem_append_left _ hn⟩
theorem enc_bytes {ns : List Int} (h : ∀ n ∈ ns, 0 ≤ n ∧ n < 256) : ∀ n ∈ enc ns, 0 ≤ n ∧ n < 256 := by
  obtain ⟨Bs, B, h1, h2, h3, h4⟩ := blk_good ns
  rw [enc_blk, h1]
  refine flat1_bytes fun C hC => ?_
  rcases List.mem_append.mp hC with hC | hC
  · exact ⟨h2 C hC, fun n hn => h n (by rw [← h4]; exact List.mem_append_left _ (mem_body hC hn))⟩
  · rw [List.mem_singleton.mp hC]; exact ⟨h3, fun n hn => h n (by rw [← h4]; exact List.mem_append_right _ hn)⟩

/-- the runs between noughts -/
def runsP (dk : List Int × Int) : List Int → List Int × Int
  | [] => dk
  | c :: r => runsP (if c = 0 then (dk.1 ++ [dk.2], 0) else (dk.1, dk.2 + 1)) r
theorem runsP_append (xs ys : List Int) : ∀ dk, runsP dk (xs ++ ys) = runsP (runsP dk xs) ys := by
  induction xs with
  | nil => intro dk; rfl
  | cons x xs ih => intro dk; simp only [List.cons_append, runsP, ih]
theorem runsP_nz (ys : List Int) (h : ∀ y ∈ ys, y ≠ 0) : ∀ dk, runsP dk ys = (dk.1, dk.2 + ys.length) := by
  induction ys with
  | nil => intro dk; simp [runsP]
  | cons y ys ih =>
    intro dk
    rw [runsP, if_neg (h y List.mem_cons_self), ih fun z hz => h z (List.mem_cons_of_mem _ hz)]
    simp; omega
def longer (dk : List Int × Int) : Int := (dk.1.map (· / 254)).sum + max 1 ((dk.2 + 253) / 254)
theorem blk_count : ∀ (r : List Int) (Bs : List (List Int)) (B : List Int) (d : List Int) (k q : Int) (N : Int), 0 ≤ q → k = 254 * q + B.length → (B.length = 0 → q = 0) → B.length ≤ 254 →
    (Bs.length : Int) = (d.map (· / 254)).sum + d.length + q → ((flat1 Bs).length : Int) + B.length = N - d.length + Bs.length →
    ((flat1 (blkGo Bs B r)).length : Int) = N + r.length + longer (runsP (d, k) r) := by
  intro r
  induction r with
  | nil =>
    intro Bs B d k q N hq hk h0 hB hn hN
    rw [blkGo, flat1_snoc, runsP]
    simp only [List.length_append, List.length_cons, List.length_nil, longer]
    have : max 1 ((k + 253) / 254) = q + 1 := by omega
    omega
  | cons c r ih =>
    intro Bs B d k q N hq hk h0 hB hn hN
    rw [blkGo, runsP]
    by_cases hl : B.length = 254
    · rw [if_pos hl]
      by_cases hc : c = 0
      · rw [if_pos hc, if_pos hc, ih _ _ (d ++ [k]) 0 0 (N + 1) (by omega) (by simp) (by simp) (by simp) ?_ ?_]
        · simp; omega
        · simp; omega
        · simp only [flat1_snoc, List.length_append, List.length_cons, List.length_nil]; omega
      · rw [if_neg hc, if_neg hc, ih _ _ d (k + 1) (q + 1) (N + 1) (by omega) (by simp; omega) (by simp) (by simp) ?_ ?_]
        · simp; omega
        · simp; omega
        · simp only [flat1_snoc, List.length_append, List.length_cons, List.length_nil]; omega
    · rw [if_neg hl]
      by_cases hc : c = 0
      · rw [if_pos hc, if_pos hc, ih _ _ (d ++ [k]) 0 0 (N + 1) (by omega) (by simp) (by simp) (by simp) ?_ ?_]
        · simp; omega
        · simp; omega
        · simp only [flat1_snoc, List.length_append, List.length_cons, List.length_nil]; omega
      · rw [if_neg hc, if_neg hc, ih _ _ d (k + 1) q (N + 1) (by omega) (by simp; omega) (by simp) (by simp; omega) hn ?_]
        · simp; omega
        · simp only [List.length_append, List.length_cons, List.length_nil]; omega
theorem enc_length (ns : List Int) : ((enc ns).length : Int) = ns.length + longer (runsP ([], 0) ns) := by
  have := blk_count ns [] [] [] 0 0 0 (by omega) (by simp) (by simp) (by simp) (by simp) (by simp [flat1])
  rw [enc_blk, blk, this]; omega
end
section
def decJ (ns : List Int) (l : Addr) (m : Nat) (st : St) : Prop := ∃ (out pre rest : List Int) (u1 u2 u3 : V),
  st = ⟨[("in_bytes", .bytes ns), ("in_bytes_mv", .bytes ns), ("out_bytes", .ref l), ("idx", .int pre.length), ("length", u1), ("end", u2), ("copy_mv", u3)], [(l, .ba out)]⟩ ∧
    ns = pre ++ rest ∧ rest.length = m ∧ 0 < m ∧ out.length ≤ pre.length ∧ decGo out rest = dec ns
set_option maxHeartbeats 2000000 in
theorem dec_walk {X : Cx} {ro : Led} {f : Addr} {cd : Value} {ns : List Int} {fs : List Env} {C : Addr} {mg : Str → Option Value} (hh : X.A.handled = none) (hg : X.A.guards = some []) (g1 : Glo X "isinstance" (.builtin "isinstance")) (g2 : Glo X "str" (.type "str"))
    (g3 : Glo X "bytearray" (.type "bytearray")) (g4 : Glo X "bytes" (.type "bytes")) (g5 : Glo X "len" (.builtin "len")) (hns : ∀ n ∈ ns, 0 ≤ n ∧ n < 256) (hsz : ns.length ≤ 1000000)
    (F : FrOk X (envOf "decode" (fScope stD) X.L f cd) fs) (O : OwnClsQ "DecodeError" C [.type "Exception", .type "BaseException", .type "object"] "Exception.__new__" mg X.B) (hgm : X.B.Ns mainGlobals mg) :
    TF X ro (fun R e s => dec ns = none ∧ Ex X C R e s) ⟨[("in_bytes", .bytes ns), ("in_bytes_mv", .unk), ("out_bytes", .unk), ("idx", .unk), ("length", .unk), ("end", .unk), ("copy_mv", .unk)], []⟩ (execs (fBody stD) (envOf "decode" (fScope stD) X.L f cd))
      fun fl st' => ∃ res, dec ns = some res ∧ fl = .ret (.bytes res) := by
  refine execs_cons' ?_
  repeat' walk_at "m"
  · rename_i l hlen
    with_reducible show TF _ _ _ _ (exec (Stmt.While _ _ [] _) _) _
    refine While' (decJ ns l) ns.length (Ex.ok F).and ⟨[], [], ns, .unk, .unk, .unk, rfl, rfl, rfl, by omega, by simp, by rw [dec, if_neg (by omega)]⟩ ?_
    rintro m st' ⟨out, pre, rest, u1, u2, u3, rfl, hne, hm, hm0, hol, hgo⟩
    cases rest with
    | nil => simp at hm; omega
    | cons L r =>
    have hL : 0 ≤ L ∧ L < 256 := hns L (by rw [hne]; simp)
    have hx : ns[(pre.length : Int).toNat]? = some L := by rw [hne]; simp
    have hnl : ns.length = pre.length + 1 + r.length := by rw [hne]; simp; omega
    rw [decGo] at hgo
    have hcp : L ≠ 0 → pslice (some ((pre.length : Int) + 1)) (some ((pre.length : Int) + 1 + L - 1)) ns = r.take (L - 1).toNat := fun h0 => by
      rw [show ns = (pre ++ [L]) ++ r by rw [hne]; simp]
      exact pslice_tail (by simp) (by simp; omega) (by omega)
    have htl := List.length_take_le (L - 1).toNat r
    repeat' walk_at "m"
    · rename_i h0
      rw [if_pos h0] at hgo
      exact (Raise' O hgm PySem.F.excBase_Exception hh).err fun _ _ _ q => ⟨hgo.symm, q⟩
    · rename_i h0 h1
      rw [hcp h0] at h1
      rw [if_neg h0, if_pos h1] at hgo
      exact (Raise' O hgm PySem.F.excBase_Exception hh).err fun _ _ _ q => ⟨hgo.symm, q⟩
    · rename_i h0 h1 h2
      rw [hcp h0] at h1
      rw [if_neg h0, if_neg h1, if_pos (by omega)] at hgo
      exact (Raise' O hgm PySem.F.excBase_Exception hh).err fun _ _ _ q => ⟨hgo.symm, q⟩
    · rename_i h0 h1 h2 h3 h4
      rw [hcp h0] at h1
      rw [if_neg h0, if_neg h1, if_neg (by omega), if_pos (by omega), if_pos h4] at hgo
      have hk : (L - 1).toNat < r.length := by omega
      refine ⟨(r.drop (L - 1).toNat).length, by rw [List.length_drop, ← hm]; simp only [List.length_cons]; omega, out ++ r.take (L - 1).toNat ++ [0], pre ++ L :: r.take (L - 1).toNat, r.drop (L - 1).toNat, .int L, .int ((pre.length : Int) + 1 + L - 1), .bytes (r.take (L - 1).toNat), ?_, ?_, rfl, by rw [List.length_drop]; omega, ?_, hgo⟩
      · rw [hcp h0]
        simp only [St.mk.injEq, List.cons.injEq, Prod.mk.injEq, V.int.injEq, Cell.ba.injEq, true_and, and_true, List.length_append, List.length_cons, List.length_take]
        omega
      · rw [hne]; simp
      · simp only [List.length_append, List.length_cons, List.length_take, List.length_nil]; omega
    · rename_i h0 h1 h2 h3 h4
      rw [hcp h0] at h1
      rw [if_neg h0, if_neg h1, if_neg (by omega), if_pos (by omega), if_neg h4] at hgo
      have hk : (L - 1).toNat < r.length := by omega
      refine ⟨(r.drop (L - 1).toNat).length, by rw [List.length_drop, ← hm]; simp only [List.length_cons]; omega, out ++ r.take (L - 1).toNat ++ [], pre ++ L :: r.take (L - 1).toNat, r.drop (L - 1).toNat, .int L, .int ((pre.length : Int) + 1 + L - 1), .bytes (r.take (L - 1).toNat), ?_, ?_, rfl, by rw [List.length_drop]; omega, ?_, hgo⟩
      · rw [hcp h0]
        simp only [St.mk.injEq, List.cons.injEq, Prod.mk.injEq, V.int.injEq, Cell.ba.injEq, true_and, and_true, List.length_append, List.length_cons, List.length_take, List.append_nil]
        omega
      · rw [hne]; simp
      · simp only [List.length_append, List.length_cons, List.length_take, List.length_nil]; omega
    · rename_i h0 h1 h2 h3
      rw [hcp h0] at h1
      rw [if_neg h0, if_neg h1, if_neg (by omega), if_neg (by omega)] at hgo
      exact ⟨_, hgo.symm, by rw [hcp h0]⟩
  · rename_i l hlen
    exact ⟨[], by rw [dec, if_pos (by omega)], rfl⟩
end
section
set_option Elab.async false
set_option linter.unusedVariables false
set_option linter.unusedSimpArgs false
def codesGo (rest : List Int) : Option (List Int) := match rest with
  | [] => some []
  | L :: r => if (L - 1).toNat ≤ r.length then (codesGo (r.drop (L - 1).toNat)).map (L :: ·) else none
termination_by rest.length
decreasing_by simp; omega
def again (row : List Int) : Option (List Int) := if 0 ∈ row then none else match codesGo row with
  | none => none
  | some codes => if codes = [] then some [1] else if pslice (some (-2)) none codes = [255, 1] then some (pslice none (some (-1)) row) else some row

theorem decGo_zero : ∀ (k : Nat) (rest out : List Int), rest.length ≤ k → 0 ∈ rest → decGo out rest = none := by
  intro k
  induction k with
  | zero => intro rest out hl hz; have e : rest = [] := List.eq_nil_of_length_eq_zero (by omega); rw [e] at hz; simp at hz
  | succ k ih =>
    intro rest out hl hz
    cases rest with
    | nil => simp at hz
    | cons L r =>
      rw [decGo]
      by_cases h0 : L = 0
      · rw [if_pos h0]
      rw [if_neg h0]
      by_cases h1 : 0 ∈ r.take (L - 1).toNat
      · rw [if_pos h1]
      rw [if_neg h1]
      by_cases h2 : r.length < (L - 1).toNat
      · rw [if_pos h2]
      rw [if_neg h2]
      have hr : 0 ∈ r := by
        rcases List.mem_cons.mp hz with e | h
        · exact absurd e.symm h0
        · exact h
      have hd : 0 ∈ r.drop (L - 1).toNat := by
        rw [← List.take_append_drop (L - 1).toNat r] at hr
        exact (List.mem_append.mp hr).resolve_left h1
      by_cases h3 : (L - 1).toNat < r.length
      · rw [if_pos h3]
        exact ih _ _ (by simp at hl ⊢; omega) hd
      · rw [List.drop_eq_nil_of_le (by omega)] at hd; simp at hd
open Classical in
theorem slice_but1 {α : Type} (d : List α) (k : α) : pslice none (some (-1)) (d ++ [k]) = d := by
  rw [pslice]
  have e : clipNat (some (-1)) (d ++ [k]).length (d ++ [k]).length = d.length := by simp only [clipNat, List.length_append, List.length_cons, List.length_nil]; split <;> omega
  rw [e]
  simp [clipNat]
end
section
set_option Elab.async false
set_option linter.unusedVariables false
set_option linter.unusedSimpArgs false
/-- what the second loop lays -/
def meantTo (Bs : List (List Int)) (i : Nat) : List Int := if i = Bs.length then bodyOf Bs.dropLast ++ Bs.getLast?.getD [] else bodyOf (Bs.take i)
end
section
open PySem PySem.W PyProof.Rows PySem.Calls
open PySem.Sem (wp)
set_option Elab.async false
set_option maxRecDepth 100000
set_option linter.unusedVariables false
set_option linter.deprecated false
section
variable {X : Cx} {ro : Led} {E : Er} {st : St} {nm : Str} {sc : Scope} {a : Addr} {cd : Value} {env : Env} {R : Heap} {s : Shared}
theorem call_enc {fE : Addr} {pm cd doc : Value} {ns : List Int} {Q : V → St → Prop} (F : FnOk X.B fE "encode" (fParams stE) (fBody stE) (fScope stE) pm cd doc) (hlim : X.B.NoLimit) (hroom : X.A.depth < recursionLimit)
    (hh : X.A.handled = none) (hg : X.A.guards = some []) (g1 : Glo X "isinstance" (.builtin "isinstance")) (g2 : Glo X "str" (.type "str"))
    (g3 : Glo X "bytearray" (.type "bytearray")) (g4 : Glo X "bytes" (.type "bytes")) (hns : ∀ n ∈ ns, 0 ≤ n ∧ n < 256) (hsz : ns.length ≤ 1000000) (hq : Q (.bytes (enc ns)) st) :
    OpN X ro E (fun vs => call (.ref fE) vs) [.bytes ns] st Q :=
  call_fn (x := "in_bytes") (u := .bytes ns) (locs := [("in_bytes_mv", .unk), ("final_zero", .unk), ("out_bytes", .unk), ("idx", .unk), ("search_start_idx", .unk), ("in_char", .unk)]) (Ec := fun _ _ => noE) F hlim hroom (by simp only [List.map_cons, List.map_nil]; decide) (by simp)
    (fun L' m => (enc_walk (X := X.call (envOf "encode" (fScope stE) L' fE cd) L' m) hh hg g1 g2 g3 g4 hns hsz).post_own fun fl st' e => ⟨[], List.nil_sublist _, by subst e; exact hq⟩) fun _ _ _ _ _ _ _ _ _ _ h => h.elim
theorem call_dec {fD : Addr} {pm cd doc : Value} {ns : List Int} {Q : V → St → Prop} {env : Env} {fs : List Env} {C : Addr} {mg : Str → Option Value} (F : FnOk X.B fD "decode" (fParams stD) (fBody stD) (fScope stD) pm cd doc) (hlim : X.B.NoLimit) (hroom : X.A.depth < recursionLimit)
    (hh : X.A.handled = none) (hg : X.A.guards = some []) (g1 : Glo X "isinstance" (.builtin "isinstance")) (g2 : Glo X "str" (.type "str"))
    (g3 : Glo X "bytearray" (.type "bytearray")) (g4 : Glo X "bytes" (.type "bytes")) (g5 : Glo X "len" (.builtin "len")) (hns : ∀ n ∈ ns, 0 ≤ n ∧ n < 256) (hsz : ns.length ≤ 1000000)
    (FR : FrOk X env fs) (O : OwnClsQ "DecodeError" C [.type "Exception", .type "BaseException", .type "object"] "Exception.__new__" mg X.B) (hgm : X.B.Ns mainGlobals mg)
    (hE : dec ns = none → ∀ R e s, Thr X ro st env fs C R e s → E R e s)
    (hq : ∀ res, dec ns = some res → Q (.bytes res) st) :
    OpN X ro E (fun vs => call (.ref fD) vs) [.bytes ns] st Q :=
  call_fn (x := "in_bytes") (u := .bytes ns) (locs := [("in_bytes_mv", .unk), ("out_bytes", .unk), ("idx", .unk), ("length", .unk), ("end", .unk), ("copy_mv", .unk)])
    (Ec := fun L' m R e s => dec ns = none ∧ Ex (X.call (envOf "decode" (fScope stD) L' fD cd) L' m) C R e s) F hlim hroom (by simp only [List.map_cons, List.map_nil]; decide) (by simp)
    (fun L' m => (dec_walk (X := X.call (envOf "decode" (fScope stD) L' fD cd) L' m) hh hg g1 g2 g3 g4 g5 hns hsz (FR.call rfl) O hgm).post_own fun fl st' ⟨res, hr, e⟩ => ⟨[], List.nil_sublist _, by subst e; exact hq res hr⟩)
    fun L' m R s e s' S hL hm hml h => wpR_mono (Ex.leave FR rfl S hml h.2) (fun _ _ q => hE h.1 _ _ _ q) fun _ _ q => hE h.1 _ _ _ q
end
end
section
set_option Elab.async false
set_option linter.unusedVariables false
set_option linter.unusedSimpArgs false
def fullP (p : List Int) : Bool := decide (((blk p).getLast?.getD []).length = 254)
theorem blk_last (q : List Int) : ∃ Bs B, blk q = Bs ++ [B] ∧ (∀ C ∈ Bs, GoodB C) ∧ GoodB B ∧ bodyOf Bs ++ B = q ∧ fullP q = decide (B.length = 254) := by
  obtain ⟨Bs, B, h1, h2, h3, h4⟩ := blk_good q
  exact ⟨Bs, B, h1, h2, h3, h4, by rw [fullP, h1]; simp⟩
structure I4 (w j l t : List Int) (f : Bool) : Prop where
  jo : j = enc w
  fw : fullP w = f
  la : ∃ Bs B, l = flat1 (Bs ++ [B]) ∧ (∀ C ∈ Bs, GoodB C) ∧ GoodB B ∧ t = bodyOf Bs ++ B ∧ f = decide (B.length = 254)
theorem flat1_body_len {Bs : List (List Int)} (h : ∀ C ∈ Bs, GoodB C) : (flat1 Bs).length ≤ 2 * (bodyOf Bs).length := by
  induction Bs with
  | nil => simp [flat1]
  | cons B Bs ih =>
    have := ih fun C hC => h C (.tail _ hC)
    simp only [flat1, bodyOf, List.map_cons, List.flatten_cons, List.length_append, List.length_cons] at this ⊢
    have h2 : 1 ≤ B.length + (if B.length < 254 then [(0 : Int)] else []).length := by split <;> simp; omega
    omega
theorem enc_len (p : List Int) : (enc p).length ≤ 2 * p.length + 1 := by
  obtain ⟨Bs, B, h1, h2, h3, h4, h5⟩ := blk_last p
  have e := flat1_body_len h2
  have hp : p.length = (bodyOf Bs).length + B.length := by rw [← h4, List.length_append]
  rw [enc_blk, h1, flat1_snoc, List.length_append, List.length_cons]; omega
end
section
set_option Elab.async false
set_option linter.unusedVariables false
set_option linter.unusedSimpArgs false
/-- _law_read, as it runs -/
def readGo (told : List Int) (owing code : Int) : List Int → Option (List Int)
  | [] => if owing = 0 then some told else none
  | c :: r => if 0 < owing then readGo (told ++ [c]) (owing - 1) code r else readGo (told ++ if code < 255 then [0] else []) (c - 1) c r
def rd (g : List Int) : Option (List Int) := if 0 ∈ g then none else readGo [] 0 255 g
theorem readGo_take : ∀ (m : Nat) (t : List Int) (L : Int) (r : List Int), readGo t m L r = if r.length < m then none else readGo (t ++ r.take m) 0 L (r.drop m) := by
  intro m
  induction m with
  | zero => intro t L r; simp
  | succ m ih =>
    intro t L r
    cases r with
    | nil => rw [readGo, if_neg (by omega), if_pos (by simp)]
    | cons c r =>
      rw [readGo, if_pos (by omega), show ((m + 1 : Nat) : Int) - 1 = (m : Int) by omega, ih]
      simp only [List.length_cons, List.take_succ_cons, List.drop_succ_cons, List.append_assoc, List.cons_append, List.nil_append, Nat.add_lt_add_iff_right]
theorem readGo_dec : ∀ (k : Nat) (rest told : List Int) (code : Int), rest.length ≤ k → (∀ n ∈ rest, 1 ≤ n) → rest ≠ [] → readGo told 0 code rest = decGo (told ++ if code < 255 then [0] else []) rest := by
  intro k
  induction k with
  | zero => intro rest told code hl _ hne; exact absurd (List.eq_nil_of_length_eq_zero (by omega)) hne
  | succ k ih =>
    intro rest told code hl hb hne
    cases rest with
    | nil => exact absurd rfl hne
    | cons L r =>
      have hL := hb L (.head _)
      have hz : ∀ m, ¬ (0 : Int) ∈ r.take m := fun m h => by have := hb 0 (.tail _ (List.mem_of_mem_take h)); omega
      have e : L - 1 = ((L - 1).toNat : Int) := by omega
      have hs : readGo told 0 code (L :: r) = readGo (told ++ if code < 255 then [0] else []) ((L - 1).toNat : Int) L r := by
        rw [readGo, if_neg (show ¬ ((0 : Int) < 0) by omega), ← e]
      rw [hs, decGo, if_neg (show ¬ L = 0 by omega), if_neg (hz _), readGo_take]
      by_cases h1 : r.length < (L - 1).toNat
      · rw [if_pos h1, if_pos h1]
      · rw [if_neg h1, if_neg h1]
        by_cases h2 : (L - 1).toNat < r.length
        · rw [if_pos h2]
          have hd : r.drop (L - 1).toNat ≠ [] := by intro e; have := congrArg List.length e; simp at this; omega
          exact ih _ _ _ (by simp at hl ⊢; omega) (fun n hn => hb n (.tail _ (List.mem_of_mem_drop hn))) hd
        · rw [if_neg h2, List.drop_of_length_le (by omega), readGo, if_pos rfl]
theorem rd_dec {g : List Int} (hb : ∀ n ∈ g, 0 ≤ n ∧ n < 256) : rd g = dec g := by
  unfold rd
  by_cases hz : 0 ∈ g
  · rw [if_pos hz, dec, if_neg (by intro e; rw [List.eq_nil_of_length_eq_zero e] at hz; simp at hz), decGo_zero _ g [] (Nat.le_refl _) hz]
  · rw [if_neg hz, dec]
    by_cases hl : g.length = 0
    · rw [if_pos hl, List.eq_nil_of_length_eq_zero hl]; rfl
    · rw [if_neg hl, readGo_dec _ g [] 255 (Nat.le_refl _) (fun n hn => by have := hb n hn; have : n ≠ 0 := fun e => hz (e ▸ hn); omega) (by intro e; rw [e] at hl; simp at hl)]
      simp
theorem enc_pos {p : List Int} (hb : ∀ n ∈ p, 0 ≤ n ∧ n < 256) : ∀ n ∈ enc p, 1 ≤ n ∧ n < 256 := by
  intro n hn
  have h1 := enc_bytes hb n hn
  obtain ⟨Bs, B, e1, e2, e3, e4, _⟩ := blk_last p
  rw [enc_blk, e1] at hn
  have hG : ∀ C ∈ Bs ++ [B], GoodB C := fun C hC => (List.mem_append.mp hC).elim (e2 C) fun h => by rw [List.mem_singleton.mp h]; exact e3
  simp only [flat1, List.mem_flatten, List.mem_map] at hn
  obtain ⟨_, ⟨C, hC, rfl⟩, hn⟩ := hn
  rcases List.mem_cons.mp hn with rfl | hn
  · omega
  · have := (hG C hC).2 n hn; omega
/-- the pieces between the noughts -/
def splitGo (done : List (List Int)) (cur : List Int) : List Int → List (List Int)
  | [] => done ++ [cur]
  | c :: r => if 0 < c then splitGo done (cur ++ [c]) r else splitGo (done ++ [cur]) [] r
def span (done : List (List Int)) : Nat := (done.map fun p => p.length + 1).sum
theorem span_app (a b : List (List Int)) : span (a ++ b) = span a + span b := by simp [span]
theorem splitGo_pre : ∀ (r : List Int) (A done : List (List Int)) (cur : List Int), splitGo (A ++ done) cur r = A ++ splitGo done cur r := by
  intro r
  induction r with
  | nil => intro A done cur; simp [splitGo]
  | cons c r ih => intro A done cur; rw [splitGo, splitGo]; simp only [List.append_assoc, ih]; split <;> rfl
theorem splitGo_mid : ∀ (A : List Int) (done : List (List Int)) (cur : List Int), (∀ n ∈ A, 0 ≤ n) → ∃ done' cur', (∀ r, splitGo done cur (A ++ r) = splitGo done' cur' r) ∧ span done' + cur'.length = span done + cur.length + A.length ∧
    (A.getLast? = some 0 → cur' = []) ∧ (A = [] → cur' = cur ∧ done' = done) := by
  intro A
  induction A with
  | nil => intro done cur _; exact ⟨done, cur, fun r => rfl, by simp, by simp, fun _ => ⟨rfl, rfl⟩⟩
  | cons c A ih =>
    intro done cur hA
    by_cases hc : 0 < c
    · obtain ⟨d, k, h1, h2, h3, h4⟩ := ih done (cur ++ [c]) fun n hn => hA n (.tail _ hn)
      refine ⟨d, k, fun r => by rw [List.cons_append, splitGo, if_pos hc]; exact h1 r, by simp at h2 ⊢; omega, fun h => ?_, fun h => by simp at h⟩
      cases A with
      | nil => simp at h; omega
      | cons a A => exact h3 (by simpa using h)
    · obtain ⟨d, k, h1, h2, h3, h4⟩ := ih (done ++ [cur]) [] fun n hn => hA n (.tail _ hn)
      refine ⟨d, k, fun r => by rw [List.cons_append, splitGo, if_neg hc]; exact h1 r, by rw [span_app] at h2; simp [span] at h2 ⊢; omega, fun h => ?_, fun h => by simp at h⟩
      cases A with
      | nil => exact (h4 rfl).1
      | cons a A => exact h3 (by simpa using h)
theorem splitGo_pos : ∀ (S r : List Int) (done : List (List Int)) (cur : List Int), (∀ n ∈ S, 0 < n) → splitGo done cur (S ++ r) = splitGo done (cur ++ S) r := by
  intro S
  induction S with
  | nil => intro r done cur _; simp
  | cons c S ih => intro r done cur h; rw [List.cons_append, splitGo, if_pos (h c (.head _)), ih _ _ _ fun n hn => h n (.tail _ hn)]; simp
/-- a row without noughts, fenced on either side, is a piece -/
theorem piece_at {A S C : List Int} (hA : ∀ n ∈ A, 0 ≤ n) (hS : ∀ n ∈ S, 0 < n) (h1 : A = [] ∨ A.getLast? = some 0) (h2 : C = [] ∨ C.head? = some 0) :
    ∃ done rest, splitGo [] [] (A ++ S ++ C) = done ++ S :: rest ∧ span done = A.length := by
  obtain ⟨d, k, e1, e2, e3, e4⟩ := splitGo_mid A [] [] hA
  have hk : k = [] := by
    rcases h1 with h1 | h1
    · exact (e4 h1).1
    · exact e3 h1
  subst hk
  have hspan : span d = A.length := by simp [span] at e2 ⊢; omega
  rw [List.append_assoc, e1, splitGo_pos _ _ _ _ hS]
  rcases h2 with rfl | h2
  · exact ⟨d, [], by simp [splitGo], hspan⟩
  · cases C with
    | nil => simp at h2
    | cons c C =>
      simp at h2
      subst h2
      refine ⟨d, splitGo [] [] C, ?_, hspan⟩
      rw [splitGo, if_neg (by omega)]
      have := splitGo_pre C (d ++ [[] ++ S]) [] []
      rw [List.append_nil] at this
      rw [this]; simp
theorem span_split : ∀ (s : List Int) (done : List (List Int)) (cur : List Int), span (splitGo done cur s) = span done + cur.length + s.length + 1 := by
  intro s
  induction s with
  | nil => intro done cur; rw [splitGo, span_app]; simp [span]; omega
  | cons c s ih =>
    intro done cur
    rw [splitGo]
    split
    · rw [ih]; simp; omega
    · rw [ih, span_app]; simp [span]; omega
/-- where each octet comes from -/
inductive Tr (orig : List Int) : List Int → List Int → Prop
  | nil : Tr orig [] []
  | cons {c m s ms} : (0 ≤ m → orig[m.toNat]? = some c) → Tr orig s ms → Tr orig (c :: s) (m :: ms)
namespace Tr
variable {orig : List Int}
theorem length {s m : List Int} (h : Tr orig s m) : s.length = m.length := by induction h with
  | nil => rfl
  | cons _ _ ih => simp [ih]
theorem append {s m s' m' : List Int} (h : Tr orig s m) (h' : Tr orig s' m') : Tr orig (s ++ s') (m ++ m') := by induction h with
  | nil => exact h'
  | cons h1 _ ih => exact .cons h1 ih
theorem take {s m : List Int} (h : Tr orig s m) : ∀ n, Tr orig (s.take n) (m.take n) := by induction h with
  | nil => intro n; simp; exact .nil
  | cons h1 _ ih => intro n; cases n with
    | zero => exact .nil
    | succ n => exact .cons h1 (ih n)
theorem drop {s m : List Int} (h : Tr orig s m) : ∀ n, Tr orig (s.drop n) (m.drop n) := by induction h with
  | nil => intro n; simp; exact .nil
  | cons h1 h2 ih => intro n; cases n with
    | zero => exact .cons h1 h2
    | succ n => exact ih n
theorem slice {s m : List Int} (h : Tr orig s m) (lo hi : Option Int) : Tr orig (pslice lo hi s) (pslice lo hi m) := by
  unfold pslice; rw [h.length]; exact (h.drop _).take _
theorem get {s m : List Int} (h : Tr orig s m) : ∀ {i : Nat} {x : Int}, m[i]? = some x → 0 ≤ x → s[i]? = orig[x.toNat]? := by induction h with
  | nil => intro i x hx; simp at hx
  | cons h1 _ ih => intro i x hx h0; cases i with
    | zero => simp at hx; subst hx; rw [h1 h0]; rfl
    | succ i => simp at hx; simpa using ih hx h0
end Tr
end
section
local macro_rules | `(tactic| walk_at "m") => `(tactic| first
  | ((with_reducible show Op2 _ _ _ (inplaceOp Operator.Sub) (V.int _) (V.int _) _ _); refine isub_int' ?_))
def rdJ (g : List Int) (lg lt : Addr) (i : Nat) (st : St) : Prop := ∃ (told : List Int) (owing code : Int) (u : V),
  st = ⟨[("piece", .ref lg), ("told", .ref lt), ("owing", .int owing), ("code", .int code), ("octet", u)], [(lt, .ints told)]⟩ ∧
    readGo told owing code (g.drop i) = readGo [] 0 255 g ∧ told.length ≤ 2 * i ∧ ∀ n ∈ told, 0 ≤ n ∧ n < 256
def decV : Option (List Int) → V
  | some ns => .bytes ns
  | none => .none
set_option maxHeartbeats 4000000 in
theorem read_walk {X : Cx} {ro : Led} {f : Addr} {cd : Value} {lg : Addr} {g : List Int} (hh : X.A.handled = none) (g4 : Glo X "bytes" (.type "bytes")) (hl : Has lg (.ints g) ro) (hb : ∀ n ∈ g, 0 ≤ n ∧ n < 256) (hsz : g.length ≤ 1000000) :
    TF X ro noE ⟨[("piece", .ref lg), ("told", .unk), ("owing", .unk), ("code", .unk), ("octet", .unk)], []⟩ (execs (fBody stR) (envOf "_law_read" (fScope stR) X.L f cd)) fun fl st' => fl = .ret (decV (dec g)) := by
  rw [← rd_dec hb]
  by_cases hz : 0 ∈ g
  · rw [rd, if_pos hz]
    refine execs_cons' ?_
    repeat' ((fail_if_success (with_reducible show TF _ _ _ _ (exec (Stmt.For _ _ _ _ _) _) _)); walk_at "m")
    · rfl
    · exfalso; rename_i h _; exact h hz
  · rw [rd, if_neg hz]
    refine execs_cons' ?_
    repeat' walk_at "m"
    · exfalso; rename_i h; exact hz h
    · rename_i lt
      with_reducible show ForOver _ _ _ _ _ _ _ _ _
      refine for_list (us := g.map V.int) (rdJ g lg lt) .none hh ?_ ⟨[], 0, 255, .unk, rfl, rfl, by simp, by simp⟩ ?_ ?_
      · rintro i st' ⟨told, owing, code, u, rfl, -⟩
        exact .inr hl
      · rintro i st' u hi ⟨told, owing, code, u0, rfl, hgo, htl, htb⟩
        rw [List.getElem?_map] at hi
        cases hx : g[i]? with
        | none => rw [hx] at hi; cases hi
        | some n =>
        rw [hx] at hi; cases hi
        have hir : i < g.length := (List.getElem?_eq_some_iff.mp hx).1
        have hnb := hb n (List.mem_of_getElem? hx)
        have hdr : g.drop i = n :: g.drop (i + 1) := by
          rw [List.drop_eq_getElem_cons hir, (List.getElem?_eq_some_iff.mp hx).2]
        rw [hdr, readGo] at hgo
        have ap : ∀ {x : Int}, 0 ≤ x ∧ x < 256 → ∀ m ∈ told ++ [x], 0 ≤ m ∧ m < 256 := fun hx m hm => (List.mem_append.mp hm).elim (htb m) fun h => by rw [List.mem_singleton.mp h]; exact hx
        repeat' walk_at "m"
        · rename_i h
          rw [if_pos h] at hgo
          exact ⟨told ++ [n], owing - 1, code, .int n, rfl, hgo, by simp; omega, ap hnb⟩
        · rename_i h1 h2
          rw [if_neg h1, if_pos h2] at hgo
          exact ⟨told ++ [0], n - 1, n, .int n, rfl, hgo, by simp; omega, ap (by omega)⟩
        · rename_i h1 h2
          rw [if_neg h1, if_neg h2, List.append_nil] at hgo
          exact ⟨told, n - 1, n, .int n, rfl, hgo, by omega, htb⟩
      · rintro st' ⟨told, owing, code, u0, rfl, hgo, htl, htb⟩
        rw [List.length_map] at hgo htl
        rw [List.drop_length, readGo] at hgo
        rw [← hgo]
        repeat' walk_at "m"
        · rename_i h
          rw [if_pos h]; rfl
        · rename_i h
          rw [if_neg h]; rfl
theorem call_read {X : Cx} {ro : Led} {E : Er} {st : St} {fR : Addr} {pm cd doc : Value} {lg : Addr} {g : List Int} {Q : V → St → Prop} (F : FnOk X.B fR "_law_read" (fParams stR) (fBody stR) (fScope stR) pm cd doc) (hlim : X.B.NoLimit) (hroom : X.A.depth < recursionLimit)
    (hh : X.A.handled = none) (g4 : Glo X "bytes" (.type "bytes")) (hl : Kn ro st lg (.ints g)) (hb : ∀ n ∈ g, 0 ≤ n ∧ n < 256) (hsz : g.length ≤ 1000000) (hq : Q (decV (dec g)) st) :
    OpN X ro E (fun vs => call (.ref fR) vs) [.ref lg] st Q :=
  call_fn (x := "piece") (u := .ref lg) (locs := [("told", .unk), ("owing", .unk), ("code", .unk), ("octet", .unk)]) (Ec := fun _ _ => noE) F hlim hroom (by simp only [List.map_cons, List.map_nil]; decide) (by simp)
    (fun L' m => (read_walk (X := X.call (envOf "_law_read" (fScope stR) L' fR cd) L' m) hh g4 (hl.elim (fun h => h.app_left) fun h => h.app_right) hb hsz).post_own fun fl st' e => ⟨[], List.nil_sublist _, by subst e; exact hq⟩) fun _ _ _ _ _ _ _ _ _ _ h => h.elim
end
section
def forB : Option Stmt → List Stmt
  | some (.For _ _ b _ _) => b
  | _ => []
theorem freeze_all {X : Cx} {ro : Led} {E : Er} {α β : Type} {rel : β → α → Prop} {t : Sem α} {Q : β → St → Prop} {loc : List (Str × V)} {own : Led} (hE : ∀ R R' e s, (∀ b o, R.get? b = some o → R'.get? b = some o) → E R' e s → E R e s)
    (h : TT X (own ++ ro) E rel ⟨loc, []⟩ t Q) : TT X ro E rel ⟨loc, own⟩ t Q := TT.freeze hE (by rw [List.append_nil]) h
theorem app_b {xs ys : List Int} (h1 : ∀ n ∈ xs, 0 ≤ n ∧ n < 256) (h2 : ∀ n ∈ ys, 0 ≤ n ∧ n < 256) : ∀ n ∈ xs ++ ys, 0 ≤ n ∧ n < 256 := fun n hn => (List.mem_append.mp hn).elim (h1 n) (h2 n)
theorem one_b {x : Int} (h : 0 ≤ x ∧ x < 256) : ∀ n ∈ [x], 0 ≤ n ∧ n < 256 := fun n hn => by rw [List.mem_singleton.mp hn]; exact h
theorem Upto.more {J : St → Prop} {loc : List (Str × V)} {o1 o2 : Led} (h : o1.Sublist o2) (x : Upto J ⟨loc, o1⟩) : Upto J ⟨loc, o2⟩ :=
  let ⟨a, b, h1, h2, h3⟩ := x; ⟨a, b, h1.trans h, h2, h3⟩
abbrev locs2 (script numbers packets runs wide number size stream frames packet sizes stuffed longer marks which way place put behind pieces piece octet got spot told fenced frame whole : V) : List (Str × V) :=
  [("script", script), ("numbers", numbers), ("packets", packets), ("runs", runs), ("wide", wide), ("number", number), ("size", size), ("stream", stream), ("frames", frames), ("packet", packet), ("sizes", sizes), ("stuffed", stuffed), ("longer", longer), ("marks", marks), ("which", which), ("way", way), ("place", place), ("put", put), ("behind", behind), ("pieces", pieces), ("piece", piece), ("octet", octet), ("got", got), ("spot", spot), ("told", told), ("fenced", fenced), ("frame", frame), ("whole", whole)]
/-- what is known when the last loop begins -/
structure Last (orig stream marks : List Int) (pf : List ((Addr × List Int) × (Addr × Int × Int))) : Prop where
  tr : Tr orig stream marks
  nn : ∀ n ∈ stream, 0 ≤ n
  fr : ∀ q ∈ pf, ∃ A C, orig = A ++ enc q.1.2 ++ C ∧ q.2.2.1 = A.length ∧ q.2.2.2 = A.length + (enc q.1.2).length
theorem rng_get {a b : Int} {i : Nat} (h : i < (b - a).toNat) : (rng a b)[i]? = some (a + i) := by
  simp [rng, List.getElem?_map, List.getElem?_range h]
theorem fit_ok {k L m : Nat} (h : min (min (k + L) m - min k m) (m - min k m) = L) (hk : k ≤ m) : k + L ≤ m := by omega
/-- the last loop's whole pure content -/
theorem last_ok {orig stream marks p : List Int} {f0 f1 spot : Int} {A C : List Int} (hT : Tr orig stream marks) (hn : ∀ n ∈ stream, 0 ≤ n) (hp : ∀ n ∈ p, 0 ≤ n ∧ n < 256)
    (ho : orig = A ++ enc p ++ C) (h0 : f0 = A.length) (h1 : f1 = A.length + (enc p).length) (hs0 : 0 ≤ spot) (hs1 : spot ≤ marks.length)
    (hw : pslice (some spot) (some (spot + (f1 - f0))) marks = rng f0 f1) :
    spot + (f1 - f0) ≤ stream.length ∧ (([0] ++ stream ++ [0])[spot.toNat]? = some 0 → ([0] ++ stream ++ [0])[(spot + (f1 - f0) + 1).toNat]? = some 0 →
      ∃ done rest, splitGo [] [] stream = done ++ enc p :: rest ∧ (span done : Int) = spot) := by
  have hE : 0 < (enc p).length := by
    obtain ⟨Bs, B, e1, _⟩ := blk_last p
    rw [enc_blk, e1, flat1_snoc]; simp; omega
  have hml := hT.length
  obtain ⟨k, rfl⟩ := Int.eq_ofNat_of_zero_le hs0
  have hsz : f1 - f0 = ((enc p).length : Int) := by omega
  rw [hsz] at hw ⊢
  have hlen := congrArg List.length hw
  rw [rng_length, pslice, List.length_take, List.length_drop] at hlen
  rw [← Int.natCast_add, clip_nat, clip_nat, hsz, Int.toNat_natCast] at hlen
  have hfit : k + (enc p).length ≤ marks.length := fit_ok hlen (Int.ofNat_le.mp hs1)
  refine ⟨by omega, fun hb ha => ?_⟩
  have hmid : pslice (some (k : Int)) (some ((k : Int) + (enc p).length)) marks = (marks.drop k).take (enc p).length := by
    rw [pslice]
    have c1 : clipNat (some (k : Int)) 0 marks.length = k := by rw [clip_nat]; exact Nat.min_eq_left (Int.ofNat_le.mp hs1)
    have c2 : clipNat (some ((k : Int) + (enc p).length)) marks.length marks.length = k + (enc p).length := by rw [← Int.natCast_add, clip_nat]; exact Nat.min_eq_left hfit
    rw [c1, c2, Nat.add_sub_cancel_left]
  rw [hmid] at hw
  have hS : (stream.drop k).take (enc p).length = enc p := by
    apply List.ext_getElem?
    intro i
    by_cases hi : i < (enc p).length
    · have hm : ((marks.drop k).take (enc p).length)[i]? = some (f0 + i) := by rw [hw]; exact rng_get (by omega)
      have := ((hT.drop k).take (enc p).length).get hm (by omega)
      rw [this, ho, h0, show ((A.length : Int) + (i : Int)).toNat = A.length + i by omega]
      rw [List.append_assoc, List.getElem?_append_right (by omega), Nat.add_sub_cancel_left, List.getElem?_append_left hi]
    · rw [List.getElem?_eq_none (by rw [List.length_take]; omega), List.getElem?_eq_none (by omega)]
  have hsplit : stream = stream.take k ++ enc p ++ stream.drop (k + (enc p).length) := by
    conv => lhs; rw [← List.take_append_drop k stream, ← List.take_append_drop (enc p).length (stream.drop k), hS, List.drop_drop]
    simp
  have hA : stream.take k = [] ∨ (stream.take k).getLast? = some 0 := by
    cases k with
    | zero => left; simp
    | succ k =>
      right
      have : ([0] ++ stream ++ [0])[k + 1]? = some 0 := by simpa using hb
      rw [List.append_assoc, List.singleton_append, List.getElem?_cons_succ, List.getElem?_append_left (by omega)] at this
      rw [List.getLast?_eq_getElem?, List.length_take, List.getElem?_take]
      rw [show min (k + 1) stream.length - 1 = k by omega]
      simpa using this
  have hC : stream.drop (k + (enc p).length) = [] ∨ (stream.drop (k + (enc p).length)).head? = some 0 := by
    by_cases he : k + (enc p).length = stream.length
    · left; rw [he]; simp
    · right
      have : ([0] ++ stream ++ [0])[k + (enc p).length + 1]? = some 0 := by
        have e : ((k : Int) + (enc p).length + 1).toNat = k + (enc p).length + 1 := by omega
        rw [e] at ha; exact ha
      rw [List.append_assoc, List.singleton_append, List.getElem?_cons_succ, List.getElem?_append_left (by omega)] at this
      rw [List.head?_drop]; exact this
  obtain ⟨done, rest, e1, e2⟩ := piece_at (fun n hn' => hn n (List.mem_of_mem_take hn')) (fun n hn' => by have := enc_pos hp n hn'; omega) hA hC
  rw [← hsplit] at e1
  refine ⟨done, rest, e1, ?_⟩
  rw [e2, List.length_take]; omega
end
section
local macro_rules | `(tactic| walk_at "m") => `(tactic| first
  | ((with_reducible show Sub _ _ _ (V.raw (Value.ref _)) (V.int _) _ _); refine sub_tup (by walk_at "m:kn") (by decide) rfl ?_)
  | ((with_reducible show OpN _ _ _ (fun vs => call (Value.type "range") vs) [V.int _, V.int _] _ _); (refine list_range_arg (by assumption) (by omega) (by omega) (by omega) ?_; intro))
  | ((with_reducible show TV _ _ _ _ (eval (Expr.Call (Expr.Attribute (Expr.Name _ _) (Str.ofString "get") _) _ _ _) _) _); refine get_dict' ?_)
  | ((with_reducible show ∃ l ob n G, V.raw (Value.ref _) = V.ref l ∧ (l == sysModules) = false ∧ _); refine ⟨_, _, _, _, rfl, by assumption, by assumption, Or.inr (by assumption), ?_⟩)
  | ((with_reducible show ∃ k r, V.int _ = V.int k ∧ Kn _ _ _ _ ∧ _); refine ⟨_, _, rfl, Or.inr (by assumption), by assumption, ?_⟩))
theorem step_up {X : Cx} {ro : Led} {E : Er} {st : St} {env : Env} {sm : Stmt} {rest : List Stmt} {Q : Fl → St → Prop} (K : St → Prop) (h : TF X ro E st (exec sm env) fun fl st₁ => fl = .next ∧ Upto K st₁)
    (h2 : ∀ st₁, K st₁ → TF X ro E st₁ (execs rest env) Q) : TF X ro E st (execs (sm :: rest) env) Q := execs_cons' (h.mono fun f st₁ ⟨e, k⟩ => by subst e; exact TT.upto k h2)
set_option maxHeartbeats 8000000 in
theorem turn2 {X : Cx} {ro : Led} {f : Addr} {cd : Value} {v1 v2 v3 v4 v5 v6 v7 v8 v9 v11 v12 v13 v15 v16 v17 v18 v19 v20 v21 v22 v25 v28 : V} {lp lf lm lg lfe : Addr} {p stream marks orig A C : List Int} {f0 f1 spot : Int} {ob : Obj} {n : Nat} {G : Int → Option V} {Q : Fl → St → Prop} {J : St → Prop}
    (hh : X.A.handled = none) (hu : X.A.units + 64 < cLine) (g4 : Glo X "bytes" (.type "bytes")) (g5 : Glo X "len" (.builtin "len")) (g6 : Glo X "list" (.type "list")) (g7 : Glo X "range" (.type "range"))
    (hlp : Has lp (.ints p) ro) (hlf : Has lf (.tup [.int f0, .int f1]) ro) (hlm : Has lm (.ints marks) ro) (hlfe : Has lfe (.ints ([0] ++ stream ++ [0])) ro)
    (hsm : (lg == sysModules) = false) (hDV : DictV X ob n G) (hlg : Has lg (.obj ob) ro) (hG : ∀ done S rest, splitGo [] [] stream = done ++ S :: rest → G (span done) = some (decV (dec S)))
    (hpb : ∀ n ∈ p, 0 ≤ n ∧ n < 256) (hpz : p.length ≤ 10000) (hT : Tr orig stream marks) (hn : ∀ n ∈ stream, 0 ≤ n) (ho : orig = A ++ enc p ++ C) (h0 : f0 = A.length) (h1 : f1 = A.length + (enc p).length)
    (hml : marks.length ≤ 500000) (hal : A.length ≤ 500000) (hs0 : 0 ≤ spot) (hs1 : spot ≤ marks.length)
    (hJ : ∀ a b c, 0 ≤ a → a ≤ (marks.length : Int) → J ⟨locs2 v1 v2 v3 v4 v5 v6 b v8 v9 (.ref lp) v11 v12 v13 (.ref lm) v15 v16 v17 v18 v19 v20 v21 v22 (.ref lg) (.int a) v25 (.ref lfe) (.ref lf) c, []⟩) :
    TF X ro noE ⟨locs2 v1 v2 v3 v4 v5 v6 v7 v8 v9 (.ref lp) v11 v12 v13 (.ref lm) v15 v16 v17 v18 v19 v20 v21 v22 (.ref lg) (.int spot) v25 (.ref lfe) (.ref lf) v28, []⟩ (execs (forB (fBody stL)[19]?) (envOf "law" (fScope stL) X.L f cd)) (LoopQ Q J) := by
  have hel := enc_len p
  have hml' := hT.length
  have hfl : ([0] ++ stream ++ [0]).length = stream.length + 2 := by simp
  refine loop_upto ?_
  refine execs_cons' ?_
  refine While' (fun m st => ∃ a : Int, st = ⟨locs2 v1 v2 v3 v4 v5 v6 v7 v8 v9 (.ref lp) v11 v12 v13 (.ref lm) v15 v16 v17 v18 v19 v20 v21 v22 (.ref lg) (.int a) v25 (.ref lfe) (.ref lf) v28, []⟩ ∧ 0 ≤ a ∧ a ≤ marks.length ∧ m = ((marks.length : Int) - a).toNat) ((marks.length : Int) - spot).toNat .none ⟨spot, rfl, hs0, hs1, rfl⟩ ?_
  rintro m st' ⟨a, rfl, ha0, ha1, hm⟩
  refine TT.mono (rel := fun (b : Bool) x => x = b) (Q := fun (b : Bool) (st : St) => st = ⟨locs2 v1 v2 v3 v4 v5 v6 v7 v8 v9 (.ref lp) v11 v12 v13 (.ref lm) v15 v16 v17 v18 v19 v20 v21 v22 (.ref lg) (.int a) v25 (.ref lfe) (.ref lf) v28, []⟩ ∧ (b = true → a < marks.length)) ?_ ?_
  · by_cases hlt : a < marks.length
    · obtain ⟨x, hx⟩ : ∃ x, marks[pidx a marks.length]? = some x := ⟨_, List.getElem?_eq_getElem (by rw [pidx, if_neg (by omega)]; omega)⟩
      repeat' walk_at "m"
      all_goals first
        | exact ⟨rfl, fun _ => hlt⟩
    · repeat' walk_at "m"
      all_goals first
        | exact ⟨rfl, fun h => by cases h⟩
        | (exfalso; omega)
  · rintro b st ⟨rfl, hb⟩
    refine ⟨fun hb' => ?_, fun hb' => ?_⟩
    · have := hb hb'
      repeat' walk_at "m"
      exact ⟨((marks.length : Int) - (a + 1)).toNat, by omega, a + 1, rfl, by omega, by omega, rfl⟩
    · obtain ⟨x0, hx0⟩ : ∃ x, ([0] ++ stream ++ [0])[pidx a ([0] ++ stream ++ [0]).length]? = some x := ⟨_, List.getElem?_eq_getElem (by rw [pidx, if_neg (by omega)]; omega)⟩
      have hpa : pidx a ([0] ++ stream ++ [0]).length = a.toNat := by rw [pidx, if_neg (by omega)]
      refine execs_cons' ?_
      repeat' ((fail_if_success (with_reducible show TF _ _ _ _ (execs (Stmt.Assign _ (Expr.Compare _ _ _ _) _ :: _) _) _)); walk_at "m")
      refine step_up (fun st => st = ⟨locs2 v1 v2 v3 v4 v5 v6 (.int (f1 - f0)) v8 v9 (.ref lp) v11 v12 v13 (.ref lm) v15 v16 v17 v18 v19 v20 v21 v22 (.ref lg) (.int a) v25 (.ref lfe) (.ref lf) (.bool (decide (pslice (some a) (some (a + (f1 - f0))) marks = rng f0 f1))), []⟩) ?_ ?_
      · repeat' walk_at "m"
        exact ⟨rfl, Upto.more (List.nil_sublist _) (Upto.of rfl)⟩
      rintro st' rfl
      by_cases hw : pslice (some a) (some (a + (f1 - f0))) marks = rng f0 f1
      · obtain ⟨hfit, hkey⟩ := last_ok hT hn hpb ho h0 h1 ha0 ha1 hw
        obtain ⟨x1, hx1⟩ : ∃ x, ([0] ++ stream ++ [0])[pidx (a + (f1 - f0) + 1) ([0] ++ stream ++ [0]).length]? = some x := ⟨_, List.getElem?_eq_getElem (by rw [pidx, if_neg (by omega)]; omega)⟩
        have hpb1 : pidx (a + (f1 - f0) + 1) ([0] ++ stream ++ [0]).length = (a + (f1 - f0) + 1).toNat := by rw [pidx, if_neg (by omega)]
        by_cases hz : x0 = 0 ∧ x1 = 0
        · obtain ⟨done, rest, e1, e2⟩ := hkey (by rw [← hpa, hx0, hz.1]) (by rw [← hpb1, hx1, hz.2])
          have hGk : G a = some (.bytes p) := by
            have := hG done (enc p) rest e1
            rw [e2, dec_enc] at this; exact this
          repeat' walk_at "m"
          all_goals first
            | exact Upto.more (List.nil_sublist _) (Upto.of (hJ _ _ _ ha0 ha1))
            | (exfalso; rename_i h; exact h rfl)
        · repeat' walk_at "m"
          all_goals first
            | exact Upto.more (List.nil_sublist _) (Upto.of (hJ _ _ _ ha0 ha1))
            | exact absurd ⟨by assumption, by assumption⟩ hz
      · repeat' walk_at "m"
        all_goals first
          | exact Upto.more (List.nil_sublist _) (Upto.of (hJ _ _ _ ha0 ha1))
          | exact absurd (by assumption) hw
set_option maxHeartbeats 8000000 in
theorem law2_h {X : Cx} {ro : Led} {f : Addr} {cd : Value} {v1 v2 v4 v5 v6 v7 v10 v11 v12 v13 v15 v16 v17 v18 v19 v20 v21 v22 v25 : V} {lk lfs ls lm lg : Addr} {stream marks orig : List Int} {pf : List ((Addr × List Int) × (Addr × Int × Int))} {ob : Obj} {n : Nat} {G : Int → Option V} {v24 v26 v27 v28 : V}
    (hh : X.A.handled = none) (hu : X.A.units + 64 < cLine) (g4 : Glo X "bytes" (.type "bytes")) (g5 : Glo X "len" (.builtin "len")) (g6 : Glo X "list" (.type "list")) (g7 : Glo X "range" (.type "range")) (g8 : Glo X "zip" (.type "zip"))
    (hlk : Has lk (.list (pf.map fun q => V.ref q.1.1)) ro) (hlfs : Has lfs (.list (pf.map fun q => V.ref q.2.1)) ro)
    (hpf : ∀ q ∈ pf, Has q.1.1 (.ints q.1.2) ro ∧ (∀ n ∈ q.1.2, 0 ≤ n ∧ n < 256) ∧ q.1.2.length ≤ 10000 ∧ Has q.2.1 (.tup [.int q.2.2.1, .int q.2.2.2]) ro)
    (hL : Last orig stream marks pf) (hoz : orig.length ≤ 500000) (hls : Has ls (.ints stream) ro) (hlm : Has lm (.ints marks) ro) (hml : marks.length ≤ 500000)
    (hsm : (lg == sysModules) = false) (hDV : DictV X ob n G) (hlg : Has lg (.obj ob) ro) (hG : ∀ done S rest, splitGo [] [] stream = done ++ S :: rest → G (span done) = some (decV (dec S))) :
    TF X ro noE ⟨locs2 v1 v2 (.ref lk) v4 v5 v6 v7 (.ref ls) (.ref lfs) v10 v11 v12 v13 (.ref lm) v15 v16 v17 v18 v19 v20 v21 v22 (.ref lg) v24 v25 v26 v27 v28, []⟩ (execs ((fBody stL).drop 17) (envOf "law" (fScope stL) X.L f cd)) (fun fl st' => fl = .ret (.bool true)) := by
  have hsl : stream.length ≤ 500000 := by rw [hL.tr.length]; exact hml
  refine execs_cons' ?_
  repeat' ((fail_if_success (with_reducible show TF _ _ _ _ (execs (Stmt.For _ _ _ _ _ :: _) _) _)); walk_at "m")
  refine freeze_all (fun _ _ _ _ _ h => h) ?_
  refine execs_cons' ?_
  refine ForO ?_
  repeat' walk_at "m"
  refine for_zip (us := pf.map fun q => V.ref q.1.1) (ws := pf.map fun q => V.ref q.2.1) (fun i st => ∃ (a : Int) (b c d e : V), st = ⟨locs2 v1 v2 (.ref lk) v4 v5 v6 b (.ref ls) (.ref lfs) c v11 v12 v13 (.ref lm) v15 v16 v17 v18 v19 v20 v21 v22 (.ref lg) (.int a) v25 (.ref _) d e, []⟩ ∧ 0 ≤ a ∧ a ≤ marks.length) .none hh (by simp) ?_ ⟨0, _, _, _, _, rfl, by omega, by omega⟩ ?_ ?_
  · rintro i st' ⟨_, _, _, _, _, rfl, -⟩
    exact ⟨.inr hlk.app_right, .inr hlfs.app_right⟩
  · rintro i st' u w hu1 hw1 ⟨a, b, c, d, e, rfl, ha0, ha1⟩
    rw [List.getElem?_map] at hu1 hw1
    cases hx : pf[i]? with
    | none => rw [hx] at hu1; cases hu1
    | some q =>
    rw [hx] at hu1 hw1
    cases hu1
    cases hw1
    obtain ⟨q1, q2, q3, q4⟩ := hpf q (List.mem_of_getElem? hx)
    obtain ⟨A, C, e1, e2, e3⟩ := hL.fr q (List.mem_of_getElem? hx)
    have hAl : A.length ≤ orig.length := by rw [e1]; simp
    refine ⟨_, _, _, _, by walk_at "m:put", by walk_at "m:put", ?_⟩
    exact turn2 hh hu g4 g5 g6 g7 q1.app_right q4.app_right hlm.app_right (Has.app_left (by walk_at "m:has")) hsm hDV hlg.app_right hG q2 q3 hL.tr hL.nn e1 e2 e3 hml (by omega) ha0 ha1 fun a' b' c' k0 k1 => ⟨a', b', _, _, c', rfl, k0, k1⟩
  · rintro st' ⟨a, b, c, d, e, rfl, ha0, ha1⟩
    repeat' walk_at "m"
    rfl
end
section
theorem TryN {X : Cx} {ro : Led} {E : Er} {st : St} {env : Env} {body : List Stmt} {h₀ : ExceptHandler} {hs : List ExceptHandler} {pos : Pos} {Q : Fl → St → Prop} (hb : TF X ro noE st (execs body env) Q) :
    TF X ro E st (exec (.Try body (h₀ :: hs) [] [] pos) env) Q := fun R s S => by
  refine wpR_Try_except (wpR_mono (hb R s S) (fun f s₁ h₁ => ?_) fun e s₁ h₁ => h₁.elim)
  obtain ⟨g, st', hg', S', hq⟩ := h₁
  cases g with
  | next => cases hg'; exact wpR_of (wpAny_execs_nil ⟨.next, st', rfl, S', hq⟩)
  | brk => cases hg'; exact ⟨.brk, st', rfl, S', hq⟩
  | cont => cases hg'; exact ⟨.cont, st', rfl, S', hq⟩
  | ret u => obtain ⟨v, rfl, hv⟩ := hg'; exact ⟨.ret u, st', ⟨v, rfl, hv⟩, S', hq⟩
section
variable {X : Cx} {ro : Led} {E : Er} {st : St}
theorem call_dec_ok {fD : Addr} {pm cd doc : Value} {ns res : List Int} {Q : V → St → Prop} {env : Env} {fs : List Env} {C : Addr} {mg : Str → Option Value} (h : dec ns = some res) (F : FnOk X.B fD "decode" (fParams stD) (fBody stD) (fScope stD) pm cd doc) (hlim : X.B.NoLimit) (hroom : X.A.depth < recursionLimit)
    (hh : X.A.handled = none) (hg : X.A.guards = some []) (g1 : Glo X "isinstance" (.builtin "isinstance")) (g2 : Glo X "str" (.type "str"))
    (g3 : Glo X "bytearray" (.type "bytearray")) (g4 : Glo X "bytes" (.type "bytes")) (g5 : Glo X "len" (.builtin "len")) (hns : ∀ n ∈ ns, 0 ≤ n ∧ n < 256) (hsz : ns.length ≤ 1000000)
    (FR : FrOk X env fs) (O : OwnClsQ "DecodeError" C [.type "Exception", .type "BaseException", .type "object"] "Exception.__new__" mg X.B) (hgm : X.B.Ns mainGlobals mg)
    (hq : Q (.bytes res) st) : OpN X ro E (fun vs => call (.ref fD) vs) [.bytes ns] st Q :=
  call_dec F hlim hroom hh hg g1 g2 g3 g4 g5 hns hsz FR O hgm (fun e => by rw [h] at e; cases e) fun r e => by rw [h] at e; cases e; exact hq
theorem call_dec_no {fD : Addr} {pm cd doc : Value} {ns : List Int} {Q : V → St → Prop} {env : Env} {fs : List Env} {C : Addr} {mg : Str → Option Value} (h : dec ns = none) (F : FnOk X.B fD "decode" (fParams stD) (fBody stD) (fScope stD) pm cd doc) (hlim : X.B.NoLimit) (hroom : X.A.depth < recursionLimit)
    (hh : X.A.handled = none) (hg : X.A.guards = some []) (g1 : Glo X "isinstance" (.builtin "isinstance")) (g2 : Glo X "str" (.type "str"))
    (g3 : Glo X "bytearray" (.type "bytearray")) (g4 : Glo X "bytes" (.type "bytes")) (g5 : Glo X "len" (.builtin "len")) (hns : ∀ n ∈ ns, 0 ≤ n ∧ n < 256) (hsz : ns.length ≤ 1000000)
    (FR : FrOk X env fs) (O : OwnClsQ "DecodeError" C [.type "Exception", .type "BaseException", .type "object"] "Exception.__new__" mg X.B) (hgm : X.B.Ns mainGlobals mg) :
    OpN X ro (Thr X ro st env fs C) (fun vs => call (.ref fD) vs) [.bytes ns] st Q :=
  call_dec F hlim hroom hh hg g1 g2 g3 g4 g5 hns hsz FR O hgm (fun _ _ _ _ h => h) fun r e => by rw [h] at e; cases e
end
local macro_rules | `(tactic| walk_at "m:call") => `(tactic| first
  | refine call_enc (by assumption) (by assumption) (by assumption) (by assumption) (by assumption) (by assumption) (by assumption) (by assumption) (by assumption) (by assumption) (by walk_at "m:arith") ?_
  | refine call_read (by assumption) (by assumption) (by assumption) (by assumption) (by assumption) (by walk_at "m:kn") (by assumption) (by walk_at "m:arith") ?_
  | exact call_dec_no (by assumption) (by assumption) (by assumption) (by assumption) (by assumption) (by assumption) (by assumption) (by assumption) (by assumption) (by assumption) (by assumption) (by assumption) (by walk_at "m:arith") (by assumption) (by assumption) (by assumption)
  | refine call_dec_ok (by assumption) (by assumption) (by assumption) (by assumption) (by assumption) (by assumption) (by assumption) (by assumption) (by assumption) (by assumption) (by assumption) (by assumption) (by walk_at "m:arith") (by assumption) (by assumption) (by assumption) ?_)
local macro_rules | `(tactic| walk_at "m") => `(tactic| first
  | ((with_reducible show Op2 _ _ _ (compareOp CmpOp.NotEq) (V.raw Value.none) (V.raw Value.none) _ _); refine ne_none_none' ?_)
  | ((with_reducible show TF _ _ _ _ (exec (Stmt.Assign [Expr.Subscript _ _ _] _ _) _) _); refine AssignSubD ?_))
set_option maxHeartbeats 8000000 in
theorem turnF {X : Cx} {ro : Led} {f : Addr} {cd : Value} {fD fR : Addr} {oD oR : Obj} {fdD fdR : FuncData} {pmD cdD docD pmR cdR docR : Value} {fs : List Env} {C : Addr} {mg : Str → Option Value}
    {v1 v2 v3 v4 v5 v6 v7 v8 v9 v10 v11 v12 v13 v14 v15 v16 v17 v18 v19 v20 v22 v25 v26 v27 v28 : V} {c1 c2 : Addr × Cell} {lp lg : Addr} {g : List Int} {spot : Int} {ob : Obj} {n : Nat} {G : Int → Option V} {Q : Fl → St → Prop} {J : St → Prop}
    (hh : X.A.handled = none) (hg : X.A.guards = some []) (hlim : X.B.NoLimit) (hroom : X.A.depth < recursionLimit)
    (g1 : Glo X "isinstance" (.builtin "isinstance")) (g2 : Glo X "str" (.type "str"))
    (g3 : Glo X "bytearray" (.type "bytearray")) (g4 : Glo X "bytes" (.type "bytes")) (g5 : Glo X "len" (.builtin "len"))
    (gD : Glo X "decode" (.ref fD)) (gR : Glo X "_law_read" (.ref fR)) (FD : FnOk X.B fD "decode" (fParams stD) (fBody stD) (fScope stD) pmD cdD docD) (FRd : FnOk X.B fR "_law_read" (fParams stR) (fBody stR) (fScope stR) pmR cdR docR)
    (hoD : X.B.get? fD = some oD) (hdD : oD.data = .func fdD) (hoR : X.B.get? fR = some oR) (hdR : oR.data = .func fdR)
    (FR : FrOk X (envOf "law" (fScope stL) X.L f cd) fs) (O : OwnClsQ "DecodeError" C [.type "Exception", .type "BaseException", .type "object"] "Exception.__new__" mg X.B) (hgm : X.B.Ns mainGlobals mg)
    (hlp : Has lp (.ints g) ro) (hgb : ∀ n ∈ g, 0 ≤ n ∧ n < 256) (hgz : g.length ≤ 500000) (hD : DictV X ob n G) (hn : n ≤ 1000000)
    (hJ : ∀ ob' u, DictV X ob' (n + 1) (fun x => if x = spot then some (decV (dec g)) else G x) → J ⟨locs2 v1 v2 v3 v4 v5 v6 v7 v8 v9 v10 v11 v12 v13 v14 v15 v16 v17 v18 v19 v20 (.ref lp) v22 (.ref lg) (.int (spot + (g.length + 1))) u v26 v27 v28, [c1, c2, (lg, .obj ob')]⟩) :
    TF X ro noE ⟨locs2 v1 v2 v3 v4 v5 v6 v7 v8 v9 v10 v11 v12 v13 v14 v15 v16 v17 v18 v19 v20 (.ref lp) v22 (.ref lg) (.int spot) v25 v26 v27 v28, [c1, c2, (lg, .obj ob)]⟩ (execs (forB (fBody stL)[16]?) (envOf "law" (fScope stL) X.L f cd)) (LoopQ Q J) := by
  cases hd : dec g with
  | none =>
    rw [hd] at hJ
    refine execs_cons' ?_
    refine Try' FR O hgm (by decide) ?_ (suite_none (by walk_at "m:put") ?_)
    · repeat' walk_at "m"
    · repeat' walk_at "m"
      rw [hd]
      show Op2 _ _ _ _ V.none V.none _ _
      repeat' walk_at "m"
      refine ⟨lg, ob, n, spot, G, rfl, rfl, hD, by omega, .tail (.tail .head), fun ob' h' => ⟨_, .tail (.tail .head), ?_⟩⟩
      repeat' walk_at "m"
      exact hJ _ _ h'
  | some res =>
    rw [hd] at hJ
    refine execs_cons' ?_
    refine TryN ?_
    repeat' walk_at "m"
    rw [hd]
    show Op2 _ _ _ _ (V.bytes res) (V.bytes res) _ _
    repeat' walk_at "m"
    · rename_i h
      exact absurd rfl h
    · refine ⟨lg, ob, n, spot, G, rfl, rfl, hD, by omega, .tail (.tail .head), fun ob' h' => ⟨_, .tail (.tail .head), ?_⟩⟩
      repeat' walk_at "m"
      exact hJ _ _ h'
end
section
local macro_rules | `(tactic| walk_at "m") => `(tactic| first
  | ((with_reducible show TV _ _ _ _ (eval (Expr.List [Expr.Name _ _] _) _) _); refine List' ?_)
  | ((with_reducible show TV _ _ _ _ (eval (Expr.Dict [] [] _) _) _); (refine dict_new (by assumption) ?_; intro _ _ _ _))
  | ((with_reducible show Op2 _ _ _ (binaryOp Operator.Add) (V.raw (Value.ref _)) (V.raw (Value.ref _)) _ _); (refine add_list' (by walk_at "m:kn") (by walk_at "m:kn") (by walk_at "m:arith") ?_; intro))
  | ((with_reducible show TV _ _ _ _ (eval (Expr.Call (Expr.Attribute (Expr.Name _ _) (Str.ofString "append") _) [Expr.Name _ _] _ _) _) _); first | (refine append_ints ?_; walk_at "m"; refine ⟨_, _, rfl, by walk_at "m:kn", ?_⟩; walk_at "m"; refine ⟨_, _, _, rfl, by walk_at "m:put", by walk_at "m:arith", ?_⟩) | (refine append_list' ?_; walk_at "m"; refine ⟨_, _, rfl, by walk_at "m:kn", ?_⟩; walk_at "m"; refine ⟨_, _, by walk_at "m:put", by walk_at "m:arith", ?_⟩)))
def cells (as : List Addr) (Bs : List (List Int)) : Led := as.zip (Bs.map Cell.ints)
theorem cells_snoc {as : List Addr} {Bs : List (List Int)} {a : Addr} {B : List Int} (h : as.length = Bs.length) : cells (as ++ [a]) (Bs ++ [B]) = cells as Bs ++ [(a, .ints B)] := by
  rw [cells, List.map_append, List.zip_append (by simpa using h)]; rfl
theorem span_take_succ {cs : List (List Int)} {i : Nat} {c : List Int} (h : cs[i]? = some c) : span (cs.take (i + 1)) = span (cs.take i) + (c.length + 1) := by
  rw [List.take_succ, h, span_app]; rfl
theorem span_lt {cs : List (List Int)} : ∀ {j i : Nat}, j < i → i ≤ cs.length → span (cs.take j) < span (cs.take i) := by
  intro j i hji hi
  obtain ⟨d, rfl⟩ : ∃ d, i = j + 1 + d := ⟨i - (j + 1), by omega⟩
  induction d with
  | zero =>
    have : cs[j]? = some cs[j] := List.getElem?_eq_getElem (by omega)
    rw [show j + 1 + 0 = j + 1 from rfl, span_take_succ this]; omega
  | succ d ih =>
    have h1 := ih (by omega) (by omega)
    have : cs[j + 1 + d]? = some (cs[j + 1 + d]'(by omega)) := List.getElem?_eq_getElem (by omega)
    rw [show j + 1 + (d + 1) = (j + 1 + d) + 1 by omega, span_take_succ this]; omega
def J12 (loc : V → V → List (Str × V)) (lpc : Addr) (stream : List Int) (i : Nat) (st : St) : Prop := ∃ (as : List Addr) (c : Addr) (ds : List (List Int)) (cur : List Int) (u : V),
  st = ⟨loc (.ref c) u, (c, .ints cur) :: (lpc, .list (as.map V.ref)) :: cells as ds⟩ ∧ as.length = ds.length ∧ splitGo ds cur (stream.drop i) = splitGo [] [] stream ∧ cur.length ≤ i ∧ as.length ≤ i
theorem up_piece {loc : V → V → List (Str × V)} {lpc c c' : Addr} {stream : List Int} {i : Nat} {as : List Addr} {ds : List (List Int)} {cur : List Int} {u : V} (hlen : as.length = ds.length) (hgo : splitGo (ds ++ [cur]) [] (stream.drop (i + 1)) = splitGo [] [] stream) (hai : as.length ≤ i) :
    Upto (J12 loc lpc stream (i + 1)) ⟨loc (.ref c') u, (c', .ints []) :: (c, .ints cur) :: (lpc, .list (as.map V.ref ++ [.ref c])) :: cells as ds⟩ := by
  refine ⟨_, (c', .ints []) :: (lpc, .list ((as ++ [c]).map V.ref)) :: cells (as ++ [c]) (ds ++ [cur]), .refl _, ?_, as ++ [c], c', ds ++ [cur], [], u, rfl, by simp [hlen], hgo, by simp, by simp; omega⟩
  rw [cells_snoc hlen, List.map_append]
  exact .cons _ (List.perm_append_singleton (c, Cell.ints cur) ((lpc, Cell.list (as.map V.ref ++ [c].map V.ref)) :: cells as ds)).symm
theorem splitGo_mem : ∀ (s : List Int) (done : List (List Int)) (cur : List Int) (P : Int → Prop), (∀ d ∈ done, ∀ n ∈ d, P n) → (∀ n ∈ cur, P n) → (∀ n ∈ s, P n) → ∀ d ∈ splitGo done cur s, ∀ n ∈ d, P n := by
  intro s
  induction s with
  | nil => intro done cur P h1 h2 _ d hd; rw [splitGo] at hd; rcases List.mem_append.mp hd with hd | hd; exact h1 d hd; rw [List.mem_singleton.mp hd]; exact h2
  | cons c s ih =>
    intro done cur P h1 h2 h3
    rw [splitGo]
    split
    · exact ih _ _ P h1 (fun n hn => (List.mem_append.mp hn).elim (h2 n) fun h => by rw [List.mem_singleton.mp h]; exact h3 c (.head _)) fun n hn => h3 n (.tail _ hn)
    · exact ih _ _ P (fun d hd => (List.mem_append.mp hd).elim (h1 d) fun h => by rw [List.mem_singleton.mp h]; exact h2) (by simp) fun n hn => h3 n (.tail _ hn)
theorem mem_span {cs : List (List Int)} {d : List Int} (h : d ∈ cs) : d.length + 1 ≤ span cs := by
  induction cs with
  | nil => cases h
  | cons c cs ih =>
    simp only [span, List.map_cons, List.sum_cons] at ih ⊢
    rcases List.mem_cons.mp h with rfl | h
    · omega
    · have := ih h; omega
set_option maxHeartbeats 8000000 in
theorem law2_f {X : Cx} {ro : Led} {f : Addr} {cd : Value} {fD fR : Addr} {oD oR : Obj} {fdD fdR : FuncData} {pmD cdD docD pmR cdR docR : Value} {fs : List Env} {C : Addr} {mg : Str → Option Value}
    {v1 v2 v4 v5 v6 v7 v10 v11 v12 v13 v15 v16 v17 v18 v19 : V} {lk lfs ls lm : Addr} {stream marks orig : List Int} {pf : List ((Addr × List Int) × (Addr × Int × Int))}
    (hh : X.A.handled = none) (hg : X.A.guards = some []) (hu : X.A.units + 64 < cLine) (hlim : X.B.NoLimit) (hroom : X.A.depth < recursionLimit)
    (g1 : Glo X "isinstance" (.builtin "isinstance")) (g2 : Glo X "str" (.type "str"))
    (g3 : Glo X "bytearray" (.type "bytearray")) (g4 : Glo X "bytes" (.type "bytes")) (g5 : Glo X "len" (.builtin "len")) (g6 : Glo X "list" (.type "list")) (g7 : Glo X "range" (.type "range")) (g8 : Glo X "zip" (.type "zip"))
    (gD : Glo X "decode" (.ref fD)) (gR : Glo X "_law_read" (.ref fR)) (FD : FnOk X.B fD "decode" (fParams stD) (fBody stD) (fScope stD) pmD cdD docD) (FRd : FnOk X.B fR "_law_read" (fParams stR) (fBody stR) (fScope stR) pmR cdR docR)
    (hoD : X.B.get? fD = some oD) (hdD : oD.data = .func fdD) (hoR : X.B.get? fR = some oR) (hdR : oR.data = .func fdR)
    (FR : FrOk X (envOf "law" (fScope stL) X.L f cd) fs) (O : OwnClsQ "DecodeError" C [.type "Exception", .type "BaseException", .type "object"] "Exception.__new__" mg X.B) (hgm : X.B.Ns mainGlobals mg)
    (hlk : Has lk (.list (pf.map fun q => V.ref q.1.1)) ro) (hlfs : Has lfs (.list (pf.map fun q => V.ref q.2.1)) ro)
    (hpf : ∀ q ∈ pf, Has q.1.1 (.ints q.1.2) ro ∧ (∀ n ∈ q.1.2, 0 ≤ n ∧ n < 256) ∧ q.1.2.length ≤ 10000 ∧ Has q.2.1 (.tup [.int q.2.2.1, .int q.2.2.2]) ro)
    (hL : Last orig stream marks pf) (hoz : orig.length ≤ 450000) (hls : Has ls (.ints stream) ro) (hlm : Has lm (.ints marks) ro) (hml : marks.length ≤ 450000) (hsb : ∀ n ∈ stream, 0 ≤ n ∧ n < 256) :
    TF X ro noE ⟨locs2 v1 v2 (.ref lk) v4 v5 v6 v7 (.ref ls) (.ref lfs) v10 v11 v12 v13 (.ref lm) v15 v16 v17 v18 v19 .unk .unk .unk .unk .unk .unk .unk .unk .unk, []⟩ (execs ((fBody stL).drop 10) (envOf "law" (fScope stL) X.L f cd)) (fun fl st' => fl = .ret (.bool true)) := by
  have hsl : stream.length ≤ 450000 := by rw [hL.tr.length]; exact hml
  refine execs_cons' ?_
  repeat' walk_at "m"
  with_reducible show ForOver _ _ _ _ _ _ _ _ _
  rename_i lpc lpi
  refine for_list (us := stream.map V.int) (J12 (fun a b => locs2 v1 v2 (.ref lk) v4 v5 v6 v7 (.ref ls) (.ref lfs) v10 v11 v12 v13 (.ref lm) v15 v16 v17 v18 v19 (.ref lpc) a b .unk .unk .unk .unk .unk .unk) lpc stream) .none hh ?_ ⟨[], lpi, [], [], .unk, rfl, rfl, rfl, by simp, by simp⟩ ?_ ?_
  · rintro i st' ⟨as, c, ds, cur, u, rfl, -⟩
    exact .inr hls
  · rintro i st' u hi ⟨as, c, ds, cur, u0, rfl, hlen, hgo, hcl, hal⟩
    rw [List.getElem?_map] at hi
    cases hx : stream[i]? with
    | none => rw [hx] at hi; cases hi
    | some n =>
    rw [hx] at hi; cases hi
    have hir : i < stream.length := (List.getElem?_eq_some_iff.mp hx).1
    have hdr : stream.drop i = n :: stream.drop (i + 1) := by
      rw [List.drop_eq_getElem_cons hir, (List.getElem?_eq_some_iff.mp hx).2]
    rw [hdr, splitGo] at hgo
    have hasz : (as.map V.ref).length = as.length := by simp
    refine tgt_name (by walk_at "m:put") ?_
    refine loop_upto ?_
    refine execs_cons' ?_
    repeat' walk_at "m"
    · rename_i h
      rw [if_pos h] at hgo
      exact Upto.of ⟨as, c, ds, cur ++ [n], .int n, rfl, hlen, hgo, by simp; omega, by omega⟩
    · rename_i h _
      rw [if_neg h] at hgo
      exact up_piece hlen hgo hal
  · rintro st' ⟨as, c, ds, cur, u0, rfl, hlen, hgo, hcl, hal⟩
    rw [List.length_map] at hgo hcl hal
    rw [List.drop_length, splitGo] at hgo
    have hasz : (as.map V.ref).length = as.length := by simp
    repeat' ((fail_if_success (with_reducible show TF _ _ _ _ (execs (Stmt.For _ _ _ _ _ :: _) _) _)); walk_at "m")
    rename_i lg ob hsm hDV
    have hperm : ∀ (x : Addr × Cell) (r : Led), (x :: r).Perm (r ++ [x]) := fun x r => (List.perm_append_singleton x r).symm
    refine TT.freeze (c := (c, .ints cur) :: (lpc, .list (as.map V.ref ++ [.ref c])) :: cells as ds) (own := [(lg, .obj ob)]) (fun _ _ _ _ _ h => h) (hperm _ _) ?_
    have hit : ∀ q ∈ (as ++ [c]).zip (ds ++ [cur]) ++ [(ls, stream)], Has q.1 (.ints q.2) (((c, .ints cur) :: (lpc, .list (as.map V.ref ++ [.ref c])) :: cells as ds) ++ ro) := fun q hq => by
      rcases List.mem_append.mp hq with hq | hq
      · rw [List.zip_append hlen] at hq
        rcases List.mem_append.mp hq with hq | hq
        · refine Has.app_left (.tail (.tail ?_))
          rw [cells, List.zip_map_right]
          exact Has.of_mem (List.mem_map.mpr ⟨q, hq, rfl⟩)
        · rw [List.mem_singleton.mp hq]; exact Has.app_left .head
      · rw [List.mem_singleton.mp hq]; exact hls.app_right
    have hcs : ((as ++ [c]).zip (ds ++ [cur]) ++ [(ls, stream)]).map (·.2) = ds ++ [cur] ++ [stream] := by
      rw [List.map_append, List.map_snd_zip (by simp; omega)]; rfl
    have hrf : ((as ++ [c]).zip (ds ++ [cur]) ++ [(ls, stream)]).map (fun q => V.ref q.1) = as.map V.ref ++ [.ref c] ++ [.ref ls] := by
      have : ((as ++ [c]).zip (ds ++ [cur])).map (fun q => V.ref q.1) = (as ++ [c]).map V.ref := by
        conv => rhs; rw [← List.map_fst_zip (l₁ := as ++ [c]) (l₂ := ds ++ [cur]) (by simp; omega)]
        rw [List.map_map]; rfl
      rw [List.map_append, this, List.map_append]; rfl
    have hitb : ∀ q ∈ (as ++ [c]).zip (ds ++ [cur]) ++ [(ls, stream)], (∀ n ∈ q.2, 0 ≤ n ∧ n < 256) ∧ q.2.length ≤ 450000 := fun q hq => by
      rcases List.mem_append.mp hq with hq | hq
      · have hm : q.2 ∈ splitGo [] [] stream := by rw [← hgo]; exact (List.of_mem_zip hq).2
        refine ⟨splitGo_mem stream [] [] (fun n => 0 ≤ n ∧ n < 256) (by simp) (by simp) hsb q.2 hm, ?_⟩
        have h1 := mem_span hm
        have h2 := span_split stream [] []
        simp [span] at h1 h2
        rw [h2] at h1
        omega
      · rw [List.mem_singleton.mp hq]; exact ⟨hsb, hsl⟩
    have hspan : span (ds ++ [cur] ++ [stream]) ≤ 1000000 := by
      have h2 := span_split stream [] []
      rw [span_app, hgo, h2]; simp [span]; omega
    generalize hI : (as ++ [c]).zip (ds ++ [cur]) ++ [(ls, stream)] = items at *
    have hil : items.length = as.length + 2 := by rw [← hI]; simp; omega
    have hlpc : Has lpc (.list (as.map V.ref ++ [.ref c])) (((c, .ints cur) :: (lpc, .list (as.map V.ref ++ [.ref c])) :: cells as ds) ++ ro) := Has.app_left (.tail .head)
    have k1 := hlk.app_right (l := (c, .ints cur) :: (lpc, .list (as.map V.ref ++ [.ref c])) :: cells as ds)
    have k2 := hlfs.app_right (l := (c, .ints cur) :: (lpc, .list (as.map V.ref ++ [.ref c])) :: cells as ds)
    have k3 := hls.app_right (l := (c, .ints cur) :: (lpc, .list (as.map V.ref ++ [.ref c])) :: cells as ds)
    have k4 := hlm.app_right (l := (c, .ints cur) :: (lpc, .list (as.map V.ref ++ [.ref c])) :: cells as ds)
    have k5 : ∀ q ∈ pf, Has q.1.1 (.ints q.1.2) (((c, .ints cur) :: (lpc, .list (as.map V.ref ++ [.ref c])) :: cells as ds) ++ ro) ∧ (∀ n ∈ q.1.2, 0 ≤ n ∧ n < 256) ∧ q.1.2.length ≤ 10000 ∧ Has q.2.1 (.tup [.int q.2.2.1, .int q.2.2.2]) (((c, .ints cur) :: (lpc, .list (as.map V.ref ++ [.ref c])) :: cells as ds) ++ ro) :=
      fun q hq => let ⟨a1, a2, a3, a4⟩ := hpf q hq; ⟨a1.app_right, a2, a3, a4.app_right⟩
    generalize ((c, Cell.ints cur) :: (lpc, Cell.list (as.map V.ref ++ [V.ref c])) :: cells as ds) ++ ro = ro' at *
    refine execs_cons' ?_
    refine ForO ?_
    repeat' walk_at "m"
    rename_i lone lsum
    refine for_list (us := as.map V.ref ++ [.ref c] ++ [.ref ls]) (fun i st => ∃ (ob : Obj) (G : Int → Option V) (u w : V), st = ⟨locs2 v1 v2 (.ref lk) v4 v5 v6 v7 (.ref ls) (.ref lfs) v10 v11 v12 v13 (.ref lm) v15 v16 v17 v18 v19 (.ref lpc) u u0 (.ref lg) (.int (span ((ds ++ [cur] ++ [stream]).take i))) w .unk .unk .unk,
        [(lsum, .list (as.map V.ref ++ [.ref c] ++ [.ref ls])), (lone, .list [.ref ls]), (lg, .obj ob)]⟩ ∧ DictV X ob i G ∧ ∀ j d, j < i → (ds ++ [cur] ++ [stream])[j]? = some d → G (span ((ds ++ [cur] ++ [stream]).take j)) = some (decV (dec d))) .none hh ?_ ⟨ob, _, _, _, rfl, hDV, fun j d hj => absurd hj (by omega)⟩ ?_ ?_
    · rintro i st' ⟨ob, G, u, w, rfl, -⟩
      exact .inl .head
    · rintro i st' u1 hi ⟨ob, G, u, w, rfl, hD, hGs⟩
      rw [← hrf, List.getElem?_map] at hi
      cases hx : items[i]? with
      | none => rw [hx] at hi; cases hi
      | some q =>
      rw [hx] at hi; cases hi
      have hii : i < items.length := (List.getElem?_eq_some_iff.mp hx).1
      obtain ⟨qb, qz⟩ := hitb q (List.mem_of_getElem? hx)
      have hci : (ds ++ [cur] ++ [stream])[i]? = some q.2 := by rw [← hcs, List.getElem?_map, hx]; rfl
      have hcl2 : (ds ++ [cur] ++ [stream]).length = items.length := by rw [← hcs, List.length_map]
      have hss := span_take_succ hci
      refine tgt_name (by walk_at "m:put") ?_
      refine turnF hh hg hlim hroom g1 g2 g3 g4 g5 gD gR FD FRd hoD hdD hoR hdR FR O hgm (hit q (List.mem_of_getElem? hx)) qb (by omega) hD (by omega) fun ob' w' hD' => ⟨ob', _, .ref q.1, w', ?_, hD', fun j d hj hd => ?_⟩
      · rw [hss]; simp
      · by_cases hji : j = i
        · subst hji
          rw [hci] at hd
          cases hd
          rw [if_pos rfl]
        · have := span_lt (cs := ds ++ [cur] ++ [stream]) (show j < i by omega) (by omega)
          rw [if_neg (by omega)]
          exact hGs j d (by omega) hd
    · rintro st' ⟨ob, G, u, w, rfl, hD, hGs⟩
      refine freeze_all (fun _ _ _ _ _ h => h) ?_
      refine law2_h hh hu g4 g5 g6 g7 g8 k1.app_right k2.app_right (fun q hq => let ⟨a1, a2, a3, a4⟩ := k5 q hq; ⟨a1.app_right, a2, a3, a4.app_right⟩) hL (by omega) k3.app_right k4.app_right (by omega) hsm hD (Has.app_left (.tail (.tail .head))) fun done S rest e => ?_
      have hj : (ds ++ [cur] ++ [stream])[done.length]? = some S := by
        rw [hgo, e, List.append_assoc, List.getElem?_append_right (Nat.le_refl _), Nat.sub_self]; rfl
      have hlt : done.length < (as.map V.ref ++ [V.ref c] ++ [V.ref ls]).length := by
        have h1 := (List.getElem?_eq_some_iff.mp hj).1
        rw [← hrf, List.length_map]
        rw [← hcs, List.length_map] at h1
        exact h1
      have := hGs done.length S hlt hj
      rw [show (ds ++ [cur] ++ [stream]).take done.length = done by rw [hgo, e, List.append_assoc, List.take_left]] at this
      exact this
end
section
local macro_rules | `(tactic| walk_at "m") => `(tactic| first
  | ((with_reducible show Op2 _ _ _ (binaryOp Operator.Mult) (V.raw (Value.ref _)) (V.int _) _ _); (refine mul_ints' (by walk_at "m:kn") (by assumption) (by assumption) ?_; intro))
  | ((with_reducible show Sub _ _ _ (V.raw (Value.ref _)) (V.int _) _ _); refine sub_ints (by walk_at "m:kn") (by assumption) (by assumption) (by assumption) ?_)
  | ((with_reducible show OpN _ _ _ (fun vs => call (Value.type "range") vs) [V.int _] _ _); (refine list_range1 (by assumption) (by omega) (by omega) ?_; intro)))
theorem Tr.init : ∀ (s : List Int), Tr s s (rng 0 s.length) := by
  intro s
  have key : ∀ (r pre : List Int), Tr (pre ++ r) r (rng pre.length (pre.length + r.length)) := by
    intro r
    induction r with
    | nil => intro pre; rw [show rng (pre.length : Int) (pre.length + ([] : List Int).length) = [] by simp [rng]]; exact .nil
    | cons c r ih =>
      intro pre
      have e : rng (pre.length : Int) (pre.length + (c :: r).length) = (pre.length : Int) :: rng ((pre ++ [c]).length : Int) ((pre ++ [c]).length + r.length) := by
        simp only [rng, List.length_cons, List.length_append, List.length_nil]
        rw [show (((pre.length : Int) + ((r.length + 1 : Nat) : Int)) - (pre.length : Int)).toNat = r.length + 1 by omega, List.range_succ_eq_map, List.map_cons, List.map_map]
        rw [show ((((pre.length + (0 + 1) : Nat) : Int) + (r.length : Int)) - ((pre.length + (0 + 1) : Nat) : Int)).toNat = r.length by omega]
        have h0 : (pre.length : Int) + ((0 : Nat) : Int) = pre.length := by omega
        rw [h0]
        refine congrArg _ ?_
        · apply List.map_congr_left
          intro i _
          simp only [Function.comp, Nat.succ_eq_add_one]
          omega
      rw [e]
      refine .cons (fun _ => by simp) ?_
      have := ih (pre ++ [c])
      rw [List.append_assoc] at this
      exact this
  have := key s []
  simpa using this
def J9 (loc : V → V → V → V → V → V → V → List (Str × V)) (orig : List Int) (n : Nat) (i : Nat) (st : St) : Prop := ∃ (ls lm : Addr) (s m : List Int) (a b c d e : V),
  st = ⟨loc (.ref ls) (.ref lm) a b c d e, [(lm, .ints m), (ls, .ints s)]⟩ ∧ Tr orig s m ∧ (∀ x ∈ s, 0 ≤ x ∧ x < 256) ∧ s.length ≤ orig.length + i ∧ n + 2 ≤ s.length + i
theorem slice_lens {α : Type} {s : List α} {p q : Int} (h0 : 0 ≤ p) (h1 : p < s.length) (h2 : q = p ∨ q = p + 1) : (pslice none (some p) s).length = p.toNat ∧ (pslice (some q) none s).length = s.length - q.toNat := by
  obtain ⟨k, rfl⟩ := Int.eq_ofNat_of_zero_le h0
  obtain ⟨j, rfl⟩ := Int.eq_ofNat_of_zero_le (show 0 ≤ q by rcases h2 with rfl | rfl <;> omega)
  clear h2
  have h1' := Int.ofNat_lt.mp h1
  constructor
  · rw [pslice, List.length_take, List.length_drop, clip_nat]
    show min (min k s.length - 0) (s.length - 0) = k
    rw [Nat.sub_zero, Nat.sub_zero, Nat.min_assoc, Nat.min_self, Nat.min_eq_left (Nat.le_of_lt h1')]
  · rw [pslice, List.length_take, List.length_drop, clip_nat]
    show min (s.length - min j s.length) (s.length - min j s.length) = s.length - j
    rw [Nat.min_self]; clear h1 h1' h0; omega
theorem mod256 (y : Int) : 0 ≤ y % 256 ∧ y % 256 < 256 := ⟨Int.emod_nonneg _ (by decide), Int.emod_lt_of_pos _ (by decide)⟩
theorem rep1 (P : List Int) : (List.replicate (P.length : Int).toNat [(-1 : Int)]).flatten.length = P.length := by simp
theorem Tr.put {orig : List Int} : ∀ {P : List Int}, P.length ≤ 1 → Tr orig P (List.replicate (P.length : Int).toNat [(-1 : Int)]).flatten
  | [], _ => .nil
  | [_], _ => .cons (fun h => absurd h (by decide)) .nil
  | _ :: _ :: _, h => absurd h (by simp)
theorem cut_ok {s P : List Int} {lo hi : Option Int} (hs : s.length ≤ 1000000) (hP : P.length ≤ 1) : (pslice none lo s).length + P.length ≤ 16777216 ∧ (pslice none lo s ++ P).length + (pslice hi none s).length ≤ 16777216 := by
  have h1 := pslice_length_le none lo s
  have h2 := pslice_length_le hi none s
  rw [List.length_append]
  omega
theorem cut_len {s P : List Int} {p q : Int} {a b : Nat} (h0 : 0 ≤ p) (h1 : p < s.length) (h2 : q = p ∨ q = p + 1) (hP : P.length ≤ 1) (hs1 : s.length ≤ a) (hs2 : b + 1 ≤ s.length) :
    (pslice none (some p) s ++ P ++ pslice (some q) none s).length ≤ a + 1 ∧ b ≤ (pslice none (some p) s ++ P ++ pslice (some q) none s).length := by
  obtain ⟨e1, e2⟩ := slice_lens (s := s) h0 h1 h2
  rw [List.length_append, List.length_append, e1, e2]
  omega
theorem idx_ok {i n : Nat} (h : i < n) (hn : n ≤ 24) : (-4294967296 ≤ (i : Int) ∧ (i : Int) < 4294967296) ∧ -(n : Int) ≤ i ∧ (-4294967296 ≤ -1 - (i : Int) ∧ -1 - (i : Int) < 4294967296) ∧ -(n : Int) ≤ -1 - (i : Int) := by omega
theorem pslice_b {s : List Int} (h : ∀ x ∈ s, 0 ≤ x ∧ x < 256) (lo hi : Option Int) : ∀ x ∈ pslice lo hi s, 0 ≤ x ∧ x < 256 := fun x hx => h x (List.mem_of_mem_drop (List.mem_of_mem_take hx))
set_option maxHeartbeats 8000000 in
theorem law2_e {X : Cx} {ro : Led} {f : Addr} {cd : Value} {fD fR : Addr} {oD oR : Obj} {fdD fdR : FuncData} {pmD cdD docD pmR cdR docR : Value} {fs : List Env} {C : Addr} {mg : Str → Option Value}
    {v1 v4 v5 v6 v7 v10 v11 v12 v13 : V} {ln lk lfs ls : Addr} {N orig : List Int} {pf : List ((Addr × List Int) × (Addr × Int × Int))}
    (hh : X.A.handled = none) (hg : X.A.guards = some []) (hu : X.A.units + 64 < cLine) (hlim : X.B.NoLimit) (hroom : X.A.depth < recursionLimit)
    (g1 : Glo X "isinstance" (.builtin "isinstance")) (g2 : Glo X "str" (.type "str"))
    (g3 : Glo X "bytearray" (.type "bytearray")) (g4 : Glo X "bytes" (.type "bytes")) (g5 : Glo X "len" (.builtin "len")) (g6 : Glo X "list" (.type "list")) (g7 : Glo X "range" (.type "range")) (g8 : Glo X "zip" (.type "zip")) (g9 : Glo X "min" (.builtin "min"))
    (gD : Glo X "decode" (.ref fD)) (gR : Glo X "_law_read" (.ref fR)) (FD : FnOk X.B fD "decode" (fParams stD) (fBody stD) (fScope stD) pmD cdD docD) (FRd : FnOk X.B fR "_law_read" (fParams stR) (fBody stR) (fScope stR) pmR cdR docR)
    (hoD : X.B.get? fD = some oD) (hdD : oD.data = .func fdD) (hoR : X.B.get? fR = some oR) (hdR : oR.data = .func fdR)
    (FR : FrOk X (envOf "law" (fScope stL) X.L f cd) fs) (O : OwnClsQ "DecodeError" C [.type "Exception", .type "BaseException", .type "object"] "Exception.__new__" mg X.B) (hgm : X.B.Ns mainGlobals mg)
    (hln : Has ln (.ints N) ro) (hN : N.length ≤ 24) (hN1 : 1 ≤ N.length)
    (hlk : Has lk (.list (pf.map fun q => V.ref q.1.1)) ro) (hlfs : Has lfs (.list (pf.map fun q => V.ref q.2.1)) ro)
    (hpf : ∀ q ∈ pf, Has q.1.1 (.ints q.1.2) ro ∧ (∀ n ∈ q.1.2, 0 ≤ n ∧ n < 256) ∧ q.1.2.length ≤ 10000 ∧ Has q.2.1 (.tup [.int q.2.2.1, .int q.2.2.2]) ro)
    (hfr : ∀ q ∈ pf, ∃ A C, orig = A ++ enc q.1.2 ++ C ∧ q.2.2.1 = A.length ∧ q.2.2.2 = A.length + (enc q.1.2).length)
    (hoz : orig.length ≤ 400000) (hol : N.length + 2 ≤ orig.length) (hob : ∀ n ∈ orig, 0 ≤ n ∧ n < 256) :
    TF X ro noE ⟨locs2 v1 (.ref ln) (.ref lk) v4 v5 v6 v7 (.ref ls) (.ref lfs) v10 v11 v12 v13 .unk .unk .unk .unk .unk .unk .unk .unk .unk .unk .unk .unk .unk .unk .unk, [(ls, .ints orig)]⟩ (execs ((fBody stL).drop 8) (envOf "law" (fScope stL) X.L f cd)) (fun fl st' => fl = .ret (.bool true)) := by
  refine execs_cons' ?_
  repeat' walk_at "m"
  rename_i lm
  have hmin : min 3 (N.length : Int) ≤ 3 ∧ min 3 (N.length : Int) ≤ N.length ∧ 1 ≤ min 3 (N.length : Int) := by omega
  refine for_range1 (J9 (fun s m a b c d e => locs2 v1 (.ref ln) (.ref lk) v4 v5 v6 v7 s (.ref lfs) v10 v11 v12 v13 m a b c d e .unk .unk .unk .unk .unk .unk .unk .unk .unk) orig N.length) .none hh (by omega) ⟨ls, lm, orig, rng 0 orig.length, .unk, .unk, .unk, .unk, .unk, rfl, Tr.init orig, hob, by omega, by omega⟩ ?_ ?_
  · rintro i st' hi ⟨ls', lm', s, m, a, b, c, d, e, rfl, hT, hsb, hs1, hs2⟩
    have hml := hT.length
    have hiN : i < N.length ∧ i < 3 := by omega
    obtain ⟨k1, k2, k3, k4⟩ := idx_ok hiN.1 hN
    obtain ⟨x, hx⟩ : ∃ x, N[pidx (i : Int) N.length]? = some x := ⟨_, List.getElem?_eq_getElem (by rw [pidx, if_neg (by omega)]; exact hiN.1)⟩
    obtain ⟨y, hy⟩ : ∃ y, N[pidx (-1 - (i : Int)) N.length]? = some y := ⟨_, List.getElem?_eq_getElem (by rw [pidx, if_pos (by omega)]; omega)⟩
    have hs0 : 0 < s.length := by omega
    have hsl : s.length ≤ 1000000 := by omega
    have hml1 : m.length ≤ 1000000 := by rw [← hml]; exact hsl
    have hsl2 : s.length ≤ 16777216 := Nat.le_trans hsl (by decide)
    have hml2 : m.length ≤ 16777216 := Nat.le_trans hml1 (by decide)
    have hsne : (s.length : Int) ≠ 0 := by omega
    have hb1 : orig.length + (i + 1) = orig.length + i + 1 := rfl
    refine tgt_name (by walk_at "m:put") ?_
    refine loop_upto ?_
    refine execs_cons' ?_
    repeat' ((fail_if_success (with_reducible show TF _ _ _ _ (execs (Stmt.Assign _ (Expr.IfExp _ _ _ _) _ :: _) _) _)); walk_at "m")
    generalize hpe : (x / 24 + y / 256) % (s.length : Int) = p
    have hp0 : 0 ≤ p := by rw [← hpe]; exact Int.emod_nonneg _ hsne
    have hp1 : p < s.length := by rw [← hpe]; exact Int.emod_lt_of_pos _ (by omega)
    refine step_up (fun st => ∃ (lq : Addr) (P : List Int), st = ⟨locs2 v1 (.ref ln) (.ref lk) v4 v5 v6 v7 (.ref ls') (.ref lfs) v10 v11 v12 v13 (.ref lm') (.int i) (.int (x / 6 % 4)) (.int p) (.ref lq) e .unk .unk .unk .unk .unk .unk .unk .unk .unk, [(lq, .ints P), (lm', .ints m), (ls', .ints s)]⟩ ∧ P.length ≤ 1 ∧ ∀ n ∈ P, 0 ≤ n ∧ n < 256) ?_ ?_
    · repeat' walk_at "m"
      · exact ⟨rfl, Upto.of ⟨_, [y % 256], rfl, by simp, one_b (mod256 y)⟩⟩
      · exact ⟨rfl, Upto.of ⟨_, [], rfl, by simp, fun n hn => nomatch hn⟩⟩
    rintro st' ⟨lq, P, rfl, hP, hPb⟩
    refine step_up (fun st => ∃ (q : Int), st = ⟨locs2 v1 (.ref ln) (.ref lk) v4 v5 v6 v7 (.ref ls') (.ref lfs) v10 v11 v12 v13 (.ref lm') (.int i) (.int (x / 6 % 4)) (.int p) (.ref lq) (.int q) .unk .unk .unk .unk .unk .unk .unk .unk .unk, [(lq, .ints P), (lm', .ints m), (ls', .ints s)]⟩ ∧ (q = p ∨ q = p + 1)) ?_ ?_
    · repeat' walk_at "m"
      all_goals first
        | exact ⟨rfl, Upto.of ⟨_, rfl, .inl rfl⟩⟩
        | exact ⟨rfl, Upto.of ⟨_, rfl, .inr rfl⟩⟩
    rintro st' ⟨q, rfl, hq⟩
    obtain ⟨c1, c2⟩ := cut_ok (s := s) (lo := some p) (hi := some q) hsl hP
    have hR := rep1 P
    obtain ⟨c3, c4⟩ := cut_ok (s := m) (P := (List.replicate (P.length : Int).toNat [(-1 : Int)]).flatten) (lo := some p) (hi := some q) hml1 (by rw [hR]; exact hP)
    have r1 : 0 ≤ (P.length : Int) ∧ (P.length : Int) < 4294967296 := by omega
    have r2 : [(-1 : Int)].length * (P.length : Int).toNat ≤ 16777216 := by simp; omega
    have r3 : P.length ≤ 16777216 := by omega
    obtain ⟨c5, c6⟩ := cut_len (s := s) hp0 hp1 hq hP hs1 (b := s.length - 1) (by omega)
    refine execs_cons' ?_
    repeat' walk_at "m"
    exact ⟨_, _, .cons₂ _ (.cons _ (.cons _ (.cons _ (.cons _ (.cons _ (.cons₂ _ (List.nil_sublist _))))))), .refl _, _, _, _, _, _, _, _, _, _, rfl, ((hT.slice _ _).append (Tr.put hP)).append (hT.slice _ _), app_b (app_b (pslice_b hsb _ _) hPb) (pslice_b hsb _ _), c5, by omega⟩
  · rintro st' ⟨ls', lm', s, m, a, b, c, d, e, rfl, hT, hsb, hs1, hs2⟩
    have hml := hT.length
    refine freeze_all (fun _ _ _ _ _ h => h) ?_
    exact law2_f hh hg hu hlim hroom g1 g2 g3 g4 g5 g6 g7 g8 gD gR FD FRd hoD hdD hoR hdR FR O hgm hlk.app_right hlfs.app_right (fun q hq => let ⟨a1, a2, a3, a4⟩ := hpf q hq; ⟨a1.app_right, a2, a3, a4.app_right⟩) ⟨hT, fun n hn => (hsb n hn).1, hfr⟩ (by omega) (Has.app_left (.tail .head)) (Has.app_left .head) (by omega) hsb
end
section
theorem get_lastI {α : Type} (d : List α) (k : α) : (d ++ [k])[pidx (-1) (d ++ [k]).length]? = some k := by
  have e : pidx (-1) (d ++ [k]).length = d.length := by simp [pidx]; omega
  rw [e]; simp
def strm (ps : List (List Int)) : List Int := (ps.map fun p => enc p ++ [0]).flatten
theorem strm_snoc (ps : List (List Int)) (p : List Int) : strm (ps ++ [p]) = strm ps ++ (enc p ++ [0]) := by simp [strm]
theorem strm_app (a b : List (List Int)) : strm (a ++ b) = strm a ++ strm b := by simp [strm]
theorem strm_len_le {ps : List (List Int)} (h : ∀ p ∈ ps, p.length ≤ 6500) : (strm ps).length ≤ 13002 * ps.length := by
  induction ps with
  | nil => simp [strm]
  | cons p ps ih =>
    have h1 := ih fun q hq => h q (.tail _ hq)
    have h2 := h p (.head _)
    have h3 := enc_len p
    simp only [strm, List.map_cons, List.flatten_cons, List.length_append, List.length_cons, List.length_nil] at h1 ⊢
    omega
theorem enc_len_ge (p : List Int) : p.length + 1 ≤ (enc p).length := by
  have := enc_length p
  have h2 : 1 ≤ longer (runsP ([], 0) p) := by
    unfold longer
    have hs : 0 ≤ ((runsP ([], 0) p).1.map (· / 254)).sum := by
      have key : ∀ (r d : List Int) (k : Int), (∀ x ∈ d, 0 ≤ x) → 0 ≤ k → (∀ x ∈ (runsP (d, k) r).1, 0 ≤ x) := by
        intro r
        induction r with
        | nil => intro d k h _; exact h
        | cons c r ih =>
          intro d k h hk
          rw [runsP]
          split
          · exact ih _ _ (fun x hx => (List.mem_append.mp hx).elim (h x) fun e => by rw [List.mem_singleton.mp e]; exact hk) (by omega)
          · exact ih _ _ h (by omega)
      have hk := key p [] 0 (by simp) (by omega)
      generalize (runsP ([], 0) p).1 = D at hk
      induction D with
      | nil => simp
      | cons x D ih =>
        have := ih fun y hy => hk y (.tail _ hy)
        have h1 := hk x (.head _)
        simp only [List.map_cons, List.sum_cons]
        omega
    omega
  omega
theorem strm_len_ge {ps : List (List Int)} : (ps.map List.length).sum + 2 * ps.length ≤ (strm ps).length := by
  induction ps with
  | nil => simp [strm]
  | cons p ps ih =>
    have h3 := enc_len_ge p
    simp only [strm, List.map_cons, List.flatten_cons, List.length_append, List.length_cons, List.length_nil, List.sum_cons] at ih ⊢
    omega
theorem strm_bytes {ps : List (List Int)} (h : ∀ p ∈ ps, ∀ n ∈ p, 0 ≤ n ∧ n < 256) : ∀ n ∈ strm ps, 0 ≤ n ∧ n < 256 := by
  intro n hn
  simp only [strm, List.mem_flatten, List.mem_map] at hn
  obtain ⟨_, ⟨p, hp, rfl⟩, hn⟩ := hn
  rcases List.mem_append.mp hn with hn | hn
  · exact enc_bytes (h p hp) n hn
  · rw [List.mem_singleton.mp hn]; omega
abbrev tcells (ts : List (Addr × Int × Int)) : Led := ts.map fun q => (q.1, Cell.tup [.int q.2.1, .int q.2.2])
def J7 (loc : V → V → V → V → List (Str × V)) (ls lf : Addr) (ps : List (List Int)) (i : Nat) (st : St) : Prop := ∃ (ts : List (Addr × Int × Int)) (a b c d : V),
  st = ⟨loc a b c d, (ls, .ints (strm (ps.take i))) :: (lf, .list (ts.map fun q => V.ref q.1)) :: tcells ts⟩ ∧ ts.length = i ∧
    ∀ j t p, ts[j]? = some t → ps[j]? = some p → t.2.1 = ((strm (ps.take j)).length : Int) ∧ t.2.2 = ((strm (ps.take j)).length : Int) + ((enc p).length : Int)
theorem up_frame {loc : V → V → V → V → List (Str × V)} {ls lf l1 l2 lt lc : Addr} {x1 x2 x3 : Cell} {ps : List (List Int)} {i : Nat} {p : List Int} {ts : List (Addr × Int × Int)} {a b c d : V} {f0 f1 : Int} (hp : ps[i]? = some p) (hts : ts.length = i) (hf0 : f0 = ((strm (ps.take i)).length : Int)) (hf1 : f1 = ((strm (ps.take i)).length : Int) + ((enc p).length : Int))
    (hin : ∀ j t p, ts[j]? = some t → ps[j]? = some p → t.2.1 = ((strm (ps.take j)).length : Int) ∧ t.2.2 = ((strm (ps.take j)).length : Int) + ((enc p).length : Int)) :
    Upto (J7 loc ls lf ps (i + 1)) ⟨loc a b c d, (l2, x2) :: (l1, x1) :: (lt, .tup [.int f0, .int f1]) :: (lc, x3) :: (ls, .ints (strm (ps.take i) ++ (enc p ++ [0]))) :: (lf, .list ((ts.map fun q => V.ref q.1) ++ [.ref lt])) :: tcells ts⟩ := by
  have e1 : strm (ps.take (i + 1)) = strm (ps.take i) ++ (enc p ++ [0]) := by rw [List.take_succ, hp]; exact strm_snoc _ _
  refine ⟨(lt, .tup [.int f0, .int f1]) :: (ls, .ints (strm (ps.take i) ++ (enc p ++ [0]))) :: (lf, .list ((ts.map fun q => V.ref q.1) ++ [.ref lt])) :: tcells ts,
    (ls, .ints (strm (ps.take (i + 1)))) :: (lf, .list ((ts ++ [(lt, f0, f1)]).map fun q => V.ref q.1)) :: tcells (ts ++ [(lt, f0, f1)]), .cons _ (.cons _ (.cons₂ _ (.cons _ (.refl _)))), ?_, ts ++ [(lt, f0, f1)], a, b, c, d, rfl, by simp [hts], ?_⟩
  · rw [e1]
    simp only [tcells, List.map_append, List.map_cons, List.map_nil]
    exact (List.perm_append_singleton (lt, Cell.tup [.int f0, .int f1]) ((ls, Cell.ints (strm (ps.take i) ++ (enc p ++ [0]))) :: (lf, Cell.list ((ts.map fun q => V.ref q.1) ++ [.ref lt])) :: tcells ts)).symm
  · intro j t p' ht hp'
    by_cases hj : j < ts.length
    · rw [List.getElem?_append_left hj] at ht
      exact hin j t p' ht hp'
    · have hji : j = i := by
        have := (List.getElem?_eq_some_iff.mp ht).1
        simp at this; omega
      subst hji
      rw [List.getElem?_append_right (by omega), hts, Nat.sub_self] at ht
      cases ht
      rw [hp] at hp'
      cases hp'
      exact ⟨hf0, hf1⟩
local macro_rules | `(tactic| walk_at "m:call") => `(tactic| first
  | refine call_enc (by assumption) (by assumption) (by assumption) (by assumption) (by assumption) (by assumption) (by assumption) (by assumption) (by assumption) (by assumption) (by walk_at "m:arith") ?_)
local macro_rules | `(tactic| walk_at "m") => `(tactic| first
  | ((with_reducible show TV _ _ _ _ (eval (Expr.Call (Expr.Attribute (Expr.Name _ _) (Str.ofString "append") _) [Expr.Tuple _ _ _] _ _) _) _); (refine append_list' ?_; walk_at "m"; refine ⟨_, _, rfl, by walk_at "m:kn", ?_⟩)))
set_option maxHeartbeats 8000000 in
theorem turn7 {X : Cx} {ro : Led} {f : Addr} {cd : Value} {fE : Addr} {oE : Obj} {fdE : FuncData} {pmE cdE docE : Value}
    {v1 v2 v3 v4 v5 v6 v7 v12 v13 : V} {lp lr ls lf : Addr} {p d : List Int} {k : Int} {ps : List (List Int)} {i : Nat} {ts : List (Addr × Int × Int)} {Q : Fl → St → Prop}
    (hh : X.A.handled = none) (hg : X.A.guards = some []) (hlim : X.B.NoLimit) (hroom : X.A.depth < recursionLimit)
    (g1 : Glo X "isinstance" (.builtin "isinstance")) (g2 : Glo X "str" (.type "str"))
    (g3 : Glo X "bytearray" (.type "bytearray")) (g4 : Glo X "bytes" (.type "bytes")) (g5 : Glo X "len" (.builtin "len")) (g6 : Glo X "list" (.type "list")) (g8 : Glo X "sum" (.builtin "sum")) (g9 : Glo X "max" (.builtin "max"))
    (gE : Glo X "encode" (.ref fE)) (FE : FnOk X.B fE "encode" (fParams stE) (fBody stE) (fScope stE) pmE cdE docE) (hoE : X.B.get? fE = some oE) (hdE : oE.data = .func fdE)
    (hlp : Has lp (.ints p) ro) (hlr : Has lr (.ints (d ++ [k])) ro) (hpb : ∀ n ∈ p, 0 ≤ n ∧ n < 256) (hpz : p.length ≤ 6500) (hd : runsP ([], 0) p = (d, k)) (hdl : d.length ≤ 6500)
    (hbd : ∀ x ∈ d, 0 ≤ x ∧ x ≤ 1000000) (hk0 : 0 ≤ k ∧ k ≤ 1000000) (hp : ps[i]? = some p) (hts : ts.length = i) (hi : i ≤ 30) (hsz : (strm (ps.take i)).length ≤ 400000)
    (hin : ∀ j t p, ts[j]? = some t → ps[j]? = some p → t.2.1 = ((strm (ps.take j)).length : Int) ∧ t.2.2 = ((strm (ps.take j)).length : Int) + ((enc p).length : Int)) :
    TF X ro noE ⟨locs2 v1 v2 v3 v4 v5 v6 v7 (.ref ls) (.ref lf) (.ref lp) (.ref lr) v12 v13 .unk .unk .unk .unk .unk .unk .unk .unk .unk .unk .unk .unk .unk .unk .unk, (ls, .ints (strm (ps.take i))) :: (lf, .list (ts.map fun q => V.ref q.1)) :: tcells ts⟩
      (execs (forB (fBody stL)[7]?) (envOf "law" (fScope stL) X.L f cd)) (LoopQ Q (J7 (fun a b c d => locs2 v1 v2 v3 v4 v5 v6 v7 (.ref ls) (.ref lf) a b c d .unk .unk .unk .unk .unk .unk .unk .unk .unk .unk .unk .unk .unk .unk .unk) ls lf ps (i + 1))) := by
  have heb := enc_pos hpb
  have hel := enc_len p
  have hEl := enc_length p
  rw [hd] at hEl
  have hx := get_lastI d k
  have hsb : pslice none (some (-1)) (d ++ [k]) = d := slice_but1 d k
  have hsum : ∀ n ∈ (pslice none (some (-1)) (d ++ [k])).map fun x => x / 254, 0 ≤ n ∧ n ≤ 1073741824 := by
    rw [hsb]
    intro n hn
    obtain ⟨x, hx, rfl⟩ := List.mem_map.mp hn
    have := hbd x hx
    omega
  have hsl : ((pslice none (some (-1)) (d ++ [k])).map fun x => x / 254).length ≤ 6500 := by rw [hsb, List.length_map]; exact hdl
  have htl : (ts.map fun q => V.ref q.1).length ≤ 30 := by rw [List.length_map]; omega
  refine loop_upto ?_
  refine execs_cons' ?_
  repeat' walk_at "m"
  · exfalso
    rename_i h
    have := heb 0 h
    omega
  · exfalso
    rename_i h
    refine h ?_
    rw [hEl, longer, hsb]
  · exact up_frame hp hts rfl rfl hin
end
section
theorem runs_bnd : ∀ (r : List Int) (d : List Int) (k M : Int), (∀ x ∈ d, 0 ≤ x ∧ x ≤ M) → 0 ≤ k → k ≤ M → (∀ x ∈ (runsP (d, k) r).1, 0 ≤ x ∧ x ≤ M + r.length) ∧ 0 ≤ (runsP (d, k) r).2 ∧ (runsP (d, k) r).2 ≤ M + r.length ∧ (runsP (d, k) r).1.length ≤ d.length + r.length := by
  intro r
  induction r with
  | nil => intro d k M h1 h2 h3; simpa [runsP] using ⟨h1, h2, h3⟩
  | cons c r ih =>
    intro d k M h1 h2 h3
    rw [runsP]
    have e : M + ((c :: r).length : Int) = (M + 1) + r.length := by simp; omega
    rw [e]
    split
    · have := ih (d ++ [k]) 0 (M + 1) (fun x hx => by
        rcases List.mem_append.mp hx with hx | hx
        · have := h1 x hx; omega
        · have := List.mem_singleton.mp hx; omega) (by omega) (by omega)
      refine ⟨this.1, this.2.1, this.2.2.1, ?_⟩
      have h4 := this.2.2.2
      simp at h4 ⊢; omega
    · have := ih d (k + 1) (M + 1) (fun x hx => by have := h1 x hx; omega) (by omega) (by omega)
      refine ⟨this.1, this.2.1, this.2.2.1, ?_⟩
      have h4 := this.2.2.2
      simp at h4 ⊢; omega
theorem OpN.perm {X : Cx} {ro : Led} {E : Er} {st : St} {f : List Value → Sem Value} {us : List V} {own' : Led} {Q : V → St → Prop} (hp : st.own.Perm own') (h : OpN X ro E f us { st with own := own' } Q) : OpN X ro E f us st Q := fun vs hv => TT.perm hp (h vs hv)
/-- packets and their runs -/
def RunsOk (p D : List Int) : Prop := ∃ d k, D = d ++ [k] ∧ runsP ([], 0) p = (d, k)
set_option maxHeartbeats 8000000 in
theorem law2_d {X : Cx} {ro : Led} {f : Addr} {cd : Value} {fE fD fR : Addr} {oE oD oR : Obj} {fdE fdD fdR : FuncData} {pmE cdE docE pmD cdD docD pmR cdR docR : Value} {fs : List Env} {C : Addr} {mg : Str → Option Value}
    {v1 v5 v6 v7 : V} {ln lk lr : Addr} {N : List Int} {pk : List ((Addr × List Int) × (Addr × List Int))}
    (hh : X.A.handled = none) (hg : X.A.guards = some []) (hu : X.A.units + 64 < cLine) (hlim : X.B.NoLimit) (hroom : X.A.depth < recursionLimit)
    (g1 : Glo X "isinstance" (.builtin "isinstance")) (g2 : Glo X "str" (.type "str"))
    (g3 : Glo X "bytearray" (.type "bytearray")) (g4 : Glo X "bytes" (.type "bytes")) (g5 : Glo X "len" (.builtin "len")) (g6 : Glo X "list" (.type "list")) (g7 : Glo X "range" (.type "range")) (g8 : Glo X "zip" (.type "zip")) (g9 : Glo X "min" (.builtin "min")) (g10 : Glo X "sum" (.builtin "sum")) (g11 : Glo X "max" (.builtin "max"))
    (gE : Glo X "encode" (.ref fE)) (gD : Glo X "decode" (.ref fD)) (gR : Glo X "_law_read" (.ref fR)) (FE : FnOk X.B fE "encode" (fParams stE) (fBody stE) (fScope stE) pmE cdE docE) (FD : FnOk X.B fD "decode" (fParams stD) (fBody stD) (fScope stD) pmD cdD docD) (FRd : FnOk X.B fR "_law_read" (fParams stR) (fBody stR) (fScope stR) pmR cdR docR)
    (hoE : X.B.get? fE = some oE) (hdE : oE.data = .func fdE) (hoD : X.B.get? fD = some oD) (hdD : oD.data = .func fdD) (hoR : X.B.get? fR = some oR) (hdR : oR.data = .func fdR)
    (FR : FrOk X (envOf "law" (fScope stL) X.L f cd) fs) (O : OwnClsQ "DecodeError" C [.type "Exception", .type "BaseException", .type "object"] "Exception.__new__" mg X.B) (hgm : X.B.Ns mainGlobals mg)
    (hln : Has ln (.ints N) ro) (hN : N.length ≤ 24) (hN1 : 1 ≤ N.length)
    (hlk : Has lk (.list (pk.map fun q => V.ref q.1.1)) ro) (hlr : Has lr (.list (pk.map fun q => V.ref q.2.1)) ro)
    (hpk : ∀ q ∈ pk, Has q.1.1 (.ints q.1.2) ro ∧ Has q.2.1 (.ints q.2.2) ro ∧ (∀ n ∈ q.1.2, 0 ≤ n ∧ n < 256) ∧ q.1.2.length ≤ 6500 ∧ RunsOk q.1.2 q.2.2) (hp0 : pk ≠ []) (hp1 : pk.length ≤ 25)
    (hlen : N.length + 1 ≤ (pk.map fun q => q.1.2.length).sum + pk.length) :
    TF X ro noE ⟨locs2 v1 (.ref ln) (.ref lk) (.ref lr) v5 v6 v7 .unk .unk .unk .unk .unk .unk .unk .unk .unk .unk .unk .unk .unk .unk .unk .unk .unk .unk .unk .unk .unk, []⟩ (execs ((fBody stL).drop 5) (envOf "law" (fScope stL) X.L f cd)) (fun fl st' => fl = .ret (.bool true)) := by
  have hps : ∀ p ∈ pk.map (·.1.2), p.length ≤ 6500 := fun p hp => by
    obtain ⟨q, hq, rfl⟩ := List.mem_map.mp hp
    exact (hpk q hq).2.2.2.1
  have hpl : (pk.map (·.1.2)).length = pk.length := by simp
  have hsz : ∀ i, (strm ((pk.map (·.1.2)).take i)).length ≤ 400000 := fun i => by
    have := strm_len_le (ps := (pk.map (·.1.2)).take i) fun p hp => hps p (List.mem_of_mem_take hp)
    rw [List.length_take] at this
    omega
  refine execs_cons' ?_
  repeat' walk_at "m"
  rename_i ls lf
  refine OpN.perm (List.Perm.swap _ _ _) ?_
  refine for_zip (us := pk.map fun q => V.ref q.1.1) (ws := pk.map fun q => V.ref q.2.1) (J7 (fun a b c d => locs2 v1 (.ref ln) (.ref lk) (.ref lr) v5 v6 v7 (.ref ls) (.ref lf) a b c d .unk .unk .unk .unk .unk .unk .unk .unk .unk .unk .unk .unk .unk .unk .unk) ls lf (pk.map (·.1.2))) .none hh (by simp) ?_ ?_ ?_ ?_
  · intro i st' _
    exact ⟨.inr hlk, .inr hlr⟩
  · exact ⟨[], .unk, .unk, .unk, .unk, rfl, rfl, fun j t p ht => by simp at ht⟩
  · rintro i st' u w hu1 hw1 ⟨ts, a, b, c, d, rfl, hts, hin⟩
    rw [List.getElem?_map] at hu1 hw1
    cases hx : pk[i]? with
    | none => rw [hx] at hu1; cases hu1
    | some q =>
    rw [hx] at hu1 hw1
    cases hu1
    cases hw1
    have hil : i < pk.length := (List.getElem?_eq_some_iff.mp hx).1
    obtain ⟨q1, q2, q3, q4, dd, k, q5, q6⟩ := hpk q (List.mem_of_getElem? hx)
    have hb := runs_bnd q.1.2 [] 0 0 (by simp) (by omega) (by omega)
    rw [q6] at hb
    obtain ⟨b1, b2, b3, b4⟩ := hb
    rw [q5] at q2
    refine ⟨_, _, _, _, by walk_at "m:put", by walk_at "m:put", ?_⟩
    exact turn7 hh hg hlim hroom g1 g2 g3 g4 g5 g6 g10 g11 gE FE hoE hdE q1 q2 q3 q4 q6 (by simp at b4; omega) (fun x hx => by have := b1 x hx; omega) (by omega) (by rw [List.getElem?_map, hx]; rfl) hts (by omega) (hsz i) hin
  · rintro st' ⟨ts, a, b, c, d, rfl, hts, hin⟩
    rw [List.length_map] at hts
    rw [List.length_map, ← hpl, List.take_length]
    have hge := strm_len_ge (ps := pk.map (·.1.2))
    have hle := hsz pk.length
    rw [← hpl, List.take_length] at hle
    rw [List.map_map] at hge
    have hsum : (pk.map (List.length ∘ fun x => x.1.2)).sum = (pk.map fun q => q.1.2.length).sum := rfl
    have hpos : 1 ≤ pk.length := List.length_pos_iff.mpr hp0
    refine TT.freeze (c := (lf, .list (ts.map fun q => V.ref q.1)) :: tcells ts) (own := [(ls, .ints (strm (pk.map (·.1.2))))]) (fun _ _ _ _ _ h => h) (List.perm_append_singleton _ _).symm ?_
    have e1 : (((pk.map (·.1)).zip ts).map fun q => V.ref q.1.1) = pk.map fun q => V.ref q.1.1 := by
      have := List.map_fst_zip (l₁ := pk.map (·.1)) (l₂ := ts) (by simp; omega)
      conv => rhs; rw [show (pk.map fun q => V.ref q.1.1) = (pk.map (·.1)).map fun p => V.ref p.1 by rw [List.map_map]; rfl, ← this]
      rw [List.map_map]; rfl
    have e2 : (((pk.map (·.1)).zip ts).map fun q => V.ref q.2.1) = ts.map fun q => V.ref q.1 := by
      have := List.map_snd_zip (l₁ := pk.map (·.1)) (l₂ := ts) (by simp; omega)
      conv => rhs; rw [← this]
      rw [List.map_map]; rfl
    refine law2_e (pf := (pk.map (·.1)).zip ts) hh hg hu hlim hroom g1 g2 g3 g4 g5 g6 g7 g8 g9 gD gR FD FRd hoD hdD hoR hdR FR O hgm hln.app_right hN hN1 (by rw [e1]; exact hlk.app_right) (by rw [e2]; exact Has.app_left .head) ?_ ?_ hle (by omega) (strm_bytes fun p hp => by
      obtain ⟨q, hq, rfl⟩ := List.mem_map.mp hp
      exact (hpk q hq).2.2.1)
    · intro q hq
      obtain ⟨hq1, hq2⟩ := List.of_mem_zip hq
      obtain ⟨r, hr, er⟩ := List.mem_map.mp hq1
      obtain ⟨r1, r2, r3, r4, r5⟩ := hpk r hr
      rw [er] at r1 r3 r4
      exact ⟨r1.app_right, r3, by omega, Has.app_left (.tail (Has.of_mem (List.mem_map.mpr ⟨q.2, hq2, rfl⟩)))⟩
    · intro q hq
      obtain ⟨j, hj⟩ := List.getElem?_of_mem hq
      rw [List.getElem?_zip_eq_some] at hj
      obtain ⟨hj1, hj2⟩ := hj
      have hjp : (pk.map (·.1.2))[j]? = some q.1.2 := by
        rw [List.getElem?_map] at hj1 ⊢
        cases hx : pk[j]? with
        | none => rw [hx] at hj1; cases hj1
        | some r =>
          rw [hx] at hj1
          have e := Option.some.inj hj1
          show some r.1.2 = some q.1.2
          rw [show r.1 = q.1 from e]
      obtain ⟨f0, f1⟩ := hin j q.2 q.1.2 hj2 hjp
      have hjl : j < (pk.map (·.1.2)).length := (List.getElem?_eq_some_iff.mp hjp).1
      refine ⟨strm ((pk.map (·.1.2)).take j), [0] ++ strm ((pk.map (·.1.2)).drop (j + 1)), ?_, f0, f1⟩
      have e3 : pk.map (·.1.2) = (pk.map (·.1.2)).take j ++ [q.1.2] ++ (pk.map (·.1.2)).drop (j + 1) := by
        conv => lhs; rw [← List.take_append_drop j (pk.map (·.1.2)), List.drop_eq_getElem_cons hjl, (List.getElem?_eq_some_iff.mp hjp).2]
        simp
      conv => lhs; rw [e3]
      rw [strm_app, strm_snoc]
      simp
end
section
theorem len_raw2 {X : Cx} {ro : Led} {E : Er} {st : St} {l : Addr} {o : Obj} {ns : List Int} {Q : V → St → Prop} (ho : RawInts o ns) (hl : Kn ro st l (.obj o)) (hsz : ns.length ≤ 16777216) (hq : Q (.int ns.length) st) :
    OpN X ro E (fun vs => call (.builtin "len") vs) [.ref l] st Q := by
  rintro vs (_ | ⟨rfl, (_ | _)⟩) R s S
  obtain ⟨hc, ws, n, hd, hw⟩ := ho
  obtain ⟨o', ho', e⟩ := S.at hl
  cases e
  have hn : ns.length = ws.size := by simpa using hw.length
  have hL : s.heap.IsList l ws := ⟨o, ho', hc, n, hd⟩
  refine wpR_of (call_len_list hL (by omega) ⟨.int ns.length, st, ⟨s.toks + 1, ?_⟩, S.toks, hq⟩)
  rw [hn]
def cells2 (as : List Addr) (Bs : List (List Int)) (bs : List Addr) (Ds : List (List Int)) : Led := cells as Bs ++ cells bs Ds
def N2s (script : List Int) : List Int := pslice none (some 24) script ++ pslice (some (script.length : Int)) none [0]
structure Ok2 (i : Nat) (as : List Addr) (Bs : List (List Int)) (B : List Int) (bs : List Addr) (Ds : List (List Int)) (D : List Int) : Prop where
  l1 : as.length = Bs.length
  l2 : bs.length = Ds.length
  l3 : as.length = bs.length
  rs : ∀ (j : Nat) (p r : List Int), Bs[j]? = some p → Ds[j]? = some r → RunsOk p r
  bb : ∀ p ∈ Bs, (∀ n ∈ p, 0 ≤ n ∧ n < 256) ∧ p.length ≤ 6500
  b0 : ∀ n ∈ B, 0 ≤ n ∧ n < 256
  b1 : B.length ≤ 255 * i
  r0 : RunsOk B D
  al : as.length ≤ i
  ln : i ≤ (Bs.map List.length).sum + B.length + as.length
def K2 (loc : V → V → V → List (Str × V)) (ln lk lr : Addr) (N : List Int) (i : Nat) (st : St) : Prop := ∃ (as : List Addr) (a : Addr) (Bs : List (List Int)) (B : List Int) (bs : List Addr) (b : Addr) (Ds : List (List Int)) (D : List Int) (w : Int) (u1 u2 : V),
  st = ⟨loc (.int w) u1 u2, (a, .ints B) :: (b, .ints D) :: (lk, .list ((as ++ [a]).map V.ref)) :: (lr, .list ((bs ++ [b]).map V.ref)) :: (ln, .ints N) :: cells2 as Bs bs Ds⟩ ∧ Ok2 i as Bs B bs Ds D
theorem ForOver.upto {X : Cx} {ro : Led} {E : Er} {env : Env} {target : Expr} {body : List Stmt} {Q : Fl → St → Prop} {u : V} {st : St} {J : St → Prop} (h : Upto J st) (k : ∀ st', J st' → ForOver X ro E env target body Q u st') : ForOver X ro E env target body Q u st :=
  fun v hv R s S => let ⟨st', S', hj⟩ := S.upto h; k st' hj v hv R s S'
theorem get_lastR (as : List Addr) (a : Addr) : ((as ++ [a]).map V.ref)[pidx (-1) ((as ++ [a]).map V.ref).length]? = some (.ref a) := by
  rw [List.length_map, List.getElem?_map]
  have e : pidx (-1) (as ++ [a]).length = as.length := by simp [pidx]; omega
  rw [e]; simp
theorem set_lastR (as : List Addr) (a : Addr) : ((as ++ [a]).map V.ref).set (pidx (-1) ((as ++ [a]).map V.ref).length) (.ref a) = (as ++ [a]).map V.ref := by
  rw [List.length_map]
  have e : pidx (-1) (as ++ [a]).length = as.length := by simp [pidx]; omega
  rw [e, List.map_append]
  rw [show as.length = (as.map V.ref).length by simp, List.set_append_right _ _ (Nat.le_refl _), Nat.sub_self]
  rfl
theorem set_lastI (d : List Int) (k m : Int) : (d ++ [k]).set (pidx (-1) (d ++ [k]).length) m = d ++ [m] := by
  have e : pidx (-1) (d ++ [k]).length = d.length := by simp [pidx]; omega
  rw [e]; simp [List.set_append]
theorem pick4 (r v : Int) (hv : 1 ≤ v ∧ v ≤ 255) : ∃ K : Int, [253, 254, 255, v][pidx (r % 4) [253, 254, 255, v].length]? = some K ∧ 1 ≤ K ∧ K ≤ 255 := by
  have h : r % 4 = 0 ∨ r % 4 = 1 ∨ r % 4 = 2 ∨ r % 4 = 3 := by omega
  rcases h with h | h | h | h <;> rw [h]
  · exact ⟨253, rfl, by omega, by omega⟩
  · exact ⟨254, rfl, by omega, by omega⟩
  · exact ⟨255, rfl, by omega, by omega⟩
  · exact ⟨v, rfl, hv.1, hv.2⟩
theorem rng_b {K : Int} (hK : K ≤ 256) : ∀ n ∈ rng 1 K, 1 ≤ n ∧ n < 256 := fun n hn => by
  obtain ⟨x, hx, rfl⟩ := List.mem_map.mp hn
  have := List.mem_range.mp hx
  omega
theorem perm4 {α : Type} (a b c d : α) (r : List α) : (a :: b :: c :: d :: r).Perm (d :: b :: c :: a :: r) := by
  have h1 : (a :: b :: c :: d :: r).Perm (b :: c :: a :: d :: r) := (List.Perm.swap _ _ _).trans (.cons _ (.swap _ _ _))
  have h2 : (b :: c :: a :: d :: r).Perm (b :: c :: d :: a :: r) := .cons _ (.cons _ (.swap _ _ _))
  have h3 : (b :: c :: d :: a :: r).Perm (d :: b :: c :: a :: r) := (List.Perm.cons _ (.swap _ _ _)).trans (.swap _ _ _)
  exact h1.trans (h2.trans h3)
theorem permNew {α : Type} (l2 l1 x y k r n : α) (P Q : List α) : (l2 :: l1 :: x :: y :: k :: r :: n :: (P ++ Q)).Perm (l1 :: l2 :: k :: r :: n :: ((P ++ [x]) ++ (Q ++ [y]))) := by
  refine (List.Perm.swap _ _ _).trans (.cons _ (.cons _ ?_))
  have h1 : (x :: y :: k :: r :: n :: (P ++ Q)).Perm (y :: k :: r :: n :: (P ++ [x] ++ Q)) := by
    have := (List.perm_middle (a := x) (l₁ := y :: k :: r :: n :: P) (l₂ := Q)).symm
    simpa using this
  have h2 : (y :: k :: r :: n :: (P ++ [x] ++ Q)).Perm (k :: r :: n :: (P ++ [x] ++ Q) ++ [y]) := (List.perm_append_singleton _ _).symm
  exact h1.trans (by simpa using h2)
theorem Ok2.push {i : Nat} {as : List Addr} {Bs : List (List Int)} {B : List Int} {bs : List Addr} {Ds : List (List Int)} {D : List Int} (h : Ok2 i as Bs B bs Ds D) (hi : i ≤ 24) (a b : Addr) : Ok2 (i + 1) (as ++ [a]) (Bs ++ [B]) [] (bs ++ [b]) (Ds ++ [D]) [0] := by
  obtain ⟨l1, l2, l3, rs, bb, b0, b1, r0, al, ln⟩ := h
  refine ⟨by simp [l1], by simp [l2], by simp [l3], ?_, ?_, by simp, by simp, ⟨[], 0, rfl, rfl⟩, by simp; omega, by simp; omega⟩
  · intro j p r hp hr
    by_cases hj : j < Bs.length
    · rw [List.getElem?_append_left hj] at hp
      rw [List.getElem?_append_left (by omega)] at hr
      exact rs j p r hp hr
    · have hje : j = Bs.length := by have := (List.getElem?_eq_some_iff.mp hp).1; simp at this; omega
      subst hje
      rw [List.getElem?_append_right (Nat.le_refl _), Nat.sub_self] at hp
      rw [List.getElem?_append_right (by omega), show Bs.length - Ds.length = 0 by omega] at hr
      cases hp
      cases hr
      exact r0
  · intro p hp
    rcases List.mem_append.mp hp with hp | hp
    · exact bb p hp
    · rw [List.mem_singleton.mp hp]; exact ⟨b0, by omega⟩
theorem up_new {loc : V → V → V → List (Str × V)} {ln lk lr a b l1 l2 : Addr} {N : List Int} {i : Nat} {as : List Addr} {Bs : List (List Int)} {B : List Int} {bs : List Addr} {Ds : List (List Int)} {D : List Int} {w : Int} {u1 u2 : V} (h : Ok2 i as Bs B bs Ds D) (hi : i ≤ 24) :
    Upto (K2 loc ln lk lr N (i + 1)) ⟨loc (.int w) u1 u2, (l2, .ints [0]) :: (l1, .ints []) :: (a, .ints B) :: (b, .ints D) :: (lk, .list ((as ++ [a]).map V.ref ++ [.ref l1])) :: (lr, .list ((bs ++ [b]).map V.ref ++ [.ref l2])) :: (ln, .ints N) :: cells2 as Bs bs Ds⟩ := by
  refine ⟨_, (l1, .ints []) :: (l2, .ints [0]) :: (lk, .list ((as ++ [a] ++ [l1]).map V.ref)) :: (lr, .list ((bs ++ [b] ++ [l2]).map V.ref)) :: (ln, .ints N) :: cells2 (as ++ [a]) (Bs ++ [B]) (bs ++ [b]) (Ds ++ [D]), .refl _, ?_, as ++ [a], l1, Bs ++ [B], [], bs ++ [b], l2, Ds ++ [D], [0], w, u1, u2, rfl, h.push hi a b⟩
  rw [cells2, cells2, cells_snoc h.l1, cells_snoc h.l2, List.map_append (l₁ := as ++ [a]), List.map_append (l₁ := bs ++ [b])]
  exact permNew _ _ _ _ _ _ _ _ _
theorem Ok2.zero {i : Nat} {as : List Addr} {Bs : List (List Int)} {B : List Int} {bs : List Addr} {Ds : List (List Int)} {D : List Int} (h : Ok2 i as Bs B bs Ds D) : Ok2 (i + 1) as Bs (B ++ [0]) bs Ds (D ++ [0]) := by
  obtain ⟨l1, l2, l3, rs, bb, b0, b1, ⟨d, k, e1, e2⟩, al, ln⟩ := h
  refine ⟨l1, l2, l3, rs, bb, app_b b0 (one_b (by omega)), by simp; omega, ⟨d ++ [k], 0, by rw [e1], ?_⟩, by omega, by simp; omega⟩
  rw [runsP_append, e2]; rfl
theorem Ok2.more {i : Nat} {as : List Addr} {Bs : List (List Int)} {B : List Int} {bs : List Addr} {Ds : List (List Int)} {d : List Int} {k z : Int} {xs : List Int} (h : Ok2 i as Bs B bs Ds (d ++ [k])) (hx : ∀ n ∈ xs, 1 ≤ n ∧ n < 256) (hz : (xs.length : Int) = z) (hz1 : 1 ≤ z) (hz2 : z ≤ 255) : Ok2 (i + 1) as Bs (B ++ xs) bs Ds (d ++ [k + z]) := by
  obtain ⟨l1, l2, l3, rs, bb, b0, b1, ⟨d', k', e1, e2⟩, al, ln⟩ := h
  have e3 := List.append_inj' e1 rfl
  obtain ⟨e4, e5⟩ := e3
  cases e5
  subst e4
  refine ⟨l1, l2, l3, rs, bb, app_b b0 (fun n hn => by have := hx n hn; omega), by rw [List.length_append]; omega, ⟨d, k + z, rfl, ?_⟩, by omega, by rw [List.length_append]; omega⟩
  rw [runsP_append, e2, runsP_nz _ (fun y hy => by have := hx y hy; omega), hz]
local macro_rules | `(tactic| walk_at "m") => `(tactic| first
  | ((with_reducible show TV _ _ _ _ (eval (Expr.List [Expr.List _ _] _) _) _); refine List' ?_)
  | ((with_reducible show OpN _ _ _ (fun vs => call (Value.builtin "len") vs) [V.raw (Value.ref _)] _ _); refine len_raw2 (by assumption) (by walk_at "m:kn") (by walk_at "m:arith") ?_)
  | ((with_reducible show OpN _ _ _ (fun vs => call (Value.type "range") vs) [V.int _, V.int _] _ _); (refine list_range_arg (by assumption) (by omega) (by omega) (by omega) ?_; intro))
  | ((with_reducible show TF _ _ _ _ (exec (Stmt.AugAssign (Expr.Subscript (Expr.Name _ _) _ _) _ _ _) _) _); refine AugSub' ?_)
  | ((with_reducible show ∃ l us k u, V.raw (Value.ref _) = V.ref l ∧ V.int _ = V.int k ∧ Kn _ _ l (Cell.list us) ∧ _); refine ⟨_, _, _, _, rfl, rfl, by walk_at "m:kn", by omega, by walk_at "m:arith", by assumption, ?_⟩)
  | ((with_reducible show ∃ us' own', Put _ (Cell.list us') (Cell.list (List.set us' _ _)) _ own' ∧ _ ∧ _ ∧ _); refine ⟨_, _, by walk_at "m:put", by walk_at "m:arith", by walk_at "m:arith", ?_⟩))
theorem N2s_len (script : List Int) : (N2s script).length ≤ 24 ∧ 1 ≤ (N2s script).length := by
  have h1 : (pslice none (some 24) script).length = min 24 script.length := by
    rw [pslice, List.length_take, List.length_drop, show clipNat (some (24 : Int)) script.length script.length = min 24 script.length from clip_nat 24 _ _]
    show min (min 24 script.length - 0) (script.length - 0) = min 24 script.length
    rw [Nat.sub_zero, Nat.sub_zero, Nat.min_assoc, Nat.min_self]
  have h2 : (pslice (some (script.length : Int)) none [(0 : Int)]).length = 1 - min script.length 1 := by
    rw [pslice, List.length_take, List.length_drop, clip_nat]
    show min (1 - min script.length 1) (1 - min script.length 1) = 1 - min script.length 1
    exact Nat.min_self _
  rw [N2s, List.length_append, h1, h2]
  omega
theorem rng1_ok {z : Int} (h0 : 1 ≤ z) (h1 : z ≤ 255) : (rng 1 (z + 1)).length = (z + 1 - 1).toNat ∧ (∀ n ∈ rng 1 (z + 1), 1 ≤ n ∧ n < 256) ∧ ((rng 1 (z + 1)).length : Int) = z := by
  have h := rng_length 1 (z + 1)
  exact ⟨h, rng_b (by omega), by rw [h]; omega⟩
theorem one255 (n : Int) : ∀ x ∈ [n / 6 % 255 + 1], 1 ≤ x ∧ x < 256 := fun x hx => by
  have := List.mem_singleton.mp hx
  omega
set_option maxHeartbeats 8000000 in
theorem law2_a {X : Cx} {ls : Addr} {o : Obj} {f : Addr} {cd : Value} {script : List Int} {fE fD fR : Addr} {oE oD oR : Obj} {fdE fdD fdR : FuncData} {pmE cdE docE pmD cdD docD pmR cdR docR : Value} {fs : List Env} {C : Addr} {mg : Str → Option Value}
    (hh : X.A.handled = none) (hg : X.A.guards = some []) (hu : X.A.units + 64 < cLine) (hlim : X.B.NoLimit) (hroom : X.A.depth < recursionLimit)
    (g1 : Glo X "isinstance" (.builtin "isinstance")) (g2 : Glo X "str" (.type "str"))
    (g3 : Glo X "bytearray" (.type "bytearray")) (g4 : Glo X "bytes" (.type "bytes")) (g5 : Glo X "len" (.builtin "len")) (g6 : Glo X "list" (.type "list")) (g7 : Glo X "range" (.type "range")) (g8 : Glo X "zip" (.type "zip")) (g9 : Glo X "min" (.builtin "min")) (g10 : Glo X "sum" (.builtin "sum")) (g11 : Glo X "max" (.builtin "max"))
    (gE : Glo X "encode" (.ref fE)) (gD : Glo X "decode" (.ref fD)) (gR : Glo X "_law_read" (.ref fR)) (FE : FnOk X.B fE "encode" (fParams stE) (fBody stE) (fScope stE) pmE cdE docE) (FD : FnOk X.B fD "decode" (fParams stD) (fBody stD) (fScope stD) pmD cdD docD) (FRd : FnOk X.B fR "_law_read" (fParams stR) (fBody stR) (fScope stR) pmR cdR docR)
    (hoE : X.B.get? fE = some oE) (hdE : oE.data = .func fdE) (hoD : X.B.get? fD = some oD) (hdD : oD.data = .func fdD) (hoR : X.B.get? fR = some oR) (hdR : oR.data = .func fdR)
    (FR : FrOk X (envOf "law" (fScope stL) X.L f cd) fs) (O : OwnClsQ "DecodeError" C [.type "Exception", .type "BaseException", .type "object"] "Exception.__new__" mg X.B) (hgm : X.B.Ns mainGlobals mg)
    (ho : RawInts o script) (hsz : script.length ≤ 63) :
    TF X [(ls, .obj o)] noE ⟨locs2 (.ref ls) .unk .unk .unk .unk .unk .unk .unk .unk .unk .unk .unk .unk .unk .unk .unk .unk .unk .unk .unk .unk .unk .unk .unk .unk .unk .unk .unk, []⟩ (execs (fBody stL) (envOf "law" (fScope stL) X.L f cd))
      (fun fl st' => fl = .ret (.bool true)) := by
  refine execs_cons' ?_
  repeat' walk_at "m"
  with_reducible show ForOver _ _ _ _ _ _ _ _ _
  rename_i q1 q2 q3 ln l0 lk m0 lr
  have hN := N2s_len script
  refine ForOver.upto (J := K2 (fun w u1 u2 => locs2 (.ref ls) (.ref ln) (.ref lk) (.ref lr) w u1 u2 .unk .unk .unk .unk .unk .unk .unk .unk .unk .unk .unk .unk .unk .unk .unk .unk .unk .unk .unk .unk .unk) ln lk lr (N2s script) 0) ⟨_, _, .cons₂ _ (.cons₂ _ (.cons₂ _ (.cons₂ _ (.cons₂ _ (List.nil_sublist _))))), perm4 _ _ _ _ _, [], l0, [], [], [], m0, [], [0], 0, .unk, .unk, rfl, ⟨rfl, rfl, rfl, by simp, by simp, by simp, by simp, ⟨[], 0, rfl, rfl⟩, by simp, by simp⟩⟩ fun st hst => ?_
  refine for_list (us := (N2s script).map V.int) (K2 (fun w u1 u2 => locs2 (.ref ls) (.ref ln) (.ref lk) (.ref lr) w u1 u2 .unk .unk .unk .unk .unk .unk .unk .unk .unk .unk .unk .unk .unk .unk .unk .unk .unk .unk .unk .unk .unk) ln lk lr (N2s script)) .none hh ?_ hst ?_ ?_
  · rintro i st' ⟨as, a, Bs, B, bs, b, Ds, D, w, u1, u2, rfl, -⟩
    exact .inl (.tail (.tail (.tail (.tail .head))))
  · rintro i st' u hi ⟨as, a, Bs, B, bs, b, Ds, D, w, u1, u2, rfl, hO⟩
    rw [List.getElem?_map] at hi
    cases hx : (N2s script)[i]? with
    | none => rw [hx] at hi; cases hi
    | some n =>
    rw [hx] at hi; cases hi
    have hi24 : i < 24 := by have := (List.getElem?_eq_some_iff.mp hx).1; omega
    obtain ⟨d, k, hDe, hrk⟩ := hO.r0
    subst hDe
    have hb1 := hO.b1
    have hal := hO.al
    have hl3 := hO.l3
    have hdl := (runs_bnd B [] 0 0 (by simp) (by omega) (by omega)).2.2.2
    rw [hrk] at hdl
    simp only [List.length_nil, Nat.zero_add] at hdl
    have hlast := get_lastR as a
    have hlastb := get_lastR bs b
    have hxk := get_lastI d k
    have hdkl : (d ++ [k]).length = d.length + 1 := by simp
    have hasz : ((as ++ [a]).map V.ref).length = as.length + 1 := by simp
    have hbsz : ((bs ++ [b]).map V.ref).length = bs.length + 1 := by simp
    obtain ⟨K, hK, hK0, hK1⟩ := pick4 (n / 24) (n / 96 % 255 + 1) (by omega)
    have hi24' : i ≤ 24 := Nat.le_of_lt hi24
    refine tgt_name (by walk_at "m:put") ?_
    refine loop_upto ?_
    refine execs_cons' ?_
    repeat' ((fail_if_success (with_reducible show TF _ _ _ _ (execs (Stmt.If _ _ _ _ :: _ :: _) _) _)); walk_at "m")
    · exact up_new hO hi24'
    · exact Upto.of ⟨as, a, Bs, B ++ [0], bs, b, Ds, d ++ [k] ++ [0], w, .int n, u2, rfl, hO.zero⟩
    refine step_up (fun st => ∃ (w' z : Int), st = ⟨locs2 (.ref ls) (.ref ln) (.ref lk) (.ref lr) (.int w') (.int n) (.int z) .unk .unk .unk .unk .unk .unk .unk .unk .unk .unk .unk .unk .unk .unk .unk .unk .unk .unk .unk .unk .unk, (a, .ints B) :: (b, .ints (d ++ [k])) :: (lk, .list ((as ++ [a]).map V.ref)) :: (lr, .list ((bs ++ [b]).map V.ref)) :: (ln, .ints (N2s script)) :: cells2 as Bs bs Ds⟩ ∧ 1 ≤ z ∧ z ≤ 255) ?_ ?_
    · repeat' walk_at "m"
      · exact ⟨rfl, Upto.more (.cons _ (.refl _)) (Upto.of ⟨_, K, rfl, hK0, hK1⟩)⟩
      all_goals exact ⟨rfl, Upto.of ⟨_, 1, rfl, by decide, by decide⟩⟩
    clear hK hK0 hK1
    rintro st' ⟨w', z, rfl, hz0, hz1⟩
    have hr := rng1_ok hz0 hz1
    refine step_up (fun st => ∃ (xs : List Int), st = ⟨locs2 (.ref ls) (.ref ln) (.ref lk) (.ref lr) (.int w') (.int n) (.int z) .unk .unk .unk .unk .unk .unk .unk .unk .unk .unk .unk .unk .unk .unk .unk .unk .unk .unk .unk .unk .unk, (a, .ints (B ++ xs)) :: (b, .ints (d ++ [k])) :: (lk, .list ((as ++ [a]).map V.ref)) :: (lr, .list ((bs ++ [b]).map V.ref)) :: (ln, .ints (N2s script)) :: cells2 as Bs bs Ds⟩ ∧ (∀ n ∈ xs, 1 ≤ n ∧ n < 256) ∧ (xs.length : Int) = z) ?_ ?_
    · repeat' walk_at "m"
      · rw [set_lastR]
        exact ⟨rfl, Upto.of ⟨_, rfl, hr.2.1, hr.2.2⟩⟩
      · rename_i h
        rw [set_lastR]
        exact ⟨rfl, Upto.of ⟨[n / 6 % 255 + 1], rfl, one255 n, by simp; omega⟩⟩
    rintro st' ⟨xs, rfl, hxs, hxl⟩
    refine execs_cons' ?_
    repeat' walk_at "m"
    rw [set_lastI]
    exact Upto.of ⟨as, a, Bs, B ++ xs, bs, b, Ds, d ++ [k + z], w', .int n, .int z, rfl, hO.more hxs hxl hz0 hz1⟩
  · rintro st' ⟨as, a, Bs, B, bs, b, Ds, D, w, u1, u2, rfl, hO⟩
    rw [List.length_map] at hO
    obtain ⟨l1, l2, l3, rs, bb, b0, b1, r0, al, ln'⟩ := hO
    have hz1 : ((as ++ [a]).zip (Bs ++ [B])).length = as.length + 1 := by simp; omega
    have hz2 : ((bs ++ [b]).zip (Ds ++ [D])).length = as.length + 1 := by simp; omega
    have e1 : ((((as ++ [a]).zip (Bs ++ [B])).zip ((bs ++ [b]).zip (Ds ++ [D]))).map fun q => V.ref q.1.1) = (as ++ [a]).map V.ref := by
      have h1 := List.map_fst_zip (l₁ := (as ++ [a]).zip (Bs ++ [B])) (l₂ := (bs ++ [b]).zip (Ds ++ [D])) (by omega)
      have h2 := List.map_fst_zip (l₁ := as ++ [a]) (l₂ := Bs ++ [B]) (by simp; omega)
      conv => rhs; rw [← h2, ← h1]
      rw [List.map_map, List.map_map]; rfl
    have e2 : ((((as ++ [a]).zip (Bs ++ [B])).zip ((bs ++ [b]).zip (Ds ++ [D]))).map fun q => V.ref q.2.1) = (bs ++ [b]).map V.ref := by
      have h1 := List.map_snd_zip (l₁ := (as ++ [a]).zip (Bs ++ [B])) (l₂ := (bs ++ [b]).zip (Ds ++ [D])) (by omega)
      have h2 := List.map_fst_zip (l₁ := bs ++ [b]) (l₂ := Ds ++ [D]) (by simp; omega)
      conv => rhs; rw [← h2, ← h1]
      rw [List.map_map, List.map_map]; rfl
    have e3 : ((((as ++ [a]).zip (Bs ++ [B])).zip ((bs ++ [b]).zip (Ds ++ [D]))).map fun q => q.1.2.length) = (Bs ++ [B]).map List.length := by
      have h1 := List.map_fst_zip (l₁ := (as ++ [a]).zip (Bs ++ [B])) (l₂ := (bs ++ [b]).zip (Ds ++ [D])) (by omega)
      have h2 := List.map_snd_zip (l₁ := as ++ [a]) (l₂ := Bs ++ [B]) (by simp; omega)
      conv => rhs; rw [← h2, ← h1]
      rw [List.map_map, List.map_map]; rfl
    have hpkl : (((as ++ [a]).zip (Bs ++ [B])).zip ((bs ++ [b]).zip (Ds ++ [D]))).length = as.length + 1 := by rw [List.length_zip, hz1, hz2]; omega
    have hA : ∀ p ∈ (as ++ [a]).zip (Bs ++ [B]), Has p.1 (.ints p.2) ((a, .ints B) :: (b, .ints D) :: (lk, .list ((as ++ [a]).map V.ref)) :: (lr, .list ((bs ++ [b]).map V.ref)) :: (ln, .ints (N2s script)) :: cells2 as Bs bs Ds) := fun p hp => by
      rw [List.zip_append l1] at hp
      rcases List.mem_append.mp hp with hp | hp
      · refine .tail (.tail (.tail (.tail (.tail (Has.app_left ?_)))))
        rw [cells, List.zip_map_right]
        exact Has.of_mem (List.mem_map.mpr ⟨p, hp, rfl⟩)
      · rw [List.mem_singleton.mp hp]; exact .head
    have hB : ∀ p ∈ (bs ++ [b]).zip (Ds ++ [D]), Has p.1 (.ints p.2) ((a, .ints B) :: (b, .ints D) :: (lk, .list ((as ++ [a]).map V.ref)) :: (lr, .list ((bs ++ [b]).map V.ref)) :: (ln, .ints (N2s script)) :: cells2 as Bs bs Ds) := fun p hp => by
      rw [List.zip_append l2] at hp
      rcases List.mem_append.mp hp with hp | hp
      · refine .tail (.tail (.tail (.tail (.tail (Has.app_right ?_)))))
        rw [cells, List.zip_map_right]
        exact Has.of_mem (List.mem_map.mpr ⟨p, hp, rfl⟩)
      · rw [List.mem_singleton.mp hp]; exact .tail .head
    refine freeze_all (fun _ _ _ _ _ h => h) ?_
    refine law2_d (pk := ((as ++ [a]).zip (Bs ++ [B])).zip ((bs ++ [b]).zip (Ds ++ [D]))) hh hg hu hlim hroom g1 g2 g3 g4 g5 g6 g7 g8 g9 g10 g11 gE gD gR FE FD FRd hoE hdE hoD hdD hoR hdR FR O hgm (Has.app_left (.tail (.tail (.tail (.tail .head))))) hN.1 hN.2 (by rw [e1]; exact Has.app_left (.tail (.tail .head))) (by rw [e2]; exact Has.app_left (.tail (.tail (.tail .head)))) ?_ ?_ (by omega) ?_
    · intro q hq
      obtain ⟨hq1, hq2⟩ := List.of_mem_zip hq
      obtain ⟨j, hj⟩ := List.getElem?_of_mem hq
      rw [List.getElem?_zip_eq_some, List.getElem?_zip_eq_some, List.getElem?_zip_eq_some] at hj
      obtain ⟨⟨_, hj1⟩, _, hj2⟩ := hj
      have hbb : (∀ n ∈ q.1.2, 0 ≤ n ∧ n < 256) ∧ q.1.2.length ≤ 6500 := by
        rcases List.mem_append.mp (List.of_mem_zip hq1).2 with h | h
        · exact bb _ h
        · rw [List.mem_singleton.mp h]; exact ⟨b0, by omega⟩
      refine ⟨(hA _ hq1).app_left, (hB _ hq2).app_left, hbb.1, hbb.2, ?_⟩
      by_cases hjl : j < Bs.length
      · rw [List.getElem?_append_left hjl] at hj1
        rw [List.getElem?_append_left (by omega)] at hj2
        exact rs j _ _ hj1 hj2
      · have hje : j = Bs.length := by have := (List.getElem?_eq_some_iff.mp hj1).1; simp at this; omega
        subst hje
        rw [List.getElem?_append_right (Nat.le_refl _), Nat.sub_self] at hj1
        rw [List.getElem?_append_right (by omega), show Bs.length - Ds.length = 0 by omega] at hj2
        have h1 : B = q.1.2 := Option.some.inj hj1
        have h2 : D = q.2.2 := Option.some.inj hj2
        rw [← h1, ← h2]; exact r0
    · intro e
      rw [e] at hpkl; simp at hpkl
    · rw [e3, hpkl, List.map_append]; simp; omega
end
end Mine
end
section
open PySem PySem.W PyProof.Rows PySem.Calls PySem.Spec
open PySem.Sem (wp)
set_option Elab.async false
set_option maxRecDepth 100000
set_option maxHeartbeats 8000000
set_option linter.unusedVariables false
namespace Mine
theorem glo_built {X : Cx} {q : Program} {loose : List Str} {mean : ExcName → Option Value} {mg mb : Str → Option Value} (T : Top q loose mean mg mb X.B) {x : Str} {v : Value}
    (hf : (!startupNames.contains x && !loose.contains x && !((recsOf q).map (·.name)).contains x && !((litsOf q).map (·.1)).contains x && !((clssOf q loose).map (·.name)).contains x && x != "__name__") = true) (hb : bootBuiltins x = some v) : Glo X x v := by
  simp only [Bool.and_eq_true, Bool.not_eq_true', List.contains_eq_mem, decide_eq_false_iff_not, bne_iff_ne] at hf
  exact ⟨mg, mb, T.g, T.b, .inr ⟨T.free x hf.1.1.1.1.1 hf.1.1.1.1.2 hf.1.1.1.2 hf.1.1.2 hf.1.2, (T.builtins x hf.2).trans hb⟩⟩
theorem top_call {prog : Program} {w : World} {s₁ : Shared} {f : Addr} {name : Str} {params : Arguments} {body : List Stmt} {scope : Scope} {pm cd doc v : Value} {x : Str} {u : V} {locs : List (Str × V)} {ro : Led}
    (F : FnOk s₁.heap f name params body scope pm cd doc) (hlim : s₁.heap.NoLimit) (hgens : s₁.gens = #[]) (hro : ∀ p ∈ ro, At s₁.heap p.1 p.2) (hv : u.Is v)
    (hnd : ((x, u) :: locs).map (·.1) |>.Nodup) (hunk : ∀ p ∈ locs, p.2 = .unk)
    (h : ∀ L', TF ⟨prog, w, callerA.deeper (envOf name scope L' f cd), L', s₁.heap, s₁.os, []⟩ ro noE ⟨(x, u) :: locs, []⟩ (execs body (envOf name scope L' f cd)) fun fl st' => fl = .ret (.bool true))
    (hbind : ∀ v, bindArgs (docDef name params body scope pm cd doc) ⟨[v], []⟩ = pure [(x, v)] := by intro _; rfl)
    (hloc : scope.names.lookup x = some .local := by rfl)
    (hco : scope.isCoroutine = false := by rfl) (hgen : scope.isGenerator = false := by rfl) (hk : scope.kind = .function := by rfl)
    (hcell : ∀ x ∈ scope.names, x.2 ≠ .cell := by decide) :
    wpR (model prog w) callerA (PySem.call (.ref f) [v]) (fun r s' => r = .bool true ∧ (∀ b o, s₁.heap.get? b = some o → s'.heap.get? b = some o) ∧ s'.os = s₁.os ∧ s'.gens = #[]) (fun _ _ => False) s₁ := by
  obtain ⟨o, ho, hd⟩ := F.at_
  refine wpR_call (codeR_call_function (by decide +kernel) ho hd hco hgen rfl F.code ?_)
  rw [hbind]
  refine wpAny_pure (wpAny_newFunctionEnv hcell (fun y hy => by rw [List.mem_singleton.mp hy]; exact hloc) (fun h₁ hns hsb => ⟨hlim.fresh _ hsb, ?_⟩) hk)
  show codeR _ _ (.func body (envOf name scope s₁.heap.objs.size f cd)) _ _
  have keep : ∀ b o, s₁.heap.get? b = some o → h₁.get? b = some o := fun b o e => hsb.extBut b o (Nat.ne_of_lt (Heap.lt_size e)) (Heap.get?_push_of_some _ e)
  have S₁ : Sat ⟨prog, w, callerA.deeper (envOf name scope s₁.heap.objs.size f cd), s₁.heap.objs.size, s₁.heap, s₁.os, []⟩ ro ⟨(x, u) :: locs, []⟩ s₁.heap { s₁ with heap := h₁, toks := s₁.toks + 1 } :=
    { base := fun _ _ e => e
      ros := hro
      fr := keep
      frL := size_none _
      own := fun p hp => nomatch hp
      nd := .nil
      ns := ⟨_, hns, fun p hp => by
        rcases List.mem_cons.mp hp with rfl | hp
        · exact .inr ⟨v, by simp, hv⟩
        · exact .inl (hunk p hp)⟩
      nl := hnd
      gens := hgens
      oss := rfl
      outs := fun q hq => nomatch hq
      apart := fun p hp => nomatch hp }
  refine codeR_func (wpR_mono (h s₁.heap.objs.size _ _ S₁) (fun fl s' h' => ?_) fun e s' h' => h'.elim)
  obtain ⟨g, st', hg, S', rfl⟩ := h'
  obtain ⟨w, rfl, hw⟩ := hg
  cases hw
  exact ⟨rfl, S'.fr, S'.oss, S'.gens⟩
theorem law_run (w : World) (s₀ s₁ : Shared) (mg mb : Str → Option Value) (G : Ground q1 [] [] (XL q1 []) w s₀ mg mb s₁.heap) (a : Addr) (hmg : mg dL.name = some (.ref a)) (hg : s₁.gens = #[])
    (script : List Int) (l : Addr) (vs : List Value) (hL : s₁.heap.IsList l vs.toArray) (hI : IntsAre vs script) (hsz : script.length ≤ 63) :
    wpR (model PySem.Challenge.pw_nc0006_02 w) callerA (PySem.call (.ref a) [.ref l]) (fun r s' => r = .bool true ∧ (∀ b o, s₁.heap.get? b = some o → s'.heap.get? b = some o) ∧ s'.os = s₁.os ∧ s'.gens = #[]) (fun _ _ => False) s₁ := by
  obtain ⟨a', o', pm, cd, doc, h1, h2, h3, h4⟩ := G.T.fn dL dL_mem
  obtain ⟨fE, oE, pmE, cdE, docE, e1, e2, e3, e4⟩ := G.T.fn dE dE_mem
  obtain ⟨fD, oD, pmD, cdD, docD, d1, d2, d3, d4⟩ := G.T.fn dD dD_mem
  obtain ⟨fR, oR, pmR, cdR, docR, k1, k2, k3, k4⟩ := G.T.fn dR dR_mem
  obtain ⟨C, O, _⟩ := G.T.ownAt (x := "DecodeError") (newId := "Exception.__new__") (bm := [.type "Exception", .type "BaseException", .type "object"]) (by first | kernel_rfl | decide +kernel)
  rw [hmg] at h1
  cases h1
  obtain ⟨o, ho, hc, n, hd⟩ := hL
  refine top_call (x := "script") (u := .ref l) (locs := [("numbers", .unk), ("packets", .unk), ("runs", .unk), ("wide", .unk), ("number", .unk), ("size", .unk), ("stream", .unk), ("frames", .unk), ("packet", .unk), ("sizes", .unk), ("stuffed", .unk), ("longer", .unk), ("marks", .unk), ("which", .unk), ("way", .unk), ("place", .unk), ("put", .unk), ("behind", .unk), ("pieces", .unk), ("piece", .unk), ("octet", .unk), ("got", .unk), ("spot", .unk), ("told", .unk), ("fenced", .unk), ("frame", .unk), ("whole", .unk)]) (ro := [(l, .obj o)])
    ⟨⟨o', h2, h3⟩, h4⟩ G.T.nolimit hg (fun p hp => by rw [List.mem_singleton.mp hp]; exact ⟨o, ho, rfl⟩) rfl (by simp only [List.map_cons, List.map_nil]; decide +kernel) (by simp) fun L' => ?_
  refine law2_a (fE := fE) (fD := fD) (fR := fR) (fs := []) rfl rfl (by show callerA.units + 3 + 64 < cLine; decide +kernel) G.T.nolimit (by show callerA.depth + 1 < recursionLimit; decide +kernel)
    (glo_built G.T (by decide +kernel) (by decide +kernel)) (glo_built G.T (by decide +kernel) (by decide +kernel)) (glo_built G.T (by decide +kernel) (by decide +kernel)) (glo_built G.T (by decide +kernel) (by decide +kernel)) (glo_built G.T (by decide +kernel) (by decide +kernel)) (glo_built G.T (by decide +kernel) (by decide +kernel)) (glo_built G.T (by decide +kernel) (by decide +kernel)) (glo_built G.T (by decide +kernel) (by decide +kernel)) (glo_built G.T (by decide +kernel) (by decide +kernel)) (glo_built G.T (by decide +kernel) (by decide +kernel)) (glo_built G.T (by decide +kernel) (by decide +kernel)) 
    ⟨mg, mb, G.T.g, G.T.b, .inl e1⟩ ⟨mg, mb, G.T.g, G.T.b, .inl d1⟩ ⟨mg, mb, G.T.g, G.T.b, .inl k1⟩ ⟨⟨oE, e2, e3⟩, e4⟩ ⟨⟨oD, d2, d3⟩, d4⟩ ⟨⟨oR, k2, k3⟩, k4⟩ e2 e3 d2 d3 k2 k3
    ⟨Around.frames_deeper (show callerA.frames = some [] from rfl), rfl, (by show (fScope stL).kind ≠ .module; decide), .nil⟩ O G.T.g ⟨hc, vs.toArray, n, hd, ?_⟩ hsz
  simpa using All2.of_ints hI
end Mine
end
open PySem PySem.W PyProof.Rows PySem.Calls PySem.Spec Mine
set_option maxRecDepth 100000
set_option maxHeartbeats 8000000
theorem PySem.Challenge.cw_nc0006_02_holds : PySem.Challenge.rw_nc0006_02.Holds := by
  refine holds_R (l := PySem.Challenge.rw_nc0006_02) (q := q1) (N := 900) (d := dL) (kwd := []) ?said left1 ?hdef ?hp ?hk ?hwr ?ok ?hb ?hw ?call
  case said => decide +kernel
  case hdef => kernel_rfl
  case hp => kernel_rfl
  case hk => rfl
  case hwr => rfl
  case ok => decide +kernel
  case hb => exact ⟨by kernel_rfl, by kernel_rfl, by kernel_rfl, by kernel_rfl, by kernel_rfl, by kernel_rfl⟩
  case hw => exact ⟨[.list []], by decide +kernel, by decide +kernel⟩
  case call =>
    intro w s₀ s₁ mg mb G a o pm cd doc dV kV ho hd hcd hD hmg hg args vals as hpre hlay hrd hwl hlo
    wrow_args hpre hlay hrd hwl hlo
    rename_i script _ _ _ _ _ _ _ l vs _ hL _ _ _ hI _ hsz _
    refine wpR_mono (law_run w s₀ s₁ mg mb G a hmg hg script l vs hL hI (by omega)) (fun v s' h => ?_) fun e s' h => h.elim
    obtain ⟨rfl, h1, h2, h3⟩ := h
    exact ⟨.inl ⟨.bool true, .bool true, [], rfl, raisesW_false (by wrow_none_raised), .bool true, by wrow_post, fun _ => ⟨.nil, fun a ha => nomatch ha⟩⟩, h1, h2, h3⟩
