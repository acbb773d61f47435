import PyProof.Rows.All
import Wide.All
import OpenK.AllK
import Wide.FinOn
import Lean
import PySem.Challenge.RW_nc0006_04
set_option Elab.async false
section
open PySem PySem.W PyProof.Rows PySem.Calls
open PySem.Sem (wp)
set_option Elab.async false
set_option maxRecDepth 100000
set_option linter.unusedVariables false
namespace Mine

/-- codes that may hold a bytearray fast -/
def decCode : Code → Bool
  | .builtin id _ => Builtin.Bytes.decodersThatHold.contains id
  | _ => false
def Nd (Γ : Ctx) : Prop := decCode Γ.code = false ∧ ∀ x ∈ Γ.below, decCode x.1 = false

/-- as wpAny, for the stacks on which no decoder stands -/
def wpR {α : Type} (M : Model) (A : Around) (t : Sem α) (Q : α → Shared → Prop) (E : Value → Shared → Prop) (s : Shared) : Prop :=
  ∀ Γ p, Γ.In A → Nd Γ → wp M Γ t (fun a _ s' => Q a s') (fun e _ s' => E e s') p s
def codeR (M : Model) (A : Around) (c : Code) (R : Result → Shared → Prop) (s : Shared) : Prop :=
  ∀ Γ p, Γ.code = c → Γ.Below A → (∀ x ∈ Γ.below, decCode x.1 = false) → wpCode M Γ R p s

section
variable {α β : Type} {M : Model} {A : Around} {E : Value → Shared → Prop} {s : Shared}
theorem wpR_of {t : Sem α} {Q : α → Shared → Prop} (h : wpAny M A t Q E s) : wpR M A t Q E s := fun Γ p hΓ _ => h Γ p hΓ
theorem codeR_of {c : Code} {R : Result → Shared → Prop} (h : codeAny M A c R s) : codeR M A c R s := fun Γ p hc hΓ _ => h Γ p hc hΓ
theorem wpR_mono {t : Sem α} {Q Q' : α → Shared → Prop} {E' : Value → Shared → Prop} (h : wpR M A t Q E s)
    (hQ : ∀ a s, Q a s → Q' a s) (hE : ∀ e s, E e s → E' e s) : wpR M A t Q' E' s :=
  fun Γ p hΓ hn => Sem.wp_mono M Γ t (fun a _ s => hQ a s) (fun e _ s => hE e s) p s (h Γ p hΓ hn)
theorem wpR_pure {a : α} {Q : α → Shared → Prop} (h : Q a s) : wpR M A (pure a) Q E s := wpR_of (wpAny_pure h)
theorem wpR_bind {m : Sem α} {f : α → Sem β} {Q : β → Shared → Prop} (h : wpR M A m (fun a s' => wpR M A (f a) Q E s') E s) : wpR M A (m >>= f) Q E s := fun Γ p hΓ hn => by
  rw [Sem.wp_bind']
  exact Sem.wp_mono M Γ m (fun a p' s' h' => h' Γ p' hΓ hn) (fun _ _ _ h' => h') p s (h Γ p hΓ hn)
theorem wpR_onRaise {m : Sem α} {k : Value → Sem Unit} {Q : α → Shared → Prop}
    (h : wpR M A m Q (fun e s' => wpR M A (k e) (fun _ s'' => E e s'') E s') s) : wpR M A (m.onRaise k) Q E s := fun Γ p hΓ hn => by
  rw [Sem.wp_onRaise]
  exact Sem.wp_mono M Γ m (fun _ _ _ h' => h') (fun e p' s' h' => h' Γ p' hΓ hn) p s (h Γ p hΓ hn)
theorem wpR_attempt {m : Sem α} {Q : Except Value α → Shared → Prop} (h : wpR M A m (fun a => Q (.ok a)) (fun e => Q (.error e)) s) : wpR M A m.attempt Q E s :=
  fun Γ p hΓ hn => by rw [Sem.wp_attempt]; exact h Γ p hΓ hn
theorem wpR_holding {vs : List Value} {m : Sem α} {Q : α → Shared → Prop} (h : wpR M A m Q E s) : wpR M A (holding vs m) Q E s :=
  fun Γ p hΓ hn => by rw [Sem.wp_holding]; exact h Γ p hΓ hn
theorem wpR_keep {vs : List Value} {m : Sem α} {Q : α → Shared → Prop} (h : wpR M A m Q E s) : wpR M A (m.keep vs) Q E s :=
  fun Γ p hΓ hn => by rw [Sem.wp_keep]; exact h Γ p hΓ hn
theorem wpR_operate {vs : List Value} {m : Sem Value} {Q : Value → Shared → Prop} (h : wpR M A m Q E s) : wpR M A (operate vs m) Q E s :=
  fun Γ p hΓ hn => by rw [Sem.wp_operate]; exact h Γ p hΓ hn
theorem wpR_bindName {env : Env} {x : Str} {v : Value} {Q : Unit → Shared → Prop} (h : wpR M A (storeName env x v) Q E s) : wpR M A (bindName env x v) Q E s :=
  fun Γ p hΓ hn => by rw [Sem.wp_bindName]; exact h Γ p hΓ hn
theorem wpR_release {vs keep : List Value} {Q : Unit → Shared → Prop} (h : Q () s) : wpR M A (release vs keep) Q E s :=
  fun Γ p hΓ hn => by rw [Sem.wp_release]; exact h
theorem wpR_standAt {pos : Pos} {Q : Unit → Shared → Prop} (h : Q () s) : wpR M A (standAt pos) Q E s := wpR_of (wpAny_standAt h)
theorem wpR_point {Q : Unit → Shared → Prop} (h : Q () s) : wpR M A point Q E s := wpR_of (wpAny_point h)
theorem wpR_of_eq {t : Sem α} {a : α} {Q : α → Shared → Prop} (e : t = pure a) (h : Q a s) : wpR M A t Q E s := by rw [e]; exact wpR_pure h

theorem codeR_mono {c : Code} {R R' : Result → Shared → Prop} (h : codeR M A c R s) (hR : ∀ r s, R r s → R' r s) : codeR M A c R' s :=
  fun Γ p hc hΓ hn => wpCode_mono hR (h Γ p hc hΓ hn)
theorem nd_enter {Γ : Ctx} (hn : Nd Γ) (c : Code) (h : Option Value) (p : Pos) : ∀ x ∈ (Γ.enter c h p).below, decCode x.1 = false := fun x hx => by
  rcases List.mem_cons.mp hx with rfl | hx
  · exact hn.1
  · exact hn.2 x hx
theorem wpR_run {c : Code} {h : Option Value} {Q : Flow → Shared → Prop}
    (hc : codeR M (A.mark h) c (fun r s' => match r with | .ok f => Q f s' | .error e => E e s') s) (hnb : h ≠ some byPass := by intro x; cases x) : wpR M A (run c h) Q E s :=
  fun Γ p hΓ hn => by rw [Sem.wp_run]; exact hc _ p rfl (hΓ.enter c h p hnb) (nd_enter hn c h p)
theorem wpR_call {f : Value} {pos : List Value} {kw : List (Str × Value)} {Q : Value → Shared → Prop}
    (hc : codeR M A (.call f ⟨pos, kw⟩) (fun r s' => match r with | .ok (.ret v) => Q v s' | .ok _ => False | .error e => E e s') s) : wpR M A (call f pos kw) Q E s :=
  fun Γ p hΓ hn => by
    show wp M Γ (runValue (.call f ⟨pos, kw⟩)) _ _ p s
    rw [Sem.wp_runValue]; exact hc _ p rfl (hΓ.enter _ none p (by intro x; cases x)) (nd_enter hn _ none p)
theorem codeR_of_tree {c : Code} {R : Result → Shared → Prop} (hd : decCode c = false)
    (h : wpR M (A.under c) (M.den c) (fun fin s' => match fin with | .done f => R (.ok f) s' | .again c' => c'.quiet = true ∧ codeR M A c' R s')
      (fun e s' => R (.error e) s') s) : codeR M A c R s := fun Γ p hc hΓ hn => by
  rw [wpCode_iff_wp, hc]
  refine Sem.wp_mono M Γ _ (fun fin p' s' h' => ?_) (fun _ _ _ h' => h') p s (h Γ p (hc ▸ hΓ.in) ⟨hc ▸ hd, hn⟩)
  cases fin with
  | done f => exact h'
  | again c' => exact ⟨h'.1, h'.2 (Γ.goto c') p' rfl (hΓ.goto c') hn⟩
theorem codeR_loop' {c : Code} {R : Result → Shared → Prop} (hd : decCode c = false) (hq : c.quiet = true) (I : Nat → Shared → Prop)
    (turn : ∀ n s, I n s → wpR M (A.under c) (M.den c)
      (fun fin s' => match fin with
        | .done f => R (.ok f) s'
        | .again c' => (c' = c ∧ ∃ m, m < n ∧ I m s') ∨ (c'.quiet = true ∧ codeR M A c' R s')) (fun e s' => R (.error e) s') s)
    (n : Nat) (h : I n s) : codeR M A c R s := by
  induction n using Nat.strongRecOn generalizing s with
  | ind n ih =>
    refine codeR_of_tree hd (wpR_mono (turn n s h) (fun fin s' hf => ?_) fun _ _ h' => h')
    cases fin with
    | done f => exact hf
    | again c' =>
      rcases hf with ⟨rfl, m, hm, hI⟩ | hf
      · exact ⟨hq, ih m hm hI⟩
      · exact hf

/-- noting a frame, on the way out of a loop -/
def notedR (M : Model) (A : Around) (env : Env) (E : Value → Shared → Prop) : Value → Shared → Prop := fun x s' => wpR M A (noteFrame x env) (fun _ s'' => E x s'') E s'
def cameBackR (M : Model) (A : Around) (env : Env) (E : Value → Shared → Prop) : Value → Shared → Prop :=
  fun x s' => wpR M A (do
    if (← field x 1) == .none then unsupported "frame.own-activation:exception-without-traceback"
    setFlight x env.frame) (fun _ s'' => E x s'') E s'
theorem wpR_noted {env : Env} {m : Sem α} {Q : α → Shared → Prop} (h : wpR M A m Q (notedR M A env E) s) : wpR M A (m.onRaise fun x => do noteFrame x env; theTreesLotGoes x) Q E s :=
  wpR_onRaise (wpR_mono h (fun _ _ q => q) fun _ _ hx => wpR_bind (wpR_mono hx (fun _ _ e => wpR_of (wpAny_theTreesLotGoes e)) fun _ _ e => e))
theorem wpR_runOwn {c : Code} {env : Env} {h : Option Value} {Q : Flow → Shared → Prop}
    (hc : codeR M (A.mark h) c (fun r s' => match r with | .ok f => Q f s' | .error e => cameBackR M A env E e s') s) (hnb : h ≠ some byPass := by intro x; cases x) :
    wpR M A (runOwn c env h) Q E s := by
  unfold runOwn
  exact wpR_onRaise (wpR_run hc hnb)
end

section
variable {prog : Program} {w : World} {A : Around} {E : Value → Shared → Prop} {R : Result → Shared → Prop} {s : Shared}
theorem codeR_block {stmts : List Stmt} {env : Env}
    (h : wpR (model prog w) A (execs stmts env) (fun f s' => R (.ok f) s') (notedR (model prog w) A env fun e s' => R (.error e) s') s) : codeR (model prog w) A (.block stmts env) R s := by
  refine codeR_of_tree rfl ?_
  show wpR _ _ (do return Fin.done (← (execs stmts env).onRaise (fun x => do noteFrame x env; theTreesLotGoes x))) _ _ s
  exact wpR_bind (wpR_noted (wpR_mono h (fun f s' h' => wpR_pure h') fun _ _ h' => h'))
theorem codeR_whileLoop {test body orelse env} (I : Nat → Shared → Prop)
    (turn : ∀ n s, I n s →
      wpR (model prog w) A (isTrue test env (eval test env)) (fun b s₂ =>
        if b then wpR (model prog w) A (execs body env) (fun f s₃ => match f with
            | .next | .cont => ∃ m, m < n ∧ I m s₃
            | .brk => R (.ok .next) s₃
            | .ret v => R (.ok (.ret v)) s₃) (notedR (model prog w) A env fun e s' => R (.error e) s') s₂
        else wpR (model prog w) A (execs orelse env) (fun f s₃ => R (.ok f) s₃) (notedR (model prog w) A env fun e s' => R (.error e) s') s₂)
        (notedR (model prog w) A env fun e s' => R (.error e) s') s)
    (n : Nat) (h : I n s) : codeR (model prog w) A (.whileLoop test body orelse env) R s := by
  refine codeR_loop' rfl rfl I (fun n s hI => ?_) n h
  show wpR _ A ((whileTurn test body orelse env).onRaise (fun x => do noteFrame x env; theTreesLotGoes x)) _ _ s
  refine wpR_noted ?_
  simp only [whileTurn]
  refine wpR_bind (wpR_mono (turn n s hI) (fun b s₂ h₂ => ?_) fun _ _ h' => h')
  cases b with
  | false =>
    simp only [Bool.false_eq_true, if_false] at h₂ ⊢
    exact wpR_bind (wpR_mono h₂ (fun f s₃ h₃ => wpR_pure h₃) fun _ _ h' => h')
  | true =>
    simp only [if_true] at h₂ ⊢
    refine wpR_bind (wpR_mono h₂ (fun f s₃ h₃ => ?_) fun _ _ h' => h')
    cases f with
    | next => exact wpR_pure (.inl ⟨rfl, h₃⟩)
    | cont => exact wpR_pure (.inl ⟨rfl, h₃⟩)
    | brk => exact wpR_pure h₃
    | ret v => exact wpR_pure h₃
theorem codeR_forLoop {target it body orelse env} (I : Nat → Shared → Prop)
    (turn : ∀ n s, I n s → wpR (model prog w) A (pyNext it) (fun r s₁ => match r with
      | none => wpR (model prog w) A (execs orelse env) (fun f s₃ => R (.ok f) s₃) (notedR (model prog w) A env fun e s' => R (.error e) s') s₁
      | some v => wpR (model prog w) A (letOwnedTupleGo target it v) (fun _ s₁ => wpR (model prog w) A (assign target env v) (fun _ s₂ => wpR (model prog w) A (execs body env) (fun f s₃ => match f with
          | .next | .cont => ∃ m, m < n ∧ I m s₃
          | .brk => R (.ok .next) s₃
          | .ret v => R (.ok (.ret v)) s₃) (notedR (model prog w) A env fun e s' => R (.error e) s') s₂) (notedR (model prog w) A env fun e s' => R (.error e) s') s₁) (notedR (model prog w) A env fun e s' => R (.error e) s') s₁) (notedR (model prog w) A env fun e s' => R (.error e) s') s)
    (n : Nat) (h : I n s) : codeR (model prog w) A (.forLoop target it body orelse env) R s := by
  refine codeR_loop' rfl rfl I (fun n s hI => ?_) n h
  show wpR _ _ ((forTurn target it body orelse env).onRaise (fun x => do noteFrame x env; theTreesLotGoes x)) _ _ s
  refine wpR_noted ?_
  simp only [forTurn]
  refine wpR_bind (wpR_standAt (wpR_bind (wpR_onRaise (wpR_mono (turn n s hI) (fun r s₁ h₁ => ?_) fun _ _ h' => wpR_standAt h'))))
  cases r with
  | none => exact wpR_pure (.inr ⟨rfl, codeR_block h₁⟩)
  | some v =>
    refine wpR_bind (wpR_mono h₁ (fun _ s₁ h₁ => ?_) fun _ _ h' => h')
    refine wpR_bind (wpR_mono h₁ (fun _ s₂ h₂ => wpR_bind (wpR_mono h₂ (fun f s₃ h₃ => ?_) fun _ _ h' => h')) fun _ _ h' => h')
    cases f with
    | next => exact wpR_pure (.inl ⟨rfl, h₃⟩)
    | cont => exact wpR_pure (.inl ⟨rfl, h₃⟩)
    | brk => exact wpR_pure h₃
    | ret v => exact wpR_pure h₃
theorem codeR_func {body env}
    (h : wpR (model prog w) (A.deeper env) (execs body env) (fun f s' => R (.ok (.ret (match f with | .ret v => v | _ => .none))) s')
      (fun e s' => wpR (model prog w) (A.deeper env) (leaving env e) (fun _ s'' => R (.error e) s'') (fun e' s'' => R (.error e') s'') s') s) :
    codeR (model prog w) A (.func body env) R s := by
  refine codeR_of_tree rfl ?_
  show wpR _ (A.deeper env) (do point; match ← (execs body env).onRaise (leaving env) with | .ret v => ret v | _ => ret .none) _ _ s
  refine wpR_bind (wpR_point (wpR_bind (wpR_onRaise (wpR_mono h (fun f s' h' => ?_) fun _ _ h' => h'))))
  cases f <;> exact wpR_pure h'
theorem codeR_call_function {a : Addr} {args : Args} {o : Obj} {fd : FuncData} {body : List Stmt} (hroom : A.depth < recursionLimit)
    (ho : s.heap.get? a = some o) (hd' : o.data = .func fd) (hco : fd.scope.isCoroutine = false) (hgen : fd.scope.isGenerator = false) (hbody : fd.body = .stmts body) (hcd : s.heap.CodeRec fd.code fd.qualname)
    (h : wpAny (model prog w) A.in1 (bindArgs fd args) (fun binds s₁ =>
      wpAny (model prog w) A.in1 (newFunctionEnv fd.scope fd.globals fd.closure binds (fd.qualname ++ ".<locals>.") (some a) fd.code none fd.builtins)
        (fun env s₂ => s₂.heap.NoLimit ∧ codeR (model prog w) A (.func body env) R s₂) (fun e s' => R (.error e) s') s₁) (fun e s' => R (.error e) s') s) :
    codeR (model prog w) A (.call (.ref a) args) R s := by
  refine codeR_of_tree rfl ?_
  show wpR _ A.in1 (callAny (.ref a) args) _ _ s
  simp only [callAny]
  refine wpR_bind (wpR_of (wpAny_load ho ?_))
  obtain ⟨c, oc, vs, tq, hc, hoc, hdc, hq⟩ := hcd
  simp only [hd', callFunction, hco, hgen, hbody, hc]
  rw [hc] at h
  refine wpR_bind (m := field (.ref c) 1) (wpR_of (wpAny_field hoc hdc hq ?_))
  refine wpR_bind (wpR_pure ?_)
  exact wpR_bind (wpR_of (wpAny_mono h (fun binds s₁ h₁ => wpR_bind (wpR_of (wpAny_mono h₁ (fun env s₂ h₂ => wpR_bind (wpR_of (wpAny_enterFrame h₂.1 hroom
    (wpR_pure (And.intro rfl h₂.2))))) fun _ _ h' => h'))) fun _ _ h' => h'))
/-- a built-in, whose own code is known -/
theorem codeR_call_builtin {id : String} {args : Args} {b : Builtin} (hd : decCode (.builtin id args) = false) (hq : plainId id = true) (hb : entryFor table id = some b)
    (h : wpAny (model prog w) A.in1 (checkBuiltinCall id args) (fun _ s₁ => wpR (model prog w) A.in1 (b args)
      (fun fin s' => match fin with | .done f => R (.ok f) s' | .again c' => c'.quiet = true ∧ codeR (model prog w) A c' R s') (fun e s' => R (.error e) s') s₁)
      (fun e s' => R (.error e) s') s) : codeR (model prog w) A (.call (.builtin id) args) R s := by
  refine codeR_of_tree rfl ?_
  show wpR _ A.in1 (do checkBuiltinCall id args; again (.builtin id args)) _ _ s
  refine wpR_bind (wpR_of (wpAny_mono h (fun _ s₁ h₁ => wpR_pure (And.intro (plainId_quiet hq args) (codeR_of_tree hd ?_))) fun _ _ h' => h'))
  rw [Around.under_plainId hq args]
  show wpR _ _ (match entryFor table id with | some b => b args | none => unsupported ((withoutEnding? id "#data").getD id)) _ _ s₁
  rw [hb]; exact h₁
theorem callR_slot {T : String} {name : Str} {id : String} {B : Builtin} {self : Value} {rest : List Value} {Q : Value → Shared → Prop} (slot : Slot T name id) (hT : s.TypeIs self T)
    (hd : Builtin.Bytes.decodersThatHold.contains id = false) (entry : entryFor table id = some B) (args : argsOk id ⟨self :: rest, []⟩)
    (h : wpR (model prog w) A.in1 (B ⟨self :: rest, []⟩) (fun fin s' => ∃ v, fin = .done (.ret v) ∧ Q v s') E s) : wpR (model prog w) A (call (.builtin id) (self :: rest)) Q E s :=
  wpR_call (codeR_call_builtin hd slot.plain entry (slot.check _ _ _ _ _ _ _ _ hT args (wpR_mono h (fun fin s' ⟨v, e, hq⟩ => by subst e; exact hq) fun _ _ e => e)))
end
end Mine
end
section
open PySem PySem.W PyProof.Rows PySem.Calls
open PySem.Sem (wp)
set_option Elab.async false
set_option maxRecDepth 100000
set_option linter.unusedVariables false
namespace Mine
section
variable {α β : Type} {M : Model} {A : Around} {E : Value → Shared → Prop} {s : Shared} {env : Env}

theorem wpR_BinOp {l op r pos} {Q : Value → Shared → Prop}
    (h : wpR M A (eval l env) (fun a s₁ => wpR M A (eval r env) (fun b s₂ => wpR M A (binaryOp op a b) Q E s₂) E s₁) E s) : wpR M A (eval (.BinOp l op r pos) env) Q E s := by
  rw [eval_BinOp]
  exact wpR_bind (wpR_mono h (fun a s₁ h₁ => wpR_bind (wpR_holding (wpR_mono h₁ (fun b s₂ h₂ => wpR_bind (wpR_standAt (wpR_operate h₂))) fun _ _ x => x))) fun _ _ x => x)
theorem wpR_Compare1 {l op r pos} {Q : Value → Shared → Prop}
    (h : wpR M A (eval l env) (fun a s₁ => wpR M A (eval r env) (fun b s₂ => wpR M A (compareOp op a b) Q E s₂) E s₁) E s) (hm : behindInMarks op r = false) : wpR M A (eval (.Compare l [op] [r] pos) env) Q E s := fun Γ p hΓ hn => by
  simp only [eval_Compare1, markedBehindIn_of_false hm, Sem.wp_bind', Sem.wp_holding, Sem.wp_cmd_standAt, Sem.wp_operate]
  exact Sem.wp_mono M Γ _ (fun a p₁ s₁ h₁ => Sem.wp_mono M Γ _ (fun b _ s₂ h₂ => h₂ Γ _ hΓ hn) (fun _ _ _ h' => h') _ _ (h₁ Γ p₁ hΓ hn)) (fun _ _ _ h' => h') _ _ (h Γ p hΓ hn)
theorem wpR_isTrue_Compare1 {l op r pos whole} {Q : Bool → Shared → Prop}
    (h : wpR M A (eval l env) (fun a s₁ => wpR M A (eval r env) (fun b s₂ => wpR M A (compareOp op a b) (fun c s₃ => wpR M A (truthy c) Q E s₃) E s₂) E s₁) E s)
    (hm : behindInMarks op r = false) : wpR M A (isTrue (.Compare l [op] [r] pos) env whole) Q E s := fun Γ p hΓ hn => by
  simp only [isTrue_Compare1, markedBehindIn_of_false hm, Sem.wp_bind', Sem.wp_holding, Sem.wp_cmd_standAt, Sem.wp_operate]
  exact Sem.wp_mono M Γ _ (fun a p₁ s₁ h₁ => Sem.wp_mono M Γ _ (fun b _ s₂ h₂ => Sem.wp_mono M Γ _ (fun c p₃ s₃ h₃ => h₃ Γ p₃ hΓ hn)
    (fun _ _ _ h' => h') _ _ (h₂ Γ _ hΓ hn)) (fun _ _ _ h' => h') _ _ (h₁ Γ p₁ hΓ hn)) (fun _ _ _ h' => h') _ _ (h Γ p hΓ hn)
theorem wpR_UnaryOp {op : UnaryOp} {x : Expr} {pos : Pos} {Q : Value → Shared → Prop} (h : wpR M A (eval x env) (fun v s₁ => wpR M A (unaryOp op v) Q E s₁) E s) : wpR M A (eval (.UnaryOp op x pos) env) Q E s := by
  rw [arm_eval_UnaryOp]
  exact wpR_bind (wpR_mono h (fun v s₁ h₁ => wpR_bind (wpR_standAt (wpR_holding h₁))) fun _ _ x => x)
theorem wpR_IfExp {test body orelse pos} {Q : Value → Shared → Prop}
    (h : wpR M A (isTrue test env (eval test env)) (fun c s₂ => if c then wpR M A (eval body env) Q E s₂ else wpR M A (eval orelse env) Q E s₂) E s) : wpR M A (eval (.IfExp test body orelse pos) env) Q E s := by
  rw [eval_IfExp]
  refine wpR_bind (wpR_mono h (fun c s₂ h₂ => ?_) fun _ _ x => x)
  cases c <;> exact h₂
theorem wpR_isTrue_value {e : Expr} {whole : Sem Value} {Q : Bool → Shared → Prop} (h : wpR M A whole (fun v s₁ => wpR M A (truthy v) Q E s₁) E s)
    (he : isTrue e env whole = (do let v ← whole; standAt e.pos; holding [v] (truthy v))) : wpR M A (isTrue e env whole) Q E s := by
  rw [he]
  exact wpR_bind (wpR_mono h (fun v s₁ h₁ => wpR_bind (wpR_standAt (wpR_holding h₁))) fun _ _ x => x)
theorem wpR_isTrue_not {x pos whole} {Q : Bool → Shared → Prop} (h : wpR M A (isTrue x env (eval x env)) (fun c s' => Q (!c) s') E s) : wpR M A (isTrue (.UnaryOp .Not x pos) env whole) Q E s := by
  show wpR M A (do return !(← isTrue x env (eval x env))) Q E s
  exact wpR_bind (wpR_mono h (fun c s' h' => wpR_pure h') fun _ _ x => x)
theorem wpR_isTrue_and {x rest pos whole} {Q : Bool → Shared → Prop}
    (h : wpR M A (isTrue x env (eval x env)) (fun c s' => if c then wpR M A (isTrue (.BoolOp .And rest pos) env whole) Q E s' else Q false s') E s) : wpR M A (isTrue (.BoolOp .And (x :: rest) pos) env whole) Q E s := by
  show wpR M A (do
    match BoolOp.And, ← isTrue x env (eval x env) with
    | .And, false => pure false
    | .Or, true => pure true
    | _, _ => allTrue .And rest env) Q E s
  refine wpR_bind (wpR_mono h (fun c s' h' => ?_) fun _ _ x => x)
  cases c with
  | false => exact wpR_pure h'
  | true => exact h'
theorem wpR_isTrue_or {x rest pos whole} {Q : Bool → Shared → Prop}
    (h : wpR M A (isTrue x env (eval x env)) (fun c s' => if c then Q true s' else wpR M A (isTrue (.BoolOp .Or rest pos) env whole) Q E s') E s) : wpR M A (isTrue (.BoolOp .Or (x :: rest) pos) env whole) Q E s := by
  show wpR M A (do
    match BoolOp.Or, ← isTrue x env (eval x env) with
    | .And, false => pure false
    | .Or, true => pure true
    | _, _ => allTrue .Or rest env) Q E s
  refine wpR_bind (wpR_mono h (fun c s' h' => ?_) fun _ _ x => x)
  cases c with
  | false => exact h'
  | true => exact wpR_pure h'
theorem wpR_BoolOp_and {e₁ e₂ rest pos} {Q : Value → Shared → Prop}
    (h : wpR M A (eval e₁ env) (fun v s₁ => wpR M A (truthy v) (fun c s₂ => if c then wpR M A (eval (.BoolOp .And (e₂ :: rest) pos) env) Q E s₂ else Q v s₂) E s₁) E s) :
    wpR M A (eval (.BoolOp .And (e₁ :: e₂ :: rest) pos) env) Q E s := by
  show wpR M A (do
    let v ← eval e₁ env
    standAt pos
    let c ← holding [v] (truthy v)
    match BoolOp.And, c with
    | .And, false | .Or, true => pure v
    | _, _ => boolOp pos .And (eval e₂ env :: evalEach rest env)) Q E s
  refine wpR_bind (wpR_mono h (fun v s₁ h₁ => wpR_bind (wpR_standAt (wpR_bind (wpR_holding (wpR_mono h₁ (fun c s₂ h₂ => ?_) fun _ _ x => x))))) fun _ _ x => x)
  cases c with
  | false => exact wpR_pure h₂
  | true => exact h₂
theorem wpR_execs_cons {st rest} {Q : Flow → Shared → Prop}
    (h : wpR M A (exec st env) (fun f s' => match f with | .next => wpR M A (execs rest env) Q E s' | f => Q f s') E s) : wpR M A (execs (st :: rest) env) Q E s := by
  rw [execs_cons]
  refine wpR_bind (wpR_mono h (fun f s' h' => ?_) fun _ _ x => x)
  cases f <;> first | exact h' | exact wpR_pure h'
theorem wpR_Assign_Name {x pos' value pos} {Q : Flow → Shared → Prop}
    (h : wpR M A (eval value env) (fun v s₁ => wpR M A (storeName env x v) (fun _ => Q .next) E s₁) E s)
    (hs : swapsWith value (some (.Name x pos')) pos.line env = pure false) : wpR M A (exec (.Assign [.Name x pos'] value pos) env) Q E s := fun Γ p hΓ hn => by
  simp only [exec_Assign_Name env x pos' value pos hs, Sem.wp_bind', Sem.wp_cmd_standAt, Sem.wp_bindName, Sem.wp_pure']
  exact Sem.wp_mono M Γ _ (fun v _ s₁ h₁ => h₁ Γ _ hΓ hn) (fun _ _ _ h' => h') _ _ (h Γ _ hΓ hn)
theorem wpR_AugAssign_Name {x pos' op value pos} {Q : Flow → Shared → Prop}
    (h : wpR M A (loadName env x) (fun old s₁ => wpR M A (eval value env) (fun v s₂ => wpR M A (inplaceOp op old v)
      (fun r s₃ => wpR M A (storeName env x r) (fun _ => Q .next) E s₃) E s₂) E s₁) E s) : wpR M A (exec (.AugAssign (.Name x pos') op value pos) env) Q E s := fun Γ p hΓ hn => by
  simp only [exec_AugAssign_Name, Sem.wp_bind', Sem.wp_holding, Sem.wp_cmd_standAt, Sem.wp_operate, Sem.wp_bindName, Sem.wp_pure']
  exact Sem.wp_mono M Γ _ (fun old p₁ s₁ h₁ => Sem.wp_mono M Γ _ (fun v _ s₂ h₂ => Sem.wp_mono M Γ _ (fun r _ s₃ h₃ => h₃ Γ _ hΓ hn)
    (fun _ _ _ h' => h') _ _ (h₂ Γ _ hΓ hn)) (fun _ _ _ h' => h') _ _ (h₁ Γ p₁ hΓ hn)) (fun _ _ _ h' => h') _ _ (h Γ _ hΓ hn)
theorem wpR_If {test body orelse pos} {Q : Flow → Shared → Prop}
    (h : wpR M A (isTrue test env (eval test env)) (fun b s₂ => if b then wpR M A (execs body env) Q E s₂ else wpR M A (execs orelse env) Q E s₂) E s) :
    wpR M A (exec (.If test body orelse pos) env) Q E s := fun Γ p hΓ hn => by
  simp only [exec_If, Sem.wp_bind', Sem.wp_cmd_standAt]
  refine Sem.wp_mono M Γ _ (fun b p₂ s₂ h₂ => ?_) (fun _ _ _ h' => h') _ _ (h Γ _ hΓ hn)
  cases b <;> exact h₂ Γ p₂ hΓ hn
theorem wpR_Return_some {e pos} {Q : Flow → Shared → Prop} (h : wpR M A (eval e env) (fun v => Q (.ret v)) E s) : wpR M A (exec (.Return (some e) pos) env) Q E s := by
  rw [exec_Return_some]
  exact wpR_bind (wpR_standAt (wpR_bind (wpR_mono h (fun v s₁ h₁ => wpR_pure h₁) fun _ _ x => x)))
theorem wpR_Expr {e pos} {Q : Flow → Shared → Prop} (h : wpR M A (eval e env) (fun v s' => match v with | .ref _ => False | _ => Q .next s') E s)
    (hi : interactive env = false) (hs : swapsWith e none pos.line env = pure false) : wpR M A (exec (.Expr e pos) env) Q E s := by
  rw [exec_Expr env e pos hi hs]
  refine wpR_bind (wpR_standAt (wpR_bind (wpR_mono h (fun v s' h' => ?_) fun _ _ x => x)))
  have hv : ∀ a, v ≠ .ref a := fun a hva => by subst hva; exact h'
  rw [dropValue_plain hv]
  refine wpR_pure ?_
  cases v <;> first | exact h' | exact (hv _ rfl).elim
theorem wpR_While {test body orelse pos} {Q : Flow → Shared → Prop}
    (h : codeR M A (.whileLoop test body orelse env) (fun r s' => match r with | .ok f => Q f s' | .error e => cameBackR M A env E e s') s) : wpR M A (exec (.While test body orelse pos) env) Q E s := by
  rw [exec_While]; exact wpR_bind (wpR_standAt (wpR_runOwn h))
theorem wpR_For {target iter body orelse pos} {Q : Flow → Shared → Prop}
    (h : wpR M A (eval iter env) (fun x s₁ => wpR M A (pyIter x) (fun it s₂ =>
      codeR M A (.forLoop target it body orelse env) (fun r s' => match r with | .ok f => Q f s' | .error e => cameBackR M A env E e s') s₂) E s₁) E s)
    (hs : ∀ x, foldedSetIterable iter env x = pure x) : wpR M A (exec (.For target iter body orelse pos) env) Q E s := by
  rw [exec_For]
  exact wpR_bind (wpR_standAt (wpR_bind (wpR_mono h (fun x s₁ h₁ => wpR_bind (wpR_of_eq (hs x) (wpR_bind (wpR_standAt (wpR_bind (wpR_holding
    (wpR_mono h₁ (fun it s₂ h₂ => wpR_runOwn h₂) fun _ _ h' => h'))))))) fun _ _ h' => h')))
/-- calls -/
theorem spliced_consR {x : Sem Value} {rest : List (Bool × Sem Value)} {Q : List Value → Shared → Prop}
    (h : wpR M A x (fun v s₁ => wpR M A (spliced rest) (fun vs s₂ => Q (v :: vs) s₂) E s₁) E s) : wpR M A (spliced ((false, x) :: rest)) Q E s := by
  show wpR M A (do
    let v ← x
    let here ← (pure [v] : Sem (List Value))
    return here ++ (← holding here (spliced rest))) Q E s
  exact wpR_bind (wpR_mono h (fun v s₁ h₁ => wpR_bind (wpR_pure (wpR_bind (wpR_holding (wpR_mono h₁ (fun vs s₂ h₂ => wpR_pure h₂) fun _ _ x => x))))) fun _ _ x => x)
theorem args_consR {e : Expr} {rest : List Expr} {pos : Pos} {Q : List Value → Shared → Prop}
    (h : wpR M A (eval e env) (fun v s₁ => wpR M A (spliced (backTo pos (starEach rest env))) (fun vs s₂ => Q (v :: vs) s₂) E s₁) E s)
    (he : starEach (e :: rest) env = (false, eval e env) :: starEach rest env) : wpR M A (spliced (backTo pos (starEach (e :: rest) env))) Q E s := by
  rw [he]; exact spliced_consR h
theorem evalArgs_plainR {f : Value} {x : Sem Value} {rest : List (Bool × Sem Value)} {Q : Args → Shared → Prop}
    (h : wpR M A (spliced ((false, x) :: rest)) (fun vs s₁ => Q ⟨vs, []⟩ s₁) E s) : wpR M A (evalArgs f true ((false, x) :: rest) []) Q E s := by
  unfold evalArgs
  show wpR M A (spliced ((false, x) :: rest) >>= _) Q E s
  refine wpR_bind (wpR_mono h (fun vs s₁ h₁ => ?_) fun _ _ x => x)
  refine wpR_holding ?_
  exact wpR_bind (wpR_pure (wpR_bind (wpR_pure (wpR_pure h₁))))
theorem wpR_Call {func : Expr} {args : List Expr} {pos : Pos} {Q : Value → Shared → Prop}
    (h : wpR M A (eval func env) (fun f s₁ => wpR M A (callWith pos f [] (backTo pos (starEach args env)) []) Q E s₁) E s)
    (he : eval (.Call func args [] pos) env = (do callWith pos (← eval func env) [] (backTo pos (starEach args env)) (backToKw pos (keywordEach [] env)))) :
    wpR M A (eval (.Call func args [] pos) env) Q E s := by
  rw [he]; exact wpR_bind h
theorem callWith_builtinR {pos : Pos} {id : String} {first : List Value} {args : List (Bool × Sem Value)} {Q : Value → Shared → Prop} (hplain : args.any (·.1) = false)
    (h : wpR M A (evalArgs (.builtin id) true args []) (fun a s₁ => wpR M A (call (.builtin id) (first ++ a.pos) a.kw) Q E s₁) E s) : wpR M A (callWith pos (.builtin id) first args []) Q E s := by
  unfold callWith
  refine wpR_bind (wpR_holding (wpR_mono h (fun a s₁ h₁ => wpR_bind (wpR_standAt ?_)) fun _ _ x => x))
  simp only [hplain, List.any_nil, Bool.or_false]
  refine wpR_bind (wpR_pure ?_)
  exact wpR_bind (wpR_mono h₁ (fun r s₂ hr => wpR_bind (wpR_holding (wpR_point (wpR_pure hr)))) fun _ _ x => x)
theorem callWith_typeR {pos : Pos} {T : String} {first : List Value} {args : List (Bool × Sem Value)} {Q : Value → Shared → Prop} (hplain : args.any (·.1) = false)
    (h : wpR M A (evalArgs (.type T) true args []) (fun a s₁ => wpR M A (call (.type T) (first ++ a.pos) a.kw) Q E s₁) E s) : wpR M A (callWith pos (.type T) first args []) Q E s := by
  unfold callWith
  refine wpR_bind (wpR_holding (wpR_mono h (fun a s₁ h₁ => wpR_bind (wpR_standAt ?_)) fun _ _ x => x))
  simp only [hplain, List.any_nil, Bool.or_false]
  refine wpR_bind (wpR_pure ?_)
  exact wpR_bind (wpR_mono h₁ (fun r s₂ hr => wpR_bind (wpR_holding (wpR_point (wpR_pure hr)))) fun _ _ x => x)
theorem callWith_functionR {pos : Pos} {a : Addr} {o : Obj} {fd : FuncData} {first : List Value} {args : List (Bool × Sem Value)} {Q : Value → Shared → Prop} (hplain : args.any (·.1) = false)
    (h : wpR M A (evalArgs (.ref a) true args []) (fun x s₁ => (s₁.heap.get? a = some o ∧ o.data = .func fd) ∧ wpR M A (call (.ref a) (first ++ x.pos) x.kw) Q E s₁) E s) :
    wpR M A (callWith pos (.ref a) first args []) Q E s := by
  unfold callWith
  refine wpR_bind (wpR_holding (wpR_mono h (fun x s₁ h₁ => wpR_bind (wpR_standAt ?_)) fun _ _ x => x))
  have tail : ∀ {t : Sem Value}, wpR M A t Q E s₁ → wpR M A (t >>= fun r => holding [r] point >>= fun _ => pure r) Q E s₁ :=
    fun ht => wpR_bind (wpR_mono ht (fun r s₂ hr => wpR_bind (wpR_holding (wpR_point (wpR_pure hr)))) fun _ _ x => x)
  simp only [hplain, List.any_nil, Bool.or_false]
  refine wpR_bind (m := keeperOf (.ref a)) (wpR_of ?_)
  unfold keeperOf
  refine wpAny_bind (wpAny_load h₁.1.1 ?_)
  rw [h₁.1.2]
  refine wpAny_pure ?_
  show wpR M A (if args.length + 2 * ([] : List (Option Str × Sem Value)).length > 30 then call (.ref a) (first ++ x.pos) x.kw >>= fun r => holding [r] point >>= fun _ => pure r else callMarked plainCall (.ref a) (first ++ x.pos) x.kw >>= fun r => holding [r] point >>= fun _ => pure r) Q E s₁
  split
  · exact tail h₁.2
  · exact tail (wpR_keep h₁.2)
theorem MethodCallR {o : Expr} {name : Str} {apos pos : Pos} {args : List Expr} {pl : Sem Bool} {Q : Value → Shared → Prop}
    (h : wpR M A (eval o env) (fun ov s₁ => wpR M A (getMethod ov name pl) (fun fx s₂ => wpR M A (callWith pos fx.1 fx.2 (backTo pos (starEach args env)) []) Q E s₂) E s₁) E s)
    (he : eval (.Call (.Attribute o name apos) args [] pos) env = (do
      let ov ← eval o env
      standAt apos.atName
      let (f, first) ← holding [ov] (getMethod ov name pl)
      callWith pos f first (backTo pos (starEach args env)) [])) :
    wpR M A (eval (.Call (.Attribute o name apos) args [] pos) env) Q E s := by
  rw [he]
  refine wpR_bind (wpR_mono h (fun ov s₁ h₁ => wpR_bind (wpR_standAt (wpR_bind (wpR_holding (wpR_mono h₁ (fun fx s₂ h₂ => ?_) fun _ _ x => x))))) fun _ _ x => x)
  exact h₂
theorem SubscriptR {value slice pos} {Q : Value → Shared → Prop}
    (h : wpR M A (eval value env) (fun o s₁ => wpR M A (eval slice env) (fun i s₂ => wpR M A (subscriptTail value slice o i) Q E s₂) E s₁) E s) : wpR M A (eval (.Subscript value slice pos) env) Q E s := by
  rw [eval_Subscript]
  exact wpR_bind (wpR_mono h (fun o s₁ h₁ => wpR_bind (wpR_holding (wpR_mono h₁ (fun i s₂ h₂ => wpR_bind (wpR_standAt h₂)) fun _ _ x => x))) fun _ _ x => x)
theorem wpR_Slice {lower upper step : Option Expr} {p : Pos} {Q : Value → Shared → Prop}
    (h : wpR M A (evalPart lower env) (fun l s₁ => wpR M A (evalPart upper env) (fun u s₂ => wpR M A (evalPart step env) (fun st s₃ =>
      Q (.ref s₃.heap.objs.size) { s₃ with heap := s₃.heap.push { cls := .type "slice", data := .fields #[l, u, st] } }) E s₂) E s₁) E s) : wpR M A (eval (.Slice lower upper step p) env) Q E s := by
  rw [arm_eval_Slice]
  refine wpR_bind (wpR_mono h (fun l s₁ h₁ => wpR_bind (wpR_holding (wpR_mono h₁ (fun u s₂ h₂ => wpR_bind (wpR_holding (wpR_mono h₂ (fun st s₃ h₃ => ?_) fun _ _ x => x))) fun _ _ x => x))) fun _ _ x => x)
  exact wpR_of (wpAny_newObj_type h₃)
theorem wpR_List {elts : List Expr} {pos : Pos} {Q : Value → Shared → Prop}
    (h : wpR M A (spliced (backTo pos (starEach elts env)))
      (fun vs s₁ => vs.length ≤ sizeLine ∧ Q (.ref s₁.heap.objs.size) { s₁ with heap := s₁.heap.push { cls := .type "list", data := .seq vs.toArray } }) E s) : wpR M A (eval (.List elts pos) env) Q E s := by
  rw [arm_eval_List]
  exact wpR_bind (wpR_standAt (wpR_bind (wpR_mono h (fun vs s₁ h₁ => wpR_of (wpAny_newObj_type h₁.2 (by show vs.toArray.size ≤ sizeLine; rw [List.size_toArray]; exact h₁.1))) fun _ _ x => x)))
theorem wpR_Tuple {elts : List Expr} {k : Nat} {pos : Pos} {Q : Value → Shared → Prop}
    (h : wpR M A (spliced (backTo pos (starEach elts env)))
      (fun vs s₁ => vs.length ≤ sizeLine ∧ Q (.ref s₁.heap.objs.size) { s₁ with heap := s₁.heap.push { cls := .type "tuple", data := .seq vs.toArray } }) E s) : wpR M A (eval (.Tuple elts k pos) env) Q E s := by
  rw [arm_eval_Tuple]
  exact wpR_bind (wpR_standAt (wpR_bind (wpR_mono h (fun vs s₁ h₁ => wpR_of (wpAny_newObj_type h₁.2 (by show vs.toArray.size ≤ sizeLine; rw [List.size_toArray]; exact h₁.1))) fun _ _ x => x)))
theorem wpR_Assign_Subscript {o i pos' value pos} {Q : Flow → Shared → Prop}
    (h : wpR M A (eval value env) (fun v s₁ => wpR M A (eval o env) (fun ov s₂ => wpR M A (eval i env) (fun iv s₃ =>
      wpR M A (setItem ov iv v) (fun _ => Q .next) E s₃) E s₂) E s₁) E s)
    (hs : swapsWith value (some (.Subscript o i pos')) pos.line env = pure false) : wpR M A (exec (.Assign [.Subscript o i pos'] value pos) env) Q E s := fun Γ p hΓ hn => by
  simp only [exec_Assign_Subscript o i pos' value pos hs, assign_Subscript, Sem.wp_bind', Sem.wp_holding, Sem.wp_cmd_standAt, Sem.wp_release, Sem.wp_pure']
  exact Sem.wp_mono M Γ _ (fun v p₁ s₁ h₁ => Sem.wp_mono M Γ _ (fun ov p₂ s₂ h₂ => Sem.wp_mono M Γ _ (fun iv _ s₃ h₃ => h₃ Γ _ hΓ hn)
    (fun _ _ _ h' => h') _ _ (h₂ Γ p₂ hΓ hn)) (fun _ _ _ h' => h') _ _ (h₁ Γ p₁ hΓ hn)) (fun _ _ _ h' => h') _ _ (h Γ _ hΓ hn)
theorem wpR_AugAssign_Sub {o i value : Expr} {tpos pos : Pos} {op : Operator} {Q : Flow → Shared → Prop}
    (h : wpR M A (eval o env) (fun ov s₁ => wpR M A (eval i env) (fun iv s₂ => wpR M A (getItem ov iv) (fun old s₃ =>
          wpR M A (eval value env) (fun v s₄ => wpR M A (inplaceOp op old v) (fun new s₅ =>
            wpR M A (setItem ov iv new) (fun _ => Q .next) E s₅) E s₄) E s₃) E s₂) E s₁) E s)
    (hi : ∀ ov iv new, augStore i ov iv new = (do holding [new, ov, iv] (setItem ov iv new); release [new, ov, iv] []; pure .next)) :
    wpR M A (exec (.AugAssign (.Subscript o i tpos) op value pos) env) Q E s := by
  show wpR M A (do
      standAt pos
      let ov ← eval o env
      let iv ← holding [ov] (eval i env)
      let new ← holding [ov, iv] do
        standAt tpos
        let old ← getItem ov iv
        let v ← holding [old] (eval value env)
        standAt pos
        operate [old, v] (inplaceOp op old v)
      standAt tpos
      augStore i ov iv new) Q E s
  refine wpR_bind (wpR_standAt (wpR_bind (wpR_mono h (fun ov s₁ h₁ => ?_) fun _ _ x => x)))
  refine wpR_bind (wpR_holding (wpR_mono h₁ (fun iv s₂ h₂ => ?_) fun _ _ x => x))
  refine wpR_bind (wpR_holding (wpR_bind (wpR_standAt (wpR_bind (wpR_mono h₂ (fun old s₃ h₃ => ?_) fun _ _ x => x)))))
  refine wpR_bind (wpR_holding (wpR_mono h₃ (fun v s₄ h₄ => ?_) fun _ _ x => x))
  refine wpR_bind (wpR_standAt (wpR_operate (wpR_mono h₄ (fun new s₅ h₅ => ?_) fun _ _ x => x)))
  refine wpR_bind (wpR_standAt ?_)
  rw [hi]
  exact wpR_bind (wpR_holding (wpR_mono h₅ (fun _ _ h₆ => wpR_bind (wpR_release (wpR_pure h₆))) fun _ _ x => x))
theorem wpR_assign_Name {x pos v} {Q : Unit → Shared → Prop} (h : wpR M A (storeName env x v) Q E s) : wpR M A (assign (.Name x pos) env v) Q E s := by
  rw [PySem.assign_Name]; exact wpR_bind (wpR_standAt (wpR_bindName h))
end
end Mine
end
section
open PySem PySem.W PyProof.Rows PySem.Calls PySem.Spec
open PySem.Sem (wp)
set_option Elab.async false
set_option maxRecDepth 100000
set_option linter.unusedVariables false
namespace Mine
theorem caller_nd : Nd ⟨.builtin "claim.caller" {}, none, none, [], none⟩ := ⟨by decide +kernel, fun x hx => nomatch hx⟩
theorem ends_R {prog : Program} {w : World} {t : Sem Fin} {s : Shared} {R : Result → Shared → Prop} (hreg : s.asleep)
    (h : wpR (model prog w) callerA t (fun fin s' => ∃ f, fin = .done f ∧ (R (.ok f) s' ∧ leftWithCleanup s'.gens = false)) (fun e s' => R (.error e) s' ∧ leftWithCleanup s'.gens = false) s) :
    ∃ n r s' s'', runN (denote table) prog w n s ⟨t, .builtin "claim.caller" {}, default, []⟩ = .halted (outcomeOf r) s' ∧
      schedN (denote table) prog w n (.single s ⟨t, .builtin "claim.caller" {}, default, []⟩) = .halted (outcomeOf r) s' ∧ s'.forget = s''.forget ∧ R r s'' := by
  have hw : wp (model prog w) ⟨.builtin "claim.caller" {}, none, none, [], none⟩ t (Sem.finPost (model prog w) ⟨.builtin "claim.caller" {}, none, none, [], none⟩ fun r s' => R r s' ∧ leftWithCleanup s'.gens = false)
      (fun e _ s' => R (.error e) s' ∧ leftWithCleanup s'.gens = false) default s := by
    refine Sem.wp_mono _ _ t (fun fin p' s' h' => ?_) (fun _ _ _ h' => h') default s (h _ default caller_in caller_nd)
    obtain ⟨f, rfl, hf⟩ := h'
    exact hf
  obtain ⟨n, r, s₁, s₂, hs, hn, hfo, hR⟩ := wp_halts_full (M := model prog w) (R := R) hreg hw
  exact ⟨n, r, s₂, s₁, hn, hs, hfo, hR⟩
theorem callFrom_R {c : ClaimW} {tree : List Value → Sem Fin} {w : World} {s : Shared} {free : Addr → Prop} {gens : Prop} {kept : Heap → Prop} (hz : s.asleep) (hgens : s.gens = #[])
    (hspec : ∀ args, c.pre args = true → WData.layableAll args = true →
      ∀ ord : List DictEntry → List DictEntry, (∀ l, (ord l).Perm l) →
      ∃ vs s₁, layAllW c.records (classAt s.heap) w.params ord args s = some (vs, s₁) ∧
        wpR (model c.prog w) callerA (tree vs) (fun fin s' => ∃ f, fin = .done f ∧ (c.Ends s args vs s₁ (.ok f) s' ∧ s'.os = s.os ∧ AllBare s'.gens ∧ kept s'.heap))
          (fun e s' => c.Ends s args vs s₁ (.error e) s' ∧ s'.os = s.os ∧ AllBare s'.gens ∧ kept s'.heap) s₁) :
    c.CallFrom (fun vs => ⟨tree vs, .builtin "claim.caller" {}, default, []⟩) w free gens kept s := by
  intro args hpre hlay ord hord
  obtain ⟨vs, s₁, hlaid, hcode⟩ := hspec args hpre hlay ord hord
  have hal := layAllW_rest _ _ _ hlaid
  obtain ⟨k, r, s', s'', hrun, hsched, hfo, hcase, hos, hkp⟩ := ends_R (prog := c.prog) (w := w) (t := tree vs) (s := s₁)
    (R := fun r s' => c.Ends s args vs s₁ r s' ∧ s'.os = s.os ∧ kept s'.heap)
    (Shared.asleep_of_life hal.2.2.2 hz)
    (wpR_mono hcode (by
      rintro fin s' ⟨f, e, h1, h2, h3, h4⟩
      exact ⟨f, e, ⟨h1, h2, h4⟩, leftWithCleanup_false_of_bare h3⟩) (by
      rintro e s' ⟨h1, h2, h3, h4⟩
      exact ⟨⟨h1, h2, h4⟩, leftWithCleanup_false_of_bare h3⟩))
  obtain ⟨eh, _, _, eo, _⟩ := Shared.forget_eq hfo
  have hcase := hcase.congr eh
  have hkp : kept s'.heap := by rw [eh]; exact hkp
  rw [← eo] at hos
  have hlife : s'.heap.life = s.heap.life := (runN_life _ _ _ hrun).trans hal.2.2.2
  refine ⟨vs, s₁, hlaid, k, _, s', hsched, ?_, (fun _ i x hx => by rw [hgens] at hx; simp at hx), hkp, by rw [hlife], Shared.rest_eq hos⟩
  rcases hcase with ⟨v, rfl, d1, d2, d3, d4, d5⟩ | ⟨e, ob, cls, rfl, d1, d2, d3, d4, d5⟩
  · exact .inl ⟨v, rfl, d1, d2, d3, fun b o y _ => d4 b o y, d5⟩
  · exact .inr ⟨e, ob, cls, rfl, d1, d2, d3, d4, fun b o y _ => d5 b o y⟩

theorem holds_R {l : OpenLaw} {q : Program} {N : Nat} {d : DefRec} {kwd : List (Str × Expr)} (said : l.wellSaid = true)
    (left : LeftO l.prog q [] (fun s => xlAt q [] s && recOk [] s) (fun _ => ()) (fun _ => ()) N)
    (hdef : defOf q l.name = some (d, kwd)) (hp : l.prog.theDef l.name = some (d.params, d.body, d.scope)) (hk : kwWritten? d.params.kwonlyargs d.params.kw_defaults = some kwd)
    (hwr : (!l.row.writes || l.row.records.isEmpty) = true)
    (ok : (chainsOk q && opensWell l.prog && (frees l.row.toRowW && l.row.within.isEmpty)) = true) (hb : l.prog.bare) (hw : l.row.toRowW.promised)
    (call : ∀ (w : World) (s₀ s₁ : Shared) (mg mb : Str → Option Value), Ground q [] [] (XL q []) w s₀ mg mb s₁.heap → ∀ (a : Addr) (o : Obj) (pm cd doc dV kV : Value), s₁.heap.get? a = some o →
      o.data = .func { docDef d.name d.params d.body d.scope pm cd doc with defaults := dV, kwdefaults := kV } → s₁.heap.CodeRec cd d.name → Dflts mg s₁.heap d.params kwd dV kV → mg d.name = some (.ref a) → s₁.gens = #[] →
      ∀ (args : List WData) (vals : List Value) (as : List Addr), l.row.toRowW.claim.pre args = true → WData.layableAll args = true → ReadsAllW [] (classAt s₀.heap) s₁.heap vals args as → WellAll w.params s₁.heap vals args → (∀ a ∈ as, (a == sysModules) = false) →
        wpR (model l.prog w) callerA (PySem.call (.ref a) vals) (fun v s' => GoodW l.row.toRowW.claim (classAt s₀.heap) (ExcName.means s₀.heap) args s₁ (.ok (.ret v)) s')
          (fun e s' => GoodW l.row.toRowW.claim (classAt s₀.heap) (ExcName.means s₀.heap) args s₁ (.error e) s') s₁) : l.Holds := by
  refine holds_law said fun k1 => ⟨k1, hw, ?_⟩
  obtain ⟨ok, k5⟩ := Bool.and_eq_true_iff.mp ok
  obtain ⟨hch, o1⟩ := Bool.and_eq_true_iff.mp ok
  obtain ⟨k5, k6⟩ := Bool.and_eq_true_iff.mp k5
  obtain ⟨hsame, hu, ha, hap, hm⟩ := frees_parts k5
  refine ⟨⟨hb, o1, rfl⟩, hw.witness, fun w => ⟨(left.behind (XP := XL q []) (fun s e => xl_of s (Bool.and_eq_true_iff.mp e).1) hch w).1, fun s' hs' => ?_⟩⟩
  obtain ⟨s₀, hf, hg0, s, hT, hz, hgens, hg, G00, y⟩ := (left.behind (XP := fun mg h => XL q [] mg h ∧ RecFacts [] h) (fun s hs => ⟨xl_of s (Bool.and_eq_true_iff.mp hs).1, recFacts_of (Bool.and_eq_true_iff.mp hs).2⟩) hch w).2 s' hs'
  have G0 : Ground q [] [] (XL q []) w s (s.heap.nsMap mainGlobals) (s.heap.nsMap builtinsNs) s.heap := ⟨G00.T, G00.B, G00.D, G00.TE, G00.TD, G00.W, G00.X.1, G00.cls, G00.has, G00.apart, G00.once, G00.K⟩
  have RF := G00.X.2
  have hT' := hT
  refine ⟨s₀, hf, hg0, s, hT, ?_, RF.1, RF.2.1, ?_⟩
  · intro n hn
    obtain rfl : n = l.name := by
      have hn' : n ∈ [l.name] := hn
      simpa using hn'
    exact pinned_of_view hg G0 hdef hp hk
  have hgens : s.gens = #[] := Array.eq_empty_of_size_eq_zero (beq_iff_eq.mp hgens)
  have G : Ground q [] [] (XL q []) w s _ _ s.heap := RF.ground G0
  refine callFrom_R (c := l.row.toRowW.claim) hz hgens fun args hpre hlay ord hord => ?_
  obtain ⟨⟨vs, s₁⟩, hlaid⟩ := Option.isSome_iff_exists.mp (layAllW_isSome (P := w.params) (ord := ord) G.has args l.row.toRowW.args s (pre_splitW hpre).1)
  have keeps := layAllW_keeps _ _ _ hlaid
  have hal := layAllW_rest _ _ _ hlaid
  obtain ⟨as, hrd, hin, hold⟩ := reads_layAllW hord _ _ _ hlaid hlay s₁.heap (fun _ _ e => e)
  have L : Laid [] w s s₁ args vs as := ⟨⟨ord, hord, hlaid⟩, hrd, hin, hold, keeps, hal.1.trans hgens, hal.2.2.1⟩
  have G₁ := G.keeps XL.keeps keeps
  obtain ⟨a, o, pm, cd, doc, dV, kV, h1, h2, h3, h4, h5⟩ := G₁.fn hdef
  have h := call w s s₁ _ _ G₁ a o pm cd doc dV kV h2 h3 h4 h5 (defOf_name hdef ▸ h1) L.gens args vs as hpre hlay L.reads L.well (L.low G.low)
  have hi := ident_freeW hu ha hap
  have hwi : l.row.toRowW.claim.within = [] := List.isEmpty_iff.mp k6
  refine ⟨vs, s₁, hlaid, ?_⟩
  show wpR (model l.prog w) callerA (do match ← nsGet mainNs l.name with
      | some f => do ret (← PySem.call f vs)
      | none => unsupported "claim.caller:no-such-global") _ _ s₁
  refine wpR_bind (wpR_of (wpAny_nsGet G₁.T.g ?_))
  rw [h1]
  refine wpR_bind (wpR_mono h (fun v s' g => wpR_pure ⟨_, rfl, ?_⟩) fun e s' g => ?_)
  · have z := g.toG.laid (c := l.row.toRowW.claim) hsame hwi hi L
    exact ⟨z.1, z.2.1, z.2.2, fun q => ⟨namesKept_of hT' hg l.own keeps g.toG.2.1.old, noTable hwr q⟩⟩
  · have z := g.toG.laid (c := l.row.toRowW.claim) hsame hwi hi L
    exact ⟨z.1, z.2.1, z.2.2, fun q => ⟨namesKept_of hT' hg l.own keeps g.toG.2.1.old, noTable hwr q⟩⟩
end Mine
end
section
open PySem PySem.W PyProof.Rows PySem.Calls
set_option Elab.async false
set_option maxRecDepth 100000
set_option linter.unusedVariables false
namespace Mine

/-- abstract values: identities of ints, strs, bytes are forgotten -/
inductive V where
  | int (i : Int)
  | bytes (ns : List Int)
  | str (x : Str)
  | raw (v : Value)
  | unk

def bInts (b : Array UInt8) : List Int := b.toList.map fun x => (x.toNat : Int)

def V.Is : V → Value → Prop
  | .int i, v => ∃ t, v = .int i t
  | .bytes ns, v => ∃ b t, v = .bytes b t ∧ bInts b = ns
  | .str x, v => ∃ t, v = .str x t
  | .raw u, v => v = u
  | .unk, _ => True

abbrev V.ref (a : Addr) : V := .raw (.ref a)
abbrev V.bool (b : Bool) : V := .raw (.bool b)
abbrev V.none : V := .raw .none

inductive All2 : List V → List Value → Prop
  | nil : All2 [] []
  | cons {u v us vs} : u.Is v → All2 us vs → All2 (u :: us) (v :: vs)

theorem All2.length {us vs} (h : All2 us vs) : us.length = vs.length := by
  induction h with
  | nil => rfl
  | cons _ _ ih => simp [ih]
theorem All2.get {us vs} (h : All2 us vs) : ∀ {i : Nat} {u : V}, us[i]? = some u → ∃ v, vs[i]? = some v ∧ u.Is v := by
  induction h with
  | nil => intro i u hu; simp at hu
  | cons h1 _ ih =>
    intro i u hu
    cases i with
    | zero => simp at hu; subst hu; exact ⟨_, rfl, h1⟩
    | succ i => simp at hu; simpa using ih hu
theorem All2.get' {us vs} (h : All2 us vs) : ∀ {i : Nat} {v : Value}, vs[i]? = some v → ∃ u, us[i]? = some u ∧ u.Is v := by
  induction h with
  | nil => intro i u hu; simp at hu
  | cons h1 _ ih =>
    intro i u hu
    cases i with
    | zero => simp at hu; subst hu; exact ⟨_, rfl, h1⟩
    | succ i => simp at hu; simpa using ih hu
theorem All2.append {us vs us' vs'} (h : All2 us vs) (h' : All2 us' vs') : All2 (us ++ us') (vs ++ vs') := by
  induction h with
  | nil => exact h'
  | cons h1 _ ih => exact .cons h1 ih
theorem All2.take {us vs} (h : All2 us vs) : ∀ n, All2 (us.take n) (vs.take n) := by
  induction h with
  | nil => intro n; simp; exact .nil
  | cons h1 _ ih => intro n; cases n with
    | zero => exact .nil
    | succ n => exact .cons h1 (ih n)
theorem All2.drop {us vs} (h : All2 us vs) : ∀ n, All2 (us.drop n) (vs.drop n) := by
  induction h with
  | nil => intro n; simp; exact .nil
  | cons h1 h2 ih => intro n; cases n with
    | zero => exact .cons h1 h2
    | succ n => exact ih n
theorem All2.set {us vs} (h : All2 us vs) {u v} (hu : u.Is v) : ∀ n, All2 (us.set n u) (vs.set n v) := by
  induction h with
  | nil => intro n; simp; exact .nil
  | cons h1 h2 ih => intro n; cases n with
    | zero => exact .cons hu h2
    | succ n => exact .cons h1 (ih n)
theorem All2.ints {ns : List Int} {vs} (h : All2 (ns.map V.int) vs) : IntsAre vs ns := by
  induction ns generalizing vs with
  | nil => cases h; exact .nil
  | cons n ns ih => cases h with | cons h1 h2 => obtain ⟨t, rfl⟩ := h1; exact .cons _ _ (ih h2)
theorem All2.of_ints {ns : List Int} {vs} (h : IntsAre vs ns) : All2 (ns.map V.int) vs := by
  induction h with
  | nil => exact .nil
  | cons _ _ _ ih => exact .cons ⟨_, rfl⟩ ih

inductive Cell where
  | list (vs : List V)
  | tup (vs : List V)
  | ba (ns : List Int)
  | obj (o : Obj)

abbrev Cell.ints (ns : List Int) : Cell := .list (ns.map V.int)

def Cell.Is : Cell → Obj → Prop
  | .list us, o => ∃ ws n, o = { cls := .type "list", data := .seq ws n } ∧ All2 us ws.toList
  | .tup us, o => ∃ ws, o = { cls := .type "tuple", data := .seq ws } ∧ All2 us ws.toList
  | .ba ns, o => ∃ b, o = { cls := .type "bytearray", data := .bytearray b 0 } ∧ bInts b = ns
  | .obj p, o => o = p

def At (h : Heap) (a : Addr) (c : Cell) : Prop := ∃ o, h.get? a = some o ∧ c.Is o
theorem At.keep {h h' : Heap} {a c} (x : At h a c) (k : ∀ o, h.get? a = some o → h'.get? a = some o) : At h' a c :=
  let ⟨o, ho, hc⟩ := x; ⟨o, k o ho, hc⟩
theorem At.lt {h : Heap} {a c} (x : At h a c) : a < h.objs.size := let ⟨_, ho, _⟩ := x; Heap.lt_size ho
theorem At.isList {h : Heap} {a us} (x : At h a (.list us)) : ∃ ws, h.IsList a ws ∧ All2 us ws.toList :=
  let ⟨_, ho, ws, n, e, hw⟩ := x; ⟨ws, ⟨_, ho, by rw [e], n, by rw [e]⟩, hw⟩
theorem At.isL {h : Heap} {a us} (x : At h a (.list us)) : ∃ ws n, IsL h a ws n ∧ All2 us ws.toList :=
  let ⟨_, ho, ws, n, e, hw⟩ := x; ⟨ws, n, by subst e; exact ho, hw⟩

structure Cx where
  prog : Program
  w : World
  A : Around
  L : Addr
  B : Heap
  os : OsState
  outs : List (Addr × (Str → Option Value))

structure St where
  loc : List (Str × V)
  own : List (Addr × Cell)

def LocIs (x : Option Value) (u : V) : Prop := u = .unk ∨ ∃ v, x = some v ∧ u.Is v

structure Sat (X : Cx) (ro : List (Addr × Cell)) (st : St) (R : Heap) (s : Shared) : Prop where
  base : ∀ b o, X.B.get? b = some o → R.get? b = some o
  ros : ∀ p ∈ ro, At R p.1 p.2
  fr : ∀ b o, R.get? b = some o → s.heap.get? b = some o
  frL : R.get? X.L = none
  own : ∀ p ∈ st.own, R.get? p.1 = none ∧ p.1 ≠ X.L ∧ At s.heap p.1 p.2
  nd : (st.own.map (·.1)).Nodup
  ns : ∃ m, s.heap.Ns X.L m ∧ ∀ p ∈ st.loc, LocIs (m p.1) p.2
  nl : (st.loc.map (·.1)).Nodup
  gens : s.gens = #[]
  oss : s.os = X.os
  outs : ∀ q ∈ X.outs, s.heap.Ns q.1 q.2 ∧ R.get? q.1 = none ∧ q.1 ≠ X.L
  apart : ∀ p ∈ st.own, ∀ q ∈ X.outs, p.1 ≠ q.1

abbrev Led := List (Addr × Cell)
abbrev Er := Heap → Value → Shared → Prop
def TT {α β : Type} (X : Cx) (ro : List (Addr × Cell)) (E : Heap → Value → Shared → Prop) (rel : β → α → Prop) (st : St) (t : Sem α) (Q : β → St → Prop) : Prop :=
  ∀ R s, Sat X ro st R s → wpR (model X.prog X.w) X.A t (fun a s' => ∃ b st', rel b a ∧ Sat X ro st' R s' ∧ Q b st') (E R) s

inductive Fl where
  | next | brk | cont
  | ret (u : V)
def Fl.Is : Fl → Flow → Prop
  | .next, f => f = .next
  | .brk, f => f = .brk
  | .cont, f => f = .cont
  | .ret u, f => ∃ v, f = .ret v ∧ u.Is v

abbrev TV (X : Cx) (ro : Led) (E : Er) (st : St) (t : Sem Value) (Q : V → St → Prop) : Prop := TT X ro E V.Is st t Q
abbrev TB (X : Cx) (ro : Led) (E : Er) (st : St) (t : Sem Bool) (Q : Bool → St → Prop) : Prop := TT X ro E (fun (b : Bool) a => a = b) st t Q
abbrev TU (X : Cx) (ro : Led) (E : Er) (st : St) (t : Sem Unit) (Q : St → Prop) : Prop := TT X ro E (fun (_ : Unit) (_ : Unit) => True) st t (fun _ => Q)
abbrev TF (X : Cx) (ro : Led) (E : Er) (st : St) (t : Sem Flow) (Q : Fl → St → Prop) : Prop := TT X ro E Fl.Is st t Q
abbrev TL (X : Cx) (ro : Led) (E : Er) (st : St) (t : Sem (List Value)) (Q : List V → St → Prop) : Prop := TT X ro E All2 st t Q

/-- reading and writing the two lists by place -/
inductive Has {α β : Type} (a : α) (c : β) : List (α × β) → Prop
  | head {r} : Has a c ((a, c) :: r)
  | tail {p r} : Has a c r → Has a c (p :: r)
theorem Has.mem {α β : Type} {a : α} {c : β} {l} (h : Has a c l) : (a, c) ∈ l := by
  induction h with
  | head => exact .head _
  | tail _ ih => exact .tail _ ih
theorem Has.of_mem {α β : Type} {a : α} {c : β} : ∀ {l : List (α × β)}, (a, c) ∈ l → Has a c l
  | _ :: _, .head _ => .head
  | _ :: _, .tail _ h => .tail (Has.of_mem h)
theorem Has.app_left {α β : Type} {a : α} {c : β} {l r} (h : Has a c l) : Has a c (l ++ r) := .of_mem (List.mem_append_left _ h.mem)
theorem Has.app_right {α β : Type} {a : α} {c : β} {l r} (h : Has a c r) : Has a c (l ++ r) := .of_mem (List.mem_append_right _ h.mem)

inductive Put {α β : Type} (a : α) (c c' : β) : List (α × β) → List (α × β) → Prop
  | head {r} : Put a c c' ((a, c) :: r) ((a, c') :: r)
  | tail {p r r'} : Put a c c' r r' → Put a c c' (p :: r) (p :: r')
theorem Put.has {α β : Type} {a : α} {c c' : β} {l l'} (h : Put a c c' l l') : Has a c l := by
  induction h with
  | head => exact .head
  | tail _ ih => exact .tail ih
theorem Put.keys {α β : Type} {a : α} {c c' : β} {l l'} (h : Put a c c' l l') : l'.map (·.1) = l.map (·.1) := by
  induction h with
  | head => rfl
  | tail _ ih => simp [ih]
theorem Put.mem {α β : Type} {a : α} {c c' : β} {l l'} (h : Put a c c' l l') (nd : (l.map (·.1)).Nodup) : ∀ p ∈ l', p = (a, c') ∨ (p ∈ l ∧ p.1 ≠ a) := by
  induction h with
  | head =>
    rename_i r
    intro p hp
    rcases List.mem_cons.mp hp with rfl | hp
    · exact .inl rfl
    · refine .inr ⟨.tail _ hp, fun e => ?_⟩
      simp only [List.map_cons, List.nodup_cons] at nd
      exact nd.1 (e ▸ List.mem_map.mpr ⟨p, hp, rfl⟩)
  | tail h ih =>
    rename_i q r r'
    simp only [List.map_cons, List.nodup_cons] at nd
    intro p hp
    rcases List.mem_cons.mp hp with rfl | hp
    · refine .inr ⟨.head _, fun e => nd.1 ?_⟩
      exact List.mem_map.mpr ⟨(a, c), h.has.mem, e.symm⟩
    · rcases ih nd.2 p hp with h1 | ⟨h1, h2⟩
      · exact .inl h1
      · exact .inr ⟨.tail _ h1, h2⟩

inductive Del {α β : Type} (a : α) (c : β) : List (α × β) → List (α × β) → Prop
  | head {r} : Del a c ((a, c) :: r) r
  | tail {p r r'} : Del a c r r' → Del a c (p :: r) (p :: r')

section
variable {X : Cx} {ro : List (Addr × Cell)} {E : Heap → Value → Shared → Prop} {st : St} {R : Heap} {s : Shared}

theorem Sat.lt (S : Sat X ro st R s) : X.L < s.heap.objs.size := by
  obtain ⟨m, ⟨o, _, _, ho, _⟩, _⟩ := S.ns
  exact Heap.lt_size ho
theorem Sat.keepB (S : Sat X ro st R s) : ∀ b o, X.B.get? b = some o → s.heap.get? b = some o := fun b o h => S.fr b o (S.base b o h)
theorem Sat.at_own (S : Sat X ro st R s) {a c} (h : Has a c st.own) : At s.heap a c := (S.own _ h.mem).2.2
theorem Sat.at_ro (S : Sat X ro st R s) {a c} (h : Has a c ro) : At s.heap a c := (S.ros _ h.mem).keep fun o e => S.fr _ o e

/-- everything kept: new tokens, new rubbish -/
theorem Sat.keeps (S : Sat X ro st R s) {h' : Heap} {tk : Nat} (k : ∀ b o, s.heap.get? b = some o → h'.get? b = some o) : Sat X ro st R { s with heap := h', toks := tk } where
  base := S.base
  ros := S.ros
  fr := fun b o e => k b o (S.fr b o e)
  frL := S.frL
  own := fun p hp => let ⟨h1, h2, h3⟩ := S.own p hp; ⟨h1, h2, h3.keep fun o e => k _ o e⟩
  nd := S.nd
  ns := let ⟨m, hm, hl⟩ := S.ns; ⟨m, hm.keeps k, hl⟩
  nl := S.nl
  gens := S.gens
  oss := S.oss
  outs := fun q hq => let ⟨h1, h2, h3⟩ := S.outs q hq; ⟨h1.keeps k, h2, h3⟩
  apart := S.apart
theorem Sat.toks (S : Sat X ro st R s) {tk : Nat} : Sat X ro st R { s with toks := tk } := S.keeps (h' := s.heap) fun _ _ e => e

/-- a new object onto the ledger; the rest is kept -/
theorem Sat.alloc (S : Sat X ro st R s) {h' : Heap} {tk : Nat} {a : Addr} {c : Cell} (hn : s.heap.get? a = none) (hc : At h' a c) (k : ∀ b o, s.heap.get? b = some o → h'.get? b = some o) :
    Sat X ro { st with own := (a, c) :: st.own } R { s with heap := h', toks := tk } where
  base := S.base
  ros := S.ros
  fr := fun b o e => k b o (S.fr b o e)
  frL := S.frL
  own := fun p hp => by
    rcases List.mem_cons.mp hp with rfl | hp
    · refine ⟨?_, ?_, hc⟩
      · cases h : R.get? a with
        | none => rfl
        | some o => have := S.fr _ _ h; rw [hn] at this; cases this
      · rintro rfl
        obtain ⟨m, ⟨o, _, _, ho, _⟩, _⟩ := S.ns
        rw [hn] at ho; cases ho
    · let ⟨h1, h2, h3⟩ := S.own p hp; exact ⟨h1, h2, h3.keep fun o e => k _ o e⟩
  nd := by
    simp only [List.map_cons, List.nodup_cons]
    refine ⟨fun hm => ?_, S.nd⟩
    obtain ⟨p, hp, rfl⟩ := List.mem_map.mp hm
    obtain ⟨o, ho, _⟩ := (S.own p hp).2.2
    rw [hn] at ho; cases ho
  ns := let ⟨m, hm, hl⟩ := S.ns; ⟨m, hm.keeps k, hl⟩
  nl := S.nl
  gens := S.gens
  oss := S.oss
  outs := fun q hq => let ⟨h1, h2, h3⟩ := S.outs q hq; ⟨h1.keeps k, h2, h3⟩
  apart := fun p hp q hq => by
    rcases List.mem_cons.mp hp with rfl | hp
    · intro e
      obtain ⟨o, _, _, ho, _⟩ := (S.outs q hq).1
      simp only at e
      rw [← e, hn] at ho; cases ho
    · exact S.apart p hp q hq
theorem size_none (h : Heap) : h.get? h.objs.size = none := by
  cases e : h.get? h.objs.size with
  | none => rfl
  | some o => exact absurd (Heap.lt_size e) (Nat.lt_irrefl _)
theorem Sat.push (S : Sat X ro st R s) {tk : Nat} {o : Obj} {c : Cell} (hc : c.Is o) (hf : o.isFreed = false := by rfl) :
    Sat X ro { st with own := (s.heap.objs.size, c) :: st.own } R { s with heap := s.heap.push o, toks := tk } :=
  S.alloc (size_none _) ⟨o, Heap.get?_push_size _ hf, hc⟩ fun _ _ e => Heap.get?_push_of_some _ e

/-- an object of the ledger changed -/
theorem Sat.upd (S : Sat X ro st R s) {h' : Heap} {tk : Nat} {a : Addr} {c c' : Cell} {own' : List (Addr × Cell)} (U : Put a c c' st.own own') (hc : At h' a c')
    (k : ∀ b o, b ≠ a → s.heap.get? b = some o → h'.get? b = some o) : Sat X ro { st with own := own' } R { s with heap := h', toks := tk } where
  base := S.base
  ros := S.ros
  fr := fun b o e => k b o (fun h => by subst h; have := (S.own _ U.has.mem).1; rw [e] at this; cases this) (S.fr b o e)
  frL := S.frL
  own := fun p hp => by
    rcases U.mem S.nd p hp with rfl | ⟨hp, hne⟩
    · exact ⟨(S.own _ U.has.mem).1, (S.own _ U.has.mem).2.1, hc⟩
    · let ⟨h1, h2, h3⟩ := S.own p hp; exact ⟨h1, h2, h3.keep fun o e => k _ o hne e⟩
  nd := by show (own'.map (·.1)).Nodup; rw [U.keys]; exact S.nd
  ns := by
    obtain ⟨m, hm, hl⟩ := S.ns
    exact ⟨m, hm.extBut (b := a) (fun b o hb e => k b o hb e) (fun h => (S.own _ U.has.mem).2.1 h.symm), hl⟩
  nl := S.nl
  gens := S.gens
  oss := S.oss
  outs := fun q hq => let ⟨h1, h2, h3⟩ := S.outs q hq; ⟨h1.extBut (b := a) (fun b o hb e => k b o hb e) (fun h => S.apart _ U.has.mem q hq h.symm), h2, h3⟩
  apart := fun p hp q hq => by
    rcases U.mem S.nd p hp with rfl | ⟨hp, _⟩
    · exact S.apart _ U.has.mem q hq
    · exact S.apart p hp q hq

/-- a local name stored -/
theorem Sat.put (S : Sat X ro st R s) {h' : Heap} {tk : Nat} {x : Str} {u u' : V} {v : Value} {loc' : List (Str × V)} (U : Put x u u' st.loc loc') (hv : u'.Is v)
    (hn : ∀ m, s.heap.Ns X.L m → h'.Ns X.L (fun y => if y = x then some v else m y)) (k : Heap.SameBut X.L s.heap h') :
    Sat X ro { st with loc := loc' } R { s with heap := h', toks := tk } where
  base := S.base
  ros := S.ros
  fr := fun b o e => (k.2 b (fun h => by subst h; rw [S.frL] at e; cases e)).trans (S.fr b o e)
  frL := S.frL
  own := fun p hp => let ⟨h1, h2, h3⟩ := S.own p hp; ⟨h1, h2, h3.keep fun o e => (k.2 _ h2).trans e⟩
  nd := S.nd
  ns := by
    obtain ⟨m, hm, hl⟩ := S.ns
    refine ⟨_, hn m hm, fun p hp => ?_⟩
    rcases U.mem S.nl p hp with rfl | ⟨hp, hne⟩
    · exact .inr ⟨v, by simp, hv⟩
    · simp only [hne, if_false]; exact hl p hp
  nl := by show (loc'.map (·.1)).Nodup; rw [U.keys]; exact S.nl
  gens := S.gens
  oss := S.oss
  outs := fun q hq => let ⟨h1, h2, h3⟩ := S.outs q hq; ⟨h1.at' fun o e => (k.2 _ h3).trans e, h2, h3⟩
  apart := S.apart

/-- the ledger in another order, or less of it -/
theorem Sat.perm (S : Sat X ro st R s) {own' : List (Addr × Cell)} (h : st.own.Perm own') : Sat X ro { st with own := own' } R s where
  base := S.base
  ros := S.ros
  fr := S.fr
  frL := S.frL
  own := fun p hp => S.own p (h.mem_iff.mpr hp)
  nd := ((h.map (·.1)).nodup_iff).mp S.nd
  ns := S.ns
  nl := S.nl
  gens := S.gens
  oss := S.oss
  outs := S.outs
  apart := fun p hp => S.apart p (h.mem_iff.mpr hp)
theorem Sat.sub (S : Sat X ro st R s) {own' : List (Addr × Cell)} (h : own'.Sublist st.own) : Sat X ro { st with own := own' } R s where
  base := S.base
  ros := S.ros
  fr := S.fr
  frL := S.frL
  own := fun p hp => S.own p (h.subset hp)
  nd := (h.map (·.1)).nodup S.nd
  ns := S.ns
  nl := S.nl
  gens := S.gens
  oss := S.oss
  outs := S.outs
  apart := fun p hp => S.apart p (h.subset hp)

/-- consequence -/
theorem TT.mono {α β : Type} {rel : β → α → Prop} {t : Sem α} {Q Q' : β → St → Prop} (h : TT X ro E rel st t Q) (hQ : ∀ b st', Q b st' → Q' b st') : TT X ro E rel st t Q' :=
  fun R s S => wpR_mono (h R s S) (fun _ _ ⟨b, st', h1, h2, h3⟩ => ⟨b, st', h1, h2, hQ b st' h3⟩) fun _ _ e => e
end
end Mine
end
section
open PySem PySem.W PyProof.Rows PySem.Calls
set_option Elab.async false
set_option maxRecDepth 100000
set_option linter.unusedVariables false
namespace Mine

def V.known : V → Bool
  | .unk => false
  | _ => true

/-- a global or built-in name of the base heap -/
def Glo (X : Cx) (x : Str) (v : Value) : Prop :=
  ∃ mg mb, X.B.Ns mainGlobals mg ∧ X.B.Ns builtinsNs mb ∧ (mg x = some v ∨ (mg x = none ∧ mb x = some v))

section
variable {X : Cx} {ro : Led} {E : Er} {st : St} {nm : Str} {sc : Scope} {a : Addr} {cd : Value} {env : Env}

def Op1 (X : Cx) (ro : Led) (E : Er) (f : Value → Sem Value) (a : V) (st : St) (Q : V → St → Prop) : Prop := ∀ v, a.Is v → TV X ro E st (f v) Q
def Op2 (X : Cx) (ro : Led) (E : Er) (f : Value → Value → Sem Value) (a b : V) (st : St) (Q : V → St → Prop) : Prop := ∀ v w, a.Is v → b.Is w → TV X ro E st (f v w) Q
def OpB (X : Cx) (ro : Led) (E : Er) (f : Value → Sem Bool) (a : V) (st : St) (Q : Bool → St → Prop) : Prop := ∀ v, a.Is v → TB X ro E st (f v) Q
def OpN (X : Cx) (ro : Led) (E : Er) (f : List Value → Sem Value) (us : List V) (st : St) (Q : V → St → Prop) : Prop := ∀ vs, All2 us vs → TV X ro E st (f vs) Q

theorem name_local {x : Str} {pos : Pos} {u : V} {Q : V → St → Prop} (h : Has x u st.loc) (hq : Q u st) (hu : u.known = true := by rfl)
    (hk : sc.kind = .function := by rfl) (hl : (envOf nm sc X.L a cd).kindOf x = some .local := by rfl) (hd : (x == ("__debug__" : Str)) = false := by decide) :
    TV X ro E st (eval (.Name x pos) (envOf nm sc X.L a cd)) Q := fun R s S => by
  obtain ⟨m, hm, hl'⟩ := S.ns
  rcases hl' _ h.mem with e | ⟨v, hv, hi⟩
  · simp only at e; subst e; cases hu
  · exact wpR_of (wpAny_Name (wpAny_loadName_local hk hl hm hv ⟨u, st, hi, S, hq⟩) hd)

theorem load_local {x : Str} {u : V} {Q : V → St → Prop} (h : Has x u st.loc) (hq : Q u st) (hu : u.known = true := by rfl)
    (hk : sc.kind = .function := by rfl) (hl : (envOf nm sc X.L a cd).kindOf x = some .local := by rfl) :
    TV X ro E st (loadName (envOf nm sc X.L a cd) x) Q := fun R s S => by
  obtain ⟨m, hm, hl'⟩ := S.ns
  rcases hl' _ h.mem with e | ⟨v, hv, hi⟩
  · simp only at e; subst e; cases hu
  · exact wpR_of (wpAny_loadName_local hk hl hm hv ⟨u, st, hi, S, hq⟩)

theorem name_glo {x : Str} {pos : Pos} {v : Value} {Q : V → St → Prop} (g : Glo X x v) (hq : Q (.raw v) st)
    (hk : sc.kind = .function := by rfl) (hx : (envOf nm sc X.L a cd).kindOf x = some .globalImplicit := by rfl) (hd : (x == ("__debug__" : Str)) = false := by decide) :
    TV X ro E st (eval (.Name x pos) (envOf nm sc X.L a cd)) Q := fun R s S => by
  obtain ⟨mg, mb, hg, hb, h | ⟨h1, h2⟩⟩ := g
  · exact wpR_of (Name_function_global hk hx (loadGlobal_global (env := envOf nm sc X.L a cd) (hg.keeps S.keepB) h ⟨.raw v, st, rfl, S, hq⟩) hd)
  · exact wpR_of (Name_function_global hk hx (loadGlobal_builtin (env := envOf nm sc X.L a cd) (hg.keeps S.keepB) h1 (hb.keeps S.keepB) h2 ⟨.raw v, st, rfl, S, hq⟩) hd)

theorem store_local {x : Str} {u u' : V} {v : Value} {loc' : List (Str × V)} {Q : St → Prop} (U : Put x u u' st.loc loc') (hv : u'.Is v) (hq : Q { st with loc := loc' })
    (hk : sc.kind = .function := by rfl) (hl : (envOf nm sc X.L a cd).kindOf x = some .local := by rfl) :
    TU X ro E st (storeName (envOf nm sc X.L a cd) x v) Q := fun R s S => by
  obtain ⟨m, hm, hl'⟩ := S.ns
  refine wpR_of (wpAny_storeName_local hl hm (fun h' hn hs => ⟨(), _, trivial, S.put (v := v) U hv (fun m' hm' => ?_) hs, hq⟩) ?_)
  · have : m' = m := by
      rw [hm'.eq_nsMap, hm.eq_nsMap]
    subst this; exact hn
  · show (sc.kind == .class || (sc.kind == .module && X.L != mainGlobals)) = false
    rw [hk]; rfl

theorem TT.run {α β : Type} {rel : β → α → Prop} {t : Sem α} {Q : β → St → Prop} {P : α → Shared → Prop} {R : Heap} {s : Shared} (h : TT X ro E rel st t Q) (S : Sat X ro st R s)
    (k : ∀ a s' b st', rel b a → Sat X ro st' R s' → Q b st' → P a s') : wpR (model X.prog X.w) X.A t P (E R) s :=
  wpR_mono (h R s S) (fun a s' ⟨b, st', h1, h2, h3⟩ => k a s' b st' h1 h2 h3) fun _ _ e => e

theorem const_int {i : Int} {k pos} {Q : V → St → Prop} (hq : Q (.int i) st) : TV X ro E st (eval (.Constant (.int i) k pos) env) Q :=
  fun R s S => wpR_of (wpAny_Constant_int ⟨.int i, st, ⟨_, rfl⟩, S.toks, hq⟩)
theorem const_bool {b k pos} {Q : V → St → Prop} (hq : Q (.bool b) st) : TV X ro E st (eval (.Constant (.bool b) k pos) env) Q :=
  fun R s S => wpR_of (wpAny_Constant_bool ⟨.bool b, st, rfl, S, hq⟩)
theorem const_none {k pos} {Q : V → St → Prop} (hq : Q .none st) : TV X ro E st (eval (.Constant .none k pos) env) Q :=
  fun R s S => wpR_of (wpAny_Constant_none ⟨.none, st, rfl, S, hq⟩)

theorem BinOp' {l op r pos} {Q : V → St → Prop} (h : TV X ro E st (eval l env) fun a st₁ => TV X ro E st₁ (eval r env) fun b st₂ => Op2 X ro E (binaryOp op) a b st₂ Q) :
    TV X ro E st (eval (.BinOp l op r pos) env) Q := fun R s S =>
  wpR_BinOp (h.run S fun v s₁ a st₁ ha S₁ h₁ => h₁.run S₁ fun w s₂ b st₂ hb S₂ h₂ => h₂ v w ha hb R s₂ S₂)
theorem Compare' {l op r pos} {Q : V → St → Prop} (h : TV X ro E st (eval l env) fun a st₁ => TV X ro E st₁ (eval r env) fun b st₂ => Op2 X ro E (compareOp op) a b st₂ Q)
    (hm : behindInMarks op r = false := by with_unfolding_all rfl) :
    TV X ro E st (eval (.Compare l [op] [r] pos) env) Q := fun R s S =>
  wpR_Compare1 (h.run S fun v s₁ a st₁ ha S₁ h₁ => h₁.run S₁ fun w s₂ b st₂ hb S₂ h₂ => h₂ v w ha hb R s₂ S₂) hm
theorem UnaryOp' {op e pos} {Q : V → St → Prop} (h : TV X ro E st (eval e env) fun a st₁ => Op1 X ro E (unaryOp op) a st₁ Q) : TV X ro E st (eval (.UnaryOp op e pos) env) Q := fun R s S =>
  wpR_UnaryOp (h.run S fun v s₁ a st₁ ha S₁ h₁ => h₁ v ha R s₁ S₁)
theorem IfExp' {test body orelse pos} {Q : V → St → Prop} (h : TB X ro E st (isTrue test env (eval test env)) fun c st₁ => (c = true → TV X ro E st₁ (eval body env) Q) ∧ (c = false → TV X ro E st₁ (eval orelse env) Q)) :
    TV X ro E st (eval (.IfExp test body orelse pos) env) Q := fun R s S =>
  wpR_IfExp (h.run S fun c s₁ b st₁ e S₁ h₁ => by
    subst e
    cases c
    · exact h₁.2 rfl R s₁ S₁
    · exact h₁.1 rfl R s₁ S₁)

theorem isTrue_cmp {l op r pos whole} {Q : Bool → St → Prop} (h : TV X ro E st (eval l env) fun a st₁ => TV X ro E st₁ (eval r env) fun b st₂ => Op2 X ro E (compareOp op) a b st₂ fun c st₃ => OpB X ro E truthy c st₃ Q)
    (hm : behindInMarks op r = false := by with_unfolding_all rfl) : TB X ro E st (isTrue (.Compare l [op] [r] pos) env whole) Q := fun R s S =>
  wpR_isTrue_Compare1 (h.run S fun v s₁ a st₁ ha S₁ h₁ => h₁.run S₁ fun w s₂ b st₂ hb S₂ h₂ => (h₂ v w ha hb).run S₂ fun x s₃ c st₃ hc S₃ h₃ => h₃ x hc R s₃ S₃) hm
theorem isTrue_val {e whole} {Q : Bool → St → Prop} (h : TV X ro E st whole fun c st₁ => OpB X ro E truthy c st₁ Q)
    (he : isTrue e env whole = (do let v ← whole; standAt e.pos; holding [v] (truthy v)) := by rfl) : TB X ro E st (isTrue e env whole) Q := fun R s S =>
  wpR_isTrue_value (h.run S fun x s₃ c st₃ hc S₃ h₃ => h₃ x hc R s₃ S₃) he
theorem isTrue_not' {x pos whole} {Q : Bool → St → Prop} (h : TB X ro E st (isTrue x env (eval x env)) fun c st₁ => Q (!c) st₁) : TB X ro E st (isTrue (.UnaryOp .Not x pos) env whole) Q := fun R s S =>
  wpR_isTrue_not (h.run S fun c s₁ b st₁ e S₁ h₁ => ⟨!b, st₁, by rw [e], S₁, h₁⟩)
theorem isTrue_and_nil' {pos whole} {Q : Bool → St → Prop} (h : Q true st) : TB X ro E st (isTrue (.BoolOp .And [] pos) env whole) Q := fun R s S =>
  wpR_of (PyProof.Rows.isTrue_and_nil ⟨true, st, rfl, S, h⟩)
theorem isTrue_or_nil' {pos whole} {Q : Bool → St → Prop} (h : Q false st) : TB X ro E st (isTrue (.BoolOp .Or [] pos) env whole) Q := fun R s S =>
  wpR_of (PyProof.Rows.isTrue_or_nil ⟨false, st, rfl, S, h⟩)
theorem isTrue_and' {x rest pos whole} {Q : Bool → St → Prop}
    (h : TB X ro E st (isTrue x env (eval x env)) fun c st₁ => (c = true → TB X ro E st₁ (isTrue (.BoolOp .And rest pos) env whole) Q) ∧ (c = false → Q false st₁)) :
    TB X ro E st (isTrue (.BoolOp .And (x :: rest) pos) env whole) Q := fun R s S =>
  wpR_isTrue_and (h.run S fun c s₁ b st₁ e S₁ h₁ => by
    subst e
    cases c
    · exact ⟨false, st₁, rfl, S₁, h₁.2 rfl⟩
    · exact h₁.1 rfl R s₁ S₁)
theorem isTrue_or' {x rest pos whole} {Q : Bool → St → Prop}
    (h : TB X ro E st (isTrue x env (eval x env)) fun c st₁ => (c = true → Q true st₁) ∧ (c = false → TB X ro E st₁ (isTrue (.BoolOp .Or rest pos) env whole) Q)) :
    TB X ro E st (isTrue (.BoolOp .Or (x :: rest) pos) env whole) Q := fun R s S =>
  wpR_isTrue_or (h.run S fun c s₁ b st₁ e S₁ h₁ => by
    subst e
    cases c
    · exact h₁.2 rfl R s₁ S₁
    · exact ⟨true, st₁, rfl, S₁, h₁.1 rfl⟩)
theorem BoolOp_one' {op e pos} {Q : V → St → Prop} (h : TV X ro E st (eval e env) Q) : TV X ro E st (eval (.BoolOp op [e] pos) env) Q := h
theorem BoolOp_and' {e₁ e₂ rest pos} {Q : V → St → Prop}
    (h : TV X ro E st (eval e₁ env) fun u st₁ => OpB X ro E truthy u st₁ fun c st₂ => (c = true → TV X ro E st₂ (eval (.BoolOp .And (e₂ :: rest) pos) env) Q) ∧ (c = false → Q u st₂)) :
    TV X ro E st (eval (.BoolOp .And (e₁ :: e₂ :: rest) pos) env) Q := fun R s S =>
  wpR_BoolOp_and (h.run S fun v s₁ u st₁ hu S₁ h₁ => (h₁ v hu).run S₁ fun c s₂ b st₂ e S₂ h₂ => by
    subst e
    cases c
    · exact ⟨u, st₂, hu, S₂, h₂.2 rfl⟩
    · exact h₂.1 rfl R s₂ S₂)

theorem execs_nil' {Q : Fl → St → Prop} (h : Q .next st) : TF X ro E st (execs [] env) Q := fun R s S => wpR_of (wpAny_execs_nil ⟨.next, st, rfl, S, h⟩)
theorem execs_cons' {sm rest} {Q : Fl → St → Prop}
    (h : TF X ro E st (exec sm env) fun f st₁ => match f with | .next => TF X ro E st₁ (execs rest env) Q | f => Q f st₁) : TF X ro E st (execs (sm :: rest) env) Q := fun R s S =>
  wpR_execs_cons (h.run S fun f s₁ g st₁ e S₁ h₁ => by
    cases g with
    | next => cases e; exact h₁ R s₁ S₁
    | brk => cases e; exact ⟨.brk, st₁, rfl, S₁, h₁⟩
    | cont => cases e; exact ⟨.cont, st₁, rfl, S₁, h₁⟩
    | ret u => obtain ⟨v, rfl, hv⟩ := e; exact ⟨.ret u, st₁, ⟨v, rfl, hv⟩, S₁, h₁⟩)
theorem Assign' {x pos' value pos} {Q : Fl → St → Prop}
    (h : TV X ro E st (eval value (envOf nm sc X.L a cd)) fun u st₁ => ∃ u₀ loc', Put x u₀ u st₁.loc loc' ∧ Q .next { st₁ with loc := loc' })
    (hs : swapsWith value (some (.Name x pos')) pos.line (envOf nm sc X.L a cd) = pure false := by rfl)
    (hk : sc.kind = .function := by rfl) (hl : (envOf nm sc X.L a cd).kindOf x = some .local := by rfl) :
    TF X ro E st (exec (.Assign [.Name x pos'] value pos) (envOf nm sc X.L a cd)) Q := fun R s S =>
  wpR_Assign_Name (h.run S fun v s₁ u st₁ hu S₁ ⟨u₀, loc', hp, hq⟩ => (store_local hp hu hq hk hl).run S₁ fun _ s₂ _ st₂ _ S₂ h₂ => ⟨.next, st₂, rfl, S₂, h₂⟩) hs
theorem AugAssign' {x pos' op value pos} {u : V} {Q : Fl → St → Prop} (hu : Has x u st.loc)
    (h : TV X ro E st (eval value (envOf nm sc X.L a cd)) fun b st₁ => Op2 X ro E (inplaceOp op) u b st₁ fun r st₂ => ∃ u₀ loc', Put x u₀ r st₂.loc loc' ∧ Q .next { st₂ with loc := loc' })
    (hk' : u.known = true := by rfl)
    (hk : sc.kind = .function := by rfl) (hl : (envOf nm sc X.L a cd).kindOf x = some .local := by rfl) :
    TF X ro E st (exec (.AugAssign (.Name x pos') op value pos) (envOf nm sc X.L a cd)) Q := fun R s S =>
  wpR_AugAssign_Name ((load_local (Q := fun b st₁ => b = u ∧ st₁ = st) hu ⟨rfl, rfl⟩ hk' hk hl).run S fun v s₁ u' st₁ hv S₁ ⟨e1, e2⟩ => by
    subst e1 e2
    exact h.run S₁ fun w s₂ b st₂ hb S₂ h₂ => (h₂ v w hv hb).run S₂ fun r s₃ c st₃ hc S₃ ⟨u₀, loc', hp, hq⟩ => (store_local hp hc hq hk hl).run S₃ fun _ s₄ _ st₄ _ S₄ h₄ => ⟨.next, st₄, rfl, S₄, h₄⟩)
theorem If' {test body orelse pos} {Q : Fl → St → Prop}
    (h : TB X ro E st (isTrue test env (eval test env)) fun c st₁ => (c = true → TF X ro E st₁ (execs body env) Q) ∧ (c = false → TF X ro E st₁ (execs orelse env) Q)) :
    TF X ro E st (exec (.If test body orelse pos) env) Q := fun R s S =>
  wpR_If (h.run S fun c s₁ b st₁ e S₁ h₁ => by
    subst e
    cases c
    · exact h₁.2 rfl R s₁ S₁
    · exact h₁.1 rfl R s₁ S₁)
theorem Return' {e pos} {Q : Fl → St → Prop} (h : TV X ro E st (eval e env) fun u st₁ => Q (.ret u) st₁) : TF X ro E st (exec (.Return (some e) pos) env) Q := fun R s S =>
  wpR_Return_some (h.run S fun v s₁ u st₁ hu S₁ h₁ => ⟨.ret u, st₁, ⟨v, rfl, hu⟩, S₁, h₁⟩)
theorem Break' {pos} {Q : Fl → St → Prop} (h : Q .brk st) : TF X ro E st (exec (.Break pos) env) Q := fun R s S => wpR_of (wpAny_Break ⟨.brk, st, rfl, S, h⟩)
/-- an expression statement whose value is None -/
theorem Expr' {e pos} {Q : Fl → St → Prop} (h : TV X ro E st (eval e env) fun u st₁ => u = .none ∧ Q .next st₁)
    (hi : interactive env = false := by rfl) (hs : swapsWith e none pos.line env = pure false := by rfl) : TF X ro E st (exec (.Expr e pos) env) Q := fun R s S =>
  wpR_Expr (h.run S fun v s₁ u st₁ hu S₁ ⟨e, h₁⟩ => by subst e; cases hu; exact ⟨.next, st₁, rfl, S₁, h₁⟩) hi hs

/-- calls -/
theorem Call' {func args pos} {Q : V → St → Prop}
    (h : TV X ro E st (eval func env) fun f st₁ => ∀ v, f.Is v → TV X ro E st₁ (callWith pos v [] (backTo pos (starEach args env)) []) Q)
    (he : eval (.Call func args [] pos) env = (do callWith pos (← eval func env) [] (backTo pos (starEach args env)) (backToKw pos (keywordEach [] env))) := by rfl) :
    TV X ro E st (eval (.Call func args [] pos) env) Q := fun R s S =>
  wpR_Call (h.run S fun v s₁ f st₁ hf S₁ h₁ => h₁ v hf R s₁ S₁) he
theorem args_nil' {pos : Pos} {Q : List V → St → Prop} (h : Q [] st) : TL X ro E st (spliced (backTo pos (starEach [] env))) Q := fun R s S => wpR_of (args_nil ⟨[], st, .nil, S, h⟩)
theorem args_cons' {e : Expr} {rest : List Expr} {pos : Pos} {Q : List V → St → Prop}
    (h : TV X ro E st (eval e env) fun u st₁ => TL X ro E st₁ (spliced (backTo pos (starEach rest env))) fun us st₂ => Q (u :: us) st₂)
    (he : starEach (e :: rest) env = (false, eval e env) :: starEach rest env := by rfl) : TL X ro E st (spliced (backTo pos (starEach (e :: rest) env))) Q := fun R s S =>
  args_consR (h.run S fun v s₁ u st₁ hu S₁ h₁ => h₁.run S₁ fun vs s₂ us st₂ hus S₂ h₂ => ⟨u :: us, st₂, .cons hu hus, S₂, h₂⟩) he
theorem callT {T : String} {e : Expr} {rest : List Expr} {pos : Pos} {Q : V → St → Prop}
    (h : TL X ro E st (spliced (backTo pos (starEach (e :: rest) env))) fun us st₁ => OpN X ro E (fun vs => call (.type T) vs) us st₁ Q)
    (he : starEach (e :: rest) env = (false, eval e env) :: starEach rest env := by rfl)
    (hplain : (backTo pos (starEach rest env)).any (·.1) = false := by rfl) :
    ∀ v, (V.raw (.type T)).Is v → TV X ro E st (callWith pos v [] (backTo pos (starEach (e :: rest) env)) []) Q := fun v hv R s S => by
  cases hv
  rw [he] at h ⊢
  exact callWith_typeR (by show (false || (backTo pos (starEach rest env)).any (·.1)) = false; rw [hplain]; rfl) (evalArgs_plainR (h.run S fun vs s₁ us st₁ hus S₁ h₁ => h₁ vs hus R s₁ S₁))
theorem callT0 {T : String} {pos : Pos} {Q : V → St → Prop} (h : OpN X ro E (fun vs => call (.type T) vs) [] st Q) :
    ∀ v, (V.raw (.type T)).Is v → TV X ro E st (callWith pos v [] (backTo pos (starEach [] env)) []) Q := fun v hv R s S => by
  cases hv
  exact callWith_typeR rfl (wpR_of (evalArgs_nil3 (h [] .nil R s S)))
theorem callB {id : String} {e : Expr} {rest : List Expr} {pos : Pos} {Q : V → St → Prop}
    (h : TL X ro E st (spliced (backTo pos (starEach (e :: rest) env))) fun us st₁ => OpN X ro E (fun vs => call (.builtin id) vs) us st₁ Q)
    (he : starEach (e :: rest) env = (false, eval e env) :: starEach rest env := by rfl)
    (hplain : (backTo pos (starEach rest env)).any (·.1) = false := by rfl) :
    ∀ v, (V.raw (.builtin id)).Is v → TV X ro E st (callWith pos v [] (backTo pos (starEach (e :: rest) env)) []) Q := fun v hv R s S => by
  cases hv
  rw [he] at h ⊢
  exact callWith_builtinR (by show (false || (backTo pos (starEach rest env)).any (·.1)) = false; rw [hplain]; rfl) (evalArgs_plainR (h.run S fun vs s₁ us st₁ hus S₁ h₁ => h₁ vs hus R s₁ S₁))
theorem callF {f : Addr} {o : Obj} {fd : FuncData} {e : Expr} {rest : List Expr} {pos : Pos} {Q : V → St → Prop} (ho : X.B.get? f = some o) (hd : o.data = .func fd)
    (h : TL X ro E st (spliced (backTo pos (starEach (e :: rest) env))) fun us st₁ => OpN X ro E (fun vs => call (.ref f) vs) us st₁ Q)
    (he : starEach (e :: rest) env = (false, eval e env) :: starEach rest env := by rfl)
    (hplain : (backTo pos (starEach rest env)).any (·.1) = false := by rfl) :
    ∀ v, (V.raw (.ref f)).Is v → TV X ro E st (callWith pos v [] (backTo pos (starEach (e :: rest) env)) []) Q := fun v hv R s S => by
  cases hv
  rw [he] at h ⊢
  exact callWith_functionR (o := o) (fd := fd) (by show (false || (backTo pos (starEach rest env)).any (·.1)) = false; rw [hplain]; rfl) (evalArgs_plainR (h.run S fun vs s₁ us st₁ hus S₁ h₁ => ⟨⟨S₁.keepB _ _ ho, hd⟩, h₁ vs hus R s₁ S₁⟩))

/-- ints -/
theorem add_int' {i j : Int} {Q : V → St → Prop} (h : Q (.int (i + j)) st) : Op2 X ro E (binaryOp .Add) (.int i) (.int j) st Q := by
  rintro v w ⟨t, rfl⟩ ⟨u, rfl⟩ R s S
  exact wpR_of (PyProof.Rows.add_int ⟨.int (i + j), st, ⟨_, rfl⟩, S.toks, h⟩)
theorem iadd_int' {i j : Int} {Q : V → St → Prop} (h : Q (.int (i + j)) st) : Op2 X ro E (inplaceOp .Add) (.int i) (.int j) st Q := by
  rintro v w ⟨t, rfl⟩ ⟨u, rfl⟩ R s S
  exact wpR_of (PyProof.Rows.iadd_int ⟨.int (i + j), st, ⟨_, rfl⟩, S.toks, h⟩)
theorem sub_int' {i j : Int} {Q : V → St → Prop} (h : Q (.int (i - j)) st) : Op2 X ro E (binaryOp .Sub) (.int i) (.int j) st Q := by
  rintro v w ⟨t, rfl⟩ ⟨u, rfl⟩ R s S
  exact wpR_of (PyProof.Rows.sub_int ⟨.int (i - j), st, ⟨_, rfl⟩, S.toks, h⟩)
theorem div_int' {i j : Int} {Q : V → St → Prop} (hj : 0 < j ∧ j < 1073741824) (h : Q (.int (i / j)) st) : Op2 X ro E (binaryOp .FloorDiv) (.int i) (.int j) st Q := by
  rintro v w ⟨t, rfl⟩ ⟨u, rfl⟩ R s S
  refine wpR_of (PyProof.Rows.floordiv_int (by omega) ⟨.int (i / j), st, ⟨s.toks, ?_⟩, S.toks, h⟩ (.inl (PyProof.noPylong_small (by omega))))
  rw [Int.fdiv_eq_ediv_of_nonneg _ (by omega)]
theorem mod_int' {i j : Int} {Q : V → St → Prop} (hj : 0 < j) (h : Q (.int (i % j)) st) : Op2 X ro E (binaryOp .Mod) (.int i) (.int j) st Q := by
  rintro v w ⟨t, rfl⟩ ⟨u, rfl⟩ R s S
  refine wpR_of (PyProof.Rows.mod_int' (by omega) ⟨.int (i % j), st, ⟨s.toks, ?_⟩, S.toks, h⟩)
  rw [Int.fmod_eq_emod_of_nonneg _ (by omega)]
theorem eq_int' {i j : Int} {Q : V → St → Prop} (h : Q (.bool (decide (i = j))) st) : Op2 X ro E (compareOp .Eq) (.int i) (.int j) st Q := by
  rintro v w ⟨t, rfl⟩ ⟨u, rfl⟩ R s S
  refine wpR_of (PyProof.Rows.eq_int ⟨.bool (decide (i = j)), st, ?_, S, h⟩)
  show Value.bool (i == j) = Value.bool (decide (i = j)); rfl
theorem ne_int' {i j : Int} {Q : V → St → Prop} (h : Q (.bool (decide (i ≠ j))) st) : Op2 X ro E (compareOp .NotEq) (.int i) (.int j) st Q := by
  rintro v w ⟨t, rfl⟩ ⟨u, rfl⟩ R s S
  refine wpR_of (PyProof.Rows.ne_int ⟨.bool (decide (i ≠ j)), st, ?_, S, h⟩)
  show Value.bool (i != j) = Value.bool (decide (i ≠ j)); simp [bne, BEq.beq]
theorem lt_int' {i j : Int} {Q : V → St → Prop} (h : Q (.bool (decide (i < j))) st) : Op2 X ro E (compareOp .Lt) (.int i) (.int j) st Q := by
  rintro v w ⟨t, rfl⟩ ⟨u, rfl⟩ R s S
  exact wpR_of (PyProof.Rows.lt_int ⟨.bool (decide (i < j)), st, rfl, S, h⟩)
theorem gt_int' {i j : Int} {Q : V → St → Prop} (h : Q (.bool (decide (j < i))) st) : Op2 X ro E (compareOp .Gt) (.int i) (.int j) st Q := by
  rintro v w ⟨t, rfl⟩ ⟨u, rfl⟩ R s S
  exact wpR_of (PyProof.Rows.gt_int ⟨.bool (decide (j < i)), st, rfl, S, h⟩)
theorem neg_int' {i : Int} {Q : V → St → Prop} (h : Q (.int (-i)) st) : Op1 X ro E (unaryOp .USub) (.int i) st Q := by
  rintro v ⟨t, rfl⟩ R s S
  exact wpR_of (PyProof.Rows.neg_int ⟨.int (-i), st, ⟨_, rfl⟩, S.toks, h⟩)
theorem truthy_bool' {b : Bool} {Q : Bool → St → Prop} (h : Q b st) : OpB X ro E truthy (.bool b) st Q := by
  rintro v rfl R s S
  exact wpR_of (wpAny_truthy_bool ⟨b, st, rfl, S, h⟩)
end
end Mine
end
section
open PySem PySem.W PyProof.Rows PySem.Calls
set_option Elab.async false
set_option maxRecDepth 100000
set_option linter.unusedVariables false
namespace Mine

def Kn (ro : Led) (st : St) (a : Addr) (c : Cell) : Prop := Has a c st.own ∨ Has a c ro

/-- Python's slice without a step -/
def clipNat (v : Option Int) (d n : Nat) : Nat := match v with
  | none => d
  | some i => (max 0 (min (if i < 0 then i + n else i) n)).toNat
def pslice {α : Type} (lo hi : Option Int) (xs : List α) : List α :=
  (xs.drop (clipNat lo 0 xs.length)).take (clipNat hi xs.length xs.length - clipNat lo 0 xs.length)

theorem clip_nat (k d n : Nat) : clipNat (some (k : Int)) d n = min k n := by
  show (max 0 (min (if (k : Int) < 0 then (k : Int) + n else k) n)).toNat = min k n
  rw [if_neg (Int.not_lt.mpr (Int.natCast_nonneg k))]
  rcases Nat.le_total k n with h | h
  · rw [Int.min_eq_left (Int.ofNat_le.mpr h), Nat.min_eq_left h, Int.max_eq_right (Int.natCast_nonneg _), Int.toNat_natCast]
  · rw [Int.min_eq_right (Int.ofNat_le.mpr h), Nat.min_eq_right h, Int.max_eq_right (Int.natCast_nonneg _), Int.toNat_natCast]

theorem slicePick_eq (items : Array Value) (lo hi : Option Int) : slicePick items lo hi none = (pslice lo hi items.toList).toArray := by
  have e : sliceBounds lo hi none items.size = (((clipNat lo 0 items.size : Nat) : Int), ((clipNat hi items.size items.size : Nat) : Int), 1) := by
    unfold sliceBounds clipNat
    cases lo <;> cases hi <;> simp <;> omega
  unfold slicePick
  rw [e]
  simp only [sliceRange_one, pick_run]
  simp [pslice]

theorem pslice_length_le {α : Type} (lo hi : Option Int) (xs : List α) : (pslice lo hi xs).length ≤ xs.length := by
  simp only [pslice, List.length_take, List.length_drop]; omega
theorem pslice_map {α β : Type} (f : α → β) (lo hi : Option Int) (xs : List α) : pslice lo hi (xs.map f) = (pslice lo hi xs).map f := by
  simp [pslice, List.map_take, List.map_drop]
theorem All2.pslice {us vs} (h : All2 us vs) (lo hi : Option Int) : All2 (Mine.pslice lo hi us) (Mine.pslice lo hi vs) := by
  unfold Mine.pslice; rw [h.length]; exact (h.drop _).take _

/-- an index, as Python counts it -/
def pidx (k : Int) (n : Nat) : Nat := if k < 0 then (k + n).toNat else k.toNat

section
variable {X : Cx} {ro : Led} {E : Er} {st : St} {nm : Str} {sc : Scope} {a : Addr} {cd : Value} {env : Env} {R : Heap} {s : Shared}

theorem Sat.at (S : Sat X ro st R s) {a c} (h : Kn ro st a c) : At s.heap a c := h.elim S.at_own S.at_ro

theorem List' {elts pos} {Q : V → St → Prop} (h : TL X ro E st (spliced (backTo pos (starEach elts env))) fun us st₁ => us.length ≤ 16777216 ∧ ∀ l, Q (.ref l) { st₁ with own := (l, .list us) :: st₁.own }) :
    TV X ro E st (eval (.List elts pos) env) Q := fun R s S =>
  wpR_List (h.run S fun vs s₁ us st₁ hu S₁ ⟨hl, hq⟩ => ⟨by rw [← hu.length]; exact hl, ⟨.ref s₁.heap.objs.size, _, rfl, S₁.push (c := .list us) ⟨_, 0, rfl, by simpa using hu⟩, hq _⟩⟩)
theorem Tuple' {elts k pos} {Q : V → St → Prop} (h : TL X ro E st (spliced (backTo pos (starEach elts env))) fun us st₁ => us.length ≤ 16777216 ∧ ∀ l, Q (.ref l) { st₁ with own := (l, .tup us) :: st₁.own }) :
    TV X ro E st (eval (.Tuple elts k pos) env) Q := fun R s S =>
  wpR_Tuple (h.run S fun vs s₁ us st₁ hu S₁ ⟨hl, hq⟩ => ⟨by rw [← hu.length]; exact hl, ⟨.ref s₁.heap.objs.size, _, rfl, S₁.push (c := .tup us) ⟨_, rfl, by simpa using hu⟩, hq _⟩⟩)

/-- subscripts -/
def Sub (X : Cx) (ro : Led) (E : Er) (o i : V) (st : St) (Q : V → St → Prop) : Prop :=
  ∀ vo vi, o.Is vo → i.Is vi → ∀ R s, Sat X ro st R s → (∃ T id, s.TypeIs vo T ∧ typeLookup (.type T) "__getitem__" = pure (some (.builtin id))) ∧
    wpR (model X.prog X.w) X.A (getItem vo vi) (fun a s' => ∃ b st', V.Is b a ∧ Sat X ro st' R s' ∧ Q b st') (E R) s
theorem Subscript' {value slice pos} {Q : V → St → Prop} (h : TV X ro E st (eval value env) fun o st₁ => TV X ro E st₁ (eval slice env) fun i st₂ => Sub X ro E o i st₂ Q)
    (hs : ∀ o i, subscripted slice false o i = operate [o, i] (getItem o i) := by intro _ _; rfl) :
    TV X ro E st (eval (.Subscript value slice pos) env) Q := fun R s S =>
  SubscriptR (h.run S fun vo s₁ o st₁ ho S₁ h₁ => h₁.run S₁ fun vi s₂ i st₂ hi S₂ h₂ => by
    obtain ⟨⟨T, id, hT, hl⟩, hg⟩ := h₂ vo vi ho hi R s₂ S₂
    unfold subscriptTail
    refine wpR_bind ?_
    rw [getitemInPython_of_ne hT.not_modules]
    refine wpR_bind (wpR_of (wpAny_specialOf hT hl ?_))
    have fin : wpR (model X.prog X.w) X.A (subscripted slice false vo vi) (fun r s₃ => wpR (model X.prog X.w) X.A (letTemporaryGo value vo r >>= fun _ => pure r) (fun a s' => ∃ b st', V.Is b a ∧ Sat X ro st' R s' ∧ Q b st') (E R) s₃) (E R) s₂ := by
      rw [hs]
      exact wpR_operate (wpR_mono hg (fun r s₃ h₃ => wpR_bind (wpR_of (wpAny_letTemporaryGo (wpR_pure h₃)))) fun _ _ x => x)
    first
      | exact wpR_pure (wpR_bind fin)
      | exact wpR_bind (wpR_pure (wpR_bind fin))
      | exact wpR_bind fin)

def Part (X : Cx) (ro : Led) (E : Er) (env : Env) (e : Option Expr) (st : St) (Q : Option Int → St → Prop) : Prop := match e with
  | none => Q none st
  | some e => TV X ro E st (eval e env) fun u st₁ => ∃ i, u = .int i ∧ Q (some i) st₁
def SubS (X : Cx) (ro : Led) (E : Er) (o : V) (lo hi : Option Int) (st : St) (Q : V → St → Prop) : Prop :=
  ∀ vo vl vu sl, o.Is vo → IsPart vl lo → IsPart vu hi → ∀ R s, Sat X ro st R s → s.heap.IsSliceOf sl vl vu .none → (∃ T id, s.TypeIs vo T ∧ typeLookup (.type T) "__getitem__" = pure (some (.builtin id))) ∧
    wpR (model X.prog X.w) X.A (getItem vo (.ref sl)) (fun a s' => ∃ b st', V.Is b a ∧ Sat X ro st' R s' ∧ Q b st') (E R) s
theorem Part.run {e : Option Expr} {Q : Option Int → St → Prop} {P : Value → Shared → Prop} (h : Part X ro E env e st Q) (S : Sat X ro st R s)
    (k : ∀ v s' i st', IsPart v i → Sat X ro st' R s' → Q i st' → P v s') : wpR (model X.prog X.w) X.A (evalPart e env) P (E R) s := by
  cases e with
  | none => exact wpR_pure (k _ _ none st .none S h)
  | some e => exact TT.run h S fun v s' u st' hu S' ⟨i, e', hq⟩ => by subst e'; obtain ⟨t, rfl⟩ := hu; exact k _ _ (some i) st' (.int i t) S' hq
theorem SubSlice' {value lower upper p pos} {Q : V → St → Prop} (h : TV X ro E st (eval value env) fun o st₁ => Part X ro E env lower st₁ fun lo st₂ => Part X ro E env upper st₂ fun hi st₃ => SubS X ro E o lo hi st₃ Q) :
    TV X ro E st (eval (.Subscript value (.Slice lower upper none p) pos) env) Q := fun R s S =>
  SubscriptR (h.run S fun vo s₁ o st₁ ho S₁ h₁ => wpR_Slice (h₁.run S₁ fun vl s₂ lo st₂ hl S₂ h₂ => h₂.run S₂ fun vu s₃ hi st₃ hu S₃ h₃ => by
    rw [evalPart_none]
    refine wpR_pure ?_
    have S₄ : Sat X ro st₃ R { s₃ with heap := s₃.heap.push { cls := .type "slice", data := .fields #[vl, vu, .none] } } := S₃.keeps (tk := s₃.toks) fun b o e => Heap.get?_push_of_some _ e
    obtain ⟨⟨T, id, hT, hl'⟩, hg⟩ := h₃ vo vl vu _ ho hl hu R _ S₄ (Heap.IsSliceOf.new ..)
    unfold subscriptTail
    refine wpR_bind ?_
    rw [getitemInPython_of_ne hT.not_modules]
    refine wpR_bind (wpR_of (wpAny_specialOf hT hl' ?_))
    have fin : wpR (model X.prog X.w) X.A (operate [.ref s₃.heap.objs.size, vo] (getItem vo (.ref s₃.heap.objs.size))) (fun r s₃ => wpR (model X.prog X.w) X.A (letTemporaryGo value vo r >>= fun _ => pure r) (fun a s' => ∃ b st', V.Is b a ∧ Sat X ro st' R s' ∧ Q b st') (E R) s₃) (E R) _ :=
      wpR_operate (wpR_mono hg (fun r s₃ h₃ => wpR_bind (wpR_of (wpAny_letTemporaryGo (wpR_pure h₃)))) fun _ _ x => x)
    first
      | exact wpR_pure (wpR_bind fin)
      | exact wpR_bind (wpR_pure (wpR_bind fin))
      | exact wpR_bind fin))

theorem get_list {l : Addr} {us : List V} {k : Int} {u : V} {Q : V → St → Prop} (hl : Kn ro st l (.list us)) (hk : -4294967296 ≤ k ∧ k < 4294967296) (h0 : -(us.length : Int) ≤ k)
    (hx : us[pidx k us.length]? = some u) (hq : Q u st) {vi : Value} (hi : (V.int k).Is vi) (S : Sat X ro st R s) :
    s.TypeIs (.ref l) "list" ∧ wpR (model X.prog X.w) X.A (getItem (.ref l) vi) (fun a s' => ∃ b st', V.Is b a ∧ Sat X ro st' R s' ∧ Q b st') (E R) s := by
  obtain ⟨t, rfl⟩ := hi
  obtain ⟨ws, hL, hw⟩ := (S.at hl).isList
  refine ⟨hL.typeIs, ?_⟩
  obtain ⟨v, hv, hu⟩ := hw.get hx
  have hn : us.length = ws.size := by simpa using hw.length
  rw [Array.getElem?_toList] at hv
  by_cases h : k < 0
  · refine wpR_of (wpAny_getItem_list_neg hL h (by omega) (by omega) ?_ ⟨u, st, hu, S, hq⟩)
    rw [pidx, if_pos h, hn] at hv; exact hv
  · refine wpR_of (wpAny_getItem_list hL (by omega) (by omega) ?_ ⟨u, st, hu, S, hq⟩)
    rw [pidx, if_neg h] at hv; exact hv
theorem sub_list {l : Addr} {us : List V} {k : Int} {u : V} {Q : V → St → Prop} (hl : Kn ro st l (.list us)) (hk : -4294967296 ≤ k ∧ k < 4294967296) (h0 : -(us.length : Int) ≤ k)
    (hx : us[pidx k us.length]? = some u) (hq : Q u st) : Sub X ro E (.ref l) (.int k) st Q := by
  rintro vo vi rfl hi R s S
  obtain ⟨h1, h2⟩ := get_list (E := E) hl hk h0 hx hq hi S
  exact ⟨⟨_, _, h1, slot_list_getitem.lookup⟩, h2⟩
theorem subs_list {l : Addr} {us : List V} {lo hi : Option Int} {Q : V → St → Prop} (hl : Kn ro st l (.list us)) (hsz : us.length ≤ 16777216)
    (hq : ∀ l', Q (.ref l') { st with own := (l', .list (pslice lo hi us)) :: st.own }) : SubS X ro E (.ref l) lo hi st Q := by
  rintro vo vl vu sl rfl pl pu R s S hs
  obtain ⟨ws, hL, hw⟩ := (S.at hl).isList
  have hn : us.length = ws.size := by simpa using hw.length
  refine ⟨⟨_, _, hL.typeIs, slot_list_getitem.lookup⟩, wpR_of (wpAny_getItem_list_slice hL hs pl pu .none (by simp) ?_ (by rw [← hn]; exact hsz))⟩
  refine ⟨.ref s.heap.objs.size, _, rfl, S.push (c := .list (pslice lo hi us)) ⟨_, 0, rfl, ?_⟩, hq _⟩
  rw [slicePick_eq]; simpa using hw.pslice lo hi

/-- storing an item -/
theorem set_list {l : Addr} {us : List V} {k : Int} {u : V} {own' : Led} {Q : St → Prop} (U : Put l (.list us) (.list (us.set (pidx k us.length) u)) st.own own') (hk : -4294967296 ≤ k ∧ k < 4294967296) (h0 : -(us.length : Int) ≤ k) (h1 : k < us.length)
    (hq : Q { st with own := own' }) {vi v : Value} (hi : (V.int k).Is vi) (hv : u.Is v) (S : Sat X ro st R s) :
    wpR (model X.prog X.w) X.A (setItem (.ref l) vi v) (fun _ s' => ∃ st', Sat X ro st' R s' ∧ Q st') (E R) s := by
  obtain ⟨t, rfl⟩ := hi
  obtain ⟨ws, n, hl, hw⟩ := (S.at_own U.has).isL
  have hL := hl.isList
  have hn : us.length = ws.size := by simpa using hw.length
  have fin : ∀ j, j = pidx k us.length → ∃ st', Sat X ro st' R { s with heap := s.heap.update l (Obj.mapSeq (·.setIfInBounds j v)) } ∧ Q st' := by
    rintro j rfl
    refine ⟨_, S.upd U ⟨_, Heap.get?_update_self _ hl rfl, ⟨_, _, rfl, ?_⟩⟩ (fun b o hb e => (Heap.get?_update_other _ _ (Ne.symm hb)).trans e) (tk := s.toks), hq⟩
    rw [Array.toList_setIfInBounds]
    exact hw.set hv _
  obtain ⟨o, ho, hc, ne, hd⟩ := id hL
  refine wpR_of ?_
  unfold setItem
  try with_reducible refine wpAny_holding ?_
  first | refine wpAny_bind (wpAny_pure ?_) | skip
  refine wpAny_bind (wpAny_sequenceKey hL.typeIs (by decide) ?_)
  refine wpAny_bind (wpAny_callSpecial?_slot (name := Str.ofString "__setitem__") hL.typeIs slot_list_setitem
    (wpAny_call_entry slot_list_setitem hL.typeIs entry_list_setitem ?_ (args_list_setitem _ _ _)))
  show wpAny _ _ (Builtin.List.listSubscript? (.int k t) >>= _) _ _ s
  by_cases h : k < 0
  · refine wpAny_bind (wpAny_listSubscript_int (fitsIndex_neg h (by omega)) ?_)
    have hidx := seqIndex_neg h (n := ws.size) (by omega)
    have hp : pidx k us.length = (k + ws.size).toNat := by rw [pidx, if_pos h, hn]
    obtain ⟨j, rfl⟩ : ∃ j : Nat, k = Int.negSucc j := by
      cases k with
      | ofNat n => exact absurd h (Int.not_lt.mpr (Int.natCast_nonneg n))
      | negSucc n => exact ⟨n, rfl⟩
    show wpAny _ _ ((Builtin.List.listItems (.ref l) >>= fun xs => pure ((seqIndex? (Int.negSucc j) xs.size).bind fun i => xs[i]?.map (i, ·))) >>= _) _ _ s
    refine wpAny_bind (wpAny_bind ?_)
    show wpAny _ _ (seqItems? (.ref l) >>= _) _ _ s
    refine wpAny_bind (wpAny_seqItems ho hd (wpAny_pure (wpAny_pure ?_)))
    rw [hidx]
    have hlt : (Int.negSucc j + ws.size).toNat < ws.size := by omega
    simp only [Option.bind_some, Array.getElem?_eq_getElem hlt, Option.map_some]
    show wpAny _ _ (setSeqItemAt l _ v >>= _) _ _ s
    refine wpAny_bind (wpAny_setSeqItemAt ho hd ?_)
    first
      | exact wpAny_bind (wpAny_pure (wpAny_pure ⟨.none, rfl, wpAny_pure (fin _ hp.symm)⟩))
      | exact wpAny_pure ⟨.none, rfl, wpAny_pure (fin _ hp.symm)⟩
  · refine wpAny_bind (wpAny_listSubscript_int (fitsIndex_of (by omega) (by omega)) ?_)
    have hp : pidx k us.length = k.toNat := by rw [pidx, if_neg h]
    obtain ⟨j, rfl⟩ := Int.eq_ofNat_of_zero_le (Int.not_lt.mp h)
    have hj : j < ws.size := by omega
    have hx' : ws[j]? = some ws[j] := Array.getElem?_eq_getElem hj
    show wpAny _ _ ((seqItemAt l j >>= fun r => pure (r.map (j, ·))) >>= _) _ _ s
    refine wpAny_bind (wpAny_bind (wpAny_seqItemAt ho hd (wpAny_pure ?_)))
    rw [hx']
    show wpAny _ _ (setSeqItemAt l j v >>= _) _ _ s
    refine wpAny_bind (wpAny_setSeqItemAt ho hd ?_)
    first
      | exact wpAny_bind (wpAny_pure (wpAny_pure ⟨.none, rfl, wpAny_pure (fin _ hp.symm)⟩))
      | exact wpAny_pure ⟨.none, rfl, wpAny_pure (fin _ hp.symm)⟩

theorem AssignSub' {o i pos' value pos} {Q : Fl → St → Prop}
    (h : TV X ro E st (eval value env) fun u st₁ => TV X ro E st₁ (eval o env) fun ov st₂ => TV X ro E st₂ (eval i env) fun iv st₃ =>
      ∃ l us k own', ov = .ref l ∧ iv = .int k ∧ Put l (.list us) (.list (us.set (pidx k us.length) u)) st₃.own own' ∧ (-4294967296 ≤ k ∧ k < 4294967296) ∧ -(us.length : Int) ≤ k ∧ k < us.length ∧ Q .next { st₃ with own := own' })
    (hs : swapsWith value (some (.Subscript o i pos')) pos.line env = pure false := by rfl) :
    TF X ro E st (exec (.Assign [.Subscript o i pos'] value pos) env) Q := fun R s S =>
  wpR_Assign_Subscript (h.run S fun v s₁ u st₁ hu S₁ h₁ => h₁.run S₁ fun vo s₂ ov st₂ ho S₂ h₂ => h₂.run S₂ fun vi s₃ iv st₃ hi S₃ h₃ => by
    obtain ⟨l, us, k, own', rfl, rfl, U, hk, h0, h1, hq⟩ := h₃
    cases ho
    exact wpR_mono (set_list (E := E) (Q := fun st' => Q .next st') U hk h0 h1 hq hi hu S₃) (fun _ s' ⟨st', S', hq'⟩ => ⟨.next, st', rfl, S', hq'⟩) fun _ _ e => e) hs
/-- xs[k] op= value, for a list -/
theorem AugSub' {o i value tpos pos op} {Q : Fl → St → Prop}
    (h : TV X ro E st (eval o env) fun ov st₁ => TV X ro E st₁ (eval i env) fun iv st₂ => ∃ l us k u, ov = .ref l ∧ iv = .int k ∧ Kn ro st₂ l (.list us) ∧ (-4294967296 ≤ k ∧ k < 4294967296) ∧ -(us.length : Int) ≤ k ∧ us[pidx k us.length]? = some u ∧
      TV X ro E st₂ (eval value env) fun b st₃ => Op2 X ro E (inplaceOp op) u b st₃ fun r st₄ => ∃ us' own', Put l (.list us') (.list (us'.set (pidx k us'.length) r)) st₄.own own' ∧ -(us'.length : Int) ≤ k ∧ k < us'.length ∧ Q .next { st₄ with own := own' })
    (hi : ∀ ov iv new, augStore i ov iv new = (do holding [new, ov, iv] (setItem ov iv new); release [new, ov, iv] []; pure .next) := by intros; rfl) :
    TF X ro E st (exec (.AugAssign (.Subscript o i tpos) op value pos) env) Q := fun R s S =>
  wpR_AugAssign_Sub (h.run S fun vo s₁ ov st₁ ho S₁ h₁ => h₁.run S₁ fun vi s₂ iv st₂ hi S₂ h₂ => by
    obtain ⟨l, us, k, u, rfl, rfl, hl, hk, h0, hx, h₃⟩ := h₂
    cases ho
    refine wpR_mono (get_list (E := E) (Q := fun b st' => b = u ∧ st' = st₂) hl hk h0 hx ⟨rfl, rfl⟩ hi S₂).2 (fun old s₃ h => ?_) fun _ _ e => e
    obtain ⟨b, st', hb, S₃, rfl, rfl⟩ := h
    exact h₃.run S₃ fun w s₄ b st₄ hw S₄ h₄ => (h₄ old w hb hw).run S₄ fun new s₅ r st₅ hr S₅ ⟨us', own', U, h0', h1', hq⟩ =>
      wpR_mono (set_list (E := E) (Q := fun st' => Q .next st') U hk h0' h1' hq hi hr S₅) (fun _ s' ⟨st', S', hq'⟩ => ⟨.next, st', rfl, S', hq'⟩) fun _ _ e => e) hi

/-- methods of one argument -/
theorem append_list' {o e apos pos} {pl : Sem Bool} {Q : V → St → Prop}
    (h : TV X ro E st (eval o env) fun ov st₁ => ∃ l us, ov = .ref l ∧ Kn ro st₁ l (.list us) ∧ TV X ro E st₁ (eval e env) fun u st₂ => ∃ us own', Put l (.list us) (.list (us ++ [u])) st₂.own own' ∧ us.length ≤ 16777216 ∧ Q .none { st₂ with own := own' })
    (he : starEach [e] env = (false, eval e env) :: starEach [] env := by rfl)
    (he' : eval (.Call (.Attribute o "append" apos) [e] [] pos) env = (do
      let ov ← eval o env
      standAt apos.atName
      let (f, first) ← holding [ov] (getMethod ov "append" pl)
      callWith pos f first (backTo pos (starEach [e] env)) []) := by rfl) :
    TV X ro E st (eval (.Call (.Attribute o "append" apos) [e] [] pos) env) Q := fun R s S =>
  MethodCallR (pl := pl) (h.run S fun vo s₁ ov st₁ ho S₁ ⟨l, us₀, e1, hl, h₁⟩ => by
    subst e1
    cases ho
    obtain ⟨ws, n, hL, hw⟩ := (S₁.at hl).isL
    refine wpR_of (getMethod_list_append hL rfl rfl ?_)
    rw [he]
    refine callWith_builtinR rfl ?_
    refine evalArgs_plainR (spliced_consR (h₁.run S₁ fun v s₂ u st₂ hu S₂ ⟨us, own', U, hsz, hq⟩ => wpR_of (spliced_nil ?_)))
    obtain ⟨ws, n, hL, hw⟩ := (S₂.at_own U.has).isL
    have hn : us.length = ws.size := by simpa using hw.length
    refine wpR_of (call_meets F.slot_list_append ⟨_, hL, rfl⟩ F.entry_list_append (F.args_list_append_2 _ _) (PySem.list_append l ws n v (by rw [← hn]; exact hsz)) ⟨hL, .none, _, rfl, S₂.upd U ⟨_, Heap.get?_update_self _ hL rfl, ⟨_, _, rfl, ?_⟩⟩ (fun b o hb e => (Heap.get?_update_other _ _ (Ne.symm hb)).trans e), hq⟩)
    rw [Array.toList_push]; exact hw.append (.cons hu .nil)) he'
end
end Mine
end
section
open PySem PySem.W PyProof.Rows PySem.Calls
set_option Elab.async false
set_option maxRecDepth 100000
set_option linter.unusedVariables false
namespace Mine
section
variable {prog : Program} {w : World} {A : Around} {E : Value → Shared → Prop} {s : Shared}
/-- a binary operation that no number slot takes, for two types -/
theorem binaryOp1_none2 {M : Model} {a b : Value} {T U nm : String} {Q : Option Value → Shared → Prop} (ha : s.TypeIs a T) (hb : s.TypeIs b U)
    (hfa : fillsNumberSlot (.type T) nm = pure false) (hfb : fillsNumberSlot (.type U) nm = pure false) (h : Q none s) : wpAny M A (binaryOp1 nm a b) Q E s := by
  unfold binaryOp1
  refine wpAny_bind (wpAny_typeOf ha (wpAny_bind (wpAny_typeOf hb (wpAny_bind (wpAny_of_eq hfa ?_)))))
  by_cases h1 : (Value.type T == Value.type U) = true
  · rw [if_pos h1]
    refine wpAny_bind (wpAny_pure ?_)
    show wpAny M A (pure none) Q E s
    exact wpAny_pure h
  · rw [if_neg h1]
    refine wpAny_bind (wpAny_of_eq hfb ?_)
    show wpAny M A (pure none) Q E s
    exact wpAny_pure h
theorem inplaceOp_seq {a b : Value} {T U id : String} {Q : Value → Shared → Prop} (ha : s.TypeIs a T) (hb : s.TypeIs b U)
    (hI : typeLookup (.type T) (dunderI "add") = pure (some (.builtin id))) (hS : isSeqSlot (some (.builtin id)) = true)
    (hfa : fillsNumberSlot (.type T) "add" = pure false) (hfb : fillsNumberSlot (.type U) "add" = pure false)
    (hc : wpAny (model prog w) A (call (.builtin id) [a, b]) Q E s) : wpAny (model prog w) A (inplaceOp .Add a b) Q E s := by
  unfold inplaceOp
  refine wpAny_holding ?_
  have hfi : fillsInplaceSlot (.type T) "add" (Operator.Add == .Add) = pure false := by
    unfold fillsInplaceSlot
    show (typeLookup (.type T) (dunderI "add") >>= fun fi => pure (fi.isSome && !isSeqSlot fi)) = pure false
    rw [hI, pure_bind, hS]; rfl
  have hsi : seqSlot? (.type T) (dunderI "add") = pure (some (.builtin id)) := by
    simp only [seqSlot?, hI, pure_bind, hS]; rfl
  refine wpAny_bind (wpAny_typeOf ha (wpAny_bind (wpAny_of_eq hfi ?_)))
  show wpAny _ A (if false = true then _ else _) Q E s
  rw [if_neg Bool.false_ne_true]
  refine wpAny_bind (binaryOp1_none2 (nm := "add") ha hb hfa hfb ?_)
  refine wpAny_bind (wpAny_of_eq hsi ?_)
  exact wpAny_bind (wpAny_rule hc)
end

section
variable {X : Cx} {ro : Led} {E : Er} {st : St} {nm : Str} {sc : Scope} {a : Addr} {cd : Value} {env : Env} {R : Heap} {s : Shared}

theorem add_list' {l b : Addr} {us vs : List V} {Q : V → St → Prop} (hl : Kn ro st l (.list us)) (hb : Kn ro st b (.list vs)) (hsz : us.length + vs.length ≤ 16777216)
    (hq : ∀ l', Q (.ref l') { st with own := (l', .list (us ++ vs)) :: st.own }) : Op2 X ro E (binaryOp .Add) (.ref l) (.ref b) st Q := by
  rintro v w rfl rfl R s S
  obtain ⟨ws, n, hL, hw⟩ := (S.at hl).isL
  obtain ⟨ws2, n2, hL2, hw2⟩ := (S.at hb).isL
  have hn : us.length = ws.size := by simpa using hw.length
  have hn2 : vs.length = ws2.size := by simpa using hw2.length
  refine wpR_of (P.add_list hL hL2 ⟨.ref s.heap.objs.size, _, rfl, S.push (c := .list (us ++ vs)) ⟨_, 0, rfl, ?_⟩, hq _⟩ (by rw [← hn, ← hn2]; exact hsz))
  rw [Array.toList_append]; exact hw.append hw2

theorem iadd_list' {l b : Addr} {us vs : List V} {own' : Led} {Q : V → St → Prop} (U : Put l (.list us) (.list (us ++ vs)) st.own own') (hb : Kn ro st b (.list vs)) (hsz : us.length + vs.length ≤ 16777216)
    (hq : Q (.ref l) { st with own := own' }) : Op2 X ro E (inplaceOp .Add) (.ref l) (.ref b) st Q := by
  rintro v w rfl rfl R s S
  obtain ⟨ws, n, hL, hw⟩ := (S.at_own U.has).isL
  obtain ⟨ws2, n2, hL2, hw2⟩ := (S.at hb).isL
  have hn : us.length = ws.size := by simpa using hw.length
  have hn2 : vs.length = ws2.size := by simpa using hw2.length
  refine wpR_of ?_
  refine inplaceOp_seq (T := "list") (U := "list") ⟨_, hL, rfl⟩ ⟨_, hL2, rfl⟩ F.slot_list_iadd.lookup (by decide +kernel) noFill_list_add noFill_list_add ?_
  refine call_meets F.slot_list_iadd ⟨_, hL, rfl⟩ F.entry_list_iadd (F.args_list_iadd_2 _ _) (AutoSeq1.list___iadd___list_list_0 l ws n b ws2 n2 ?_ ?_ ?_) ⟨hL, hL2, ?_⟩
  · have : Builtin.List.listTooLong (ws.size + ws2.size) = false := by simp only [Builtin.List.listTooLong, sizeLine]; simp; omega
    rw [this]; simp
  · rw [sizeLine_eq]; omega
  · rw [sizeLine_eq]; omega
  · refine ⟨.ref l, _, rfl, S.upd U ⟨_, Heap.get?_update_self _ hL rfl, ⟨_, _, rfl, ?_⟩⟩ (fun b o hb e => (Heap.get?_update_other _ _ (Ne.symm hb)).trans e), hq⟩
    rw [Array.toList_append]; exact hw.append hw2


theorem len_list' {l : Addr} {us : List V} {Q : V → St → Prop} (hl : Kn ro st l (.list us)) (hsz : us.length ≤ 16777216) (hq : Q (.int us.length) st) :
    OpN X ro E (fun vs => call (.builtin "len") vs) [.ref l] st Q := by
  rintro vs (_ | ⟨rfl, (_ | _)⟩) R s S
  obtain ⟨ws, hL, hw⟩ := (S.at hl).isList
  have hn : us.length = ws.size := by simpa using hw.length
  refine wpR_of (call_len_list hL (by omega) ⟨.int us.length, st, ⟨s.toks + 1, ?_⟩, S.toks, hq⟩)
  rw [hn]
end
end Mine
end
section
open PySem PySem.W PyProof.Rows PySem.Calls
set_option Elab.async false
set_option maxRecDepth 100000
set_option linter.unusedVariables false
namespace Mine

def ErOk (X : Cx) (env : Env) (E : Er) : Prop :=
  (∀ R R' e s, (∀ b o, R.get? b = some o → R'.get? b = some o) → E R' e s → E R e s) ∧ ∀ R e s, E R e s → notedR (model X.prog X.w) X.A env (cameBackR (model X.prog X.w) X.A env (E R)) e s
abbrev noE : Er := fun _ _ _ => False
theorem ErOk.none {X : Cx} {env : Env} : ErOk X env noE := ⟨fun _ _ _ _ _ h => h.elim, fun _ _ _ h => h.elim⟩

section
variable {X : Cx} {ro : Led} {E : Er} {st : St} {nm : Str} {sc : Scope} {a : Addr} {cd : Value} {env : Env} {R : Heap} {s : Shared}

def St.hid (X : Cx) (st : St) (h : Heap) : Heap := hideAll h (X.L :: (st.own.map (·.1) ++ X.outs.map (·.1)))
theorem Sat.wide (S : Sat X ro st R s) : ∀ b o, R.get? b = some o → (st.hid X s.heap).get? b = some o := fun b o e => by
  refine hideAll_get _ (S.fr b o e) fun hm => ?_
  rcases List.mem_cons.mp hm with rfl | hm
  · rw [S.frL] at e; cases e
  · rcases List.mem_append.mp hm with hm | hm
    · obtain ⟨p, hp, rfl⟩ := List.mem_map.mp hm
      rw [(S.own p hp).1] at e; cases e
    · obtain ⟨p, hp, rfl⟩ := List.mem_map.mp hm
      rw [(S.outs p hp).2.1] at e; cases e
theorem Sat.widen (S : Sat X ro st R s) : Sat X ro st (st.hid X s.heap) s where
  base := fun b o e => S.wide b o (S.base b o e)
  ros := fun p hp => (S.ros p hp).keep fun o e => S.wide _ o e
  fr := fun b o e => of_hideAll _ e
  frL := hideAll_none _ (.head _)
  own := fun p hp => ⟨hideAll_none _ (.tail _ (List.mem_append_left _ (List.mem_map.mpr ⟨p, hp, rfl⟩))), (S.own p hp).2⟩
  nd := S.nd
  ns := S.ns
  nl := S.nl
  gens := S.gens
  oss := S.oss
  outs := fun q hq => ⟨(S.outs q hq).1, hideAll_none _ (.tail _ (List.mem_append_right _ (List.mem_map.mpr ⟨q, hq, rfl⟩))), (S.outs q hq).2.2⟩
  apart := S.apart
theorem Sat.narrow {R' : Heap} (S : Sat X ro st R' s) (hb : ∀ b o, X.B.get? b = some o → R.get? b = some o) (hr : ∀ p ∈ ro, At R p.1 p.2) (h : ∀ b o, R.get? b = some o → R'.get? b = some o) : Sat X ro st R s where
  base := hb
  ros := hr
  fr := fun b o e => S.fr b o (h b o e)
  frL := by
    cases e : R.get? X.L with
    | none => rfl
    | some o => have := h _ _ e; rw [S.frL] at this; cases this
  own := fun p hp => by
    refine ⟨?_, (S.own p hp).2⟩
    cases e : R.get? p.1 with
    | none => rfl
    | some o => have := h _ _ e; rw [(S.own p hp).1] at this; cases this
  nd := S.nd
  ns := S.ns
  nl := S.nl
  gens := S.gens
  oss := S.oss
  outs := fun q hq => by
    refine ⟨(S.outs q hq).1, ?_, (S.outs q hq).2.2⟩
    cases e : R.get? q.1 with
    | none => rfl
    | some o => have := h _ _ e; rw [(S.outs q hq).2.1] at this; cases this
  apart := S.apart

/-- all but the addresses fp kept, where fp is off the state -/
theorem Sat.off (S : Sat X ro st R s) {h' : Heap} {tk : Nat} {fp : List Addr} (hR : ∀ b ∈ fp, R.get? b = none) (hL : X.L ∉ fp) (hX : ∀ q ∈ X.outs, q.1 ∉ fp) (hO : ∀ p ∈ st.own, p.1 ∉ fp)
    (k : ∀ b o, b ∉ fp → s.heap.get? b = some o → h'.get? b = some o) : Sat X ro st R { s with heap := h', toks := tk } where
  base := S.base
  ros := S.ros
  fr := fun b o e => k b o (fun hm => by rw [hR b hm] at e; cases e) (S.fr b o e)
  frL := S.frL
  own := fun p hp => let ⟨h1, h2, h3⟩ := S.own p hp; ⟨h1, h2, h3.keep fun o e => k _ o (hO p hp) e⟩
  nd := S.nd
  ns := let ⟨m, hm, hl⟩ := S.ns; ⟨m, hm.at' fun o e => k _ o hL e, hl⟩
  nl := S.nl
  gens := S.gens
  oss := S.oss
  outs := fun q hq => let ⟨h1, h2, h3⟩ := S.outs q hq; ⟨h1.at' fun o e => k _ o (hX q hq) e, h2, h3⟩
  apart := S.apart

theorem Sat.outs_off (S : Sat X ro st R s) {i : Addr} (hi : s.heap.objs.size ≤ i) : ∀ q ∈ X.outs, q.1 ∉ [i] := fun q hq hm => by
  obtain ⟨o, _, _, ho, _⟩ := (S.outs q hq).1
  have := Heap.lt_size ho
  rw [List.mem_singleton.mp hm] at this
  exact absurd this (Nat.not_lt.mpr hi)

def Tgt (X : Cx) (ro : Led) (E : Er) (env : Env) (target : Expr) (u : V) (st : St) (Q : St → Prop) : Prop := ∀ v, u.Is v → TU X ro E st (assign target env v) Q
theorem tgt_name {x p} {u₀ u : V} {loc' : List (Str × V)} {Q : St → Prop} (U : Put x u₀ u st.loc loc') (hq : Q { st with loc := loc' })
    (hk : sc.kind = .function := by rfl) (hl : (envOf nm sc X.L a cd).kindOf x = some .local := by rfl) : Tgt X ro E (envOf nm sc X.L a cd) (.Name x p) u st Q := fun v hv R s S =>
  wpR_assign_Name (store_local U hv hq hk hl R s S)

/-- what a turn's end owes -/
def LoopQ (Q : Fl → St → Prop) (J : St → Prop) (f : Fl) (st : St) : Prop := match f with
  | .next => J st
  | .cont => J st
  | .brk => Q .next st
  | .ret u => Q (.ret u) st

/-- the loop over an iterator whose objects fp lie off the state: Z its state, J what holds between the turns -/
theorem for_core {target : Expr} {body : List Stmt} {it : Value} {fp : List Addr} (Z : Nat → Heap → Prop) (n : Nat) (item : Nat → V) (J : Nat → St → Prop) {Q : Fl → St → Prop}
    (hE : ErOk X env E) (S : Sat X ro st R s) (hz : Z 0 s.heap) (hj : J 0 st) (hR : ∀ b ∈ fp, R.get? b = none) (hL : X.L ∉ fp) (hX : ∀ q ∈ X.outs, q.1 ∉ fp) (hO : ∀ p ∈ st.own, p.1 ∉ fp)
    (live : ∀ i h, Z i h → ∀ b ∈ fp, ∃ o, h.get? b = some o)
    (frame : ∀ i h h', Z i h → (∀ b ∈ fp, ∀ o, h.get? b = some o → h'.get? b = some o) → Z i h')
    (next : ∀ i st' R' s' (P : Option Value → Shared → Prop) (E' : Value → Shared → Prop), i < n → Sat X ro st' R' s' → J i st' → Z i s'.heap → (∀ p ∈ st'.own, p.1 ∉ fp) →
      (∀ v h' tk, (item i).Is v → Z (i + 1) h' → (∀ b o, b ∉ fp → s'.heap.get? b = some o → h'.get? b = some o) → P (some v) { s' with heap := h', toks := tk }) →
      wpAny (model X.prog X.w) X.A (pyNext it) P E' s')
    (stop : ∀ st' R' s' (P : Option Value → Shared → Prop) (E' : Value → Shared → Prop), Sat X ro st' R' s' → J n st' → Z n s'.heap → (∀ p ∈ st'.own, p.1 ∉ fp) →
      (∀ h' tk, (∀ b o, b ∉ fp → s'.heap.get? b = some o → h'.get? b = some o) → P none { s' with heap := h', toks := tk }) →
      wpAny (model X.prog X.w) X.A (pyNext it) P E' s')
    (turn : ∀ i st', i < n → J i st' → Tgt X ro E env target (item i) st' fun st₂ => TF X ro E st₂ (execs body env) (LoopQ Q (J (i + 1))))
    (done : ∀ st', J n st' → Q .next st')
    (ht : ∀ v, letOwnedTupleGo target it v = pure () := by intro _; rfl) :
    codeR (model X.prog X.w) X.A (.forLoop target it body [] env) (fun r s' => match r with | .ok f => ∃ g st', Fl.Is g f ∧ Sat X ro st' R s' ∧ Q g st' | .error e => cameBackR (model X.prog X.w) X.A env (E R) e s') s := by
  refine codeR_forLoop (fun k s' => ∃ i st', k = n - i ∧ i ≤ n ∧ Sat X ro st' R s' ∧ J i st' ∧ Z i s'.heap ∧ (∀ p ∈ st'.own, p.1 ∉ fp)) ?_ n ⟨0, st, by omega, by omega, S, hj, hz, hO⟩
  rintro k s' ⟨i, st', rfl, hi, S', hJ, hZ, hO'⟩
  by_cases hlt : i < n
  · refine wpR_of (next i st' R s' _ _ hlt S' hJ hZ hO' fun v h' tk hv hZ' hk => ?_)
    refine wpR_of_eq (ht v) ?_
    have S₁ : Sat X ro st' R { s' with heap := h', toks := tk } := S'.off hR hL hX hO' hk
    have inR : ∀ b ∈ fp, ∃ o, (st'.hid X h').get? b = some o ∧ h'.get? b = some o := fun b hb => by
      obtain ⟨o, ho⟩ := live _ _ hZ' b hb
      refine ⟨o, hideAll_get _ ho fun hm => ?_, ho⟩
      rcases List.mem_cons.mp hm with e | hm
      · exact hL (e ▸ hb)
      · rcases List.mem_append.mp hm with hm | hm
        · obtain ⟨p, hp, rfl⟩ := List.mem_map.mp hm
          exact hO' p hp hb
        · obtain ⟨p, hp, rfl⟩ := List.mem_map.mp hm
          exact hX p hp hb
    have T := turn i st' hlt hJ v hv _ _ S₁.widen
    refine wpR_mono T (fun _ s₂ h₂ => ?_) fun e s₂ h₂ => hE.2 R e s₂ (hE.1 R _ e s₂ S₁.wide h₂)
    obtain ⟨_, st₂, _, S₂, h₂⟩ := h₂
    refine wpR_mono (h₂ _ _ S₂) (fun f s₃ h₃ => ?_) fun e s₃ h₃ => hE.2 R e s₃ (hE.1 R _ e s₃ S₁.wide h₃)
    obtain ⟨g, st₃, hg, S₃, hq⟩ := h₃
    have S₃' : Sat X ro st₃ R s₃ := S₃.narrow S'.base S'.ros S₁.wide
    have hZ₃ : Z (i + 1) s₃.heap := frame _ _ _ hZ' fun b hb o ho => by
      obtain ⟨o', h1, h2⟩ := inR b hb
      rw [h2] at ho; cases ho
      exact S₃.fr _ _ h1
    have hO₃ : ∀ p ∈ st₃.own, p.1 ∉ fp := fun p hp hb => by
      obtain ⟨o', h1, _⟩ := inR _ hb
      rw [(S₃.own p hp).1] at h1; cases h1
    cases g with
    | next => cases hg; exact ⟨n - (i + 1), by omega, i + 1, st₃, rfl, hlt, S₃', hq, hZ₃, hO₃⟩
    | cont => cases hg; exact ⟨n - (i + 1), by omega, i + 1, st₃, rfl, hlt, S₃', hq, hZ₃, hO₃⟩
    | brk => cases hg; exact ⟨.next, st₃, rfl, S₃', hq⟩
    | ret u => obtain ⟨v, rfl, hv⟩ := hg; exact ⟨.ret u, st₃, ⟨v, rfl, hv⟩, S₃', hq⟩
  · obtain rfl : i = n := by omega
    refine wpR_of (stop st' R s' _ _ S' hJ hZ hO' fun h' tk hk => wpR_of (wpAny_execs_nil ?_))
    exact ⟨.next, st', rfl, S'.off hR hL hX hO' hk, done st' hJ⟩

theorem For' {target iter : Expr} {body : List Stmt} {pos : Pos} {Q : Fl → St → Prop}
    (h : TV X ro E st (eval iter env) fun u st₁ => ∀ v, u.Is v → ∀ R s, Sat X ro st₁ R s → wpR (model X.prog X.w) X.A (pyIter v) (fun it s₂ =>
      codeR (model X.prog X.w) X.A (.forLoop target it body [] env) (fun r s' => match r with | .ok f => ∃ g st', Fl.Is g f ∧ Sat X ro st' R s' ∧ Q g st' | .error e => cameBackR (model X.prog X.w) X.A env (E R) e s') s₂) (E R) s)
    (hs : ∀ x, foldedSetIterable iter env x = pure x := by intro _; rfl) : TF X ro E st (exec (.For target iter body [] pos) env) Q := fun R s S =>
  wpR_For (h.run S fun v s₁ u st₁ hu S₁ h₁ => h₁ v hu R s₁ S₁) hs

def ForOver (X : Cx) (ro : Led) (E : Er) (env : Env) (target : Expr) (body : List Stmt) (Q : Fl → St → Prop) (u : V) (st : St) : Prop :=
  ∀ v, u.Is v → ∀ R s, Sat X ro st R s → wpR (model X.prog X.w) X.A (pyIter v) (fun it s₂ =>
      codeR (model X.prog X.w) X.A (.forLoop target it body [] env) (fun r s' => match r with | .ok f => ∃ g st', Fl.Is g f ∧ Sat X ro st' R s' ∧ Q g st' | .error e => cameBackR (model X.prog X.w) X.A env (E R) e s') s₂) (E R) s

/-- over a list, that each turn leaves as it is -/
theorem for_list {target : Expr} {body : List Stmt} {l : Addr} {us : List V} (J : Nat → St → Prop) {Q : Fl → St → Prop} (hE : ErOk X env E) (hh : X.A.handled = none)
    (hl : ∀ i st', J i st' → Kn ro st' l (.list us)) (hj : J 0 st)
    (turn : ∀ i st' u, us[i]? = some u → J i st' → Tgt X ro E env target u st' fun st₂ => TF X ro E st₂ (execs body env) (LoopQ Q (J (i + 1))))
    (done : ∀ st', J us.length st' → Q .next st')
    (ht : ∀ it v, letOwnedTupleGo target it v = pure () := by intro _ _; rfl) :
    ForOver X ro E env target body Q (.ref l) st := by
  rintro v rfl R s S
  obtain ⟨ws, hL, hw⟩ := (S.at (hl 0 st hj)).isList
  refine wpR_of (wpAny_pyIter_list hL ?_)
  have S₁ : Sat X ro st R { s with heap := s.heap.push { cls := .type "list_iterator", data := .fields #[.ref l, rawInt 0] } } := S.keeps (tk := s.toks) fun b o e => Heap.get?_push_of_some _ e
  have hlt : ∀ {b c}, At s.heap b c → b ≠ s.heap.objs.size := fun h => Nat.ne_of_lt h.lt
  refine for_core (fp := [s.heap.objs.size]) (fun i h => h.IsListIter s.heap.objs.size l i) us.length (fun i => us.getD i .unk) J hE S₁ ⟨_, Heap.get?_push_size _ rfl, rfl, rfl⟩ hj ?_ ?_ (S.outs_off (Nat.le_refl _)) ?_ ?_ ?_ ?_ ?_ ?_ done (ht _)
  · intro b hb; rw [List.mem_singleton.mp hb]
    cases e : R.get? s.heap.objs.size with
    | none => rfl
    | some o => exact absurd (Heap.lt_size (S.fr _ _ e)) (Nat.lt_irrefl _)
  · intro hm; exact absurd S.lt (by rw [List.mem_singleton.mp hm]; exact Nat.lt_irrefl _)
  · intro p hp hm; exact hlt (S.own p hp).2.2 (List.mem_singleton.mp hm)
  · rintro i h ⟨o, ho, _⟩ b hb; rw [List.mem_singleton.mp hb]; exact ⟨o, ho⟩
  · intro i h h' hz hk; exact hz.at fun o e => hk _ (List.mem_singleton.mpr rfl) o e
  · intro i st' R' s' P E' hi S' hJ hZ hO hP
    obtain ⟨ws', hL', hw'⟩ := (S'.at (hl i st' hJ)).isList
    have hx : us[i]? = some us[i] := List.getElem?_eq_getElem hi
    obtain ⟨v, hv, hu⟩ := hw'.get hx
    refine wpAny_pyNext_list_item hZ hL' (x := v) (by rw [← Array.getElem?_toList]; exact hv) fun h' hit hs => hP v h' s'.toks ?_ hit fun b o hb e => hs.extBut b o (fun h => hb (List.mem_singleton.mpr h)) e
    show (us.getD i .unk).Is v
    rw [List.getD_eq_getElem?_getD, hx]; exact hu
  · intro st' R' s' P E' S' hJ hZ hO hP
    obtain ⟨ws', hL', hw'⟩ := (S'.at (hl _ st' hJ)).isList
    have hn : us.length = ws'.size := by simpa using hw'.length
    exact wpAny_pyNext_list_end hh hZ hL' (by rw [hn]; simp) fun h' he => hP h' s'.toks fun b o hb e => he b o (fun h => hb (List.mem_singleton.mpr h)) e
  · intro i st' hi hJ
    have hx : us[i]? = some us[i] := List.getElem?_eq_getElem hi
    have := turn i st' us[i] hx hJ
    show Tgt X ro E env target (us.getD i .unk) st' _
    rw [List.getD_eq_getElem?_getD, hx]; exact this
end
end Mine
end
section
open PySem PySem.W PyProof.Rows PySem.Calls
open PySem.Sem (wp)
open PySem.Builtin.Bytes (decodersThatHold exported exportsOf checkResize payload payload? write byteValue sameRef)
set_option Elab.async false
set_option maxRecDepth 100000
set_option linter.unusedVariables false
namespace Mine
namespace B
theorem slot_append : Slot "bytearray" "append" "bytearray.append" :=
  .of (owner := "bytearray") (n := "append") (by rw [typeLookup_type, builtinLookup_eq_fast]; kernel_rfl) (by decide +kernel) (by decide +kernel) (by decide +kernel)
    (by first | exact .inl (by decide +kernel) | exact .inr (by decide +kernel)) (by rw [isSubtype_type]; kernel_rfl)
theorem slot_iadd : Slot "bytearray" (dunderI "add") "bytearray.__iadd__" :=
  .of (owner := "bytearray") (n := "__iadd__") (by rw [typeLookup_type, builtinLookup_eq_fast]; kernel_rfl) (by decide +kernel) (by decide +kernel) (by decide +kernel)
    (by first | exact .inl (by decide +kernel) | exact .inr (by decide +kernel)) (by rw [isSubtype_type]; kernel_rfl)
theorem slot_init : Slot "bytearray" "__init__" "bytearray.__init__" :=
  .of (owner := "bytearray") (n := "__init__") (by rw [typeLookup_type, builtinLookup_eq_fast]; kernel_rfl) (by decide +kernel) (by decide +kernel) (by decide +kernel)
    (by first | exact .inl (by decide +kernel) | exact .inr (by decide +kernel)) (by rw [isSubtype_type]; kernel_rfl)
theorem entry_append : entryFor table "bytearray.append" = some Builtin.«bytearray.append» := by first | exact entryFor_of_fast (by kernel_rfl) | exact entryFor_of_tree (by kernel_rfl)
theorem entry_iadd : entryFor table "bytearray.__iadd__" = some Builtin.«bytearray.__iadd__» := by first | exact entryFor_of_fast (by kernel_rfl) | exact entryFor_of_tree (by kernel_rfl)
theorem entry_init : entryFor table "bytearray.__init__" = some Builtin.«bytearray.__init__» := by first | exact entryFor_of_fast (by kernel_rfl) | exact entryFor_of_tree (by kernel_rfl)
theorem args_append (a b : Value) : argsOk "bytearray.append" ⟨[a, b], []⟩ := by unfold argsOk; kernel_rfl
theorem args_iadd (a b : Value) : argsOk "bytearray.__iadd__" ⟨[a, b], []⟩ := by unfold argsOk; kernel_rfl
theorem args_init (a : Value) : argsOk "bytearray.__init__" ⟨[a], []⟩ := by unfold argsOk; kernel_rfl
theorem args_init1 (a b : Value) : argsOk "bytearray.__init__" ⟨[a, b], []⟩ := by unfold argsOk; kernel_rfl
theorem getattribute : typeLookup (.type "bytearray") "__getattribute__" = pure (some (.builtin "bytearray.__getattribute__")) := by rw [typeLookup_type, builtinLookup_eq_fast]; kernel_rfl
theorem canon_ga : (Manifest.canonical "bytearray.__getattribute__" != "object.__getattribute__") = false := by decide +kernel
theorem getattr_none : typeLookup (.type "bytearray") "__getattr__" = pure none := by rw [typeLookup_type, builtinLookup_eq_fast]; kernel_rfl
theorem type_append : typeOf (.builtin "bytearray.append") = pure (.type "method_descriptor") := by show builtinType _ = _; rw [builtinType_eq_fast]; kernel_rfl
theorem buf_ba : typeLookup (.type "bytearray") "__buffer__" = pure (some (.builtin "bytearray.__buffer__")) := by rw [typeLookup_type, builtinLookup_eq_fast]; kernel_rfl
theorem buf_b : typeLookup (.type "bytes") "__buffer__" = pure (some (.builtin "bytes.__buffer__")) := by rw [typeLookup_type, builtinLookup_eq_fast]; kernel_rfl
theorem rel_ba : typeLookup (.type "bytearray") "__release_buffer__" = pure (some (.builtin "bytearray.__release_buffer__")) := by rw [typeLookup_type, builtinLookup_eq_fast]; kernel_rfl
theorem rel_b : typeLookup (.type "bytes") "__release_buffer__" = pure none := by rw [typeLookup_type, builtinLookup_eq_fast]; kernel_rfl
theorem noFill_ba : fillsNumberSlot (.type "bytearray") "add" = pure false := PySem.fillsNumberSlot_seq (id := "bytearray.__add__") (r := none) (by rw [typeLookup_type, builtinLookup_eq_fast]; kernel_rfl) (by decide +kernel) (by rw [typeLookup_type, builtinLookup_eq_fast]; kernel_rfl) rfl
theorem noFill_b : fillsNumberSlot (.type "bytes") "add" = pure false := PySem.fillsNumberSlot_seq (id := "bytes.__add__") (r := none) (by rw [typeLookup_type, builtinLookup_eq_fast]; kernel_rfl) (by decide +kernel) (by rw [typeLookup_type, builtinLookup_eq_fast]; kernel_rfl) rfl
end B
section
variable {prog : Program} {w : World} {M : Model} {A : Around} {E : Value → Shared → Prop} {s : Shared}

theorem exported_R {self : Value} {Q : Bool → Shared → Prop} (hg : A.guards = some []) (h : Q false s) : wpR M A (exported self) Q E s := fun Γ p hΓ hn => by
  show Q (((Γ.code, p) :: Γ.below).any _) s
  rw [show (((Γ.code, p) :: Γ.below).any _) = false from ?_]
  · exact h
  rw [List.any_eq_false]
  intro x hx
  have hgd : guardsOf ((Γ.code, p) :: Γ.below) = [] := by rw [guardsOf_cons]; exact hΓ.2.2.2.1 [] hg
  have h1 : x.1.isGuard = false := by
    cases hc : x.1.isGuard with
    | false => rfl
    | true =>
      have : x.1 ∈ guardsOf ((Γ.code, p) :: Γ.below) := List.mem_filter.mpr ⟨List.mem_map.mpr ⟨x, hx, rfl⟩, hc⟩
      rw [hgd] at this; cases this
  have h2 : decCode x.1 = false := by
    rcases List.mem_cons.mp hx with rfl | hx
    · exact hn.1
    · exact hn.2 x hx
  obtain ⟨c, pp⟩ := x
  simp only at h1 h2
  split <;> (try (rename_i heq; cases heq))
  · exact absurd (show guardIds.contains "bytearray.__contains__" = false from h1) (by decide +kernel)
  · exact absurd (show guardIds.contains "bytearray.__mod__" = false from h1) (by decide +kernel)
  · exact absurd (show guardIds.contains "bytearray.__rmod__" = false from h1) (by decide +kernel)
  · exact absurd (show guardIds.contains "_struct.pack_into.held" = false from h1) (by decide +kernel)
  · exact absurd (show guardIds.contains "bytearray.find.held" = false from h1) (by decide +kernel)
  · rw [show decodersThatHold.contains _ = false from h2]; simp
  · simp
end
end Mine
end
section
open PySem PySem.W PyProof.Rows PySem.Calls
open PySem.Sem (wp)
open PySem.Builtin.Bytes (decodersThatHold exported exportsOf checkResize payload payload? write byteValue sameRef)
set_option Elab.async false
set_option maxRecDepth 100000
set_option linter.unusedVariables false
namespace Mine
def IsBa (h : Heap) (a : Addr) (b : Array UInt8) : Prop := h.get? a = some { cls := .type "bytearray", data := .bytearray b 0 }
theorem At.isBa {h : Heap} {a ns} (x : At h a (.ba ns)) : ∃ b, IsBa h a b ∧ bInts b = ns :=
  let ⟨_, ho, b, e, hb⟩ := x; ⟨b, by subst e; exact ho, hb⟩
theorem bInts_length (b : Array UInt8) : (bInts b).length = b.size := by simp [bInts]
theorem bInts_push (b : Array UInt8) {n : Int} (h0 : 0 ≤ n) (h1 : n < 256) : bInts (b.push n.toNat.toUInt8) = bInts b ++ [n] := by
  have : ((n.toNat.toUInt8.toNat : Nat) : Int) = n := by
    rw [show n.toNat.toUInt8.toNat = n.toNat % 256 from rfl, Nat.mod_eq_of_lt (by omega)]; omega
  simp only [bInts, Array.toList_push, List.map_append, List.map_cons, List.map_nil, this]
theorem bInts_append (b c : Array UInt8) : bInts (b ++ c) = bInts b ++ bInts c := by simp [bInts]
section
variable {prog : Program} {w : World} {M : Model} {A : Around} {E : Value → Shared → Prop} {s : Shared} {a : Addr} {b : Array UInt8}
theorem IsBa.typeIs (h : IsBa s.heap a b) : s.TypeIs (.ref a) "bytearray" := ⟨_, h, rfl⟩
theorem payload_ba {Q : Array UInt8 → Shared → Prop} (h : IsBa s.heap a b) (hq : Q b s) : wpAny M A (payload (.ref a)) Q E s := by
  unfold payload payload?
  refine wpAny_bind (wpAny_bind (wpAny_load h ?_))
  exact wpAny_pure (wpAny_pure hq)
theorem checkResize_R {Q : Unit → Shared → Prop} (hg : A.guards = some []) (h : IsBa s.heap a b) (hq : Q () s) : wpR M A (checkResize (.ref a)) Q E s := by
  unfold checkResize
  refine wpR_bind (wpR_bind (exported_R hg ?_))
  show wpR M A (do return decide ((← exportsOf (.ref a)) > 0)) _ _ s
  refine wpR_bind (wpR_of ?_)
  unfold exportsOf
  refine wpAny_bind (wpAny_load h ?_)
  refine wpAny_pure ?_
  exact wpR_pure (wpR_pure hq)
theorem write_ba {f : Array UInt8 → Array UInt8} {Q : Unit → Shared → Prop} (h : IsBa s.heap a b) (hz : (f b).size ≤ 16777216)
    (hq : ∀ h', IsBa h' a (f b) → Heap.SameBut a s.heap h' → Q () { s with heap := h' }) : wpAny M A (write (.ref a) f) Q E s := by
  show wpAny M A (updateBytearray a f) Q E s
  unfold updateBytearray
  refine wpAny_bind (wpAny_load h ?_)
  refine wpAny_bind (wpAny_update h ?_)
  have h2 : (s.heap.update a (Obj.mapBytearray f)).get? a = some { cls := .type "bytearray", data := .bytearray (f b) 0 } := Heap.get?_update_self (Obj.mapBytearray f) h rfl
  refine wpAny_lookBehind h2 ?_ (hq _ h2 (Heap.SameBut.update ..))
  show (if (f b).size > sizeLine then some "bytearray:memory" else none) = none
  rw [if_neg]; rw [sizeLine_eq]; omega
theorem byteValue_int {n : Int} {t : Tok} {Q : UInt8 → Shared → Prop} (h0 : 0 ≤ n) (h1 : n < 256) (hq : Q n.toNat.toUInt8 s) : wpAny M A (byteValue (.int n t)) Q E s := by
  unfold byteValue
  refine wpAny_bind (wpAny_of_eq (a := n) rfl ?_)
  have : (decide (n < 0) || decide (n ≥ 256)) = false := by simp; omega
  rw [if_neg (by rw [this]; exact Bool.false_ne_true)]
  exact wpAny_pure hq
theorem call_append_ba {n : Int} {t : Tok} {Q : Value → Shared → Prop} (hg : A.guards = some []) (h : IsBa s.heap a b) (h0 : 0 ≤ n) (h1 : n < 256) (hz : b.size + 1 ≤ 16777216)
    (hq : ∀ h', IsBa h' a (b.push n.toNat.toUInt8) → Heap.SameBut a s.heap h' → Q .none { s with heap := h' }) : wpR (model prog w) A (call (.builtin "bytearray.append") [.ref a, .int n t]) Q E s := by
  refine callR_slot B.slot_append h.typeIs (by decide +kernel) B.entry_append (B.args_append _ _) ?_
  unfold Builtin.«bytearray.append»
  refine wpR_bind (m := selfAndOne "bytearray.append" _) (wpR_of_eq (a := (.ref a, .int n t)) rfl ?_)
  refine wpR_bind (wpR_of (byteValue_int h0 h1 ?_))
  refine wpR_bind (checkResize_R hg h ?_)
  refine wpR_bind (wpR_of (write_ba h (by rw [Array.size_push]; exact hz) fun h' hb hs => wpR_pure ⟨_, rfl, hq h' hb hs⟩))
theorem getMethod_ba_append {pl : Sem Bool} {Q : Value × List Value → Shared → Prop} (ho : IsBa s.heap a b)
    (h : Q (.builtin "bytearray.append", [.ref a]) s) : wpAny M A (getMethod (.ref a) "append" pl) Q E s := by
  have hT : s.TypeIs (.ref a) "bytearray" := ho.typeIs
  unfold getMethod
  refine wpAny_bind (wpAny_specialOf hT B.getattribute ?_)
  show wpAny M A (if (Manifest.canonical "bytearray.__getattribute__" != "object.__getattribute__") = true then _ else _) Q E s
  rw [B.canon_ga, if_neg Bool.false_ne_true]
  refine wpAny_bind (wpAny_specialOf hT B.getattr_none ?_)
  refine wpAny_bind (wpAny_specialOf hT B.slot_append.lookup ?_)
  refine wpAny_bind (wpAny_of_eq B.type_append ?_)
  refine wpAny_bind (wpAny_load ho ?_)
  exact wpAny_bind (wpAny_rule (wpAny_pure h))
end

section
variable {X : Cx} {ro : Led} {E : Er} {st : St} {nm : Str} {sc : Scope} {a : Addr} {cd : Value} {env : Env} {R : Heap} {s : Shared}
theorem append_ba' {o e apos pos} {pl : Sem Bool} {Q : V → St → Prop} (hg : X.A.guards = some [])
    (h : TV X ro E st (eval o env) fun ov st₁ => ∃ l ms, ov = .ref l ∧ Kn ro st₁ l (.ba ms) ∧ TV X ro E st₁ (eval e env) fun u st₂ => ∃ ns own' n, u = .int n ∧ (0 ≤ n ∧ n < 256) ∧ Put l (.ba ns) (.ba (ns ++ [n])) st₂.own own' ∧ ns.length < 16777216 ∧ Q .none { st₂ with own := own' })
    (he : starEach [e] env = (false, eval e env) :: starEach [] env := by rfl)
    (he' : eval (.Call (.Attribute o "append" apos) [e] [] pos) env = (do
      let ov ← eval o env
      standAt apos.atName
      let (f, first) ← holding [ov] (getMethod ov "append" pl)
      callWith pos f first (backTo pos (starEach [e] env)) []) := by rfl) :
    TV X ro E st (eval (.Call (.Attribute o "append" apos) [e] [] pos) env) Q := fun R s S =>
  MethodCallR (pl := pl) (h.run S fun vo s₁ ov st₁ ho S₁ ⟨l, ms, e1, hl, h₁⟩ => by
    subst e1
    cases ho
    obtain ⟨b, hB, hb⟩ := (S₁.at hl).isBa
    refine wpR_of (getMethod_ba_append hB ?_)
    rw [he]
    refine callWith_builtinR rfl ?_
    refine evalArgs_plainR (spliced_consR (h₁.run S₁ fun v s₂ u st₂ hu S₂ ⟨ns, own', n, e2, ⟨h0, h1⟩, U, hsz, hq⟩ => wpR_of (spliced_nil ?_)))
    subst e2
    obtain ⟨t, rfl⟩ := hu
    obtain ⟨b, hB, hb⟩ := (S₂.at_own U.has).isBa
    have hn : ns.length = b.size := by rw [← hb, bInts_length]
    refine call_append_ba hg hB h0 h1 (by omega) fun h' hb' hs => ?_
    refine ⟨.none, _, rfl, S₂.upd U ⟨_, hb', ⟨_, rfl, ?_⟩⟩ (fun c o hc e => hs.extBut c o hc e) (tk := s₂.toks), hq⟩
    rw [bInts_push b h0 h1, hb]) he'
end
end Mine
end
section
open PySem PySem.W PyProof.Rows PySem.Calls
open PySem.Sem (wp)
open PySem.Builtin.Bytes (decodersThatHold exported exportsOf checkResize payload payload? write byteValue slotIsOwn ownRelease buffer? takeBuffer? takeBufferQuiet? thenGiveBack tooLong)
set_option Elab.async false
set_option maxRecDepth 100000
set_option linter.unusedVariables false
set_option linter.deprecated false
namespace Mine
namespace B
theorem sub_ba : isSubtype (.type "bytearray") (.type "bytearray") = pure true := by rw [isSubtype_type]; kernel_rfl
theorem sub_b : isSubtype (.type "bytes") (.type "bytes") = pure true := by rw [isSubtype_type]; kernel_rfl
end B
section
variable {prog : Program} {w : World} {M : Model} {A : Around} {E : Value → Shared → Prop} {s : Shared} {a : Addr} {b : Array UInt8} {t : Tok}
theorem slotIsOwn_of {v : Value} {T id name : String} {Q : Bool → Shared → Prop} (hT : s.TypeIs v T) (hl : typeLookup (.type T) (name : Str) = pure (some (.builtin id)))
    (he : id.endsWith ("." ++ name) = true) (hd : id.dropRight (name.length + 1) = T) (hs : isSubtype (.type T) (.type T) = pure true) (hq : Q true s) : wpAny M A (slotIsOwn v name) Q E s := by
  unfold slotIsOwn
  refine wpAny_bind (wpAny_specialOf hT hl ?_)
  show wpAny M A (if (!id.endsWith ("." ++ name)) = true then _ else _) Q E s
  rw [he, if_neg (by simp), hd]
  exact wpAny_isInstance hT hs hq
theorem own_buf_ba {Q : Bool → Shared → Prop} (h : IsBa s.heap a b) (hq : Q true s) : wpAny M A (slotIsOwn (.ref a) "__buffer__") Q E s :=
  slotIsOwn_of h.typeIs B.buf_ba (by decide +kernel) (by decide +kernel) B.sub_ba hq
theorem own_buf_b {Q : Bool → Shared → Prop} (hq : Q true s) : wpAny M A (slotIsOwn (.bytes b t) "__buffer__") Q E s :=
  slotIsOwn_of (typeIs_bytes s b t) B.buf_b (by decide +kernel) (by decide +kernel) B.sub_b hq
theorem ownRelease_ba {Q : Bool → Shared → Prop} (h : IsBa s.heap a b) (hq : Q false s) : wpAny M A (ownRelease (.ref a)) Q E s := by
  unfold ownRelease
  exact wpAny_bind (slotIsOwn_of h.typeIs B.rel_ba (by decide +kernel) (by decide +kernel) B.sub_ba (wpAny_pure hq))
theorem ownRelease_b {Q : Bool → Shared → Prop} (hq : Q false s) : wpAny M A (ownRelease (.bytes b t)) Q E s := by
  unfold ownRelease slotIsOwn
  exact wpAny_bind (wpAny_bind (wpAny_specialOf (typeIs_bytes s b t) B.rel_b (wpAny_pure (wpAny_pure hq))))
theorem buffer_ba {id : String} {full : Bool} {Q : Option (Array UInt8) → Shared → Prop} (h : IsBa s.heap a b) (hq : Q (some b) s) : wpAny M A (buffer? id (.ref a) full) Q E s := by
  unfold buffer?
  refine wpAny_bind (wpAny_specialOf h.typeIs B.buf_ba ?_)
  refine wpAny_bind (own_buf_ba h ?_)
  refine wpAny_bind (wpAny_specialOf h.typeIs B.buf_ba ?_)
  refine wpAny_bind (ownRelease_ba h ?_)
  refine wpAny_bind (payload_ba h ?_)
  exact wpAny_pure hq
theorem buffer_b {id : String} {full : Bool} {Q : Option (Array UInt8) → Shared → Prop} (hq : Q (some b) s) : wpAny M A (buffer? id (.bytes b t) full) Q E s := by
  unfold buffer?
  refine wpAny_bind (wpAny_specialOf (typeIs_bytes s b t) B.buf_b ?_)
  refine wpAny_bind (own_buf_b ?_)
  refine wpAny_bind (wpAny_specialOf (typeIs_bytes s b t) B.buf_b ?_)
  refine wpAny_bind (ownRelease_b ?_)
  refine wpAny_bind (wpAny_of_eq (a := b) rfl ?_)
  exact wpAny_pure hq
/-- what hands its octets over: bytes, or a bytearray -/
inductive Octets (h : Heap) : Value → Array UInt8 → String → Prop
  | bytes (b : Array UInt8) (t : Tok) : Octets h (.bytes b t) b "bytes"
  | ba {a : Addr} {b : Array UInt8} : IsBa h a b → Octets h (.ref a) b "bytearray"
theorem take_oct {id : String} {v : Value} {T : String} {Q : Option (Array UInt8 × Option Value) → Shared → Prop} (h : Octets s.heap v b T) (hq : Q (some (b, none)) s) : wpAny M A (takeBufferQuiet? id v 0) Q E s := by
  unfold takeBufferQuiet? takeBuffer?
  refine wpAny_bind (wpAny_attempt ?_)
  cases h with
  | bytes b t =>
    refine wpAny_bind (wpAny_specialOf (typeIs_bytes s _ _) B.buf_b ?_)
    refine wpAny_bind (own_buf_b ?_)
    refine wpAny_bind (wpAny_specialOf (typeIs_bytes s _ _) B.buf_b ?_)
    refine wpAny_bind (buffer_b ?_)
    exact wpAny_pure (wpAny_pure hq)
  | ba h =>
    refine wpAny_bind (wpAny_specialOf h.typeIs B.buf_ba ?_)
    refine wpAny_bind (own_buf_ba h ?_)
    refine wpAny_bind (wpAny_specialOf h.typeIs B.buf_ba ?_)
    refine wpAny_bind (buffer_ba h ?_)
    exact wpAny_pure (wpAny_pure hq)
theorem call_iadd_ba {v : Value} {c : Array UInt8} {T : String} {Q : Value → Shared → Prop} (hg : A.guards = some []) (h : IsBa s.heap a b) (hv : Octets s.heap v c T) (hne : v ≠ .ref a) (hz : b.size + c.size ≤ 16777216)
    (hq : ∀ h', IsBa h' a (b ++ c) → Heap.SameBut a s.heap h' → Q (.ref a) { s with heap := h' }) : wpR (model prog w) A (call (.builtin "bytearray.__iadd__") [.ref a, v]) Q E s := by
  refine callR_slot B.slot_iadd h.typeIs (by decide +kernel) B.entry_iadd (B.args_iadd _ _) ?_
  unfold Builtin.«bytearray.__iadd__»
  refine wpR_bind (m := slotArgs "__iadd__" 1 _) (wpR_of_eq (a := (.ref a, [v])) rfl ?_)
  refine wpR_bind (wpR_of (take_oct hv ?_))
  have fin : wpR (model prog w) A.in1 (do
      if tooLong ((← payload (.ref a)).size + c.size) then unsupported "bytearray.__iadd__:memory"
      write (.ref a) (· ++ c)
      ret (.ref a)) (fun fin s' => ∃ v, fin = .done (.ret v) ∧ Q v s') E s := by
    refine wpR_bind (wpR_of (payload_ba h ?_))
    have : tooLong (b.size + c.size) = false := by simp only [tooLong, sizeLine]; simp; omega
    rw [if_neg (by rw [this]; exact Bool.false_ne_true)]
    refine wpR_bind (wpR_of (write_ba (f := (· ++ c)) h (by rw [Array.size_append]; exact hz) fun h' hb hs => wpR_pure ⟨_, rfl, hq h' hb hs⟩))
  show wpR (model prog w) A.in1 (if (!c.isEmpty) = true then (if Builtin.Bytes.sameRef (.ref a) v = true then _ else _) else _) _ _ s
  split
  · have hs : Builtin.Bytes.sameRef (.ref a) v = false := by
      cases hv with
      | bytes => rfl
      | ba => 
        simp only [Builtin.Bytes.sameRef]
        rw [beq_eq_false_iff_ne]
        rintro rfl; exact hne rfl
    rw [if_neg (by rw [hs]; exact Bool.false_ne_true)]
    exact wpR_bind (checkResize_R hg h fin)
  · exact fin
end
end Mine
end
section
open PySem PySem.W PyProof.Rows PySem.Calls
open PySem.Sem (wp)
open PySem.Builtin.Bytes (decodersThatHold exported exportsOf checkResize payload payload? write byteValue slotIsOwn ownRelease buffer? takeBuffer? takeBufferQuiet? thenGiveBack tooLong containsIn)
set_option Elab.async false
set_option maxRecDepth 100000
set_option linter.unusedVariables false
set_option linter.deprecated false
namespace Mine
namespace B
theorem slot_b_in : Slot "bytes" "__contains__" "bytes.__contains__" :=
  .of (owner := "bytes") (n := "__contains__") (by rw [typeLookup_type, builtinLookup_eq_fast]; kernel_rfl) (by decide +kernel) (by decide +kernel) (by decide +kernel)
    (by first | exact .inl (by decide +kernel) | exact .inr (by decide +kernel)) (by rw [isSubtype_type]; kernel_rfl)
theorem entry_b_in : entryFor table "bytes.__contains__" = some Builtin.«bytes.__contains__» := by first | exact entryFor_of_fast (by kernel_rfl) | exact entryFor_of_tree (by kernel_rfl)
theorem args_b_in (a b : Value) : argsOk "bytes.__contains__" ⟨[a, b], []⟩ := by unfold argsOk; kernel_rfl
theorem ty_str : typeOf (.type "str") = pure (.type "type") := by kernel_rfl
theorem ty_bytes : typeOf (.type "bytes") = pure (.type "type") := by kernel_rfl
theorem sub_b_str : isSubtype (.type "bytes") (.type "str") = pure false := by rw [isSubtype_type]; kernel_rfl
end B
section
variable {prog : Program} {w : World} {M : Model} {A : Around} {E : Value → Shared → Prop} {s : Shared}
/-- as inplaceOp_seq, for the stacks without a decoder -/
theorem inplaceOp_seqR {a b : Value} {T U id : String} {Q : Value → Shared → Prop} (ha : s.TypeIs a T) (hb : s.TypeIs b U)
    (hI : typeLookup (.type T) (dunderI "add") = pure (some (.builtin id))) (hS : isSeqSlot (some (.builtin id)) = true)
    (hfa : fillsNumberSlot (.type T) "add" = pure false) (hfb : fillsNumberSlot (.type U) "add" = pure false)
    (hc : wpR (model prog w) A (call (.builtin id) [a, b]) Q E s) : wpR (model prog w) A (inplaceOp .Add a b) Q E s := by
  unfold inplaceOp
  refine wpR_holding ?_
  have hfi : fillsInplaceSlot (.type T) "add" (Operator.Add == .Add) = pure false := by
    unfold fillsInplaceSlot
    show (typeLookup (.type T) (dunderI "add") >>= fun fi => pure (fi.isSome && !isSeqSlot fi)) = pure false
    rw [hI, pure_bind, hS]; rfl
  have hsi : seqSlot? (.type T) (dunderI "add") = pure (some (.builtin id)) := by
    simp only [seqSlot?, hI, pure_bind, hS]; rfl
  refine wpR_bind (wpR_of (wpAny_typeOf ha (wpR_bind (wpR_of_eq hfi ?_))))
  show wpR _ A (if false = true then _ else _) Q E s
  rw [if_neg Bool.false_ne_true]
  refine wpR_bind (wpR_of (binaryOp1_none2 (nm := "add") ha hb hfa hfb ?_))
  refine wpR_bind (wpR_of_eq hsi ?_)
  exact wpR_bind (wpR_of (wpAny_rule hc))
theorem contains_bytes {b : Array UInt8} {t u : Tok} {n : Int} {Q : Value → Shared → Prop} (h0 : 0 ≤ n) (h1 : n < 256) (hq : Q (.bool (b.contains n.toNat.toUInt8)) s) :
    wpAny (model prog w) A (compareOp .In (.int n u) (.bytes b t)) Q E s := by
  show wpAny _ _ (do return .bool (← contains (.bytes b t) (.int n u))) Q E s
  refine wpAny_bind (PyProof.Rows.contains_slot (typeIs_bytes s b t) B.slot_b_in (wpAny_call_entry B.slot_b_in (typeIs_bytes s b t) B.entry_b_in ?_ (B.args_b_in _ _)))
  unfold Builtin.«bytes.__contains__»
  refine wpAny_bind (m := slotArgs "__contains__" 1 _) (wpAny_of_eq (a := (.bytes b t, [.int n u])) rfl ?_)
  unfold containsIn
  refine wpAny_bind (wpAny_bind (wpAny_attempt (wpAny_of_eq (a := n) rfl ?_)))
  refine wpAny_bind (buffer_b ?_)
  have : (decide (n < 0) || decide (n ≥ 256)) = false := by simp; omega
  show wpAny _ _ (if (decide (n < 0) || decide (n ≥ 256)) = true then _ else _) _ _ s
  rw [if_neg (by rw [this]; exact Bool.false_ne_true)]
  refine wpAny_pure (wpAny_pure ⟨_, rfl, wpAny_truthy_bool (wpAny_pure hq)⟩)
theorem isi_bytes_str {b : Array UInt8} {t : Tok} {Q : Value → Shared → Prop} (hq : Q (.bool false) { s with toks := s.toks + 1 }) : wpAny (model prog w) A (call (.builtin "isinstance") [.bytes b t, .type "str"]) Q E s := by
  refine call_isinstance (S := fun _ R s => R (.ok (.ret (.bool false))) { s with toks := s.toks + 1 }) (fun _ _ _ _ s hs => ?_) hq
  obtain ⟨h, g, d, tk, os⟩ := s
  exact isinstance_outer (isinstance_nested_false_bytes (by decide) B.ty_str B.sub_b_str hs)
theorem isi_bytes_bytes {b : Array UInt8} {t : Tok} {Q : Value → Shared → Prop} (hq : Q (.bool true) s) : wpAny (model prog w) A (call (.builtin "isinstance") [.bytes b t, .type "bytes"]) Q E s :=
  call_isinstance (isinstance_true B.ty_bytes B.sub_b) ⟨typeIs_bytes s b t, hq⟩
end

theorem bInts_inj {b c : Array UInt8} : bInts b = bInts c ↔ b.toList = c.toList := by
  constructor
  · intro h
    have hinj : ∀ x y : UInt8, (x.toNat : Int) = (y.toNat : Int) → x = y := fun x y e => UInt8.toNat_inj.mp (by omega)
    have : ∀ l l' : List UInt8, (l.map fun x => (x.toNat : Int)) = (l'.map fun x => (x.toNat : Int)) → l = l' := by
      intro l
      induction l with
      | nil => intro l' h; cases l' with
        | nil => rfl
        | cons _ _ => simp at h
      | cons x l ih => intro l' h; cases l' with
        | nil => simp at h
        | cons y l' => simp only [List.map_cons, List.cons.injEq] at h; rw [hinj _ _ h.1, ih _ h.2]
    exact this _ _ h
  · intro h; unfold bInts; rw [h]
theorem bInts_contains {b : Array UInt8} {n : Int} (h0 : 0 ≤ n) (h1 : n < 256) : b.contains n.toNat.toUInt8 = decide (n ∈ bInts b) := by
  have key : ((n.toNat.toUInt8.toNat : Nat) : Int) = n := by
    rw [show n.toNat.toUInt8.toNat = n.toNat % 256 from rfl, Nat.mod_eq_of_lt (by omega)]; omega
  rw [Bool.eq_iff_iff]
  simp only [Array.contains_iff, decide_eq_true_eq, bInts, List.mem_map, Array.mem_toList_iff]
  constructor
  · intro h; exact ⟨_, h, key⟩
  · rintro ⟨x, hx, e⟩
    have : x = n.toNat.toUInt8 := UInt8.toNat_inj.mp (by omega)
    rw [← this]; exact hx

section
variable {X : Cx} {ro : Led} {E : Er} {st : St} {nm : Str} {sc : Scope} {a : Addr} {cd : Value} {env : Env} {R : Heap} {s : Shared}
theorem iadd_ba_b {l : Addr} {ns ms : List Int} {own' : Led} {Q : V → St → Prop} (hg : X.A.guards = some []) (U : Put l (.ba ns) (.ba (ns ++ ms)) st.own own') (hsz : ns.length + ms.length ≤ 16777216)
    (hq : Q (.ref l) { st with own := own' }) : Op2 X ro E (inplaceOp .Add) (.ref l) (.bytes ms) st Q := by
  rintro v w rfl ⟨c, t, rfl, hc⟩ R s S
  obtain ⟨b, hB, hb⟩ := (S.at_own U.has).isBa
  have hn : ns.length = b.size := by rw [← hb, bInts_length]
  have hm : ms.length = c.size := by rw [← hc, bInts_length]
  refine inplaceOp_seqR (T := "bytearray") (U := "bytes") hB.typeIs (typeIs_bytes _ _ _) B.slot_iadd.lookup (by decide +kernel) B.noFill_ba B.noFill_b ?_
  refine call_iadd_ba hg hB (.bytes c t) (by intro e; cases e) (by omega) fun h' hb' hs => ?_
  refine ⟨.ref l, _, rfl, S.upd U ⟨_, hb', ⟨_, rfl, ?_⟩⟩ (fun c o hc e => hs.extBut c o hc e) (tk := s.toks), hq⟩
  rw [bInts_append, hb, hc]
/-- += with a new bytearray, that is let go -/
theorem iadd_ba_ba {l m : Addr} {ns ms : List Int} {loc : List (Str × V)} {own own' : Led} {Q : V → St → Prop} (hg : X.A.guards = some []) (U : Put l (.ba ns) (.ba (ns ++ ms)) own own') (hsz : ns.length + ms.length ≤ 16777216)
    (hq : Q (.ref l) ⟨loc, own'⟩) : Op2 X ro E (inplaceOp .Add) (.ref l) (.ref m) ⟨loc, (m, .ba ms) :: own⟩ Q := by
  rintro v w rfl rfl R s S
  have hne : l ≠ m := by
    rintro rfl
    have := S.nd
    simp only [List.map_cons, List.nodup_cons] at this
    exact this.1 (List.mem_map.mpr ⟨_, U.has.mem, rfl⟩)
  obtain ⟨b, hB, hb⟩ := (S.at_own (U.has.tail (p := (m, .ba ms)))).isBa
  obtain ⟨c, hC, hc⟩ := (S.at_own Has.head).isBa
  have hn : ns.length = b.size := by rw [← hb, bInts_length]
  have hm : ms.length = c.size := by rw [← hc, bInts_length]
  refine inplaceOp_seqR (T := "bytearray") (U := "bytearray") hB.typeIs hC.typeIs B.slot_iadd.lookup (by decide +kernel) B.noFill_ba B.noFill_ba ?_
  refine call_iadd_ba hg hB (.ba hC) (by intro e; cases e; exact hne rfl) (by omega) fun h' hb' hs => ?_
  have S' := S.sub (own' := own) (List.sublist_cons_self _ _)
  refine ⟨.ref l, _, rfl, S'.upd U ⟨_, hb', ⟨_, rfl, ?_⟩⟩ (fun c o hc e => hs.extBut c o hc e) (tk := s.toks), hq⟩
  rw [bInts_append, hb, hc]
theorem len_bytes' {ns : List Int} {Q : V → St → Prop} (hsz : ns.length ≤ 16777216) (hq : Q (.int ns.length) st) : OpN X ro E (fun vs => call (.builtin "len") vs) [.bytes ns] st Q := by
  rintro vs (_ | ⟨⟨b, t, rfl, hb⟩, (_ | _)⟩) R s S
  exact wpR_of (KBw.len_K hb (by omega) ⟨.int ns.length, st, ⟨_, rfl⟩, S.toks, hq⟩)
theorem sub_bytes {ns : List Int} {k : Int} {n : Int} {Q : V → St → Prop} (hsz : ns.length ≤ 16777216) (h0 : 0 ≤ k) (hx : ns[k.toNat]? = some n) (hq : Q (.int n) st) : Sub X ro E (.bytes ns) (.int k) st Q := by
  rintro vo vi ⟨b, t, rfl, hb⟩ ⟨u, rfl⟩ R s S
  refine ⟨⟨_, _, typeIs_bytes _ _ _, FB.slot_bytes_getitem.lookup⟩, ?_⟩
  have hlt : k.toNat < ns.length := (List.getElem?_eq_some_iff.mp hx).1
  have hbl : ns.length = b.size := by rw [← hb, bInts_length]
  have e : b.toList.toArray = b := Array.toArray_toList
  rw [← e]
  refine wpR_of (getItem_bytes (l := b.toList) (by simp; omega) h0 (by simp; omega) ⟨.int n, st, ⟨s.toks, ?_⟩, S.toks, hq⟩)
  rw [KBw.getD_ints]
  have : (b.toList.map fun c => (c.toNat : Int)) = ns := hb
  rw [this, List.getD_eq_getElem?_getD, hx]; rfl
theorem clip_eq (n : Nat) (v : Option Int) (d : Nat) : v.elim d (clipAt n) = clipNat v d n := by
  cases v with
  | none => rfl
  | some i => simp only [Option.elim, clipAt, clipNat]
theorem subs_bytes {ns : List Int} {lo hi : Option Int} {Q : V → St → Prop} (hsz : ns.length ≤ 16777216) (hq : Q (.bytes (pslice lo hi ns)) st) : SubS X ro E (.bytes ns) lo hi st Q := by
  rintro vo vl vu sl ⟨b, t, rfl, hb⟩ pl pu R s S hs
  refine ⟨⟨_, _, typeIs_bytes _ _ _, FB.slot_bytes_getitem.lookup⟩, wpR_of (getItem_meets (typeIs_bytes _ _ _) (by decide) FB.slot_bytes_getitem FB.entry_bytes_getitem (FB.args_bytes_getitem_2 _ _) (KBc.meets_slice2 b t _ pl pu) ⟨hs, ?_, fun t' k => ?_⟩)⟩
  · refine Nat.le_trans (KBc.size_picked_le b lo hi) ?_
    rw [← bInts_length, hb, sizeLine_eq]; exact hsz
  · refine ⟨.bytes (pslice lo hi ns), st, ⟨_, _, rfl, ?_⟩, S.toks, hq⟩
    have := KBc.ints_picked (b := b) (ks := ns) hb lo hi
    show KBw.bInts _ = _
    rw [this, clip_eq, clip_eq]; rfl
theorem eq_bytes' {ns ms : List Int} {Q : V → St → Prop} (hq : Q (.bool (decide (ns = ms))) st) : Op2 X ro E (compareOp .Eq) (.bytes ns) (.bytes ms) st Q := by
  rintro v w ⟨b, t, rfl, hb⟩ ⟨c, u, rfl, hc⟩ R s S
  refine wpR_of (PySem.W.eq_bytes ⟨.bool (decide (ns = ms)), st, ?_, S, hq⟩)
  show Value.bool _ = Value.bool _
  congr 1
  rw [Bool.eq_iff_iff, beq_iff_eq, decide_eq_true_eq, ← hb, ← hc, bInts_inj]
theorem ne_bytes' {ns ms : List Int} {Q : V → St → Prop} (hq : Q (.bool (decide (ns ≠ ms))) st) : Op2 X ro E (compareOp .NotEq) (.bytes ns) (.bytes ms) st Q := by
  rintro v w ⟨b, t, rfl, hb⟩ ⟨c, u, rfl, hc⟩ R s S
  refine wpR_of (PySem.W.ne_bytes ⟨.bool (decide (ns ≠ ms)), st, ?_, S, hq⟩)
  show Value.bool _ = Value.bool _
  congr 1
  rw [Bool.eq_iff_iff, bne_iff_ne, decide_eq_true_eq, ← hb, ← hc]
  exact not_congr bInts_inj.symm
theorem in_bytes' {n : Int} {ns : List Int} {Q : V → St → Prop} (h : 0 ≤ n ∧ n < 256) (hq : Q (.bool (decide (n ∈ ns))) st) : Op2 X ro E (compareOp .In) (.int n) (.bytes ns) st Q := by
  rintro v w ⟨t, rfl⟩ ⟨b, u, rfl, hb⟩ R s S
  refine wpR_of (contains_bytes h.1 h.2 ⟨.bool (decide (n ∈ ns)), st, ?_, S, hq⟩)
  rw [bInts_contains h.1 h.2, hb]; rfl
theorem isi_b_str {ns : List Int} {Q : V → St → Prop} (hq : Q (.bool false) st) : OpN X ro E (fun vs => call (.builtin "isinstance") vs) [.bytes ns, .raw (.type "str")] st Q := by
  rintro vs (_ | ⟨⟨b, t, rfl, hb⟩, (_ | ⟨rfl, (_ | _)⟩)⟩) R s S
  exact wpR_of (isi_bytes_str ⟨.bool false, st, rfl, S.toks, hq⟩)
theorem isi_b_b {ns : List Int} {Q : V → St → Prop} (hq : Q (.bool true) st) : OpN X ro E (fun vs => call (.builtin "isinstance") vs) [.bytes ns, .raw (.type "bytes")] st Q := by
  rintro vs (_ | ⟨⟨b, t, rfl, hb⟩, (_ | ⟨rfl, (_ | _)⟩)⟩) R s S
  exact wpR_of (isi_bytes_bytes ⟨.bool true, st, rfl, S, hq⟩)
theorem bytes_list' {l : Addr} {ns : List Int} {Q : V → St → Prop} (hh : X.A.handled = none) (hl : Kn ro st l (.ints ns)) (hr : ∀ n ∈ ns, 0 ≤ n ∧ n < 256) (hsz : ns.length ≤ 16777216) (hq : Q (.bytes ns) st) :
    OpN X ro E (fun vs => call (.type "bytes") vs) [.ref l] st Q := by
  rintro vs (_ | ⟨rfl, (_ | _)⟩) R s S
  obtain ⟨ws, hL, hw⟩ := (S.at hl).isList
  have e : ws.toList.toArray = ws := Array.toArray_toList
  rw [← e] at hL
  have hi := hw.ints
  refine wpR_of (call_bytes_ints hL hi hr (by rw [hi.length, sizeLine_eq]; exact hsz) hh fun h' t k hk => ⟨.bytes ns, st, ⟨_, _, rfl, ?_⟩, S.keeps hk, hq⟩)
  exact KBa.ints_make hr
/-- over bytes -/
theorem for_bytes {target : Expr} {body : List Stmt} {ns : List Int} (J : Nat → St → Prop) {Q : Fl → St → Prop} (hE : ErOk X env E) (hh : X.A.handled = none) (hj : J 0 st)
    (turn : ∀ i st' n, ns[i]? = some n → J i st' → Tgt X ro E env target (.int n) st' fun st₂ => TF X ro E st₂ (execs body env) (LoopQ Q (J (i + 1))))
    (done : ∀ st', J ns.length st' → Q .next st')
    (ht : ∀ it v, letOwnedTupleGo target it v = pure () := by intro _ _; rfl) :
    ForOver X ro E env target body Q (.bytes ns) st := by
  rintro v ⟨b, t, rfl, hb⟩ R s S
  refine wpR_of (KBw.pyIter_bytes ?_)
  have S₁ : Sat X ro st R { s with heap := s.heap.push { cls := .type "bytes_iterator", data := .fields #[.bytes b t, .int 0 0] } } := S.keeps (tk := s.toks) fun b o e => Heap.get?_push_of_some _ e
  have hlt : ∀ {b c}, At s.heap b c → b ≠ s.heap.objs.size := fun h => Nat.ne_of_lt h.lt
  have hbl : ns.length = b.size := by rw [← hb, bInts_length]
  refine for_core (fp := [s.heap.objs.size]) (fun i h => KBw.IsBytesIter h s.heap.objs.size b t i) ns.length (fun i => .int (ns.getD i 0)) J hE S₁ ⟨_, Heap.get?_push_size _ rfl, rfl, rfl⟩ hj ?_ ?_ (S.outs_off (Nat.le_refl _)) ?_ ?_ ?_ ?_ ?_ ?_ done (ht _)
  · intro b hb; rw [List.mem_singleton.mp hb]
    cases e : R.get? s.heap.objs.size with
    | none => rfl
    | some o => exact absurd (Heap.lt_size (S.fr _ _ e)) (Nat.lt_irrefl _)
  · intro hm; exact absurd S.lt (by rw [List.mem_singleton.mp hm]; exact Nat.lt_irrefl _)
  · intro p hp hm; exact hlt (S.own p hp).2.2 (List.mem_singleton.mp hm)
  · rintro i h ⟨o, ho, _⟩ b hb; rw [List.mem_singleton.mp hb]; exact ⟨o, ho⟩
  · rintro i h h' ⟨o, ho, r⟩ hk; exact ⟨o, hk _ (List.mem_singleton.mpr rfl) o ho, r⟩
  · intro i st' R' s' P E' hi S' hJ hZ hO hP
    have hx : b[i]? = some b[i] := Array.getElem?_eq_getElem (by omega)
    refine KBw.next_item hZ hx fun h' hit hs => hP _ h' _ ?_ hit fun b o hb e => hs.extBut b o (fun h => hb (List.mem_singleton.mpr h)) e
    have := KBw.ints_get hx
    have hb' : KBw.bInts b = ns := hb
    rw [hb'] at this
    refine ⟨s'.toks, ?_⟩
    rw [List.getD_eq_getElem?_getD, this]; rfl
  · intro st' R' s' P E' S' hJ hZ hO hP
    exact KBw.next_end hh hZ (by rw [hbl]; simp) fun h' he => hP h' s'.toks fun b o hb e => he b o (fun h => hb (List.mem_singleton.mpr h)) e
  · intro i st' hi hJ
    have hx : ns[i]? = some ns[i] := List.getElem?_eq_getElem hi
    have := turn i st' ns[i] hx hJ
    show Tgt X ro E env target (.int (ns.getD i 0)) st' _
    rw [List.getD_eq_getElem?_getD, hx]; exact this
end
end Mine
end
section
open PySem PySem.W PyProof.Rows PySem.Calls
open PySem.Sem (wp)
open PySem.Builtin.Bytes (decodersThatHold exported exportsOf checkResize payload payload? write byteValue slotIsOwn ownRelease buffer? takeBuffer? takeBufferQuiet? thenGiveBack tooLong containsIn)
set_option Elab.async false
set_option maxRecDepth 100000
set_option linter.unusedVariables false
set_option linter.deprecated false
namespace Mine
namespace B
theorem mro_ba : mroOf (.type "bytearray") = pure [.type "bytearray", .type "object"] := by rw [mroOf_type]; kernel_rfl
theorem lookup_new : typeLookup (.type "bytearray") "__new__" = pure (some (.builtin "bytearray.__new__")) := by rw [typeLookup_type, builtinLookup_eq_fast]; kernel_rfl
theorem called_ba : TypeCalled "bytearray" "bytearray.__new__" "bytearray.__init__" :=
  ⟨by decide +kernel, by decide +kernel, ⟨_, _, mro_ba⟩, madeBy_type mro_ba lookup_new (by decide +kernel), by decide +kernel, by rw [isSubtype_type]; kernel_rfl, slot_init⟩
theorem typeCall0 : checkTypeCall "bytearray" ⟨[], []⟩ = pure () := by kernel_rfl
theorem typeCall1 (a : Value) : checkTypeCall "bytearray" ⟨[a], []⟩ = pure () := by kernel_rfl
theorem newCall0 : checkBuiltinCall "bytearray.__new__" ⟨[.type "bytearray"], []⟩ = pure () := by kernel_rfl
theorem newCall1 (a : Value) : checkBuiltinCall "bytearray.__new__" ⟨[.type "bytearray", a], []⟩ = pure () := by kernel_rfl
theorem entry_new : entryFor table "bytearray.__new__" = some Builtin.«list.__new__» := by
  exact entryFor_alias (id' := "list.__new__") (by kernel_rfl) rfl (by decide +kernel) (by kernel_rfl)
theorem plain_new : plainId "bytearray.__new__" = true := by decide +kernel
set_option maxRecDepth 1000000 in
set_option maxHeartbeats 4000000 in
theorem owner_new : ("bytearray.__new__".splitOn ".__new__").headD "" = "bytearray" := by simp +decide [String.splitOn, String.splitOnAux]
end B
section
variable {prog : Program} {w : World} {A : Around} {E : Value → Shared → Prop} {s : Shared}
theorem code_ba_new (args : List Value) (hc : checkBuiltinCall "bytearray.__new__" ⟨.type "bytearray" :: args, []⟩ = pure ()) {Q₁ : Value → Shared → Prop}
    (h : Q₁ (.ref s.heap.objs.size) { s with heap := s.heap.push { cls := .type "bytearray", data := .bytearray #[] 0 } }) :
    codeAny (model prog w) A (.call (.builtin "bytearray.__new__") ⟨.type "bytearray" :: args, []⟩) (wants Q₁ E) s := by
  refine codeAny_of_tree ?_
  show wpAny _ A.in1 (do checkBuiltinCall "bytearray.__new__" ⟨.type "bytearray" :: args, []⟩; again (.builtin "bytearray.__new__" ⟨.type "bytearray" :: args, []⟩)) _ _ s
  refine wpAny_bind (wpAny_of_eq hc (wpAny_pure ⟨plainId_quiet B.plain_new _, codeAny_builtin_stack B.entry_new rfl fun p st => ?_⟩))
  rw [Around.under_plainId B.plain_new _]
  have hsub := B.sub_ba
  have hown := B.owner_new
  obtain ⟨hp, g, d, tk, os⟩ := s
  simp only [hown]
  wp_walk
  exact h
theorem codeR_builtin {R : Result → Shared → Prop} {id : String} {args : Args} {b : Builtin} (hd : decodersThatHold.contains id = false) (hb : entryFor table id = some b)
    (h : wpR (model prog w) (A.under (.builtin id args)) (b args)
      (fun fin s' => match fin with | .done f => R (.ok f) s' | .again c' => c'.quiet = true ∧ codeR (model prog w) A c' R s') (fun e s' => R (.error e) s') s) :
    codeR (model prog w) A (.builtin id args) R s := by
  refine codeR_of_tree hd ?_
  show wpR _ _ (match entryFor table id with | some b => b args | none => unsupported ((withoutEnding? id "#data").getD id)) _ _ s
  rw [hb]; exact h
/-- a type's call whose __init__ asks the stack -/
theorem callType_R {T newId initId : String} {Bi : Builtin} {args : List Value} {Q Q₁ : Value → Shared → Prop} (ft : TypeCalled T newId initId)
    (hct : checkTypeCall T ⟨args, []⟩ = pure ()) (hdec : decodersThatHold.contains initId = false) (entryI : entryFor table initId = some Bi)
    (hnew : codeAny (model prog w) A.in1 (.call (.builtin newId) ⟨.type T :: args, []⟩) (wants Q₁ E) s)
    (hnext : ∀ obj s₁, Q₁ obj s₁ → s₁.TypeIs obj T ∧ argsOk initId ⟨obj :: args, []⟩ ∧
      wpR (model prog w) A.in1.in1 (Bi ⟨obj :: args, []⟩) (fun fin s' => match fin with | .done f => wants (fun r s₂ => r = .none ∧ Q obj s₂) E (.ok f) s' | .again c' => c'.quiet = true ∧ codeR (model prog w) A.in1 c' (wants (fun r s₂ => r = .none ∧ Q obj s₂) E) s')
        (fun e s' => wants (fun r s₂ => r = .none ∧ Q obj s₂) E (.error e) s') s₁) :
    wpR (model prog w) A (call (.type T) args) Q E s := by
  obtain ⟨c, tl, hmro⟩ := ft.mro
  refine wpR_call (codeR_of_tree rfl ?_)
  show wpR _ _ (callAny (.type T) _) _ _ _
  refine wpR_pure ⟨Code.quiet_builtin _ (by decide +kernel), codeR_builtin (by decide +kernel) F.entry_type_call ?_⟩
  rw [Around.under_plain (weight_type_call_type T args []) (units_type_call_type T args [])]
  unfold Builtin.«type.__call__»
  dsimp only
  rw [if_neg (by rw [ft.notType]; exact Bool.false_ne_true)]
  have hcc := ft.canCreate
  rw [if_neg (by rw [hcc]; exact Bool.false_ne_true)]
  refine wpR_bind (wpR_of_eq hct ?_)
  refine wpR_bind (wpR_of_eq hmro ?_)
  rw [if_neg (by simp)]
  refine wpR_bind (wpR_of_eq ft.made ?_)
  refine wpR_bind (wpR_pure ?_)
  refine wpR_bind (wpR_holding (wpR_call (codeR_of (codeAny_mono hnew fun r s₁ hr => ?_))))
  cases r with
  | error e => exact hr
  | ok fl =>
    cases fl with
    | ret obj =>
      obtain ⟨hT, hok, hi⟩ := hnext _ _ hr
      refine wpR_bind (wpR_of (wpAny_isInstance hT ft.sub ?_))
      rw [if_neg (by simp)]
      refine wpR_bind (wpR_holding ?_)
      unfold callSpecial?
      refine wpR_bind (wpR_of (wpAny_specialOf hT ft.init.lookup ?_))
      refine wpR_holding (wpR_bind (wpR_of_eq (ft.init.bind obj) (wpR_bind ?_)))
      refine wpR_call (codeR_mono (codeR_call_builtin hdec ft.init.plain entryI (ft.init.check _ _ _ _ _ _ _ _ hT hok hi)) fun r₂ s₂ hr₂ => ?_)
      cases r₂ with
      | error e => exact hr₂
      | ok fl₂ =>
        cases fl₂ with
        | ret r =>
          obtain ⟨rfl, hq⟩ := hr₂
          refine wpR_pure ?_
          show wpR _ _ (if (Value.none != Value.none) = true then _ else _) _ _ s₂
          rw [if_neg (by decide)]
          exact wpR_pure hq
        | _ => exact hr₂.elim
    | _ => exact hr.elim
theorem call_ba_empty {Q : Value → Shared → Prop} (hg : A.guards = some []) (hq : ∀ h', IsBa h' s.heap.objs.size #[] → (∀ b o, s.heap.get? b = some o → h'.get? b = some o) → Q (.ref s.heap.objs.size) { s with heap := h' }) :
    wpR (model prog w) A (call (.type "bytearray") []) Q E s := by
  refine callType_R (Q₁ := fun obj s₁ => obj = .ref s.heap.objs.size ∧ s₁ = { s with heap := s.heap.push { cls := .type "bytearray", data := .bytearray #[] 0 } }) B.called_ba B.typeCall0 (by decide +kernel) B.entry_init
    (code_ba_new [] B.newCall0 ⟨rfl, rfl⟩) fun obj s₁ h₁ => ?_
  obtain ⟨rfl, rfl⟩ := h₁
  have hB : IsBa (s.heap.push { cls := .type "bytearray", data := .bytearray #[] 0 }) s.heap.objs.size #[] := Heap.get?_push_size _ rfl
  refine ⟨IsBa.typeIs (s := { s with heap := s.heap.push { cls := .type "bytearray", data := .bytearray #[] 0 } }) hB, B.args_init _, ?_⟩
  unfold Builtin.«bytearray.__init__»
  dsimp only
  refine wpR_bind (wpR_of (ownRelease_ba (s := { s with heap := s.heap.push { cls := .type "bytearray", data := .bytearray #[] 0 } }) hB ?_))
  rw [if_neg Bool.false_ne_true]
  refine wpR_bind (wpR_of_eq (a := [none, none, none]) (by kernel_rfl) ?_)
  refine wpR_bind (wpR_of_eq (a := ()) rfl ?_)
  refine wpR_bind (wpR_of_eq (a := ()) rfl ?_)
  refine wpR_bind (wpR_bind (exported_R hg ?_))
  show wpR _ _ (do return decide ((← exportsOf (.ref s.heap.objs.size)) > 0)) _ _ _
  refine wpR_bind (wpR_of ?_)
  unfold exportsOf
  refine wpAny_bind (wpAny_load hB ?_)
  refine wpAny_pure ?_
  refine wpR_pure ?_
  rw [if_neg (by decide)]
  refine wpR_bind (wpR_of (write_ba (s := { s with heap := s.heap.push { cls := .type "bytearray", data := .bytearray #[] 0 } }) hB (by decide) fun h' hb hs => ?_))
  refine wpR_pure ⟨rfl, ?_⟩
  exact hq h' hb fun b o e => hs.extBut b o (Nat.ne_of_lt (Heap.lt_size e)) (Heap.get?_push_of_some _ e)
end
end Mine
end
section
open PySem PySem.W PyProof.Rows PySem.Calls
open PySem.Sem (wp)
open PySem.Builtin.Bytes (payload payload? buffer?)
set_option Elab.async false
set_option maxRecDepth 100000
set_option linter.unusedVariables false
set_option linter.deprecated false
namespace Mine
namespace B
theorem no_bytes_ba : typeLookup (.type "bytearray") "__bytes__" = pure none := by rw [typeLookup_type, builtinLookup_eq_fast]; kernel_rfl
theorem no_index_ba : typeLookup (.type "bytearray") "__index__" = pure none := by rw [typeLookup_type, builtinLookup_eq_fast]; kernel_rfl
theorem len_b : typeLookup (.type "bytes") "__len__" = pure (some (.builtin "bytes.__len__")) := by rw [typeLookup_type, builtinLookup_eq_fast]; kernel_rfl
end B
section
variable {prog : Program} {w : World} {A : Around} {E : Value → Shared → Prop} {s : Shared}
theorem bytes_new_ba {a : Addr} {b : Array UInt8} {Q : Value → Shared → Prop} (hB : IsBa s.heap a b) (hz : b.size ≤ 16777216) (hQ : ∀ t k, Q (.bytes b t) { s with toks := k }) :
    codeAny (model prog w) A (.call (.builtin "bytes.__new__") ⟨[.type "bytes", .ref a], []⟩) (wants Q E) s := by
  refine codeAny_of_tree ?_
  show wpAny _ A.in1 (do checkBuiltinCall "bytes.__new__" ⟨[.type "bytes", .ref a], []⟩; again (.builtin "bytes.__new__" ⟨[.type "bytes", .ref a], []⟩)) _ _ s
  refine wpAny_bind (wpAny_of_eq (F.bm_newCall _) (wpAny_pure ⟨plainId_quiet F.bm_plain _, codeAny_builtin F.bm_entry ?_⟩))
  rw [Around.under_plainId F.bm_plain _]
  have hT := hB.typeIs
  unfold Builtin.«bytes.__new__»
  refine wpAny_bind (wpAny_of_eq (a := true) rfl ?_)
  refine bm_if_false rfl ?_
  refine wpAny_bind (wpAny_of_eq F.bm_sub ?_)
  refine bm_if_false rfl ?_
  refine wpAny_bind (wpAny_of_eq (F.bm_bind _) ?_)
  refine wpAny_bind (wpAny_of_eq (a := ()) rfl ?_)
  refine wpAny_bind (wpAny_of_eq (a := ()) rfl ?_)
  refine bm_if_false rfl ?_
  refine wpAny_bind (wpAny_specialOf hT B.no_bytes_ba ?_)
  refine wpAny_bind (wpAny_bind ?_)
  show wpAny _ _ (load a >>= _) _ _ _
  refine wpAny_bind (wpAny_load hB ?_)
  refine wpAny_pure (wpAny_pure ?_)
  refine bm_if_false rfl ?_
  refine wpAny_bind (wpAny_specialOf hT B.no_index_ba ?_)
  refine bm_if_true rfl ?_
  first
    | show wpAny _ _ (buffer? "bytes.__new__" (.ref a) true >>= _) _ _ _
    | (refine wpAny_bind ?_; show wpAny _ _ (buffer? "bytes.__new__" (.ref a) true >>= _) _ _ _)
  refine wpAny_bind (buffer_ba hB ?_)
  refine wpAny_bind (wpAny_rule ?_)
  have hm : wpAny (model prog w) A.in1 (mkBytes b) (fun v s' => ∃ t k, v = .bytes b t ∧ s' = { s with toks := k }) (fun e s' => wants Q E (.error e) s') s := by
    unfold mkBytes
    rw [if_neg (by rw [sizeLine_eq]; omega)]
    refine wpAny_bind (wpAny_fresh' ?_)
    exact wpAny_pure ⟨_, _, rfl, rfl⟩
  refine wpAny_bind (wpAny_mono hm (fun v s' ⟨t, k, e1, e2⟩ => ?_) fun _ _ e => e)
  subst e1 e2
  first
    | exact wpAny_pure (hQ _ _)
    | exact wpAny_pure (wpAny_pure (hQ _ _))
theorem call_bytes_ba {a : Addr} {b : Array UInt8} {Q : Value → Shared → Prop} (hB : IsBa s.heap a b) (hz : b.size ≤ 16777216) (hQ : ∀ t k, Q (.bytes b t) { s with toks := k }) :
    wpAny (model prog w) A (call (.type "bytes") [.ref a]) Q E s := by
  refine callType_codes (Q₁ := fun obj s₁ => s₁.TypeIs obj "bytes" ∧ Q obj s₁) F.bm_called (F.bm_typeCall _) F.entry_object_init
    (bytes_new_ba hB hz fun t k => ⟨PySem.W.typeIs_bytes _ _ _, hQ t k⟩) fun obj s₁ h₁ => ?_
  exact ⟨h₁.1, F.args_object_init_2 obj _, object_init_meets F.bm_called.init.lookup F.bm_called.made (by decide) prog w A.in1 _ s₁ ⟨h₁.1, rfl, h₁.2⟩⟩
end
end Mine
end
section
open PySem PySem.W PyProof.Rows PySem.Calls
open PySem.Sem (wp)
open PySem.Builtin.Bytes (payload payload? buffer?)
set_option Elab.async false
set_option maxRecDepth 100000
set_option linter.unusedVariables false
set_option linter.deprecated false
namespace Mine
section
variable {prog : Program} {w : World} {A : Around} {E : Value → Shared → Prop} {s : Shared}
theorem extend_bytes {R : Result → Shared → Prop} (hh : A.handled = none) (x : Array UInt8) (t : Tok) (S : Addr) (res : Value) (c₀ : Nat) (hS : s.heap.get? S = some { cls := .type "list", data := .seq #[] c₀ })
    (hR : ∀ h' tk acc' c', (∀ b o, b ≠ S → s.heap.get? b = some o → h'.get? b = some o) → h'.get? S = some { cls := .type "list", dict := none, data := .seq acc' c', slots := #[] } →
      ItemsOf (fun i v => ∃ c u, x[i]? = some c ∧ v = .int (c.toNat : Int) u) acc' x.size → R (.ok (.ret res)) { s with heap := h', toks := tk }) (hn : x.size ≤ sizeLine) :
    wpAny (model prog w) A.in1 (Builtin.List.listExtendWith (.ref S) (.bytes x t) res)
      (fun fin s' => match fin with | .done f => R (.ok f) s' | .again c' => c'.quiet = true ∧ codeAny (model prog w) A c' R s') (fun e s' => R (.error e) s') s := by
  have hSI : S ≠ s.heap.objs.size := Nat.ne_of_lt (Heap.lt_size hS)
  have hSf : S ∉ [s.heap.objs.size] := fun hm => hSI (List.mem_singleton.mp hm)
  unfold Builtin.List.listExtendWith
  refine wpAny_bind (wpAny_typeOf (T := "bytes") (v := .bytes x t) rfl ?_)
  have h1 : Builtin.List.listSameRef (.ref S) (.bytes x t) = false := rfl
  have h2 : (Value.type "bytes" == Value.type "list") = false := by decide
  have h3 : (Value.type "bytes" == Value.type "tuple") = false := by decide
  simp only [h1, h2, h3, Bool.or_false, Bool.false_eq_true, if_false]
  refine wpAny_bind (KBw.pyIter_bytes ?_)
  refine wpAny_bind (wpAny_holding ?_)
  unfold Builtin.List.listLengthHint
  refine wpAny_bind (wpAny_specialOf (T := "bytes") (v := .bytes x t) rfl B.len_b ?_)
  wp_delta
  refine wpAny_bind (wpAny_isInstance (T := "bytes") (v := .bytes x t) (b := true) rfl (by rw [isSubtype_type]; kernel_rfl) ?_)
  show wpAny _ _ (typeOf (Value.bytes x t) >>= _) _ _ _
  refine wpAny_bind (wpAny_typeOf (T := "bytes") (v := .bytes x t) rfl ?_)
  refine wpAny_pure ?_
  rw [if_neg (by decide)]
  refine wpAny_pure ⟨plainId_quiet F.plain_extend_loop _, codeAny_extend_loopS (KBw.walks (A := A.in1) hh s.heap.objs.size x t).toS hn _ hSf _ x.size 0 _ _ _ rfl (Nat.zero_le _) ⟨_, Heap.get?_push_size _ rfl, rfl, rfl⟩ (Heap.get?_push_of_some _ hS) (ItemsOf.nil _) fun s' acc' c' hm hS' hacc => ?_⟩
  rw [Moved.eq_with hm]
  refine hR s'.heap s'.toks acc' c' (fun b ob hb e => hm.heap b ob (fun hmem => ?_) (Heap.get?_push_of_some _ e)) hS' hacc
  rcases List.mem_cons.mp hmem with e' | hmem
  · exact hb e'
  · exact absurd (Heap.lt_size e) (by rw [List.mem_singleton.mp hmem]; exact Nat.lt_irrefl _)
theorem call_list_bytes {Q : Value → Shared → Prop} (hh : A.handled = none) (x : Array UInt8) (t : Tok)
    (hQ : ∀ h' tk acc' c', (∀ b o, s.heap.get? b = some o → h'.get? b = some o) →
      h'.get? s.heap.objs.size = some { cls := .type "list", dict := none, data := .seq acc' c', slots := #[] } → ItemsOf (fun i v => ∃ c u, x[i]? = some c ∧ v = .int (c.toNat : Int) u) acc' x.size → Q (.ref s.heap.objs.size) { s with heap := h', toks := tk }) (hn : x.size ≤ sizeLine) :
    wpAny (model prog w) A (call (.type "list") [.bytes x t]) Q E s := by
  refine callType_codes (Q₁ := fun obj s₁ => obj = .ref s.heap.objs.size ∧ s₁ = { s with heap := s.heap.push { cls := .type "list", data := .seq #[] } }) F.called_list (F.typeCall_list_1 _) F.entry_list_init
    (code_list_new _ ⟨rfl, rfl⟩) fun obj s₁ h₁ => ?_
  obtain ⟨rfl, rfl⟩ := h₁
  have hS : (s.heap.push { cls := .type "list", data := .seq #[] }).get? s.heap.objs.size = some { cls := .type "list", data := .seq #[] } := Heap.get?_push_size _ rfl
  refine ⟨⟨_, hS, rfl⟩, F.args_list_init_2 _ _, ?_⟩
  show wpAny _ _ (do let old ← Builtin.List.listItems (.ref s.heap.objs.size); Builtin.List.listUpdate (.ref s.heap.objs.size) (fun _ => #[]); letGo old.toList.reverse; Builtin.List.listExtendWith (.ref s.heap.objs.size) (.bytes x t) .none) _ _ _
  refine wpAny_bind ?_
  unfold Builtin.List.listItems
  refine wpAny_bind (wpAny_seqItems hS rfl (wpAny_pure ?_))
  show wpAny _ _ (updateSeq s.heap.objs.size (fun _ => #[]) >>= fun _ => letGo (#[] : Array Value).toList.reverse >>= fun _ => Builtin.List.listExtendWith (.ref s.heap.objs.size) (.bytes x t) .none) _ _ _
  refine wpAny_bind (wpAny_updateSeq hS rfl ?_)
  have hS₂ := Heap.get?_update_self (Obj.mapSeq (fun _ => (#[] : Array Value))) hS rfl
  refine wpAny_bind (wpAny_letGo ?_)
  refine extend_bytes (A := A.in1) (R := wants (fun r s₂ => r = .none ∧ Q (.ref s.heap.objs.size) s₂) E) (hn := hn) hh x t _ .none _ hS₂ fun h' tk acc' c' hk hS' hacc => ?_
  exact ⟨rfl, hQ h' tk acc' c' (fun b o e => hk b o (Nat.ne_of_lt (Heap.lt_size e)) ((Heap.get?_update_other _ _ (Ne.symm (Nat.ne_of_lt (Heap.lt_size e)))).trans (Heap.get?_push_of_some _ e))) hS' hacc⟩
end

theorem items_all2 {ns : List Int} {acc : Array Value} (h : ItemsOf (fun i v => ∃ t, v = .int (ns.getD i 0) t) acc ns.length) : All2 (ns.map V.int) acc.toList := by
  obtain ⟨h1, h2⟩ := h
  have key : ∀ (us : List V) (vs : List Value), us.length = vs.length → (∀ (i : Nat) u v, us[i]? = some u → vs[i]? = some v → u.Is v) → All2 us vs := by
    intro us
    induction us with
    | nil => intro vs h _; cases vs with
      | nil => exact .nil
      | cons _ _ => simp at h
    | cons u us ih => intro vs h hi; cases vs with
      | nil => simp at h
      | cons v vs => exact .cons (hi 0 u v rfl rfl) (ih vs (by simpa using h) fun i a b ha hb => hi (i + 1) a b (by simpa using ha) (by simpa using hb))
  refine key _ _ (by simp [h1]) fun i u v hu hv => ?_
  rw [Array.getElem?_toList] at hv
  obtain ⟨t, rfl⟩ := h2 i v hv
  rw [List.getElem?_map] at hu
  cases hn : ns[i]? with
  | none => rw [hn] at hu; cases hu
  | some n =>
    rw [hn] at hu
    cases hu
    exact ⟨t, by rw [List.getD_eq_getElem?_getD, hn]; rfl⟩

/-- range's ints -/
def rng (a b : Int) : List Int := (List.range (b - a).toNat).map fun i => a + (i : Nat)
theorem rng_length (a b : Int) : (rng a b).length = (b - a).toNat := by simp [rng]
theorem rng_getD {a b : Int} {i : Nat} (h : i < (b - a).toNat) : (rng a b).getD i 0 = a + i := by
  simp [rng, List.getD_eq_getElem?_getD, List.getElem?_map, List.getElem?_range h]

section
variable {X : Cx} {ro : Led} {E : Er} {st : St} {nm : Str} {sc : Scope} {a : Addr} {cd : Value} {env : Env} {R : Heap} {s : Shared}
theorem list_bytes' {ns : List Int} {Q : V → St → Prop} (hh : X.A.handled = none) (hsz : ns.length ≤ 16777216) (hq : ∀ l, Q (.ref l) { st with own := (l, .ints ns) :: st.own }) :
    OpN X ro E (fun vs => call (.type "list") vs) [.bytes ns] st Q := by
  rintro vs (_ | ⟨⟨b, t, rfl, hb⟩, (_ | _)⟩) R s S
  have hbl : ns.length = b.size := by rw [← hb, bInts_length]
  refine wpR_of (call_list_bytes hh b t (fun h' tk acc c hk hS hacc => ⟨.ref s.heap.objs.size, _, rfl, S.alloc (c := .ints ns) (size_none _) ⟨_, hS, ⟨acc, c, rfl, ?_⟩⟩ hk, hq _⟩) (by rw [sizeLine_eq]; omega))
  refine items_all2 ⟨by rw [hacc.1, hbl], fun j v hj => ?_⟩
  obtain ⟨c, u, hx, rfl⟩ := hacc.2 j v hj
  refine ⟨u, ?_⟩
  have := KBw.ints_get hx
  have hb' : KBw.bInts b = ns := hb
  rw [hb'] at this
  rw [List.getD_eq_getElem?_getD, this]; rfl
theorem ne_ints' {l m : Addr} {ns ms : List Int} {Q : V → St → Prop} (hu : X.A.units + 64 < cLine) (hl : Kn ro st l (.ints ns)) (hm : Kn ro st m (.ints ms)) (hq : Q (.bool (decide (ns ≠ ms))) st) :
    Op2 X ro E (compareOp .NotEq) (.ref l) (.ref m) st Q := by
  rintro v w rfl rfl R s S
  obtain ⟨ws, hL, hw⟩ := (S.at hl).isList
  obtain ⟨ws2, hL2, hw2⟩ := (S.at hm).isList
  rw [← Array.toArray_toList (xs := ws)] at hL
  rw [← Array.toArray_toList (xs := ws2)] at hL2
  refine wpR_of (ne_intsK hL hw.ints hL2 hw2.ints hu ⟨.bool (decide (ns ≠ ms)), st, ?_, S, hq⟩)
  show Value.bool _ = Value.bool _
  congr 1
  simp
/-- list(range(a, b)), list(range(b)): both calls at once -/
theorem list_range2 {i j : Int} {Q : V → St → Prop} (hh : X.A.handled = none) (hi : -4294967296 ≤ i ∧ i < 4294967296) (hj : -4294967296 ≤ j ∧ j < 4294967296) (hsz : j - i ≤ 16777216)
    (hq : ∀ l, Q (.ref l) { st with own := (l, .ints (rng i j)) :: st.own }) :
    OpN X ro E (fun vs => call (.type "range") vs) [.int i, .int j] st fun u st₁ => OpN X ro E (fun vs => call (.type "list") vs) [u] st₁ Q := by
  rintro vs (_ | ⟨⟨t, rfl⟩, (_ | ⟨⟨u, rfl⟩, (_ | _)⟩)⟩) R s S
  have S₁ : Sat X ro st R { s with heap := s.heap.push { cls := .type "range", data := .fields #[.int i t, .int j u, .int 1 s.toks] }, toks := s.toks + 1 } := S.keeps fun b o e => Heap.get?_push_of_some _ e
  have hn : Builtin.Range.rangeSize i j 1 = ((j - i).toNat : Nat) := by rw [rangeSize_one]; split <;> omega
  refine wpR_of (call_range_2 ⟨.ref s.heap.objs.size, { st with own := (s.heap.objs.size, .obj { cls := .type "range", data := .fields #[.int i t, .int j u, .int 1 s.toks] }) :: st.own }, rfl, S.push rfl, ?_⟩)
  rintro vs (_ | ⟨rfl, (_ | _)⟩) R s₂ S₂
  obtain ⟨o, ho, e⟩ := S₂.at_own Has.head
  cases e
  have S₃ := S₂.sub (own' := st.own) (List.sublist_cons_self _ _)
  refine wpR_of (call_list_range hh (a := i) (b := j) (c := 1) (t := t) (u := u) (v := s.toks) (n := (j - i).toNat) ho (small_one (by omega) (by omega) (by omega) (by omega)) hn (by omega)
    fun h' tk acc c hk hS hacc => ⟨.ref s₂.heap.objs.size, _, rfl, S₃.alloc (c := .ints (rng i j)) (size_none _) ⟨_, hS, ⟨acc, c, rfl, ?_⟩⟩ hk, hq _⟩)
  refine items_all2 ⟨by rw [hacc.1, rng_length], fun k v hk => ?_⟩
  obtain ⟨t', rfl⟩ := hacc.2 k v hk
  have hlt : k < (j - i).toNat := by
    have := (Array.getElem?_eq_some_iff.mp hk).1
    rw [hacc.1] at this; exact this
  exact ⟨t', by rw [rng_getD hlt, Int.mul_one]⟩
end
end Mine
end
section
open PySem PySem.W PyProof.Rows PySem.Calls
open PySem.Sem (wp)
set_option Elab.async false
set_option maxRecDepth 100000
set_option linter.unusedVariables false
set_option linter.deprecated false
namespace Mine
section
variable {X : Cx} {ro : Led} {E : Er} {st : St} {nm : Str} {sc : Scope} {a : Addr} {cd : Value} {env : Env} {R : Heap} {s : Shared}

/-- while, by a measure -/
def WhileQ (Q : Fl → St → Prop) (J : St → Prop) (f : Fl) (st : St) : Prop := LoopQ Q J f st
theorem While' {test : Expr} {body : List Stmt} {pos : Pos} (J : Nat → St → Prop) (n : Nat) {Q : Fl → St → Prop} (hE : ErOk X env E) (hj : J n st)
    (turn : ∀ n st', J n st' → TB X ro E st' (isTrue test env (eval test env)) fun b st₂ => (b = true → TF X ro E st₂ (execs body env) (LoopQ Q fun st₃ => ∃ m, m < n ∧ J m st₃)) ∧ (b = false → Q .next st₂)) :
    TF X ro E st (exec (.While test body [] pos) env) Q := fun R s S => by
  refine wpR_While (codeR_whileLoop (fun k s' => ∃ st', Sat X ro st' R s' ∧ J k st') ?_ n ⟨st, S, hj⟩)
  rintro k s' ⟨st', S', hJ⟩
  refine wpR_mono (turn k st' hJ R s' S') (fun b s₂ h => ?_) fun e s₂ h => hE.2 R e s₂ h
  obtain ⟨b', st₂, e, S₂, h₂⟩ := h
  subst e
  cases b with
  | false =>
    simp only [Bool.false_eq_true, if_false]
    exact wpR_of (wpAny_execs_nil ⟨.next, st₂, rfl, S₂, h₂.2 rfl⟩)
  | true =>
    simp only [if_true]
    refine wpR_mono (h₂.1 rfl R s₂ S₂) (fun f s₃ h => ?_) fun e s₃ h => hE.2 R e s₃ h
    obtain ⟨g, st₃, hg, S₃, hq⟩ := h
    cases g with
    | next => cases hg; obtain ⟨m, hm, hJ'⟩ := hq; exact ⟨m, hm, st₃, S₃, hJ'⟩
    | cont => cases hg; obtain ⟨m, hm, hJ'⟩ := hq; exact ⟨m, hm, st₃, S₃, hJ'⟩
    | brk => cases hg; exact ⟨.next, st₃, rfl, S₃, hq⟩
    | ret u => obtain ⟨v, rfl, hv⟩ := hg; exact ⟨.ret u, st₃, ⟨v, rfl, hv⟩, S₃, hq⟩

/-- calls of the text's own defs -/
structure FnOk (B : Heap) (f : Addr) (name : Str) (params : Arguments) (body : List Stmt) (scope : Scope) (pm cd doc : Value) : Prop where
  at_ : ∃ o, B.get? f = some o ∧ o.data = .func (docDef name params body scope pm cd doc)
  code : B.CodeRec cd name
def Cx.call (X : Cx) (env : Env) (L' : Addr) (m : Str → Option Value) : Cx := { X with A := X.A.deeper env, L := L', outs := (X.L, m) :: X.outs }
/-- the heap but the frames' own tables -/
def Cx.off (X : Cx) (h : Heap) : Heap := hideAll h (X.L :: X.outs.map (·.1))
theorem Sat.off_get (S : Sat X ro st R s) {b : Addr} {o : Obj} (e : R.get? b = some o) : (X.off s.heap).get? b = some o := by
  refine hideAll_get _ (S.fr b o e) fun hm => ?_
  rcases List.mem_cons.mp hm with rfl | hm
  · rw [S.frL] at e; cases e
  · obtain ⟨q, hq, rfl⟩ := List.mem_map.mp hm
    rw [(S.outs q hq).2.1] at e; cases e
theorem Sat.off_own (S : Sat X ro st R s) {p : Addr × Cell} (hp : p ∈ st.own) : At (X.off s.heap) p.1 p.2 := by
  obtain ⟨o, ho, hc⟩ := (S.own p hp).2.2
  refine ⟨o, hideAll_get _ ho fun hm => ?_, hc⟩
  rcases List.mem_cons.mp hm with e | hm
  · exact (S.own p hp).2.1 e
  · obtain ⟨q, hq, e⟩ := List.mem_map.mp hm
    exact S.apart p hp q hq e.symm
def retV : Fl → V
  | .ret u => u
  | _ => .none
theorem call_fn {f : Addr} {name : Str} {params : Arguments} {body : List Stmt} {scope : Scope} {pm cd doc : Value} {x : Str} {u : V} {locs : List (Str × V)} {Ec : Addr → (Str → Option Value) → Er} {Q : V → St → Prop}
    (F : FnOk X.B f name params body scope pm cd doc) (hlim : X.B.NoLimit) (hroom : X.A.depth < recursionLimit)
    (hnd : ((x, u) :: locs).map (·.1) |>.Nodup) (hunk : ∀ p ∈ locs, p.2 = .unk)
    (h : ∀ L' m, TF (X.call (envOf name scope L' f cd) L' m) (st.own ++ ro) (Ec L' m) ⟨(x, u) :: locs, []⟩ (execs body (envOf name scope L' f cd)) fun fl st' => Q (retV fl) ⟨st.loc, st'.own ++ st.own⟩)
    (hErr : ∀ L' m R s e s', Sat X ro st R s → L' = s.heap.objs.size → s.heap.Ns X.L m → (∀ p ∈ st.loc, LocIs (m p.1) p.2) → Ec L' m (X.off s.heap) e s' → wpR (model X.prog X.w) (X.A.deeper (envOf name scope L' f cd)) (leaving (envOf name scope L' f cd) e) (fun _ s'' => E R e s'') (fun e' s'' => E R e' s'') s')
    (hbind : ∀ v, bindArgs (docDef name params body scope pm cd doc) ⟨[v], []⟩ = pure [(x, v)] := by intro _; rfl)
    (hloc : scope.names.lookup x = some .local := by rfl)
    (hco : scope.isCoroutine = false := by rfl) (hgen : scope.isGenerator = false := by rfl) (hk : scope.kind = .function := by rfl)
    (hcell : ∀ x ∈ scope.names, x.2 ≠ .cell := by decide) :
    OpN X ro E (fun vs => call (.ref f) vs) [u] st Q := by
  rintro vs (_ | ⟨hv, (_ | _)⟩) R s S
  rename_i v
  obtain ⟨o, ho, hd⟩ := F.at_
  refine wpR_call (codeR_call_function hroom (S.keepB _ _ ho) hd hco hgen rfl (F.code.keeps S.keepB) ?_)
  rw [hbind]
  refine wpAny_pure (wpAny_newFunctionEnv hcell (fun y hy => by rw [List.mem_singleton.mp hy]; exact hloc) (fun h₁ hns hsb => ⟨(hlim.keeps S.keepB).fresh _ hsb, ?_⟩) hk)
  show codeR _ _ (.func body (envOf name scope s.heap.objs.size f cd)) _ _
  have keep : ∀ b o, s.heap.get? b = some o → h₁.get? b = some o := fun b o e => hsb.extBut b o (Nat.ne_of_lt (Heap.lt_size e)) (Heap.get?_push_of_some _ e)
  obtain ⟨m, hm, hml⟩ := S.ns
  have S₁ : Sat (X.call (envOf name scope s.heap.objs.size f cd) s.heap.objs.size m) (st.own ++ ro) ⟨(x, u) :: locs, []⟩ (X.off s.heap) { s with heap := h₁, toks := s.toks + 1 } :=
    { base := fun b o e => S.off_get (S.base b o e)
      ros := fun p hp => (List.mem_append.mp hp).elim (fun h => S.off_own h) fun h => (S.ros p h).keep fun o e => S.off_get e
      fr := fun b o e => keep b o (of_hideAll _ e)
      frL := by
        show (X.off s.heap).get? s.heap.objs.size = none
        cases e : (X.off s.heap).get? s.heap.objs.size with
        | none => rfl
        | some o => exact absurd (Heap.lt_size (of_hideAll _ e)) (Nat.lt_irrefl _)
      own := fun p hp => nomatch hp
      nd := .nil
      ns := ⟨_, hns, fun p hp => by
        rcases List.mem_cons.mp hp with rfl | hp
        · exact .inr ⟨v, by simp, hv⟩
        · exact .inl (hunk p hp)⟩
      nl := hnd
      gens := S.gens
      oss := S.oss
      outs := fun q hq => by
        rcases List.mem_cons.mp hq with rfl | hq
        · exact ⟨hm.keeps keep, hideAll_none _ (.head _), Nat.ne_of_lt S.lt⟩
        · refine ⟨(S.outs q hq).1.keeps keep, hideAll_none _ (.tail _ (List.mem_map.mpr ⟨q, hq, rfl⟩)), ?_⟩
          obtain ⟨o, _, _, ho, _⟩ := (S.outs q hq).1
          exact Nat.ne_of_lt (Heap.lt_size ho)
      apart := fun p hp => nomatch hp }
  refine codeR_func (wpR_mono (h s.heap.objs.size m _ _ S₁) (fun fl s' h' => ?_) fun e s' h' => hErr _ m R s e s' S rfl hm hml h')
  obtain ⟨g, st', hg, S', hq⟩ := h'
  have S'' : Sat X ro ⟨st.loc, st'.own ++ st.own⟩ R s' :=
    { base := S.base
      ros := S.ros
      fr := fun b o e => S'.fr b o (S.off_get e)
      frL := S.frL
      own := fun p hp => by
        rcases List.mem_append.mp hp with hp | hp
        · obtain ⟨h1, h2, h3⟩ := S'.own p hp
          refine ⟨?_, fun e => S'.apart p hp (X.L, m) (.head _) e, h3⟩
          cases e : R.get? p.1 with
          | none => rfl
          | some o => have := S.off_get e; rw [h1] at this; cases this
        · obtain ⟨h1, h2, h3⟩ := S.own p hp
          exact ⟨h1, h2, (S.off_own hp).keep fun o e => S'.fr _ o e⟩
      nd := by
        rw [List.map_append, List.nodup_append]
        refine ⟨S'.nd, S.nd, fun a ha b hb e => ?_⟩
        obtain ⟨p, hp, rfl⟩ := List.mem_map.mp ha
        obtain ⟨q, hq, rfl⟩ := List.mem_map.mp hb
        obtain ⟨o, ho, _⟩ := S.off_own hq
        rw [← e, (S'.own p hp).1] at ho; cases ho
      ns := ⟨m, (S'.outs (X.L, m) (.head _)).1, hml⟩
      nl := S.nl
      gens := S'.gens
      oss := S'.oss
      outs := fun q hq => ⟨(S'.outs q (.tail _ hq)).1, (S.outs q hq).2⟩
      apart := fun p hp q hq => by
        rcases List.mem_append.mp hp with hp | hp
        · exact S'.apart p hp q (.tail _ hq)
        · exact S.apart p hp q hq }
  cases g with
  | next => cases hg; exact ⟨V.none, _, (rfl : Value.none = Value.none), S'', hq⟩
  | brk => cases hg; exact ⟨V.none, _, (rfl : Value.none = Value.none), S'', hq⟩
  | cont => cases hg; exact ⟨V.none, _, (rfl : Value.none = Value.none), S'', hq⟩
  | ret u' => obtain ⟨w, rfl, hw⟩ := hg; exact ⟨u', _, hw, S'', hq⟩
end
end Mine
end
section
open PySem PySem.W PyProof.Rows PySem.Calls
open PySem.Sem (wp)
set_option Elab.async false
set_option maxRecDepth 100000
set_option linter.unusedVariables false
set_option linter.deprecated false
namespace Mine
section
variable {X : Cx} {ro : Led} {E : Er} {st : St} {nm : Str} {sc : Scope} {a : Addr} {cd : Value} {env : Env} {R : Heap} {s : Shared}
theorem newba' {Q : V → St → Prop} (hg : X.A.guards = some []) (hq : ∀ l, Q (.ref l) { st with own := (l, .ba []) :: st.own }) : OpN X ro E (fun vs => call (.type "bytearray") vs) [] st Q := by
  rintro vs (_ | _) R s S
  exact call_ba_empty hg fun h' hb hk => ⟨.ref s.heap.objs.size, _, rfl, S.alloc (c := .ba []) (size_none _) ⟨_, hb, ⟨#[], rfl, rfl⟩⟩ hk (tk := s.toks), hq _⟩
theorem bytes_ba' {l : Addr} {ns : List Int} {Q : V → St → Prop} (hl : Kn ro st l (.ba ns)) (hsz : ns.length ≤ 16777216) (hq : Q (.bytes ns) st) : OpN X ro E (fun vs => call (.type "bytes") vs) [.ref l] st Q := by
  rintro vs (_ | ⟨rfl, (_ | _)⟩) R s S
  obtain ⟨b, hB, hb⟩ := (S.at hl).isBa
  have hn : ns.length = b.size := by rw [← hb, bInts_length]
  exact wpR_of (call_bytes_ba hB (by omega) fun t k => ⟨.bytes ns, st, ⟨b, t, rfl, hb⟩, S.toks, hq⟩)

theorem paired_all2 {F : Value → Value → Prop} {f : Int → Int} (hF : ∀ n t y, F (.int n t) y → ∃ u, y = .int (f n) u) : ∀ {ns : List Int} {vs ys : List Value}, All2 (ns.map V.int) vs → Paired F vs ys → All2 ((ns.map f).map V.int) ys
  | [], _, _, .nil, .nil => .nil
  | n :: ns, _, _, .cons h1 h2, .cons p1 p2 => by
    obtain ⟨t, rfl⟩ := h1
    exact .cons (hF _ _ _ p1) (paired_all2 hF h2 p2)


end
end Mine
end
section
open PySem PySem.W PyProof.Rows PySem.Calls
open PySem.Sem (wp)
set_option Elab.async false
set_option maxRecDepth 100000
set_option linter.unusedVariables false
set_option linter.deprecated false
namespace Mine
inductive Fs2 : List Env → List (Addr × (Str → Option Value)) → Prop
  | nil : Fs2 [] []
  | cons {e q es qs} : e.frame = some q.1 → e.scope.kind ≠ .module → Fs2 es qs → Fs2 (e :: es) (q :: qs)
structure FrOk (X : Cx) (env : Env) (fs : List Env) : Prop where
  stack : X.A.frames = some (env :: fs)
  fr : env.frame = some X.L
  kind : env.scope.kind ≠ .module
  rest : Fs2 fs X.outs
theorem FrOk.call {X : Cx} {env : Env} {fs : List Env} {name : Str} {scope : Scope} {L' f : Addr} {cd : Value} {m : Str → Option Value} (F : FrOk X env fs) (hk : scope.kind = .function) :
    FrOk (X.call (envOf name scope L' f cd) L' m) (envOf name scope L' f cd) (env :: fs) where
  stack := Around.frames_deeper F.stack
  fr := rfl
  kind := by show scope.kind ≠ .module; rw [hk]; decide
  rest := .cons F.fr F.kind F.rest
theorem Fs2.frames {h base : Heap} : ∀ {fs qs}, Fs2 fs qs → (∀ q ∈ qs, h.Ns q.1 q.2 ∧ base.get? q.1 = none) → h.FunFrames base fs
  | _, _, .nil, _ => trivial
  | _, _, .cons hf hk r, hq => Heap.FunFrames.cons hk hf (hq _ (.head _)).1 (hq _ (.head _)).2 (r.frames fun q h => hq q (.tail _ h))

/-- an exception on its way: the heap R and the frames' tables stand -/
structure Ex0 (X : Cx) (R : Heap) (a : Addr) (s : Shared) : Prop where
  gens : s.gens = #[]
  oss : s.os = X.os
  stay : ∀ b o, R.get? b = some o → s.heap.get? b = some o
  new : R.get? a = none
  frL : R.get? X.L = none
  ns : ∃ m, s.heap.Ns X.L m
  outs : ∀ q ∈ X.outs, s.heap.Ns q.1 q.2 ∧ R.get? q.1 = none
def RawE (h : Heap) (a : Addr) (cls : Value) : Prop := ∃ oe vs t, h.get? a = some oe ∧ oe.cls = cls ∧ oe.data = .fields vs ∧ vs[0]? = some t ∧ vs[1]? = some .none
def Ex (X : Cx) (C : Addr) : Er := fun R e s => ∃ a, e = .ref a ∧ Ex0 X R a s ∧ (RawE s.heap a (.ref C) ∨ ∃ t, s.heap.TracedAtW R a (.ref C) t (rawInt X.L))

section
variable {X : Cx} {ro : Led} {E : Er} {st : St} {nm : Str} {sc : Scope} {a : Addr} {cd : Value} {env : Env} {R : Heap} {s : Shared} {fs : List Env} {C : Addr}
theorem Ex0.frames (h : Ex0 X R a s) (F : FrOk X env fs) : s.heap.FunFrames R (env :: fs) :=
  let ⟨_, hm⟩ := h.ns
  Heap.FunFrames.cons F.kind F.fr hm h.frL (F.rest.frames h.outs)
theorem Ex0.slots (h : Ex0 X R a s) {h' : Heap} (hs : ∀ b o, R.get? b = some o → h'.get? b = some o) (hu : s.heap.UpToSlots h') : Ex0 X R a { s with heap := h' } where
  gens := h.gens
  oss := h.oss
  stay := hs
  new := h.new
  frL := h.frL
  ns := let ⟨m, hm⟩ := h.ns; ⟨m, hu.ns hm⟩
  outs := fun q hq => ⟨hu.ns (h.outs q hq).1, (h.outs q hq).2⟩
theorem note_first {M : Model} {A : Around} {E : Value → Shared → Prop} {L e : Addr} {outer : List Env} {cls : Value} {Q : Unit → Shared → Prop}
    (hfr : A.frames = some (env :: outer)) (hl : s.heap.FunFrames R (env :: outer)) (hf : env.frame = some L)
    (hkb : R.StaysIn s.heap) (hen : R.get? e = none) (hr : RawE s.heap e cls)
    (h : ∀ h' t, Heap.NotedW R (env :: outer) e cls t (rawInt L) s.heap h' → Q () { s with heap := h' }) : wpAny M A (noteFrame (.ref e) env) Q E s := by
  obtain ⟨oe, vs, t, he, rfl, hd, h0, h1⟩ := hr
  unfold noteFrame
  simp only [hf]
  refine wpAny_bind (wpAny_field he hd h1 ?_)
  rw [if_neg (by decide)]
  exact wpAny_entryW hfr hl hf he hkb hen hd (Array.getElem?_eq_some_iff.mp h1).1 h0 fun h' hn => h h' t hn
theorem fly_some {M : Model} {A : Around} {E : Value → Shared → Prop} {base : Heap} {l : List Env} {e L : Addr} {cls a0 fl : Value} {Q : Unit → Shared → Prop}
    (hkb : base.StaysIn s.heap) (ht : s.heap.TracedAtW base e cls a0 fl)
    (h : ∀ h', base.StaysIn h' → h'.TracedAtW base e cls a0 (rawInt L) → s.heap.UpToSlots h' → Q () { s with heap := h' }) :
    wpAny M A (do
      if (← field (.ref e) 1) == .none then unsupported "frame.own-activation:exception-without-traceback"
      setFlight (.ref e) (some L)) Q E s := by
  obtain ⟨oe, vs, T, oT, ts, he, hcls, hd, h1, hnT, hTe, hT, hdT, h3⟩ := ht
  have hsz3 : 3 < ts.size := (Array.getElem?_eq_some_iff.mp h3).1
  have other : ∀ b, b ≠ T → (s.heap.update T (Obj.mapFields (·.setIfInBounds 3 ((some L : Option Addr).elim Value.none fun f => rawInt f)))).get? b = s.heap.get? b :=
    fun b hb => Heap.get?_update_other _ _ (Ne.symm hb)
  have noRecord : ∀ b o, s.heap.get? b = some o → (∀ vs, o.data ≠ .fields vs) → b ≠ T := fun b o hb hnf q => by
    rw [q, hT] at hb; injection hb with hb; subst hb; exact hnf ts hdT
  refine wpAny_bind (wpAny_field he hd h1 ?_)
  rw [if_neg (show ¬ ((Value.ref T == Value.none) = true) from by simp)]
  unfold setFlight
  refine wpAny_bind (wpAny_field he hd h1 ?_)
  rw [if_pos (show (Value.ref T != Value.none) = true from by simp)]
  refine wpAny_setField hT hdT hsz3 (h _ (fun b o hbo => (other b fun q => by rw [q, hnT] at hbo; cases hbo).trans (hkb b o hbo)) ?_ fun b o hb hnf => ⟨o.slots, (other b (noRecord b o hb hnf)).trans hb⟩)
  exact ⟨oe, vs, T, _, _, (other e (Ne.symm hTe)).trans he, hcls, hd, h1, hnT, hTe, Heap.get?_update_self _ hT (Obj.isFreed_of_fields (Obj.data_mapFields hdT _)), Obj.data_mapFields hdT _, by simp [hsz3]⟩
theorem Ex.back {e : Addr} {t : Value} (F : FrOk X env fs) (h0 : Ex0 X R e s) (ht : s.heap.TracedAtW R e (.ref C) t (rawInt X.L)) : cameBackR (model X.prog X.w) X.A env (Ex X C R) (.ref e) s := by
  unfold cameBackR
  rw [F.fr]
  exact wpR_of (fly_some (l := env :: fs) h0.stay ht fun h' k1 k2 k3 => ⟨e, rfl, h0.slots k1 k3, .inr ⟨t, k2⟩⟩)
theorem Ex.ok (F : FrOk X env fs) : ErOk X env (Ex X C) := by
  refine ⟨fun R R' e s hR => ?_, fun R e s => ?_⟩
  · rintro ⟨a, rfl, h, hr⟩
    refine ⟨a, rfl, ⟨h.gens, h.oss, fun b o q => h.stay b o (hR b o q), PySem.W.fresh_of_stays hR h.new, PySem.W.fresh_of_stays hR h.frL, h.ns, fun q hq => ⟨(h.outs q hq).1, PySem.W.fresh_of_stays hR (h.outs q hq).2⟩⟩, hr.imp id ?_⟩
    rintro ⟨t, oe, vs, T, oT, ts, a1, a2, a3, a4, a5, a6⟩
    exact ⟨t, oe, vs, T, oT, ts, a1, a2, a3, a4, PySem.W.fresh_of_stays hR a5, a6⟩
  · rintro ⟨a, rfl, h, hr | ⟨t, ht⟩⟩
    · exact wpR_of (note_first F.stack (h.frames F) F.fr h.stay h.new hr fun h' t hn => Ex.back F (h.slots hn.1 hn.2.2.2) hn.2.2.1)
    · exact wpR_of (wpAny_noteFrame_againW F.fr ht (Ex.back F h ht))

theorem TT.err {α β : Type} {rel : β → α → Prop} {t : Sem α} {Q : β → St → Prop} {E' : Er} (h : TT X ro E rel st t Q) (hE : ∀ R e s, E R e s → E' R e s) : TT X ro E' rel st t Q :=
  fun R s S => wpR_mono (h R s S) (fun _ _ q => q) fun e s' q => hE R e s' q
theorem ErOk.and {E : Er} {P : Prop} (h : ErOk X env E) : ErOk X env (fun R e s => P ∧ E R e s) := by
  refine ⟨fun R R' e s hR q => ⟨q.1, h.1 R R' e s hR q.2⟩, fun R e s q => ?_⟩
  have up : ∀ e s, cameBackR (model X.prog X.w) X.A env (E R) e s → cameBackR (model X.prog X.w) X.A env (fun e s => P ∧ E R e s) e s := fun e s c => wpR_mono c (fun _ _ x => ⟨q.1, x⟩) fun _ _ x => ⟨q.1, x⟩
  exact wpR_mono (h.2 R e s q.2) (fun _ _ c => up _ _ c) fun _ _ c => up _ _ c
theorem Raise' {x : Str} {bm : List Value} {newId B initId : String} {mg : Str → Option Value} {xs : Str} {k : Nat} {p0 np cpos pos : Pos} {Q : Fl → St → Prop} (O : OwnClsQ x C bm newId mg X.B) (hg : X.B.Ns mainGlobals mg) (FB : ExcBaseFacts B newId initId bm) (hh : X.A.handled = none)
    (hk : sc.kind = .function := by rfl) (hx : (envOf nm sc X.L a cd).kindOf x = some .globalImplicit := by rfl) (hd : (x == ("__debug__" : Str)) = false := by decide) :
    TF X ro (Ex X C) st (exec (.Raise (some (.Call (.Name x np) [.Constant (.str xs) k p0] [] cpos)) none pos) (envOf nm sc X.L a cd)) Q := fun R s S => by
  have O' := O.own
  obtain ⟨tl, N, nm', q, bs, hdct, sn, sub, ab, col, dd, k0, k1, k2, k3, k5, mN, hC, hN, hni, T⟩ := O'.obj
  refine wpR_of ?_
  refine wpAny_Raise_call_subT (C := C) (nm := nm') (q := q) (N := N) (bs := bs) (bm := tl) (hdct := hdct) (sn := sn) (sub := sub) (ab := ab) (col := col) (dd := dd) (k0 := k0) (k1 := k1) (k2 := k2) (k3 := k3) (k5 := k5)
    FB (mN := mN) (T.hasType FB.hasBase) hh rfl hni (Name_function_global hk hx (loadGlobal_global (env := envOf nm sc X.L a cd) (hg.keeps S.keepB) O.bound ⟨rfl, ?_⟩) hd)
  refine Calls.evalArgs_plain (Calls.spliced_cons (wpAny_Constant_str (k := k) (pos := p0) (Calls.spliced_nil ?_)))
  refine ⟨rfl, (show 1 ≤ sizeLine by decide +kernel), S.keepB _ _ hC, hN.keeps S.keepB, T.keeps S.keepB, fun h' e hx => ?_⟩
  obtain ⟨t, he, _, _⟩ := hx.there
  obtain ⟨m, hm, _⟩ := S.ns
  refine ⟨e, rfl, ⟨S.gens, S.oss, fun b o q => hx.keeps b o (S.fr b o q), ?_, S.frL, ⟨m, hm.keeps hx.keeps⟩, fun q hq => ⟨(S.outs q hq).1.keeps hx.keeps, (S.outs q hq).2.1⟩⟩, .inl ⟨_, _, _, he, rfl, rfl, rfl, rfl⟩⟩
  cases e' : R.get? e with
  | none => rfl
  | some o => have := S.fr _ _ e'; rw [hx.new] at this; cases this

/-- thrown by a call: the caller's state stands -/
def Thr (X : Cx) (ro : Led) (st : St) (env : Env) (fs : List Env) (C : Addr) : Er := fun R e s => ∃ a, e = .ref a ∧ Sat X ro st R s ∧ ∃ B t, Heap.FlyingW B (env :: fs) a (.ref C) t s.heap ∧
  (∀ b o, R.get? b = some o → B.get? b = some o) ∧ (∀ p ∈ st.own, At B p.1 p.2) ∧ B.get? X.L = none ∧ ∀ q ∈ X.outs, B.get? q.1 = none
theorem Ex.leave {name : Str} {scope : Scope} {L' f : Addr} {m : Str → Option Value} {e : Value} {s' : Shared} (F : FrOk X env fs) (hkk : scope.kind = .function) (S : Sat X ro st R s) (hml : ∀ p ∈ st.loc, LocIs (m p.1) p.2)
    (h : Ex (X.call (envOf name scope L' f cd) L' m) C (X.off s.heap) e s') :
    wpR (model X.prog X.w) (X.A.deeper (envOf name scope L' f cd)) (leaving (envOf name scope L' f cd) e) (fun _ s'' => Thr X ro st env fs C R e s'') (fun e' s'' => Thr X ro st env fs C R e' s'') s' := by
  obtain ⟨a, rfl, h0, hr⟩ := h
  have F' : FrOk (X.call (envOf name scope L' f cd) L' m) (envOf name scope L' f cd) (env :: fs) := F.call hkk
  have fin : ∀ h' t, (X.off s.heap).StaysIn h' → Heap.FlyingW (X.off s.heap) (env :: fs) a (.ref C) t h' → s'.heap.UpToSlots h' → Thr X ro st env fs C R (.ref a) { s' with heap := h' } := by
    intro h' t k1 k2 hu
    refine ⟨a, rfl, ⟨S.base, S.ros, fun b o q => k1 b o (S.off_get q), S.frL, fun p hp => ⟨(S.own p hp).1, (S.own p hp).2.1, (S.off_own hp).keep fun o q => k1 _ o q⟩, S.nd, ⟨m, hu.ns (h0.outs (X.L, m) (.head _)).1, hml⟩, S.nl, h0.gens, h0.oss,
      fun q hq => ⟨hu.ns (h0.outs q (.tail _ hq)).1, (S.outs q hq).2⟩, S.apart⟩, X.off s.heap, t, k2, fun b o q => S.off_get q, fun p hp => S.off_own hp, hideAll_none _ (.head _), fun q hq => hideAll_none _ (.tail _ (List.mem_map.mpr ⟨q, hq, rfl⟩))⟩
  refine wpR_of ?_
  rcases hr with ⟨oe, vs, t, he, hc, hd, hv0, hv1⟩ | ⟨t, ht⟩
  · refine wpAny_leaving_firstW (base := X.off s.heap) F'.stack (h0.frames F') F'.fr he h0.stay h0.new hd hv1 hv0 fun h' hL => ?_
    obtain ⟨k1, ⟨_, _, k2⟩, k3, k4⟩ := hL
    rw [hc] at k3
    exact fin h' t k1 ⟨k1, h0.new, k2, k3⟩ k4
  · unfold leaving
    refine wpAny_bind (wpAny_noteFrame_againW F'.fr ht (wpAny_landsW ⟨h0.stay, h0.new, h0.frames F', ht⟩ fun h' hfl hup => ?_))
    obtain ⟨k1, k2, ⟨_, _, k3⟩, k4⟩ := hfl
    exact fin h' t k1 ⟨k1, k2, k3, k4⟩ hup

theorem wpR_Try_except {body orelse : List Stmt} {h₀ : ExceptHandler} {hs : List ExceptHandler} {pos : Pos} {prog : Program} {w : World} {A : Around} {E : Value → Shared → Prop} {Q : Flow → Shared → Prop}
    (h : wpR (model prog w) A (execs body env) (fun f s₁ => match f with | .next => wpR (model prog w) A (execs orelse env) Q E s₁ | f => Q f s₁)
      (fun e s₁ => wpR (model prog w) A (noteFrame e env) (fun _ s₂ => wpR (model prog w) A (setFlight e none) (fun _ s₃ => wpR (model prog w) A (handleBy e env (h₀ :: hs)) Q E s₃) E s₂) E s₁) s) :
    wpR (model prog w) A (exec (.Try body (h₀ :: hs) orelse [] pos) env) Q E s := by
  rw [arm_exec_Try]
  refine wpR_bind (wpR_standAt ?_)
  unfold tryStmt
  simp only [List.isEmpty_nil, if_true, List.isEmpty_cons, Bool.false_and, Bool.false_eq_true, if_false]
  refine wpR_bind (wpR_attempt (wpR_mono h (fun f s₁ h₁ => ?_) fun e s₁ h₁ => ?_))
  · cases f <;> first | exact h₁ | exact wpR_pure h₁
  · exact wpR_bind (wpR_mono h₁ (fun _ _ h₂ => wpR_bind h₂) fun _ _ x => x)

/-- try: body  except X: suite, for the text's own exception class -/
theorem Try' {body : List Stmt} {b₀ : Stmt} {suite : List Stmt} {x : Str} {np hpos pos : Pos} {bm : List Value} {newId : String} {mg : Str → Option Value} {Q : Fl → St → Prop} (F : FrOk X (envOf nm sc X.L a cd) fs)
    (O : OwnClsQ x C bm newId mg X.B) (hg : X.B.Ns mainGlobals mg) (hbm : bm.contains (.type "BaseException") = true)
    (hb : TF X ro (Thr X ro st (envOf nm sc X.L a cd) fs C) st (execs body (envOf nm sc X.L a cd)) Q)
    (hs : ∀ e R s, Sat X ro st R s → wpAny (model X.prog X.w) (X.A.mark (some (.ref e))) (execs (b₀ :: suite) (envOf nm sc X.L a cd)) (fun f s' => ∃ g st', Fl.Is g f ∧ Sat X ro st' R s' ∧ Q g st') (fun _ _ => False) s)
    (hk : sc.kind = .function := by rfl) (hx : (envOf nm sc X.L a cd).kindOf x = some .globalImplicit := by rfl) (hd : (x == ("__debug__" : Str)) = false := by decide) :
    TF X ro E st (exec (.Try body [.ExceptHandler (some (.Name x np)) none (b₀ :: suite) hpos] [] [] pos) (envOf nm sc X.L a cd)) Q := fun R s S => by
  refine wpR_Try_except (wpR_mono (hb R s S) (fun f s₁ h₁ => ?_) fun e s₁ h₁ => ?_)
  · obtain ⟨g, st', hg', S', hq⟩ := h₁
    cases g with
    | next => cases hg'; exact wpR_of (wpAny_execs_nil ⟨.next, st', rfl, S', hq⟩)
    | brk => cases hg'; exact ⟨.brk, st', rfl, S', hq⟩
    | cont => cases hg'; exact ⟨.cont, st', rfl, S', hq⟩
    | ret u => obtain ⟨v, rfl, hv⟩ := hg'; exact ⟨.ret u, st', ⟨v, rfl, hv⟩, S', hq⟩
  · obtain ⟨e, rfl, S₁, B, t, hfl, hRB, hOB, hLB, hXB⟩ := h₁
    have slot : ∀ (s₂ : Shared) (h' : Heap), Sat X ro st R s₂ → B.StaysIn h' → s₂.heap.UpToSlots h' → Sat X ro st R { s₂ with heap := h' } := fun s₂ h' S₂ k1 hu =>
      ⟨S₂.base, S₂.ros, fun b o q => k1 b o (hRB b o q), S₂.frL, fun p hp => ⟨(S₂.own p hp).1, (S₂.own p hp).2.1, (hOB p hp).keep fun o q => k1 _ o q⟩, S₂.nd, let ⟨m, hm, hl⟩ := S₂.ns; ⟨m, hu.ns hm, hl⟩, S₂.nl, S₂.gens, S₂.oss, fun q hq => ⟨hu.ns (S₂.outs q hq).1, (S₂.outs q hq).2⟩, S₂.apart⟩
    refine wpR_of (wpAny_looks_onW F.stack F.fr hfl fun h₄ hheld hsm₄ => ?_)
    have S₄ := slot s₁ h₄ S₁ hheld.1 hsm₄
    refine wpR_of (wpAny_landsW hheld fun h₅ hfl₅ hsm₅ => ?_)
    have S₅ := slot _ h₅ S₄ hfl₅.1 hsm₅
    obtain ⟨ob, hob, hobc⟩ := hfl₅.there
    refine wpR_of (handleBy_own (C := C) (x := x) hbm (Name_function_global hk hx (loadGlobal_global (env := envOf nm sc X.L a cd) (hg.keeps S₅.keepB) O.bound ⟨rfl, O.keeps S₅.keepB, ⟨ob, hob, hobc⟩, ?_⟩) hd))
    refine lands_againW hfl₅ fun h₆ hfl₆ hsm₆ => ?_
    have S₆ := slot _ h₆ S₅ hfl₆.1 hsm₆
    exact wpAny_mono (hs e R _ S₆) (fun _ _ h => h) fun _ _ h => h.elim
theorem suite_ret_none {p1 pos : Pos} {k : Nat} {Q : Fl → St → Prop} (hq : Q (.ret .none) st) :
    ∀ e R s, Sat X ro st R s → wpAny (model X.prog X.w) (X.A.mark (some (.ref e))) (execs [.Return (some (.Constant .none k p1)) pos] env) (fun f s' => ∃ g st', Fl.Is g f ∧ Sat X ro st' R s' ∧ Q g st') (fun _ _ => False) s := by
  intro e R s S
  refine wpAny_execs_cons (wpAny_Return_some (wpAny_Constant_none ?_))
  exact ⟨.ret .none, st, ⟨.none, rfl, rfl⟩, S, hq⟩
end
end Mine
end
section
open PySem PySem.W PyProof.Rows PySem.Calls
open PySem.Sem (wp)
set_option Elab.async false
set_option maxRecDepth 100000
set_option linter.unusedVariables false
set_option linter.deprecated false
namespace Mine
/-- weaker posts -/
theorem TT.post {X : Cx} {ro : Led} {E : Er} {st : St} {α β : Type} {rel : β → α → Prop} {t : Sem α} {Q Q' : β → St → Prop} (h : TT X ro E rel st t Q)
    (hQ : ∀ b st' R s, Sat X ro st' R s → Q b st' → ∃ st'', Sat X ro st'' R s ∧ Q' b st'') : TT X ro E rel st t Q' :=
  fun R s S => wpR_mono (h R s S) (fun _ _ ⟨b, st', h1, h2, h3⟩ => let ⟨st'', h4, h5⟩ := hQ b st' _ _ h2 h3; ⟨b, st'', h1, h4, h5⟩) fun _ _ e => e
theorem TT.post_own {X : Cx} {ro : Led} {E : Er} {st : St} {α β : Type} {rel : β → α → Prop} {t : Sem α} {Q Q' : β → St → Prop} (h : TT X ro E rel st t Q)
    (hQ : ∀ b st', Q b st' → ∃ own', own'.Sublist st'.own ∧ Q' b { st' with own := own' }) : TT X ro E rel st t Q' :=
  h.post fun b st' R s S q => let ⟨own', h1, h2⟩ := hQ b st' q; ⟨_, S.sub h1, h2⟩
section
variable {X : Cx} {ro : Led} {E : Er} {st : St} {nm : Str} {sc : Scope} {a : Addr} {cd : Value} {env : Env} {R : Heap} {s : Shared}
theorem Sat.add (S : Sat X ro st R s) {b : Addr} {c : Cell} (h1 : R.get? b = none) (h2 : b ≠ X.L) (h3 : b ∉ st.own.map (·.1)) (h4 : ∀ q ∈ X.outs, b ≠ q.1) (hc : At s.heap b c) : Sat X ro { st with own := (b, c) :: st.own } R s where
  base := S.base
  ros := S.ros
  fr := S.fr
  frL := S.frL
  own := fun p hp => by
    rcases List.mem_cons.mp hp with rfl | hp
    · exact ⟨h1, h2, hc⟩
    · exact S.own p hp
  nd := by simp only [List.map_cons, List.nodup_cons]; exact ⟨h3, S.nd⟩
  ns := S.ns
  nl := S.nl
  gens := S.gens
  oss := S.oss
  outs := S.outs
  apart := fun p hp q hq => by
    rcases List.mem_cons.mp hp with rfl | hp
    · exact h4 q hq
    · exact S.apart p hp q hq
/-- a loop whose items are seen in the heap (tuples that are unpacked at once) -/
theorem for_coreT {target : Expr} {body : List Stmt} {it : Value} {fp : List Addr} (Z : Nat → Heap → Prop) (n : Nat) (It : Nat → Value → Heap → Prop) (J : Nat → St → Prop) {Q : Fl → St → Prop}
    (hE : ErOk X env E) (S : Sat X ro st R s) (hz : Z 0 s.heap) (hj : J 0 st) (hR : ∀ b ∈ fp, R.get? b = none) (hL : X.L ∉ fp) (hX : ∀ q ∈ X.outs, q.1 ∉ fp) (hO : ∀ p ∈ st.own, p.1 ∉ fp)
    (live : ∀ i h, Z i h → ∀ b ∈ fp, ∃ o, h.get? b = some o)
    (frame : ∀ i h h', Z i h → (∀ b ∈ fp, ∀ o, h.get? b = some o → h'.get? b = some o) → Z i h')
    (next : ∀ i st' R' s' (P : Value → Shared → Prop) (E' : Value → Shared → Prop), i < n → Sat X ro st' R' s' → J i st' → Z i s'.heap → (∀ p ∈ st'.own, p.1 ∉ fp) →
      (∀ v h' tk, It i v h' → Z (i + 1) h' → (∀ b o, b ∉ fp → s'.heap.get? b = some o → h'.get? b = some o) → P v { s' with heap := h', toks := tk }) →
      wpAny (model X.prog X.w) X.A (pyNext it) (fun r s₁ => ∃ v, r = some v ∧ wpAny (model X.prog X.w) X.A (letOwnedTupleGo target it v) (fun _ s₂ => P v s₂) E' s₁) E' s')
    (stop : ∀ st' R' s' (P : Option Value → Shared → Prop) (E' : Value → Shared → Prop), Sat X ro st' R' s' → J n st' → Z n s'.heap → (∀ p ∈ st'.own, p.1 ∉ fp) →
      (∀ h' tk, (∀ b o, b ∉ fp → s'.heap.get? b = some o → h'.get? b = some o) → P none { s' with heap := h', toks := tk }) →
      wpAny (model X.prog X.w) X.A (pyNext it) P E' s')
    (turn : ∀ i st' v R s, i < n → J i st' → It i v s.heap → Sat X ro st' R s → wpR (model X.prog X.w) X.A (assign target env v) (fun _ s₂ => ∃ st₂, Sat X ro st₂ R s₂ ∧ TF X ro E st₂ (execs body env) (LoopQ Q (J (i + 1)))) (E R) s)
    (done : ∀ st', J n st' → Q .next st') :
    codeR (model X.prog X.w) X.A (.forLoop target it body [] env) (fun r s' => match r with | .ok f => ∃ g st', Fl.Is g f ∧ Sat X ro st' R s' ∧ Q g st' | .error e => cameBackR (model X.prog X.w) X.A env (E R) e s') s := by
  refine codeR_forLoop (fun k s' => ∃ i st', k = n - i ∧ i ≤ n ∧ Sat X ro st' R s' ∧ J i st' ∧ Z i s'.heap ∧ (∀ p ∈ st'.own, p.1 ∉ fp)) ?_ n ⟨0, st, by omega, by omega, S, hj, hz, hO⟩
  rintro k s' ⟨i, st', rfl, hi, S', hJ, hZ, hO'⟩
  by_cases hlt : i < n
  · refine wpR_mono (wpR_of (next i st' R s' (fun v s₂ => wpR (model X.prog X.w) X.A (assign target env v) (fun _ s₂ => wpR (model X.prog X.w) X.A (execs body env) (fun f s₃ => match f with
          | .next | .cont => ∃ m, m < n - i ∧ (∃ i st', m = n - i ∧ i ≤ n ∧ Sat X ro st' R s₃ ∧ J i st' ∧ Z i s₃.heap ∧ (∀ p ∈ st'.own, p.1 ∉ fp))
          | .brk => ∃ g st', Fl.Is g .next ∧ Sat X ro st' R s₃ ∧ Q g st'
          | .ret v => ∃ g st', Fl.Is g (.ret v) ∧ Sat X ro st' R s₃ ∧ Q g st') (notedR (model X.prog X.w) X.A env fun e s' => cameBackR (model X.prog X.w) X.A env (E R) e s') s₂) (notedR (model X.prog X.w) X.A env fun e s' => cameBackR (model X.prog X.w) X.A env (E R) e s') s₂)
        (notedR (model X.prog X.w) X.A env fun e s' => cameBackR (model X.prog X.w) X.A env (E R) e s') hlt S' hJ hZ hO' fun v h' tk hv hZ' hk => ?_)) (fun r s₁ h₁ => ?_) fun _ _ x => x
    · have S₁ : Sat X ro st' R { s' with heap := h', toks := tk } := S'.off hR hL hX hO' hk
      have inR : ∀ b ∈ fp, ∃ o, (st'.hid X h').get? b = some o ∧ h'.get? b = some o := fun b hb => by
        obtain ⟨o, ho⟩ := live _ _ hZ' b hb
        refine ⟨o, hideAll_get _ ho fun hm => ?_, ho⟩
        rcases List.mem_cons.mp hm with e | hm
        · exact hL (e ▸ hb)
        · rcases List.mem_append.mp hm with hm | hm
          · obtain ⟨p, hp, rfl⟩ := List.mem_map.mp hm
            exact hO' p hp hb
          · obtain ⟨p, hp, rfl⟩ := List.mem_map.mp hm
            exact hX p hp hb
      refine wpR_mono (turn i st' v _ _ hlt hJ hv S₁.widen) (fun _ s₂ h₂ => ?_) fun e s₂ h₂ => hE.2 R e s₂ (hE.1 R _ e s₂ S₁.wide h₂)
      obtain ⟨st₂, S₂, h₂⟩ := h₂
      refine wpR_mono (h₂ _ _ S₂) (fun f s₃ h₃ => ?_) fun e s₃ h₃ => hE.2 R e s₃ (hE.1 R _ e s₃ S₁.wide h₃)
      obtain ⟨g, st₃, hg, S₃, hq⟩ := h₃
      have S₃' : Sat X ro st₃ R s₃ := S₃.narrow S'.base S'.ros S₁.wide
      have hZ₃ : Z (i + 1) s₃.heap := frame _ _ _ hZ' fun b hb o ho => by
        obtain ⟨o', h1, h2⟩ := inR b hb
        rw [h2] at ho; cases ho
        exact S₃.fr _ _ h1
      have hO₃ : ∀ p ∈ st₃.own, p.1 ∉ fp := fun p hp hb => by
        obtain ⟨o', h1, _⟩ := inR _ hb
        rw [(S₃.own p hp).1] at h1; cases h1
      cases g with
      | next => cases hg; exact ⟨n - (i + 1), by omega, i + 1, st₃, rfl, hlt, S₃', hq, hZ₃, hO₃⟩
      | cont => cases hg; exact ⟨n - (i + 1), by omega, i + 1, st₃, rfl, hlt, S₃', hq, hZ₃, hO₃⟩
      | brk => cases hg; exact ⟨.next, st₃, rfl, S₃', hq⟩
      | ret u => obtain ⟨v, rfl, hv⟩ := hg; exact ⟨.ret u, st₃, ⟨v, rfl, hv⟩, S₃', hq⟩
    · obtain ⟨v, rfl, h₂⟩ := h₁
      exact wpR_of h₂
  · obtain rfl : i = n := by omega
    refine wpR_of (stop st' R s' _ _ S' hJ hZ hO' fun h' tk hk => wpR_of (wpAny_execs_nil ?_))
    exact ⟨.next, st', rfl, S'.off hR hL hX hO' hk, done st' hJ⟩

/-- x, y = a tuple of two -/
theorem assign_pair {x y : Str} {p1 p2 pos : Pos} {k : Nat} {T : Addr} {v1 v2 : Value} {u u' w w' : V} {l1 l2 : List (Str × V)} (hh : X.A.handled = none) (S : Sat X ro st R s) (ht : s.heap.IsTuple T #[v1, v2])
    (U1 : Put x u u' st.loc l1) (U2 : Put y w w' l1 l2) (h1 : u'.Is v1) (h2 : w'.Is v2)
    (hk : sc.kind = .function := by rfl) (hx : (envOf nm sc X.L a cd).kindOf x = some .local := by rfl) (hy : (envOf nm sc X.L a cd).kindOf y = some .local := by rfl) :
    wpR (model X.prog X.w) X.A (assign (.Tuple [.Name x p1, .Name y p2] k pos) (envOf nm sc X.L a cd) (.ref T)) (fun _ s₂ => Sat X ro { st with loc := l2 } R s₂) (E R) s := by
  refine wpR_of (wpAny_assign_Tuple hh ht rfl rfl fun h' hx' => ?_)
  have S₁ : Sat X ro st R { s with heap := h' } := S.keeps (tk := s.toks) fun b o e => hx' b o (Nat.ne_of_lt (Heap.lt_size e)) e
  have kn : (sc.kind == .class || (sc.kind == .module && X.L != mainGlobals)) = false := by rw [hk]; rfl
  show wpAny _ _ (do holding [v2] (assign (.Name x p1) (envOf nm sc X.L a cd) v1); assignInOrder [assign (.Name y p2) (envOf nm sc X.L a cd)] [v2]) _ _ _
  obtain ⟨m, hm, _⟩ := S₁.ns
  refine wpAny_bind (wpAny_holding (wpAny_assign_Name (wpAny_storeName_local hx hm (fun h₁ hn hs => ?_) kn)))
  have S₂ : Sat X ro { st with loc := l1 } R { s with heap := h₁, toks := s.toks + 1 } := S₁.put (v := v1) U1 h1 (fun m' hm' => by
    have : m' = m := by rw [hm'.eq_nsMap, hm.eq_nsMap]
    subst this; exact hn) hs
  obtain ⟨m₂, hm₂, _⟩ := S₂.ns
  show wpAny _ _ (do holding [] (assign (.Name y p2) (envOf nm sc X.L a cd) v2); pure ()) _ _ _
  refine wpAny_bind (wpAny_holding (wpAny_assign_Name (wpAny_storeName_local hy hm₂ (fun h₂ hn₂ hs₂ => ?_) kn)))
  exact wpAny_pure (S₂.put (v := v2) U2 h2 (fun m' hm' => by
    have : m' = m₂ := by rw [hm'.eq_nsMap, hm₂.eq_nsMap]
    subst this; exact hn₂) hs₂)

/-- for x, y in enumerate(list) -/
theorem for_enum {x y : Str} {p1 p2 pos : Pos} {k : Nat} {body : List Stmt} {l : Addr} {us : List V} (J : Nat → St → Prop) {Q : Fl → St → Prop} (hE : ErOk X (envOf nm sc X.L a cd) E) (hh : X.A.handled = none)
    (hl : ∀ i st', J i st' → Kn ro st' l (.list us)) (hj : J 0 st)
    (turn : ∀ i st' w, us[i]? = some w → J i st' → ∃ u u₀ l1 l2, Put x u (.int i) st'.loc l1 ∧ Put y u₀ w l1 l2 ∧ TF X ro E { st' with loc := l2 } (execs body (envOf nm sc X.L a cd)) (LoopQ Q (J (i + 1))))
    (done : ∀ st', J us.length st' → Q .next st')
    (hk : sc.kind = .function := by rfl) (hx : (envOf nm sc X.L a cd).kindOf x = some .local := by rfl) (hy : (envOf nm sc X.L a cd).kindOf y = some .local := by rfl) :
    OpN X ro E (fun vs => call (.type "enumerate") vs) [.ref l] st fun u st₁ => ForOver X ro E (envOf nm sc X.L a cd) (.Tuple [.Name x p1, .Name y p2] k pos) body Q u st₁ := by
  rintro vs (_ | ⟨rfl, (_ | _)⟩) R s S
  obtain ⟨ws, hL, hw⟩ := (S.at (hl 0 st hj)).isList
  refine wpR_of (call_enumerate_list hL fun h₁ he hit hsz hk₁ => ?_)
  obtain ⟨oi, hoi, hci, hdi⟩ := hit
  have nR : ∀ {i : Addr}, s.heap.objs.size ≤ i → R.get? i = none := fun hi => by
    cases e : R.get? _ with
    | none => rfl
    | some o => exact absurd (Heap.lt_size (S.fr _ _ e)) (Nat.not_lt.mpr hi)
  have S₁ : Sat X ro { st with own := (s.heap.objs.size, .obj oi) :: st.own } R { s with heap := h₁ } := S.alloc (tk := s.toks) (size_none _) ⟨oi, hoi, rfl⟩ hk₁
  have S₂ := S₁.add (b := s.heap.objs.size + 1) (c := .obj { cls := .type "enumerate", dict := none, data := .fields #[.none, .bool false, .ref s.heap.objs.size, rawInt 0, .none, .none], slots := #[] }) (nR (Nat.le_succ _))
    (Nat.ne_of_gt (Nat.lt_succ_of_lt S.lt)) (by
      intro hm
      rcases List.mem_cons.mp hm with e | hm
      · exact absurd e (Nat.succ_ne_self _)
      · obtain ⟨p, hp, e⟩ := List.mem_map.mp hm
        have := (S.own p hp).2.2.lt
        rw [e] at this
        exact absurd this (Nat.not_lt.mpr (Nat.le_succ _))) (fun q hq e => by
      obtain ⟨o, _, _, ho, _⟩ := (S.outs q hq).1
      have := Heap.lt_size ho
      rw [← e] at this
      exact absurd this (Nat.not_lt.mpr (Nat.le_succ _))) ⟨_, he, rfl⟩
  refine ⟨.ref (s.heap.objs.size + 1), _, rfl, S₂, ?_⟩
  clear S₂ S₁ he hoi
  have hsz1 := S.lt
  have hnl : l < s.heap.objs.size := by obtain ⟨o, ho, _⟩ := hL; exact Heap.lt_size ho
  have hne1 : s.heap.objs.size + 1 ≠ s.heap.objs.size := Nat.succ_ne_self _
  generalize s.heap.objs.size + 1 = ee at hne1 ⊢
  generalize s.heap.objs.size = ii at hne1 hdi ⊢
  rintro v rfl R s₂ S₂
  obtain ⟨_, hoe, e⟩ := S₂.at_own Has.head
  cases e
  obtain ⟨_, hoi, e⟩ := S₂.at_own (Has.tail Has.head)
  cases e
  have hRe := (S₂.own _ (Has.head).mem).1
  have hRi := (S₂.own _ (Has.tail Has.head).mem).1
  have hLe := (S₂.own _ (Has.head).mem).2.1
  have hLi := (S₂.own _ (Has.tail Has.head).mem).2.1
  have hXe := S₂.apart _ (Has.head).mem
  have hXi := S₂.apart _ (Has.tail Has.head).mem
  have hnd := S₂.nd
  have S₃ := S₂.sub (own' := st.own) ((List.sublist_cons_self _ _).trans (List.sublist_cons_self _ _))
  simp only [List.map_cons, List.nodup_cons, List.mem_cons, not_or] at hnd
  refine wpR_of (wpAny_pyIter_enum hoe ?_)
  refine for_coreT (fp := [ee, ii]) (fun i h => (∃ old, IsEnum h ee ii i old) ∧ h.IsListIter ii l i) us.length
    (fun i v h => ∃ T t x, v = .ref T ∧ h.IsTuple T #[.int i t, x] ∧ (us.getD i .unk).Is x) J hE S₃ ⟨⟨_, hoe⟩, _, hoi, hci, hdi⟩ hj ?_ ?_ ?_ ?_ ?_ ?_ ?_ ?_ ?_ done
  · intro b hb
    rcases List.mem_cons.mp hb with rfl | hb
    · exact hRe
    · rw [List.mem_singleton.mp hb]; exact hRi
  · intro hm
    rcases List.mem_cons.mp hm with e | hm
    · exact hLe e.symm
    · exact hLi (List.mem_singleton.mp hm).symm
  · intro q hq hm
    rcases List.mem_cons.mp hm with e | hm
    · exact hXe q hq e.symm
    · exact hXi q hq (List.mem_singleton.mp hm).symm
  · intro p hp hm
    rcases List.mem_cons.mp hm with e | hm
    · exact hnd.1.2 (e ▸ List.mem_map.mpr ⟨p, hp, rfl⟩)
    · exact hnd.2.1 (List.mem_singleton.mp hm ▸ List.mem_map.mpr ⟨p, hp, rfl⟩)
  · rintro i h ⟨⟨old, h1⟩, o, h2, _⟩ b hb
    rcases List.mem_cons.mp hb with rfl | hb
    · exact ⟨_, h1⟩
    · rw [List.mem_singleton.mp hb]; exact ⟨o, h2⟩
  · rintro i h h' ⟨⟨old, h1⟩, h2⟩ hk
    exact ⟨⟨old, hk _ (.head _) _ h1⟩, h2.at fun o e => hk _ (.tail _ (.head _)) o e⟩
  · rintro i st' R' s' P E' hi S' hJ ⟨⟨old, h1⟩, h2⟩ hO hP
    obtain ⟨ws', hL', hw'⟩ := (S'.at (hl i st' hJ)).isList
    have hn' : us.length = ws'.size := by simpa using hw'.length
    have hle : l ≠ ee ∧ l ≠ ii := by
      obtain ⟨o, ho, hc, n, hd⟩ := hL'
      obtain ⟨o2, ho2, _, hd2⟩ := h2
      exact ⟨fun e => (by rw [e, h1] at ho; cases ho; cases hd), fun e => (by rw [e, ho2] at ho; cases ho; rw [hd2] at hd; cases hd)⟩
    have W := WalksT.enumerate (prog := X.prog) (w := X.w) (A := X.A) hh ee ii l hne1 hle.1 hle.2 ws'
    refine W.item i s' _ _ (by omega) ⟨⟨old, h1⟩, h2, hL'⟩ fun T vals h' tk hPt hT hTup hMid hk => ⟨.ref T, rfl, ?_⟩
    obtain ⟨t, x, hx, rfl⟩ := hPt
    refine W.go _ _ _ i T { s' with heap := h', toks := tk } _ _ hMid fun h'' hSt hk' => ?_
    have hTw := W.apart i T h' hMid
    refine hP (.ref T) h'' tk ⟨T, t, x, rfl, ?_, ?_⟩ ⟨hSt.1, hSt.2.1⟩ fun b o hb e => hk' b o hb (hk b o hb e)
    · obtain ⟨o, ho, r⟩ := hTup; exact ⟨o, hk' _ _ hTw ho, r⟩
    · rw [← Array.getElem?_toList] at hx
      obtain ⟨u, hu, hi'⟩ := hw'.get' hx
      rw [List.getD_eq_getElem?_getD, hu]; exact hi'
  · rintro st' R' s' P E' S' hJ ⟨⟨old, h1⟩, h2⟩ hO hP
    obtain ⟨ws', hL', hw'⟩ := (S'.at (hl _ st' hJ)).isList
    have hn' : us.length = ws'.size := by simpa using hw'.length
    exact wpAny_pyNext_enum_end hh h1 h2 hL' (Array.getElem?_eq_none (by omega)) fun h' hx => hP h' s'.toks fun b o hb y => hx b o (fun e' => hb (by simp [e'])) y
  · rintro i st' v R s hi hJ ⟨T, t, x', rfl, hTup, hu⟩ S'
    have hxi : us[i]? = some us[i] := List.getElem?_eq_getElem hi
    rw [List.getD_eq_getElem?_getD, hxi] at hu
    obtain ⟨u, u₀, l1, l2, U1, U2, hb⟩ := turn i st' us[i] hxi hJ
    exact wpR_mono (assign_pair (E := E) hh S' hTup U1 U2 ⟨t, rfl⟩ hu hk hx hy) (fun _ s₂ S₂ => ⟨_, S₂, hb⟩) fun _ _ e => e
end
end Mine
end
section
open PySem PySem.W PyProof.Rows PySem.Calls
open PySem.Sem (wp)
set_option Elab.async false
set_option maxRecDepth 100000
set_option linter.unusedVariables false
set_option linter.deprecated false
namespace Mine
section
variable {X : Cx} {ro : Led} {E : Er} {st : St} {nm : Str} {sc : Scope} {a : Addr} {cd : Value} {env : Env} {R : Heap} {s : Shared}
theorem in_ints' {l : Addr} {n : Int} {ns : List Int} {Q : V → St → Prop} (hl : Kn ro st l (.ints ns)) (hq : Q (.bool (decide (n ∈ ns))) st) : Op2 X ro E (compareOp .In) (.int n) (.ref l) st Q := by
  rintro v w ⟨t, rfl⟩ rfl R s S
  obtain ⟨ws, hL, hw⟩ := (S.at hl).isList
  rw [← Array.toArray_toList (xs := ws)] at hL
  refine wpR_of (in_list_ints hL hw.ints ⟨.bool (decide (n ∈ ns)), st, ?_, S, hq⟩)
  show Value.bool _ = Value.bool _
  congr 1
  rw [Bool.eq_iff_iff]
  simp [List.any_eq_true]
theorem is_none_none {Q : V → St → Prop} (hq : Q (.bool true) st) : Op2 X ro E (compareOp .Is) .none .none st Q := by
  rintro v w rfl rfl R s S
  exact wpR_of (wpAny_is_plain rfl ⟨.bool true, st, rfl, S, hq⟩)
theorem is_bytes_none {ns : List Int} {Q : V → St → Prop} (hq : Q (.bool false) st) : Op2 X ro E (compareOp .Is) (.bytes ns) .none st Q := by
  rintro v w ⟨b, t, rfl, hb⟩ rfl R s S
  exact wpR_of (wpAny_is_plain rfl ⟨.bool false, st, rfl, S, hq⟩)
theorem isnot_none_none {Q : V → St → Prop} (hq : Q (.bool false) st) : Op2 X ro E (compareOp .IsNot) .none .none st Q := by
  rintro v w rfl rfl R s S
  exact wpR_of (wpAny_isNot_plain rfl ⟨.bool false, st, rfl, S, hq⟩)
theorem isnot_bytes_none {ns : List Int} {Q : V → St → Prop} (hq : Q (.bool true) st) : Op2 X ro E (compareOp .IsNot) (.bytes ns) .none st Q := by
  rintro v w ⟨b, t, rfl, hb⟩ rfl R s S
  exact wpR_of (wpAny_isNot_plain rfl ⟨.bool true, st, rfl, S, hq⟩)
theorem add_ints' {l b : Addr} {ns ms : List Int} {Q : V → St → Prop} (hl : Kn ro st l (.ints ns)) (hb : Kn ro st b (.ints ms)) (hsz : ns.length + ms.length ≤ 16777216)
    (hq : ∀ l', Q (.ref l') { st with own := (l', .ints (ns ++ ms)) :: st.own }) : Op2 X ro E (binaryOp .Add) (.ref l) (.ref b) st Q := by
  refine add_list' hl hb (by rw [List.length_map, List.length_map]; exact hsz) fun l' => ?_
  have := hq l'
  rw [Cell.ints, List.map_append] at this
  exact this

end
/-- states up to dropped and reordered objects -/
def Upto (J : St → Prop) (st : St) : Prop := ∃ (own₁ own' : Led), own₁.Sublist st.own ∧ own₁.Perm own' ∧ J ⟨st.loc, own'⟩
theorem Upto.of {J : St → Prop} {st : St} (h : J st) : Upto J st := ⟨_, _, .refl _, .refl _, h⟩
section
variable {X : Cx} {ro : Led} {E : Er} {st : St} {R : Heap} {s : Shared}
theorem Sat.upto {J : St → Prop} (S : Sat X ro st R s) (h : Upto J st) : ∃ st', Sat X ro st' R s ∧ J st' :=
  let ⟨own₁, own', h1, h2, h3⟩ := h; ⟨_, (S.sub h1).perm h2, h3⟩
theorem loop_upto {t : Sem Flow} {Q : Fl → St → Prop} {J : St → Prop} (h : TF X ro E st t (LoopQ Q (Upto J))) : TF X ro E st t (LoopQ Q J) := h.post fun f st' R s S q => by
  cases f with
  | next => exact S.upto (J := J) q
  | cont => exact S.upto (J := J) q
  | brk => exact ⟨st', S, q⟩
  | ret u => exact ⟨st', S, q⟩
end
end Mine
end
section
open PySem PySem.W PyProof.Rows PySem.Calls
open PySem.Sem (wp)
set_option Elab.async false
set_option maxRecDepth 100000
set_option linter.unusedVariables false
set_option linter.deprecated false
namespace Mine
section
variable {X : Cx} {ro : Led} {E : Er} {st : St} {R : Heap} {s : Shared}
/-- own objects that are only read from now on -/
theorem TT.freeze {α β : Type} {rel : β → α → Prop} {t : Sem α} {Q : β → St → Prop} {loc : List (Str × V)} {c own own' : Led} (hE : ∀ R R' e s, (∀ b o, R.get? b = some o → R'.get? b = some o) → E R' e s → E R e s) (hp : own'.Perm (c ++ own))
    (h : TT X (c ++ ro) E rel ⟨loc, own⟩ t Q) : TT X ro E rel ⟨loc, own'⟩ t Q := fun R s S => by
  have S1 : Sat X ro ⟨loc, c ++ own⟩ R s := S.perm hp
  have S2 : Sat X ro ⟨loc, own⟩ R s := S1.sub (List.sublist_append_right _ _)
  have hc : ∀ p ∈ c, At (St.hid X ⟨loc, own⟩ s.heap) p.1 p.2 := fun p hp => by
    obtain ⟨o, ho, hc⟩ := (S1.own p (List.mem_append_left _ hp)).2.2
    refine ⟨o, hideAll_get _ ho fun hm => ?_, hc⟩
    rcases List.mem_cons.mp hm with e | hm
    · exact (S1.own p (List.mem_append_left _ hp)).2.1 e
    rcases List.mem_append.mp hm with hm | hm
    · have hnd := S1.nd
      rw [List.map_append, List.nodup_append] at hnd
      exact hnd.2.2 p.1 (List.mem_map.mpr ⟨p, hp, rfl⟩) p.1 hm rfl
    · obtain ⟨q, hq, e⟩ := List.mem_map.mp hm
      exact S1.apart p (List.mem_append_left _ hp) q hq e.symm
  have W := S2.widen
  have S3 : Sat X (c ++ ro) ⟨loc, own⟩ (St.hid X ⟨loc, own⟩ s.heap) s :=
    ⟨W.base, fun p hp => (List.mem_append.mp hp).elim (hc p) (W.ros p), W.fr, W.frL, W.own, W.nd, W.ns, W.nl, W.gens, W.oss, W.outs, W.apart⟩
  refine wpR_mono (h _ s S3) (fun a s' h' => ?_) fun e s' h' => hE _ _ _ _ S2.wide h'
  obtain ⟨b, st', hb, S', hq⟩ := h'
  have S4 : Sat X [] st' (St.hid X ⟨loc, own⟩ s.heap) s' := ⟨S'.base, (fun p hp => nomatch hp), S'.fr, S'.frL, S'.own, S'.nd, S'.ns, S'.nl, S'.gens, S'.oss, S'.outs, S'.apart⟩
  have S5 := S4.narrow S.base (fun p hp => nomatch hp) S2.wide
  exact ⟨b, st', hb, ⟨S5.base, S.ros, S5.fr, S5.frL, S5.own, S5.nd, S5.ns, S5.nl, S5.gens, S5.oss, S5.outs, S5.apart⟩, hq⟩
end
end Mine
end
section
open PySem PySem.W PyProof.Rows PySem.Calls
open PySem.Sem (wp)
open PySem.Builtin.Bytes (decodersThatHold exported exportsOf checkResize payload payload? write byteValue slotIsOwn ownRelease buffer? takeBuffer? takeBufferQuiet? thenGiveBack tooLong)
set_option Elab.async false
set_option maxRecDepth 100000
set_option linter.unusedVariables false
set_option linter.deprecated false
namespace Mine
namespace B
theorem slot_iter : Slot "bytearray" "__iter__" "bytearray.__iter__" :=
  .of (owner := "bytearray") (n := "__iter__") (by rw [typeLookup_type, builtinLookup_eq_fast]; kernel_rfl) (by decide +kernel) (by decide +kernel) (by decide +kernel)
    (by first | exact .inl (by decide +kernel) | exact .inr (by decide +kernel)) (by rw [isSubtype_type]; kernel_rfl)
theorem entry_iter : entryFor table "bytearray.__iter__" = some Builtin.«bytearray.__iter__» := by first | exact entryFor_of_fast (by kernel_rfl) | exact entryFor_of_tree (by kernel_rfl)
theorem args_iter (a : Value) : argsOk "bytearray.__iter__" ⟨[a], []⟩ := by unfold argsOk; kernel_rfl
theorem slot_next : Slot "bytearray_iterator" "__next__" "bytearray_iterator.__next__" :=
  .of (owner := "bytearray_iterator") (n := "__next__") (by rw [typeLookup_type, builtinLookup_eq_fast]; kernel_rfl) (by decide +kernel) (by decide +kernel) (by decide +kernel)
    (by first | exact .inl (by decide +kernel) | exact .inr (by decide +kernel)) (by rw [isSubtype_type]; kernel_rfl)
theorem entry_next : entryFor table "bytearray_iterator.__next__" = some Builtin.«bytearray_iterator.__next__» := by first | exact entryFor_of_fast (by kernel_rfl) | exact entryFor_of_tree (by kernel_rfl)
theorem args_next (a : Value) : argsOk "bytearray_iterator.__next__" ⟨[a], []⟩ := by unfold argsOk; kernel_rfl
theorem slot_getitem : Slot "bytearray" "__getitem__" "bytearray.__getitem__" :=
  .of (owner := "bytearray") (n := "__getitem__") (by rw [typeLookup_type, builtinLookup_eq_fast]; kernel_rfl) (by decide +kernel) (by decide +kernel) (by decide +kernel)
    (by first | exact .inl (by decide +kernel) | exact .inr (by decide +kernel)) (by rw [isSubtype_type]; kernel_rfl)
theorem entry_getitem : entryFor table "bytearray.__getitem__" = some Builtin.«bytearray.__getitem__» := by first | exact entryFor_of_fast (by kernel_rfl) | exact entryFor_of_tree (by kernel_rfl)
theorem args_getitem (a b : Value) : argsOk "bytearray.__getitem__" ⟨[a, b], []⟩ := by unfold argsOk; kernel_rfl
end B
def IsBaIter (h : Heap) (it l : Addr) (i : Nat) : Prop := ∃ o, h.get? it = some o ∧ o.cls = .type "bytearray_iterator" ∧ o.data = .fields #[.ref l, .int i 0]
section
variable {prog : Program} {w : World} {A : Around} {E : Value → Shared → Prop} {s : Shared} {b : Array UInt8} {l : Addr}
theorem IsBaIter.typeIs {it : Addr} {i : Nat} (y : IsBaIter s.heap it l i) : s.TypeIs (.ref it) "bytearray_iterator" := let ⟨o, ho, hc, _⟩ := y; ⟨o, ho, hc⟩
theorem pyIter_ba {Q : Value → Shared → Prop} (hB : IsBa s.heap l b) (hQ : Q (.ref s.heap.objs.size) { s with heap := s.heap.push { cls := .type "bytearray_iterator", data := .fields #[.ref l, .int 0 0] } }) : wpAny (model prog w) A (pyIter (.ref l)) Q E s := by
  refine wpAny_pyIter_slot hB.typeIs B.slot_iter (wpAny_call_entry B.slot_iter hB.typeIs B.entry_iter ?_ (B.args_iter _))
  show wpAny _ _ (do ret (← newFields "bytearray_iterator" [.ref l, rawInt 0])) _ _ s
  exact wpAny_bind (wpAny_newObj_type (wpAny_pure ⟨_, rfl, "bytearray_iterator", _, ⟨_, Heap.get?_push_size _ rfl, rfl⟩, B.slot_next.lookup, hQ⟩))
theorem next_ba_item {it : Addr} {i : Nat} {c : UInt8} {Q : Option Value → Shared → Prop} (hit : IsBaIter s.heap it l i) (hB : IsBa s.heap l b) (hx : b[i]? = some c)
    (hQ : ∀ h', IsBaIter h' it l (i + 1) → Heap.SameBut it s.heap h' → Q (some (.int (c.toNat : Int) s.toks)) { s with heap := h', toks := s.toks + 1 }) : wpAny (model prog w) A (pyNext (.ref it)) Q E s := by
  obtain ⟨o, ho, hc, hd⟩ := id hit
  unfold pyNext
  refine wpAny_bind (wpAny_attempt (wpAny_callSpecial?_slot (name := Str.ofString "__next__") hit.typeIs B.slot_next
    (wpAny_call_entry B.slot_next hit.typeIs B.entry_next ?_ (B.args_next _))))
  show wpAny _ _ (field (.ref it) 0 >>= _) _ _ s
  refine wpAny_bind (wpAny_field ho hd (x := .ref l) rfl ?_)
  show wpAny _ _ (load l >>= _) _ _ s
  refine wpAny_bind (wpAny_load hB ?_)
  show wpAny _ _ (field (.ref it) 1 >>= _) _ _ s
  refine wpAny_bind (wpAny_field ho hd (x := .int i 0) rfl ?_)
  simp only [Int.toNat_natCast, hx]
  refine wpAny_bind (wpAny_setField ho hd (by simp) (wpAny_bind (wpAny_mkInt (wpAny_pure ⟨_, rfl, wpAny_pure (hQ _ ?_ (Heap.SameBut.update ..))⟩))))
  exact ⟨_, Heap.get?_update_self _ ho (Obj.isFreed_of_fields (Obj.data_mapFields hd _)), (Obj.cls_mapFields ..).trans hc, by
    rw [Obj.data_mapFields hd]; simp [rawInt]⟩
theorem next_ba_end {it : Addr} {i : Nat} {Q : Option Value → Shared → Prop} (hh : A.handled = none) (hit : IsBaIter s.heap it l i) (hB : IsBa s.heap l b) (hx : b[i]? = none)
    (hQ : ∀ h', Heap.ExtBut it s.heap h' → Q none { s with heap := h' }) : wpAny (model prog w) A (pyNext (.ref it)) Q E s := by
  obtain ⟨o, ho, hc, hd⟩ := id hit
  unfold pyNext
  refine wpAny_bind (wpAny_attempt (wpAny_callSpecial?_slot (name := Str.ofString "__next__") hit.typeIs B.slot_next
    (wpAny_call_entry B.slot_next hit.typeIs B.entry_next ?_ (B.args_next _))))
  show wpAny _ _ (field (.ref it) 0 >>= _) _ _ s
  refine wpAny_bind (wpAny_field ho hd (x := .ref l) rfl ?_)
  show wpAny _ _ (load l >>= _) _ _ s
  refine wpAny_bind (wpAny_load hB ?_)
  show wpAny _ _ (field (.ref it) 1 >>= _) _ _ s
  refine wpAny_bind (wpAny_field ho hd (x := .int i 0) rfl ?_)
  simp only [Int.toNat_natCast, hx]
  refine wpAny_bind (wpAny_rule (wpAny_bind (wpAny_setField ho hd (by simp) ?_)))
  refine wpAny_bind (wpAny_letGo ?_)
  show wpAny _ _ (newExc (.type "StopIteration") [] >>= _) _ _ _
  refine wpAny_bind ?_
  simp only [newExc, newTuple]
  refine wpAny_bind (wpAny_newObj_type ?_ (by size_fits))
  refine wpAny_bind (m := firstArgMember _ _) (wpAny_of_eq (a := Value.none) (by first | rfl | (simp only [firstArgMember]; rfl)) ?_)
  refine wpAny_newObj_type ?_ (by size_fits)
  simp only [raiseNew]
  refine wpAny_bind (wpAny_handled ?_)
  rw [show A.in1.handled = none from hh]
  refine wpAny_bind (wpAny_pure (wpAny_throw ?_))
  refine wpAny_bind (wpAny_isInstance (T := "StopIteration") (b := true) ⟨_, Heap.get?_push_size _ rfl, rfl⟩ isSubtype_stop ?_)
  exact wpAny_pure (hQ _ (((Heap.SameBut.update ..).extBut.push _).push _))
set_option maxHeartbeats 1000000 in
theorem slice_ba {a : Addr} {l' u : Value} {lo hi : Option Int} {Q : Value → Shared → Prop} (hB : IsBa s.heap l b) (hsz : b.size ≤ 16777216) (hs : s.heap.IsSliceOf a l' u .none) (hl : IsPart l' lo) (hu : IsPart u hi)
    (h : Q (.ref s.heap.objs.size) { s with heap := s.heap.push { cls := .type "bytearray", data := .bytearray (KBy.picked b lo hi) 0 } }) : wpAny (model prog w) A (getItem (.ref l) (.ref a)) Q E s := by
  refine getItem_meets (S := fun _ R s' => s' = s ∧ R (.ok (.ret (.ref s.heap.objs.size))) { s with heap := s.heap.push { cls := .type "bytearray", data := .bytearray (KBy.picked b lo hi) 0 } }) hB.typeIs (by decide) B.slot_getitem B.entry_getitem (B.args_getitem _ _) ?_ ⟨rfl, h⟩
  refine .of_wp fun prog w A R s' hS => ?_
  obtain ⟨rfl, h⟩ := hS
  obtain ⟨o, ho, hc, hd⟩ := hs
  have hT : s'.TypeIs (.ref a) "slice" := ⟨o, ho, hc⟩
  show wpAny _ _ (Builtin.Bytes.subscript? (.ref a) >>= fun r => _) _ _ s'
  refine wpAny_bind ?_
  unfold Builtin.Bytes.subscript?
  refine wpAny_bind (wpAny_specialOf hT slice_no_index (wpAny_pure ?_))
  refine wpAny_bind (wpAny_typeOf hT ?_)
  show wpAny _ _ (Builtin.Bytes.sliceParts (.ref a) >>= fun r => _) _ _ s'
  refine wpAny_bind ?_
  unfold Builtin.Bytes.sliceParts
  refine wpAny_bind (wpAny_field (x := .none) ho hd rfl ?_)
  kby_none
  refine wpAny_ite (KBy.ite_no (show ¬ ((Value.none == rawInt 0) = true) from Bool.false_ne_true) ?_)
  refine wpAny_bind (wpAny_field (x := l') ho hd rfl ?_)
  have hok : sizeOk (.bytearray (KBy.picked b lo hi) 0) := by
    show (KBy.picked b lo hi).size ≤ sizeLine
    rw [sizeLine_eq]; exact Nat.le_trans (KBc.size_picked_le b lo hi) hsz
  have go : wpAny (model prog w) A.in1 (sliceIndices (rawPart lo) (rawPart hi) (rawPart none) b.size) (fun r s₂ => r = sliceBounds lo hi none b.size ∧ s₂ = s') (fun _ _ => False) s' :=
    wpAny_of_eq (sliceIndices_raw lo hi none b.size (fun e => nomatch e)) ⟨rfl, rfl⟩
  cases hl <;> cases hu <;> (first
    | (kby_none; (refine wpAny_bind (wpAny_field (x := .none) ho hd rfl ?_)); kby_none)
    | (kby_none; (refine wpAny_bind (wpAny_field (x := .int _ _) ho hd rfl ?_)); kby_int)
    | (kby_int; (refine wpAny_bind (wpAny_field (x := .none) ho hd rfl ?_)); kby_none)
    | (kby_int; (refine wpAny_bind (wpAny_field (x := .int _ _) ho hd rfl ?_)); kby_int)) <;> refine wpAny_pure ?_
  all_goals
    refine wpAny_bind (payload_ba hB ?_)
    refine wpAny_bind (wpAny_mono go (fun r s₂ hr => ?_) fun _ _ e => e.elim)
    obtain ⟨hr1, hr2⟩ := hr
    subst hr1 hr2
    exact wpAny_bind (wpAny_newObj_type (wpAny_pure ⟨_, rfl, h⟩) hok)
end
end Mine
end
section
open PySem PySem.W PyProof.Rows PySem.Calls
open PySem.Sem (wp)
open PySem.Builtin.Bytes (decodersThatHold exported exportsOf checkResize payload payload? write byteValue slotIsOwn ownRelease buffer? takeBuffer? takeBufferQuiet? thenGiveBack tooLong)
set_option Elab.async false
set_option maxRecDepth 100000
set_option linter.unusedVariables false
set_option linter.deprecated false
namespace Mine
namespace B
theorem slot_self : Slot "bytearray_iterator" "__iter__" "bytearray_iterator.__iter__" :=
  .of (owner := "bytearray_iterator") (n := "__iter__") (by rw [typeLookup_type, builtinLookup_eq_fast]; kernel_rfl) (by decide +kernel) (by decide +kernel) (by decide +kernel)
    (by first | exact .inl (by decide +kernel) | exact .inr (by decide +kernel)) (by rw [isSubtype_type]; kernel_rfl)
theorem entry_self : entryFor table "bytearray_iterator.__iter__" = some Builtin.«dict_keyiterator.__iter__» := entryFor_alias (id' := "dict_keyiterator.__iter__") (by kernel_rfl) rfl (by decide +kernel) (by kernel_rfl)
theorem args_self (a : Value) : argsOk "bytearray_iterator.__iter__" ⟨[a], []⟩ := by unfold argsOk; kernel_rfl
theorem len_ba : typeLookup (.type "bytearray") "__len__" = pure (some (.builtin "bytearray.__len__")) := by rw [typeLookup_type, builtinLookup_eq_fast]; kernel_rfl
theorem index_list : typeLookup (.type "list") "__index__" = pure none := by rw [typeLookup_type, builtinLookup_eq_fast]; kernel_rfl
theorem buffer_list : typeLookup (.type "list") "__buffer__" = pure none := by rw [typeLookup_type, builtinLookup_eq_fast]; kernel_rfl
theorem sub_ba_str : isSubtype (.type "bytearray") (.type "str") = pure false := by rw [isSubtype_type]; kernel_rfl
end B
section
variable {prog : Program} {w : World} {A : Around} {E : Value → Shared → Prop} {s : Shared} {b : Array UInt8} {l : Addr}
theorem walks_ba (hh : A.handled = none) (I l : Addr) (hne : l ≠ I) (b : Array UInt8) :
    Walks prog w A I [I, l] [I] b.size (fun i v => ∃ c u, b[i]? = some c ∧ v = .int (c.toNat : Int) u) (fun i h => IsBaIter h I l i ∧ IsBa h l b) where
  sub := fun b hb => by simp at hb; simp [hb]
  frame := fun _ _ _ st hk => ⟨let ⟨o, ho, r⟩ := st.1; ⟨o, hk I (by simp) o ho, r⟩, hk l (by simp) _ st.2⟩
  item := fun i s Q E hi st hQ => by
    refine next_ba_item st.1 st.2 (c := b[i]) (by simp [hi]) fun h' hit' hs' => ?_
    exact hQ _ h' _ ⟨_, _, by simp [hi], rfl⟩ ⟨hit', hs'.extBut _ _ hne st.2⟩ fun b o hb e => hs'.extBut b o (fun h => hb (by simp [h])) e
  done := fun s Q E st hQ => next_ba_end hh st.1 st.2 (by simp) fun h' he' => hQ h' s.toks fun b o hb e => he' b o (fun h => hb (by simp [h])) e
  self := fun i s Q E st hQ => by
    refine wpAny_pyIter_slot st.1.typeIs B.slot_self (wpAny_call_entry B.slot_self st.1.typeIs B.entry_self ?_ (B.args_self _))
    show wpAny _ _ (ret (.ref I)) _ _ s
    exact wpAny_pure ⟨_, rfl, "bytearray_iterator", _, st.1.typeIs, B.slot_next.lookup, hQ⟩
theorem extend_ba {R : Result → Shared → Prop} (hh : A.handled = none) (S : Addr) (res : Value) (c₀ : Nat) (hB : IsBa s.heap l b) (hS : s.heap.get? S = some { cls := .type "list", data := .seq #[] c₀ })
    (hR : ∀ h' tk acc' c', (∀ b o, b ≠ S → s.heap.get? b = some o → h'.get? b = some o) → h'.get? S = some { cls := .type "list", dict := none, data := .seq acc' c', slots := #[] } →
      ItemsOf (fun i v => ∃ c u, b[i]? = some c ∧ v = .int (c.toNat : Int) u) acc' b.size → R (.ok (.ret res)) { s with heap := h', toks := tk }) (hn : b.size ≤ sizeLine) :
    wpAny (model prog w) A.in1 (Builtin.List.listExtendWith (.ref S) (.ref l) res)
      (fun fin s' => match fin with | .done f => R (.ok f) s' | .again c' => c'.quiet = true ∧ codeAny (model prog w) A c' R s') (fun e s' => R (.error e) s') s := by
  have hlS : l ≠ S := fun e => by rw [e, IsBa, hS] at hB; have := congrArg Obj.data (Option.some.inj hB); cases this
  have hSI : S ≠ s.heap.objs.size := Nat.ne_of_lt (Heap.lt_size hS)
  have hlI : l ≠ s.heap.objs.size := Nat.ne_of_lt (Heap.lt_size hB)
  have hSf : S ∉ [s.heap.objs.size, l] := fun hm => by
    rcases List.mem_cons.mp hm with e | hm
    · exact hSI e
    · exact hlS (List.mem_singleton.mp hm).symm
  unfold Builtin.List.listExtendWith
  refine wpAny_bind (wpAny_typeOf hB.typeIs ?_)
  have h1 : Builtin.List.listSameRef (.ref S) (.ref l) = false := by
    simp only [Builtin.List.listSameRef]
    rw [beq_eq_false_iff_ne]; exact Ne.symm hlS
  have h2 : (Value.type "bytearray" == Value.type "list") = false := by decide
  have h3 : (Value.type "bytearray" == Value.type "tuple") = false := by decide
  simp only [h1, h2, h3, Bool.or_false, Bool.false_eq_true, if_false]
  refine wpAny_bind (pyIter_ba hB ?_)
  refine wpAny_bind (wpAny_holding ?_)
  unfold Builtin.List.listLengthHint
  have hB' : IsBa (s.heap.push { cls := .type "bytearray_iterator", data := .fields #[.ref l, .int 0 0] }) l b := Heap.get?_push_of_some _ hB
  refine wpAny_bind (wpAny_specialOf (IsBa.typeIs hB') B.len_ba ?_)
  wp_delta
  refine wpAny_bind (wpAny_isInstance (IsBa.typeIs hB') (b := true) (by rw [isSubtype_type]; kernel_rfl) ?_)
  show wpAny _ _ (typeOf (Value.ref l) >>= _) _ _ _
  refine wpAny_bind (wpAny_typeOf (IsBa.typeIs hB') ?_)
  refine wpAny_pure ?_
  rw [if_neg (by decide)]
  refine wpAny_pure ⟨plainId_quiet F.plain_extend_loop _, codeAny_extend_loopS (walks_ba (A := A.in1) hh s.heap.objs.size l hlI b).toS hn _ hSf _ b.size 0 _ _ _ rfl (Nat.zero_le _) ⟨⟨_, Heap.get?_push_size _ rfl, rfl, rfl⟩, hB'⟩ (Heap.get?_push_of_some _ hS) (ItemsOf.nil _) fun s' acc' c' hm hS' hacc => ?_⟩
  rw [Moved.eq_with hm]
  refine hR s'.heap s'.toks acc' c' (fun b ob hb e => hm.heap b ob (fun hmem => ?_) (Heap.get?_push_of_some _ e)) hS' hacc
  rcases List.mem_cons.mp hmem with e' | hmem
  · exact hb e'
  · exact absurd (Heap.lt_size e) (by rw [List.mem_singleton.mp hmem]; exact Nat.lt_irrefl _)
theorem call_list_ba {Q : Value → Shared → Prop} (hh : A.handled = none) (hB : IsBa s.heap l b)
    (hQ : ∀ h' tk acc' c', (∀ b o, s.heap.get? b = some o → h'.get? b = some o) →
      h'.get? s.heap.objs.size = some { cls := .type "list", dict := none, data := .seq acc' c', slots := #[] } → ItemsOf (fun i v => ∃ c u, b[i]? = some c ∧ v = .int (c.toNat : Int) u) acc' b.size → Q (.ref s.heap.objs.size) { s with heap := h', toks := tk }) (hn : b.size ≤ sizeLine) :
    wpAny (model prog w) A (call (.type "list") [.ref l]) Q E s := by
  refine callType_codes (Q₁ := fun obj s₁ => obj = .ref s.heap.objs.size ∧ s₁ = { s with heap := s.heap.push { cls := .type "list", data := .seq #[] } }) F.called_list (F.typeCall_list_1 _) F.entry_list_init
    (code_list_new _ ⟨rfl, rfl⟩) fun obj s₁ h₁ => ?_
  obtain ⟨rfl, rfl⟩ := h₁
  have hlt : l < s.heap.objs.size := Heap.lt_size hB
  have hS : (s.heap.push { cls := .type "list", data := .seq #[] }).get? s.heap.objs.size = some { cls := .type "list", data := .seq #[] } := Heap.get?_push_size _ rfl
  refine ⟨⟨_, hS, rfl⟩, F.args_list_init_2 _ _, ?_⟩
  show wpAny _ _ (do let old ← Builtin.List.listItems (.ref s.heap.objs.size); Builtin.List.listUpdate (.ref s.heap.objs.size) (fun _ => #[]); letGo old.toList.reverse; Builtin.List.listExtendWith (.ref s.heap.objs.size) (.ref l) .none) _ _ _
  refine wpAny_bind ?_
  unfold Builtin.List.listItems
  refine wpAny_bind (wpAny_seqItems hS rfl (wpAny_pure ?_))
  show wpAny _ _ (updateSeq s.heap.objs.size (fun _ => #[]) >>= fun _ => letGo (#[] : Array Value).toList.reverse >>= fun _ => Builtin.List.listExtendWith (.ref s.heap.objs.size) (.ref l) .none) _ _ _
  refine wpAny_bind (wpAny_updateSeq hS rfl ?_)
  have hS₂ := Heap.get?_update_self (Obj.mapSeq (fun _ => (#[] : Array Value))) hS rfl
  refine wpAny_bind (wpAny_letGo ?_)
  refine extend_ba (A := A.in1) (R := wants (fun r s₂ => r = .none ∧ Q (.ref s.heap.objs.size) s₂) E) (hn := hn) hh _ .none _ ((Heap.get?_update_other _ _ (Ne.symm (Nat.ne_of_lt hlt))).trans (Heap.get?_push_of_some _ hB)) hS₂ fun h' tk acc' c' hk hS' hacc => ?_
  exact ⟨rfl, hQ h' tk acc' c' (fun b o e => hk b o (Nat.ne_of_lt (Heap.lt_size e)) ((Heap.get?_update_other _ _ (Ne.symm (Nat.ne_of_lt (Heap.lt_size e)))).trans (Heap.get?_push_of_some _ e))) hS' hacc⟩
end
section
variable {X : Cx} {ro : Led} {E : Er} {st : St} {nm : Str} {sc : Scope} {a : Addr} {cd : Value} {env : Env} {R : Heap} {s : Shared}
theorem list_ba' {l : Addr} {ns : List Int} {Q : V → St → Prop} (hh : X.A.handled = none) (hl : Kn ro st l (.ba ns)) (hsz : ns.length ≤ 16777216) (hq : ∀ l', Q (.ref l') { st with own := (l', .ints ns) :: st.own }) :
    OpN X ro E (fun vs => call (.type "list") vs) [.ref l] st Q := by
  rintro vs (_ | ⟨rfl, (_ | _)⟩) R s S
  obtain ⟨b, hB, hb⟩ := (S.at hl).isBa
  have hbl : ns.length = b.size := by rw [← hb, bInts_length]
  refine wpR_of (call_list_ba hh hB (fun h' tk acc c hk hS hacc => ⟨.ref s.heap.objs.size, _, rfl, S.alloc (c := .ints ns) (size_none _) ⟨_, hS, ⟨acc, c, rfl, ?_⟩⟩ hk, hq _⟩) (by rw [sizeLine_eq]; omega))
  refine items_all2 ⟨by rw [hacc.1, hbl], fun j v hj => ?_⟩
  obtain ⟨c, u, hx, rfl⟩ := hacc.2 j v hj
  refine ⟨u, ?_⟩
  have := KBw.ints_get hx
  have hb' : KBw.bInts b = ns := hb
  rw [hb'] at this
  rw [List.getD_eq_getElem?_getD, this]; rfl
theorem subs_ba {l : Addr} {ns : List Int} {lo hi : Option Int} {Q : V → St → Prop} (hl : Kn ro st l (.ba ns)) (hsz : ns.length ≤ 16777216) (hq : ∀ l', Q (.ref l') { st with own := (l', .ba (pslice lo hi ns)) :: st.own }) : SubS X ro E (.ref l) lo hi st Q := by
  rintro vo vl vu sl rfl pl pu R s S hs
  obtain ⟨b, hB, hb⟩ := (S.at hl).isBa
  have hbl : ns.length = b.size := by rw [← hb, bInts_length]
  refine ⟨⟨_, _, hB.typeIs, B.slot_getitem.lookup⟩, wpR_of (slice_ba hB (by omega) hs pl pu ⟨.ref s.heap.objs.size, _, rfl, S.push (tk := s.toks) (c := .ba (pslice lo hi ns)) ⟨_, rfl, ?_⟩, hq _⟩)⟩
  have := KBc.ints_picked (b := b) (ks := ns) hb lo hi
  show KBw.bInts _ = _
  rw [this, clip_eq, clip_eq]; rfl
/-- over a bytearray that each turn leaves as it is -/
theorem for_ba {target : Expr} {body : List Stmt} {l : Addr} {ns : List Int} (J : Nat → St → Prop) {Q : Fl → St → Prop} (hE : ErOk X env E) (hh : X.A.handled = none)
    (hl : ∀ i st', J i st' → Kn ro st' l (.ba ns)) (hj : J 0 st)
    (turn : ∀ i st' n, ns[i]? = some n → J i st' → Tgt X ro E env target (.int n) st' fun st₂ => TF X ro E st₂ (execs body env) (LoopQ Q (J (i + 1))))
    (done : ∀ st', J ns.length st' → Q .next st')
    (ht : ∀ it v, letOwnedTupleGo target it v = pure () := by intro _ _; rfl) :
    ForOver X ro E env target body Q (.ref l) st := by
  rintro v rfl R s S
  obtain ⟨b, hB, hb⟩ := (S.at (hl 0 st hj)).isBa
  refine wpR_of (pyIter_ba hB ?_)
  have S₁ : Sat X ro st R { s with heap := s.heap.push { cls := .type "bytearray_iterator", data := .fields #[.ref l, .int 0 0] } } := S.keeps (tk := s.toks) fun b o e => Heap.get?_push_of_some _ e
  have hlt : ∀ {b c}, At s.heap b c → b ≠ s.heap.objs.size := fun h => Nat.ne_of_lt h.lt
  refine for_core (fp := [s.heap.objs.size]) (fun i h => IsBaIter h s.heap.objs.size l i) ns.length (fun i => .int (ns.getD i 0)) J hE S₁ ⟨_, Heap.get?_push_size _ rfl, rfl, rfl⟩ hj ?_ ?_ (S.outs_off (Nat.le_refl _)) ?_ ?_ ?_ ?_ ?_ ?_ done (ht _)
  · intro b hb; rw [List.mem_singleton.mp hb]
    cases e : R.get? s.heap.objs.size with
    | none => rfl
    | some o => exact absurd (Heap.lt_size (S.fr _ _ e)) (Nat.lt_irrefl _)
  · intro hm; exact absurd S.lt (by rw [List.mem_singleton.mp hm]; exact Nat.lt_irrefl _)
  · intro p hp hm; exact hlt (S.own p hp).2.2 (List.mem_singleton.mp hm)
  · rintro i h ⟨o, ho, _⟩ b hb; rw [List.mem_singleton.mp hb]; exact ⟨o, ho⟩
  · rintro i h h' ⟨o, ho, r⟩ hk; exact ⟨o, hk _ (List.mem_singleton.mpr rfl) o ho, r⟩
  · intro i st' R' s' P E' hi S' hJ hZ hO hP
    obtain ⟨b', hB', hb'⟩ := (S'.at (hl i st' hJ)).isBa
    have hbl : ns.length = b'.size := by rw [← hb', bInts_length]
    have hx : b'[i]? = some b'[i] := Array.getElem?_eq_getElem (by omega)
    refine next_ba_item hZ hB' hx fun h' hit hs => hP _ h' _ ?_ hit fun b o hb e => hs.extBut b o (fun h => hb (List.mem_singleton.mpr h)) e
    have := KBw.ints_get hx
    have hb'' : KBw.bInts b' = ns := hb'
    rw [hb''] at this
    refine ⟨s'.toks, ?_⟩
    rw [List.getD_eq_getElem?_getD, this]; rfl
  · intro st' R' s' P E' S' hJ hZ hO hP
    obtain ⟨b', hB', hb'⟩ := (S'.at (hl _ st' hJ)).isBa
    have hbl : ns.length = b'.size := by rw [← hb', bInts_length]
    exact next_ba_end hh hZ hB' (by rw [hbl]; simp) fun h' he => hP h' s'.toks fun b o hb e => he b o (fun h => hb (List.mem_singleton.mpr h)) e
  · intro i st' hi hJ
    have hx : ns[i]? = some ns[i] := List.getElem?_eq_getElem hi
    have := turn i st' ns[i] hx hJ
    show Tgt X ro E env target (.int (ns.getD i 0)) st' _
    rw [List.getD_eq_getElem?_getD, hx]; exact this
end
end Mine
end
section
open PySem PySem.W PyProof.Rows PySem.Calls
open PySem.Sem (wp)
open PySem.Builtin.Bytes (decodersThatHold exported exportsOf checkResize payload payload? write byteValue slotIsOwn ownRelease buffer? takeBuffer? takeBufferQuiet? thenGiveBack tooLong)
set_option Elab.async false
set_option maxRecDepth 100000
set_option linter.unusedVariables false
set_option linter.deprecated false
namespace Mine
namespace B
theorem slot_ga : Slot "bytearray" "__getattribute__" "bytearray.__getattribute__" :=
  .of (owner := "bytearray") (n := "__getattribute__") (by rw [typeLookup_type, builtinLookup_eq_fast]; kernel_rfl) (by decide +kernel) (by decide +kernel) (by decide +kernel)
    (by first | exact .inl (by decide +kernel) | exact .inr (by decide +kernel)) (by rw [isSubtype_type]; kernel_rfl)
theorem entry_ga : entryFor table "bytearray.__getattribute__" = some Builtin.«object.__getattribute__» :=
  entryFor_alias (id' := "object.__getattribute__") (by kernel_rfl) (by first | rfl | decide +kernel) (by decide +kernel) (by kernel_rfl)
theorem args_ga (a b : Value) : argsOk "bytearray.__getattribute__" ⟨[a, b], []⟩ := by unfold argsOk; kernel_rfl
theorem lk_class : typeLookup (.type "bytearray") "__class__" = pure (some (.builtin "object.__class__")) := by rw [typeLookup_type, builtinLookup_eq_fast]; kernel_rfl
theorem sub_class_owner : isSubtype (.type "bytearray") (.type (".".intercalate ("object.__class__".cutAt '.').dropLast)) = pure true := by
  rw [F.owner_object_class, isSubtype_type]; kernel_rfl
end B
section
variable {prog : Program} {w : World} {A : Around} {E : Value → Shared → Prop} {h : Heap} {g : Array GenState} {d : Drawn} {t : Nat} {os : OsState} {a : Addr} {o : Obj}
theorem ba_class_get {R : Result → Shared → Prop} (hx : h.get? a = some o) (hc : o.cls = .type "bytearray") (hq : R (.ok (.ret (.type "bytearray"))) ⟨h, g, d, t, os⟩) :
    codeAny (model prog w) A (.call (.builtin "getset_descriptor.__get__") ⟨[.builtin "object.__class__", .ref a, .type "bytearray"], []⟩) R ⟨h, g, d, t, os⟩ := by
  have hT : (⟨h, g, d, t, os⟩ : Shared).TypeIs (.ref a) "bytearray" := ⟨_, hx, hc⟩
  have hT5 : (⟨h, g, d, t, os⟩ : Shared).TypeIs (.builtin "object.__class__") "getset_descriptor" := F.typeOf_object_class
  have f8 := B.sub_class_owner
  refine codeAny_call_builtin F.slot_gs_get.plain F.entry_gs_get (F.slot_gs_get.check _ _ _ _ _ _ _ _ hT5 (F.args_gs_get _ _ _) ?_)
  repeat (any_goals (first | assumption | wp_step))
  refine ⟨Code.quiet_builtin _ (by decide +kernel), codeAny_builtin F.entry_object_class ?_⟩
  repeat (any_goals (first | assumption | wp_step))
theorem ba_class_entry {tk : Tok} {Q : Fin → Shared → Prop} (hx : h.get? a = some o) (hc : o.cls = .type "bytearray") (hq : Q (.done (.ret (.type "bytearray"))) ⟨h, g, d, t, os⟩) :
    wpAny (model prog w) A (Builtin.«object.__getattribute__» ⟨[.ref a, .str "__class__" tk], []⟩) Q E ⟨h, g, d, t, os⟩ := by
  have hT : (⟨h, g, d, t, os⟩ : Shared).TypeIs (.ref a) "bytearray" := ⟨_, hx, hc⟩
  have hT5 : (⟨h, g, d, t, os⟩ : Shared).TypeIs (.builtin "object.__class__") "getset_descriptor" := F.typeOf_object_class
  have f4 := B.lk_class
  have f5 := F.typeOf_object_class
  have f6 := F.slot_gs_get.lookup
  have f7 := F.slot_gs_set.lookup
  repeat (any_goals (first | assumption | wp_step))
  refine ba_class_get hx hc ?_
  repeat (any_goals (first | assumption | wp_step))
theorem ba_class_by {tk : Tok} {Q : Value → Shared → Prop} (hx : h.get? a = some o) (hc : o.cls = .type "bytearray") (hq : Q (.type "bytearray") ⟨h, g, d, t, os⟩) : wpAny (model prog w) A (getAttrBy (.ref a) (.str "__class__" tk) false) Q E ⟨h, g, d, t, os⟩ := by
  have hT : (⟨h, g, d, t, os⟩ : Shared).TypeIs (.ref a) "bytearray" := ⟨_, hx, hc⟩
  have f2 := B.slot_ga.lookup
  have f3 := B.slot_ga.bind (.ref a)
  repeat (any_goals (first | assumption | wp_step))
  refine codeAny_call_builtin B.slot_ga.plain B.entry_ga (B.slot_ga.check _ _ _ _ _ _ _ _ hT (B.args_ga _ _) (ba_class_entry hx hc ?_))
  repeat (any_goals (first | assumption | wp_step))
theorem ba_class_attr {Q : Option Value → Shared → Prop} (hx : h.get? a = some o) (hc : o.cls = .type "bytearray") (hq : Q (some (.type "bytearray")) ⟨h, g, d, t + 1, os⟩) : wpAny (model prog w) A (getAttr? (.ref a) "__class__") Q E ⟨h, g, d, t, os⟩ := by
  unfold getAttr? getAttrBy?
  repeat (any_goals (first | assumption | with_reducible apply ba_class_by hx hc | wp_step))
theorem isi_ba_nested {T : String} {dep : Int} {tk : Tok} {Q : Fin → Shared → Prop} (hx : h.get? a = some o) (hc : o.cls = .type "bytearray") (hne : (Value.type "bytearray" == Value.type T) = false) (hty : typeOf (.type T) = pure (.type "type"))
    (hsub : isSubtype (.type "bytearray") (.type T) = pure false) (hq : Q (.done (.ret (.bool false))) ⟨h, g, d, t + 1, os⟩) :
    wpAny (model prog w) A (Builtin.«isinstance.nested» ⟨[.ref a, .type T, .int dep tk], []⟩) Q E ⟨h, g, d, t, os⟩ := by
  have hT : (⟨h, g, d, t, os⟩ : Shared).TypeIs (.ref a) "bytearray" := ⟨_, hx, hc⟩
  repeat (any_goals (first | assumption | with_reducible apply ba_class_attr hx hc | wp_step))
end
section
variable {prog : Program} {w : World} {A : Around} {E : Value → Shared → Prop} {s : Shared} {b : Array UInt8} {l : Addr}
theorem isi_ba_str0 {Q : Value → Shared → Prop} (hB : IsBa s.heap l b) (hq : Q (.bool false) { s with toks := s.toks + 1 }) : wpAny (model prog w) A (call (.builtin "isinstance") [.ref l, .type "str"]) Q E s := by
  refine call_isinstance (S := fun _ R s => IsBa s.heap l b ∧ R (.ok (.ret (.bool false))) { s with toks := s.toks + 1 }) (fun _ _ _ _ s hs => ?_) ⟨hB, hq⟩
  obtain ⟨hB, hs⟩ := hs
  obtain ⟨h, g, d, tk, os⟩ := s
  exact isinstance_outer (isi_ba_nested hB rfl (by decide) B.ty_str B.sub_ba_str hs)
theorem good_all {ns : List Int} {vs : List Value} (hi : IntsAre vs ns) (hr : ∀ n ∈ ns, 0 ≤ n ∧ n < 256) :
    vs.takeWhile (fun | .int i _ => decide (0 ≤ i) && decide (i < 256) | _ => false) = vs ∧ (vs.filterMap fun | .int i _ => some i.toNat.toUInt8 | _ => none) = ns.map (fun n => n.toNat.toUInt8) := by
  induction hi with
  | nil => exact ⟨rfl, rfl⟩
  | cons n t _ ih =>
    have h1 := hr n (.head _)
    obtain ⟨i1, i2⟩ := ih fun m hm => hr m (.tail _ hm)
    constructor
    · rw [List.takeWhile_cons]
      have : (decide (0 ≤ n) && decide (n < 256)) = true := by simp; omega
      simp only [this, if_true, i1]
    · rw [List.filterMap_cons]
      simp only [i2, List.map_cons]
theorem call_ba_list {ns : List Int} {vs : Array Value} {Q : Value → Shared → Prop} (hg : A.guards = some []) (hL : s.heap.IsList l vs) (hi : IntsAre vs.toList ns) (hr : ∀ n ∈ ns, 0 ≤ n ∧ n < 256) (hsz : ns.length ≤ 16777216)
    (hq : ∀ h', IsBa h' s.heap.objs.size (ns.map fun n => n.toNat.toUInt8).toArray → (∀ b o, s.heap.get? b = some o → h'.get? b = some o) → Q (.ref s.heap.objs.size) { s with heap := h' }) :
    wpR (model prog w) A (call (.type "bytearray") [.ref l]) Q E s := by
  refine callType_R (Q₁ := fun obj s₁ => obj = .ref s.heap.objs.size ∧ s₁ = { s with heap := s.heap.push { cls := .type "bytearray", data := .bytearray #[] 0 } }) B.called_ba (B.typeCall1 _) (by decide +kernel) B.entry_init
    (code_ba_new [.ref l] (B.newCall1 _) ⟨rfl, rfl⟩) fun obj s₁ h₁ => ?_
  obtain ⟨rfl, rfl⟩ := h₁
  have hB : IsBa (s.heap.push { cls := .type "bytearray", data := .bytearray #[] 0 }) s.heap.objs.size #[] := Heap.get?_push_size _ rfl
  refine ⟨IsBa.typeIs (s := { s with heap := s.heap.push { cls := .type "bytearray", data := .bytearray #[] 0 } }) hB, B.args_init1 _ _, ?_⟩
  unfold Builtin.«bytearray.__init__»
  dsimp only
  refine wpR_bind (wpR_of (ownRelease_ba (s := { s with heap := s.heap.push { cls := .type "bytearray", data := .bytearray #[] 0 } }) hB ?_))
  rw [if_neg Bool.false_ne_true]
  refine wpR_bind (wpR_of_eq (a := [some (.ref l), none, none]) (by kernel_rfl) ?_)
  refine wpR_bind (wpR_of_eq (a := ()) rfl ?_)
  refine wpR_bind (wpR_of_eq (a := ()) rfl ?_)
  refine wpR_bind (wpR_bind (exported_R hg ?_))
  show wpR _ _ (do return decide ((← exportsOf (.ref s.heap.objs.size)) > 0)) _ _ _
  refine wpR_bind (wpR_of ?_)
  unfold exportsOf
  refine wpAny_bind (wpAny_load hB ?_)
  refine wpAny_pure ?_
  refine wpR_pure ?_
  rw [if_neg (by decide)]
  refine wpR_bind (wpR_of (write_ba (s := { s with heap := s.heap.push { cls := .type "bytearray", data := .bytearray #[] 0 } }) hB (by decide) fun h' hb hs => ?_))
  have keep : ∀ b o, s.heap.get? b = some o → h'.get? b = some o := fun b o e => hs.extBut b o (Nat.ne_of_lt (Heap.lt_size e)) (Heap.get?_push_of_some _ e)
  have hL' : h'.IsList l vs := let ⟨o, ho, r⟩ := hL; ⟨o, keep _ _ ho, r⟩
  obtain ⟨hg1, hg2⟩ := good_all hi hr
  obtain ⟨o, ho, hc, n, hd⟩ := id hL'
  have hT : ({ s with heap := h' } : Shared).TypeIs (.ref l) "list" := ⟨o, ho, hc⟩
  show wpR _ _ (asStr? (.ref l) >>= _) _ _ _
  refine wpR_bind (wpR_of ?_)
  unfold asStr?
  refine wpAny_bind (wpAny_load ho ?_)
  rw [hd]
  refine wpAny_pure ?_
  show wpR _ _ (pure () >>= _) _ _ _
  refine wpR_bind (wpR_pure ?_)
  refine wpR_bind (wpR_of (wpAny_specialOf hT B.index_list ?_))
  show wpR _ _ (buffer? "bytearray.__init__" (.ref l) true >>= _) _ _ _
  refine wpR_bind (wpR_of ?_)
  unfold buffer?
  refine wpAny_bind (wpAny_specialOf hT B.buffer_list ?_)
  refine wpAny_bind (wpAny_specialOf hT B.buffer_list ?_)
  refine wpAny_pure ?_
  refine wpR_bind (wpR_of (wpAny_typeOf hT ?_))
  rw [if_pos (by decide)]
  refine wpR_bind (wpR_of (wpAny_seqItems ho hd ?_))
  have hnone : vs[vs.toList.length]? = none := by simp
  dsimp only
  generalize hG : List.takeWhile _ vs.toList = G
  obtain rfl : G = vs.toList := hG.symm.trans hg1
  rw [hnone]
  generalize hF : List.filterMap _ vs.toList = Fm
  obtain rfl : Fm = ns.map (fun n => n.toNat.toUInt8) := hF.symm.trans hg2
  refine wpR_bind (wpR_of (wpAny_rule ?_))
  refine wpR_bind (wpR_of (write_ba (s := { s with heap := h' }) hb (by simp; exact hsz) fun h₂ hb₂ hs₂ => ?_))
  refine wpR_pure ⟨rfl, ?_⟩
  exact hq h₂ hb₂ fun b o e => hs₂.extBut b o (Nat.ne_of_lt (Heap.lt_size e)) (keep b o e)
end
section
variable {X : Cx} {ro : Led} {E : Er} {st : St} {nm : Str} {sc : Scope} {a : Addr} {cd : Value} {env : Env} {R : Heap} {s : Shared}
theorem ba_list' {l : Addr} {ns : List Int} {Q : V → St → Prop} (hg : X.A.guards = some []) (hl : Kn ro st l (.ints ns)) (hr : ∀ n ∈ ns, 0 ≤ n ∧ n < 256) (hsz : ns.length ≤ 16777216) (hq : ∀ l', Q (.ref l') { st with own := (l', .ba ns) :: st.own }) :
    OpN X ro E (fun vs => call (.type "bytearray") vs) [.ref l] st Q := by
  rintro vs (_ | ⟨rfl, (_ | _)⟩) R s S
  obtain ⟨ws, hL, hw⟩ := (S.at hl).isList
  refine call_ba_list hg hL hw.ints hr hsz fun h' hb hk => ⟨.ref s.heap.objs.size, _, rfl, S.alloc (tk := s.toks) (c := .ba ns) (size_none _) ⟨_, hb, ⟨_, rfl, ?_⟩⟩ hk, hq _⟩
  exact KBa.ints_make hr
theorem isi_ba_str {l : Addr} {ns : List Int} {Q : V → St → Prop} (hl : Kn ro st l (.ba ns)) (hq : Q (.bool false) st) : OpN X ro E (fun vs => call (.builtin "isinstance") vs) [.ref l, .raw (.type "str")] st Q := by
  rintro vs (_ | ⟨rfl, (_ | ⟨rfl, (_ | _)⟩)⟩) R s S
  obtain ⟨b, hB, hb⟩ := (S.at hl).isBa
  exact wpR_of (isi_ba_str0 hB ⟨.bool false, st, rfl, S.toks, hq⟩)
end
end Mine
end
section
open PySem PySem.W PyProof.Rows PySem.Calls
open PySem.Sem (wp)
set_option Elab.async false
set_option maxRecDepth 100000
set_option linter.unusedVariables false
set_option linter.deprecated false
namespace Mine
def fParams : Option Stmt → Arguments
  | some (.FunctionDef _ a _ _ _ _ _ _ _ _) => a
  | _ => ⟨[], [], none, [], [], none, []⟩
def fBody : Option Stmt → List Stmt
  | some (.FunctionDef _ _ b _ _ _ _ _ _ _) => b
  | _ => []
def fScope : Option Stmt → Scope
  | some (.FunctionDef _ _ _ _ _ _ s _ _ _) => s
  | _ => ⟨.function, [], false, false, []⟩
def fPos : Option Stmt → Pos
  | some (.FunctionDef _ _ _ _ _ _ _ _ _ p) => p
  | _ => default
theorem pslice_mid {α : Type} {p c r : List α} {a b : Int} (ha : a = p.length) (hb : b = p.length + c.length) : pslice (some a) (some b) (p ++ c ++ r) = c := by
  subst ha hb
  have e1 : clipNat (some (p.length : Int)) 0 (p ++ c ++ r).length = p.length := by rw [clip_nat, List.append_assoc, List.length_append]; exact Nat.min_eq_left (Nat.le_add_right _ _)
  have e2 : clipNat (some ((p.length : Int) + c.length)) (p ++ c ++ r).length (p ++ c ++ r).length = p.length + c.length := by rw [← Int.natCast_add, clip_nat, List.length_append, List.length_append]; exact Nat.min_eq_left (Nat.le_add_right _ _)
  rw [pslice, e1, e2, List.append_assoc, List.drop_left, Nat.add_sub_cancel_left, List.take_left]

theorem loop_next {Q : Fl → St → Prop} {J : St → Prop} {st : St} (h : J st) : LoopQ Q J .next st := h
theorem loop_brk {Q : Fl → St → Prop} {J : St → Prop} {st : St} (h : Q .next st) : LoopQ Q J .brk st := h
theorem loop_ret {Q : Fl → St → Prop} {J : St → Prop} {st : St} {u : V} (h : Q (.ret u) st) : LoopQ Q J (.ret u) st := h
theorem ForO {X : Cx} {ro : Led} {E : Er} {st : St} {env : Env} {target iter : Expr} {body : List Stmt} {pos : Pos} {Q : Fl → St → Prop}
    (h : TV X ro E st (eval iter env) fun u st₁ => ForOver X ro E env target body Q u st₁)
    (hs : ∀ x, foldedSetIterable iter env x = pure x := by intro _; rfl) : TF X ro E st (exec (.For target iter body [] pos) env) Q := For' h hs
/-- encode, as it runs -/
def encGo (fz : Bool) (out cur : List Int) : List Int → List Int
  | [] => if cur.length ≠ 0 ∨ fz = true then out ++ [(cur.length : Int) + 1] ++ cur else out
  | c :: r => if c = 0 then encGo true (out ++ [(cur.length : Int) + 1] ++ cur) [] r
    else if cur.length = 253 then encGo false (out ++ [255] ++ (cur ++ [c])) [] r
    else encGo fz out (cur ++ [c]) r
def enc (ns : List Int) : List Int := encGo true [] [] ns
theorem drop_dec (L : Int) (r : List Int) : (r.drop (L - 1).toNat).length < (L :: r).length := by rw [List.length_drop, List.length_cons]; omega
/-- decode, as it runs -/
def decGo (out : List Int) (rest : List Int) : Option (List Int) := match rest with
  | [] => none
  | L :: r => if L = 0 then none else if 0 ∈ r.take (L - 1).toNat then none else if r.length < (L - 1).toNat then none
    else if (L - 1).toNat < r.length then decGo (out ++ r.take (L - 1).toNat ++ if L < 255 then [0] else []) (r.drop (L - 1).toNat)
    else some (out ++ r.take (L - 1).toNat)
termination_by rest.length
decreasing_by exact drop_dec ..
def dec (ns : List Int) : Option (List Int) := if ns.length = 0 then some [] else decGo [] ns
theorem pslice_tail {α : Type} {p r : List α} {a b k : Int} (ha : a = p.length) (hb : b = p.length + k) (hk : 0 ≤ k) : pslice (some a) (some b) (p ++ r) = r.take k.toNat := by
  subst ha hb
  have e1 : clipNat (some (p.length : Int)) 0 (p ++ r).length = p.length := by rw [clip_nat, List.length_append]; exact Nat.min_eq_left (Nat.le_add_right _ _)
  rw [pslice, e1, List.drop_left]
  obtain ⟨j, rfl⟩ := Int.eq_ofNat_of_zero_le hk
  have e2 : clipNat (some ((p.length : Int) + j)) (p ++ r).length (p ++ r).length - p.length = min (j : Int).toNat r.length := by
    rw [← Int.natCast_add, clip_nat, List.length_append, Int.toNat_natCast, Nat.add_min_add_left, Nat.add_sub_cancel_left]
  rw [e2, Int.toNat_natCast, List.take_eq_take_iff, Nat.min_assoc, Nat.min_self]
end Mine
end
section
open PySem PySem.W PyProof.Rows PySem.Calls
set_option Elab.async false
set_option maxRecDepth 100000
namespace Mine
def q1 : Program := view PySem.Challenge.pw_nc0006_04 [1, 2, 3, 5, 6, 7]
def stE : Option Stmt := PySem.Challenge.pw_nc0006_04.main.body[2]?
def dE : DefRec := ⟨"encode", fParams stE, fBody stE, fScope stE, fPos stE⟩
theorem dE_mem : dE ∈ recsOf q1 := List.mem_of_getElem? (i := 0) (by kernel_rfl)
def stD : Option Stmt := PySem.Challenge.pw_nc0006_04.main.body[3]?
def dD : DefRec := ⟨"decode", fParams stD, fBody stD, fScope stD, fPos stD⟩
theorem dD_mem : dD ∈ recsOf q1 := List.mem_of_getElem? (i := 1) (by kernel_rfl)
def stS : Option Stmt := PySem.Challenge.pw_nc0006_04.main.body[5]?
def dS : DefRec := ⟨"_law_stuffed", fParams stS, fBody stS, fScope stS, fPos stS⟩
theorem dS_mem : dS ∈ recsOf q1 := List.mem_of_getElem? (i := 2) (by kernel_rfl)
def stM : Option Stmt := PySem.Challenge.pw_nc0006_04.main.body[6]?
def dM : DefRec := ⟨"_law_meant", fParams stM, fBody stM, fScope stM, fPos stM⟩
theorem dM_mem : dM ∈ recsOf q1 := List.mem_of_getElem? (i := 3) (by kernel_rfl)
def stL : Option Stmt := PySem.Challenge.pw_nc0006_04.main.body[7]?
def dL : DefRec := ⟨"law", fParams stL, fBody stL, fScope stL, fPos stL⟩
theorem dL_mem : dL ∈ recsOf q1 := List.mem_of_getElem? (i := 4) (by kernel_rfl)
end Mine
end
section
open PySem PySem.W PyProof.Rows PySem.Calls
set_option Elab.async false
set_option maxRecDepth 100000
set_option maxHeartbeats 8000000
namespace Mine

theorem left1 : LeftO PySem.Challenge.pw_nc0006_04 q1 [] (fun s => xlAt q1 [] s && recOk [] s) (fun _ => ()) (fun _ => ()) 900 := fun w => by kernel_rfl
end Mine
end
section
open PySem PySem.W PyProof.Rows PySem.Calls
open PySem.Sem (wp)
set_option Elab.async false
set_option maxRecDepth 100000
set_option linter.unusedVariables false
set_option linter.deprecated false
namespace Mine
section
variable {X : Cx} {ro : Led} {E : Er} {st : St} {nm : Str} {sc : Scope} {a : Addr} {cd : Value} {env : Env} {R : Heap} {s : Shared}
/-- a list as the caller laid it: read only -/
def RawInts (o : Obj) (ns : List Int) : Prop := o.cls = .type "list" ∧ ∃ ws n, o.data = .seq ws n ∧ All2 (ns.map V.int) ws.toList
theorem subs_raw {l : Addr} {o : Obj} {ns : List Int} {lo hi : Option Int} {Q : V → St → Prop} (ho : RawInts o ns) (hl : Kn ro st l (.obj o)) (hsz : ns.length ≤ 16777216)
    (hq : ∀ l', Q (.ref l') { st with own := (l', .ints (pslice lo hi ns)) :: st.own }) : SubS X ro E (.ref l) lo hi st Q := by
  rintro vo vl vu sl rfl pl pu R s S hs
  obtain ⟨hc, ws, n, hd, hw⟩ := ho
  obtain ⟨o', ho', e⟩ := S.at hl
  cases e
  have hL : s.heap.IsList l ws := ⟨o, ho', hc, n, hd⟩
  have hn : ns.length = ws.size := by simpa using hw.length
  refine ⟨⟨_, _, hL.typeIs, slot_list_getitem.lookup⟩, wpR_of (wpAny_getItem_list_slice hL hs pl pu .none (by simp) ?_ (by rw [sizeLine_eq]; omega))⟩
  refine ⟨.ref s.heap.objs.size, _, rfl, S.push (c := .ints (pslice lo hi ns)) ⟨_, 0, rfl, ?_⟩, hq _⟩
  rw [slicePick_eq, ← pslice_map]; simpa using hw.pslice lo hi
/-- += with a new list, that is let go -/
theorem iadd_list_drop {l b : Addr} {us vs : List V} {loc : List (Str × V)} {own own' : Led} {Q : V → St → Prop} (U : Put l (.list us) (.list (us ++ vs)) own own') (hsz : us.length + vs.length ≤ 16777216)
    (hq : Q (.ref l) ⟨loc, own'⟩) : Op2 X ro E (inplaceOp .Add) (.ref l) (.ref b) ⟨loc, (b, .list vs) :: own⟩ Q := fun v w hv hw =>
  (iadd_list' (Q := fun u st' => u = .ref l ∧ st' = ⟨loc, (b, .list vs) :: own'⟩) (U.tail (p := (b, .list vs))) (.inl .head) hsz ⟨rfl, rfl⟩ v w hv hw).post_own fun u st' ⟨e1, e2⟩ => by
    subst e1 e2
    exact ⟨own', List.sublist_cons_self _ _, hq⟩
theorem list_range_arg {i j : Int} {pos : Pos} {Q : V → St → Prop} (hh : X.A.handled = none) (hi : -4294967296 ≤ i ∧ i < 4294967296) (hj : -4294967296 ≤ j ∧ j < 4294967296) (hsz : j - i ≤ 16777216)
    (hq : ∀ l, Q (.ref l) { st with own := (l, .ints (rng i j)) :: st.own }) :
    OpN X ro E (fun vs => call (.type "range") vs) [.int i, .int j] st fun u st₁ => TL X ro E st₁ (spliced (backTo pos (starEach [] env))) fun us st₂ => OpN X ro E (fun vs => call (.type "list") vs) (u :: us) st₂ Q := fun vs hv =>
  (list_range2 hh hi hj hsz hq vs hv).mono fun u st₁ h => args_nil' h

theorem subs_ints {l : Addr} {ns : List Int} {lo hi : Option Int} {Q : V → St → Prop} (hl : Kn ro st l (.ints ns)) (hsz : ns.length ≤ 16777216)
    (hq : ∀ l', Q (.ref l') { st with own := (l', .ints (pslice lo hi ns)) :: st.own }) : SubS X ro E (.ref l) lo hi st Q :=
  subs_list hl (by rw [List.length_map]; exact hsz) fun l' => by rw [pslice_map]; exact hq l'
theorem sub_ints {l : Addr} {ns : List Int} {k n : Int} {Q : V → St → Prop} (hl : Kn ro st l (.ints ns)) (hk : -4294967296 ≤ k ∧ k < 4294967296) (h0 : -(ns.length : Int) ≤ k)
    (hx : ns[pidx k ns.length]? = some n) (hq : Q (.int n) st) : Sub X ro E (.ref l) (.int k) st Q :=
  sub_list hl hk (by rw [List.length_map]; exact h0) (by rw [List.length_map, List.getElem?_map, hx]; rfl) hq
theorem append_ints {o e apos pos} {pl : Sem Bool} {Q : V → St → Prop}
    (h : TV X ro E st (eval o env) fun ov st₁ => ∃ l ns, ov = .ref l ∧ Kn ro st₁ l (.ints ns) ∧ TV X ro E st₁ (eval e env) fun u st₂ => ∃ ns n own', u = .int n ∧ Put l (.ints ns) (.ints (ns ++ [n])) st₂.own own' ∧ ns.length ≤ 16777216 ∧ Q .none { st₂ with own := own' })
    (he : starEach [e] env = (false, eval e env) :: starEach [] env := by rfl)
    (he' : eval (.Call (.Attribute o "append" apos) [e] [] pos) env = (do
      let ov ← eval o env
      standAt apos.atName
      let (f, first) ← holding [ov] (getMethod ov "append" pl)
      callWith pos f first (backTo pos (starEach [e] env)) []) := by rfl) :
    TV X ro E st (eval (.Call (.Attribute o "append" apos) [e] [] pos) env) Q :=
  append_list' (h.mono fun ov st₁ ⟨l, ns, e1, hk, h₁⟩ => ⟨l, _, e1, hk, h₁.mono fun u st₂ ⟨ns, n, own', e2, hp, hz, hq⟩ => ⟨ns.map V.int, own', by subst e2; rw [Cell.ints, Cell.ints, List.map_append] at hp; exact hp, by rw [List.length_map]; exact hz, hq⟩⟩) he he'
theorem iadd_ints_drop {l b : Addr} {ns ms : List Int} {loc : List (Str × V)} {own own' : Led} {Q : V → St → Prop} (U : Put l (.ints ns) (.ints (ns ++ ms)) own own') (hsz : ns.length + ms.length ≤ 16777216)
    (hq : Q (.ref l) ⟨loc, own'⟩) : Op2 X ro E (inplaceOp .Add) (.ref l) (.ref b) ⟨loc, (b, .ints ms) :: own⟩ Q :=
  iadd_list_drop (by rw [Cell.ints, Cell.ints, List.map_append] at U; exact U) (by rw [List.length_map, List.length_map]; exact hsz) hq
theorem AssignSubI {o i pos' value pos} {Q : Fl → St → Prop}
    (h : TV X ro E st (eval value env) fun u st₁ => TV X ro E st₁ (eval o env) fun ov st₂ => TV X ro E st₂ (eval i env) fun iv st₃ =>
      ∃ l ns k n own', ov = .ref l ∧ iv = .int k ∧ u = .int n ∧ Put l (.ints ns) (.ints (ns.set (pidx k ns.length) n)) st₃.own own' ∧ (-4294967296 ≤ k ∧ k < 4294967296) ∧ -(ns.length : Int) ≤ k ∧ k < ns.length ∧ Q .next { st₃ with own := own' })
    (hs : swapsWith value (some (.Subscript o i pos')) pos.line env = pure false := by rfl) :
    TF X ro E st (exec (.Assign [.Subscript o i pos'] value pos) env) Q :=
  AssignSub' (h.mono fun u st₁ h₁ => h₁.mono fun ov st₂ h₂ => h₂.mono fun iv st₃ ⟨l, ns, k, n, own', e1, e2, e3, hp, hb, b0, b1, hq⟩ =>
    ⟨l, ns.map V.int, k, own', e1, e2, by subst e3; rw [Cell.ints, Cell.ints, List.map_set] at hp; rw [List.length_map]; exact hp, hb, by rw [List.length_map]; exact b0, by rw [List.length_map]; exact b1, hq⟩) hs
theorem len_ints' {l : Addr} {ns : List Int} {Q : V → St → Prop} (hl : Kn ro st l (.ints ns)) (hsz : ns.length ≤ 16777216) (hq : Q (.int ns.length) st) :
    OpN X ro E (fun vs => call (.builtin "len") vs) [.ref l] st Q := len_list' hl (by rw [List.length_map]; exact hsz) (by rw [List.length_map]; exact hq)
theorem part_none {Q : Value → Shared → Prop} {E' : Value → Shared → Prop} (h : ∀ v tk, IsPart v none → Q v { s with toks := tk }) : wpAny (model X.prog X.w) X.A (evalPart none env) Q E' s := wpAny_pure (h _ s.toks .none)
theorem part_neg {c : Int} {k : Nat} {p1 p2 : Pos} {Q : Value → Shared → Prop} {E' : Value → Shared → Prop} (h : ∀ v tk, IsPart v (some (-c)) → Q v { s with toks := tk }) :
    wpAny (model X.prog X.w) X.A (evalPart (some (.UnaryOp .USub (.Constant (.int c) k p1) p2)) env) Q E' s := by
  rw [evalPart_some]
  exact wpAny_UnaryOp (wpAny_Constant_int (PyProof.Rows.neg_int (h _ _ (.int _ _))))
theorem ListI {elts pos} {Q : V → St → Prop} (h : TL X ro E st (spliced (backTo pos (starEach elts env))) fun us st₁ => ∃ ns : List Int, us = ns.map V.int ∧ ns.length ≤ 16777216 ∧ ∀ l, Q (.ref l) { st₁ with own := (l, .ints ns) :: st₁.own }) :
    TV X ro E st (eval (.List elts pos) env) Q :=
  List' (h.mono fun us st₁ ⟨ns, e, hz, hq⟩ => by subst e; exact ⟨by rw [List.length_map]; exact hz, hq⟩)
end
end Mine
end
section
open PySem PySem.W PyProof.Rows PySem.Calls
open PySem.Sem (wp)
set_option maxRecDepth 100000
set_option linter.unusedVariables false
set_option linter.deprecated false
set_option linter.unusedSimpArgs false
namespace Mine
local macro_rules | `(tactic| walk_at "m:has") => `(tactic| first | with_reducible exact Has.head | (with_reducible apply Has.tail; walk_at "m:has"))
local macro_rules | `(tactic| walk_at "m:put") => `(tactic| first | with_reducible exact Put.head | (with_reducible apply Put.tail; walk_at "m:put"))
local macro_rules | `(tactic| walk_at "m:kn") => `(tactic| first | exact Or.inl (by walk_at "m:has") | exact Or.inr (by walk_at "m:has") | exact Or.inr (by assumption) | assumption)
local macro_rules | `(tactic| walk_at "m:show") => `(tactic| first | with_reducible show TV _ _ _ _ _ _ | unfold Part)
local macro_rules | `(tactic| walk_at "m:case") => `(tactic| (refine ⟨fun h => ?_, fun h => ?_⟩ <;> first | cases h | replace h := of_decide_eq_true h | replace h := of_decide_eq_false h | skip))
local macro_rules | `(tactic| walk_at "m:arith") => `(tactic| first | assumption | omega | (refine Nat.le_trans (Nat.add_le_add (pslice_length_le _ _ _) (pslice_length_le _ _ _)) ?_; simp only [List.length_cons, List.length_nil]; omega) | (simp only [List.length_append, List.length_cons, List.length_nil]; omega) | (simp; omega) | (simp only [List.length_append, List.length_cons, List.length_nil]; refine Nat.le_trans (Nat.add_le_add_left (pslice_length_le _ _ _) _) ?_; omega) | (refine Nat.le_trans (Nat.add_le_add_left (pslice_length_le _ _ _) _) ?_; first | omega | (simp; omega)) | (simp only [List.length_append, List.length_cons, List.length_nil]; refine Nat.lt_of_le_of_lt (Nat.add_le_add_left (pslice_length_le _ _ _) _) ?_; omega))
local macro_rules | `(tactic| walk_at "m:meth") => `(tactic| first
  | (refine append_ba' (by assumption) ?_; walk_at "m"; walk_at "m")
  | (refine append_ints ?_; walk_at "m"; walk_at "m"))
local macro_rules | `(tactic| walk_at "m:callF") => `(tactic| first | (refine callF (by assumption) (by assumption) ?_))
local macro_rules | `(tactic| walk_at "m:call") => `(tactic| first
  | refine call_enc (by assumption) (by assumption) (by assumption) (by assumption) (by assumption) (by assumption) (by assumption) (by assumption) (by assumption) (by assumption) (by walk_at "m:arith") ?_
  | refine call_dec (by assumption) (by assumption) (by assumption) (by assumption) (by assumption) (by assumption) (by assumption) (by assumption) (by assumption) (by assumption) (by assumption) (by walk_at "m:arith") (by assumption) ?_)
local macro_rules | `(tactic| walk_at "m:TF") => `(tactic| first
  | ((with_reducible show TF _ _ _ _ (execs [] _) _); refine execs_nil' ?_)
  | ((with_reducible show TF _ _ _ _ (execs (_ :: _) _) _); refine execs_cons' ?_)
  | ((with_reducible show TF _ _ _ _ (exec (Stmt.Assign [Expr.Name _ _] _ _) _) _); refine Assign' ?_)
  | ((with_reducible show TF _ _ _ _ (exec (Stmt.Assign [Expr.Subscript _ _ _] _ _) _) _); refine AssignSubI ?_)
  | ((with_reducible show TF _ _ _ _ (exec (Stmt.AugAssign (Expr.Name _ _) _ _ _) _) _); refine AugAssign' (by walk_at "m:has") ?_)
  | ((with_reducible show TF _ _ _ _ (exec (Stmt.If _ _ _ _) _) _); refine If' ?_)
  | ((with_reducible show TF _ _ _ _ (exec (Stmt.Return (some _) _) _) _); refine Return' ?_)
  | ((with_reducible show TF _ _ _ _ (exec (Stmt.Break _) _) _); refine Break' ?_)
  | ((with_reducible show TF _ _ _ _ (exec (Stmt.Expr _ _) _) _); refine Expr' ?_)
  | ((with_reducible show TF _ _ _ _ (exec (Stmt.For _ _ _ [] _) _) _); refine ForO ?_))
local macro_rules | `(tactic| walk_at "m:TB") => `(tactic| first
  | ((with_reducible show TB _ _ _ _ (PySem.isTrue (Expr.Compare _ _ _ _) _ _) _); refine isTrue_cmp ?_)
  | ((with_reducible show TB _ _ _ _ (PySem.isTrue (Expr.UnaryOp UnaryOp.Not _ _) _ _) _); refine isTrue_not' ?_)
  | ((with_reducible show TB _ _ _ _ (PySem.isTrue (Expr.BoolOp BoolOp.And [] _) _ _) _); refine isTrue_and_nil' ?_)
  | ((with_reducible show TB _ _ _ _ (PySem.isTrue (Expr.BoolOp BoolOp.Or [] _) _ _) _); refine isTrue_or_nil' ?_)
  | ((with_reducible show TB _ _ _ _ (PySem.isTrue (Expr.BoolOp BoolOp.And (_ :: _) _) _ _) _); refine isTrue_and' ?_)
  | ((with_reducible show TB _ _ _ _ (PySem.isTrue (Expr.BoolOp BoolOp.Or (_ :: _) _) _ _) _); refine isTrue_or' ?_)
  | ((with_reducible show TB _ _ _ _ (PySem.isTrue (Expr.Call _ _ _ _) _ _) _); refine isTrue_val ?_)
  | ((with_reducible show TB _ _ _ _ (PySem.isTrue (Expr.Name _ _) _ _) _); refine isTrue_val ?_)
  | ((with_reducible show TB _ _ _ _ (PySem.isTrue (Expr.Constant _ _ _) _ _) _); refine isTrue_val ?_))
local macro_rules | `(tactic| walk_at "m:TV") => `(tactic| first
  | ((with_reducible show TV _ _ _ _ (eval (Expr.Constant (Const.int _) _ _) _) _); refine const_int ?_)
  | ((with_reducible show TV _ _ _ _ (eval (Expr.Constant (Const.bool _) _ _) _) _); refine const_bool ?_)
  | ((with_reducible show TV _ _ _ _ (eval (Expr.Name _ _) _) _); first | refine name_local (by walk_at "m:has") ?_ | refine name_glo (by assumption) ?_)
  | ((with_reducible show TV _ _ _ _ (eval (Expr.BinOp _ _ _ _) _) _); refine BinOp' ?_)
  | ((with_reducible show TV _ _ _ _ (eval (Expr.Compare _ [_] [_] _) _) _); refine Compare' ?_)
  | ((with_reducible show TV _ _ _ _ (eval (Expr.UnaryOp _ _ _) _) _); refine UnaryOp' ?_)
  | ((with_reducible show TV _ _ _ _ (eval (Expr.BoolOp _ [_] _) _) _); refine BoolOp_one' ?_)
  | ((with_reducible show TV _ _ _ _ (eval (Expr.BoolOp BoolOp.And (_ :: _ :: _) _) _) _); refine BoolOp_and' ?_)
  | ((with_reducible show TV _ _ _ _ (eval (Expr.IfExp _ _ _ _) _) _); refine IfExp' ?_)
  | ((with_reducible show TV _ _ _ _ (eval (Expr.Subscript _ (Expr.Slice _ _ none _) _) _) _); refine SubSlice' ?_)
  | ((with_reducible show TV _ _ _ _ (eval (Expr.Subscript _ _ _) _) _); refine Subscript' ?_)
  | ((with_reducible show TV _ _ _ _ (eval (Expr.List (Expr.Name _ _ :: _ :: _) _) _) _); refine List' ?_)
  | ((with_reducible show TV _ _ _ _ (eval (Expr.List _ _) _) _); refine ListI ?_)
  | ((with_reducible show TV _ _ _ _ (eval (Expr.Tuple _ _ _) _) _); refine Tuple' ?_)
  | ((with_reducible show TV _ _ _ _ (eval (Expr.Call (Expr.Attribute _ _ _) [Expr.List _ _] _ _) _) _); (refine append_list' ?_; walk_at "m"; refine ⟨_, _, rfl, by walk_at "m:kn", ?_⟩))
  | ((with_reducible show TV _ _ _ _ (eval (Expr.Call (Expr.Attribute (Expr.Subscript _ _ _) _ _) _ _ _) _) _); refine append_ints ?_)
  | ((with_reducible show TV _ _ _ _ (eval (Expr.Call (Expr.Attribute _ _ _) _ _ _) _) _); walk_at "m:meth")
  | ((with_reducible show TV _ _ _ _ (eval (Expr.Call _ _ _ _) _) _); refine Call' ?_)
  | ((with_reducible show TV _ _ _ _ (eval (Expr.Constant Const.none _ _) _) _); refine const_none ?_))
local macro_rules | `(tactic| walk_at "m:rest") => `(tactic| first
  | ((with_reducible show Part _ _ _ _ none _ _); walk_at "m:show")
  | ((with_reducible show Part _ _ _ _ (some _) _ _); walk_at "m:show")
  | ((with_reducible show ∀ v, V.Is (V.raw (Value.type _)) v → TV _ _ _ _ (callWith _ v [] (backTo _ (starEach [] _)) []) _); refine callT0 ?_)
  | ((with_reducible show ∀ v, V.Is (V.raw (Value.type _)) v → TV _ _ _ _ (callWith _ v [] (backTo _ (starEach (_ :: _) _)) []) _); refine callT ?_)
  | ((with_reducible show ∀ v, V.Is (V.raw (Value.builtin _)) v → TV _ _ _ _ (callWith _ v [] (backTo _ (starEach (_ :: _) _)) []) _); refine callB ?_)
  | ((with_reducible show Tgt _ _ _ _ (Expr.Name _ _) _ _ _); refine tgt_name (by walk_at "m:put") ?_)
  | ((with_reducible show ∃ l ms, V.raw (Value.ref _) = V.ref l ∧ Kn _ _ l (Cell.ba ms) ∧ _); refine ⟨_, _, rfl, by walk_at "m:kn", ?_⟩)
  | ((with_reducible show ∃ l ns, V.raw (Value.ref _) = V.ref l ∧ Kn _ _ l (Cell.ints ns) ∧ _); refine ⟨_, _, rfl, by walk_at "m:kn", ?_⟩)
  | ((with_reducible show ∃ ns own' n, V.int _ = V.int n ∧ _ ∧ Put _ (Cell.ba ns) _ _ own' ∧ _); refine ⟨_, _, _, rfl, by walk_at "m:arith", by walk_at "m:put", by walk_at "m:arith", ?_⟩)
  | ((with_reducible show ∃ us own', Put _ (Cell.list us) _ _ own' ∧ _); refine ⟨_, _, by walk_at "m:put", by walk_at "m:arith", ?_⟩)
  | ((with_reducible show _ ≤ 16777216 ∧ ∀ _, _); (refine ⟨by simp, ?_⟩; intro))
  | ((with_reducible show ∃ ns n own', V.int _ = V.int n ∧ Put _ (Cell.ints ns) (Cell.ints (ns ++ [n])) _ own' ∧ _); refine ⟨_, _, _, rfl, by walk_at "m:put", by walk_at "m:arith", ?_⟩)
  | ((with_reducible show ∃ l ns k n, V.raw (Value.ref _) = V.ref l ∧ V.int _ = V.int k ∧ Kn _ _ l (Cell.ints ns) ∧ _); refine ⟨_, _, _, _, rfl, rfl, by walk_at "m:kn", by omega, by walk_at "m:arith", by assumption, ?_⟩)
  | ((with_reducible show ∃ ns' m own', V.int _ = V.int m ∧ Put _ (Cell.ints ns') (Cell.ints (List.set ns' _ m)) _ own' ∧ _ ∧ _ ∧ _); refine ⟨_, _, _, rfl, by walk_at "m:put", by walk_at "m:arith", by walk_at "m:arith", ?_⟩)
  | ((with_reducible show ∃ l ns k n own', V.raw (Value.ref _) = V.ref l ∧ V.int _ = V.int k ∧ V.int _ = V.int n ∧ Put l _ _ _ own' ∧ _); refine ⟨_, _, _, _, _, rfl, rfl, rfl, by walk_at "m:put", by omega, by walk_at "m:arith", by walk_at "m:arith", ?_⟩)
  | ((with_reducible show ∀ v, V.Is (V.raw (Value.ref _)) v → TV _ _ _ _ (callWith _ v [] (backTo _ (starEach (_ :: _) _)) []) _); walk_at "m:callF")
  | ((with_reducible show ∃ ns, [] = List.map V.int ns ∧ _ ∧ _); (refine ⟨[], rfl, by simp, ?_⟩; intro))
  | ((with_reducible show ∃ ns, [_] = List.map V.int ns ∧ _ ∧ _); (refine ⟨[_], rfl, by simp, ?_⟩; intro))
  | ((with_reducible show ∃ ns, [_, _] = List.map V.int ns ∧ _ ∧ _); (refine ⟨[_, _], rfl, by simp, ?_⟩; intro))
  | ((with_reducible show ∃ ns, [_, _, _] = List.map V.int ns ∧ _ ∧ _); (refine ⟨[_, _, _], rfl, by simp, ?_⟩; intro))
  | ((with_reducible show ∃ ns, [_, _, _, _] = List.map V.int ns ∧ _ ∧ _); (refine ⟨[_, _, _, _], rfl, by simp, ?_⟩; intro))
  | ((with_reducible show (_ = true → _) ∧ (_ = false → _)); walk_at "m:case")
  | ((with_reducible show ∃ u₀ loc', Put _ u₀ _ _ loc' ∧ _); refine ⟨_, _, by walk_at "m:put", ?_⟩)
  | ((with_reducible show ∃ i, V.int _ = V.int i ∧ _); refine ⟨_, rfl, ?_⟩)
  | ((with_reducible show V.raw Value.none = V.none ∧ _); refine ⟨rfl, ?_⟩))
local macro_rules | `(tactic| walk_at "m:TL") => `(tactic| first
  | ((with_reducible show TL _ _ _ _ (spliced (backTo _ (starEach [] _))) _); refine args_nil' ?_)
  | ((with_reducible show TL _ _ _ _ (spliced (backTo _ (starEach (_ :: _) _))) _); refine args_cons' ?_))
local macro_rules | `(tactic| walk_at "m:Op2") => `(tactic| first
  | ((with_reducible show Op2 _ _ _ (binaryOp Operator.Add) (V.int _) (V.int _) _ _); refine add_int' ?_)
  | ((with_reducible show Op2 _ _ _ (inplaceOp Operator.Add) (V.int _) (V.int _) _ _); refine iadd_int' ?_)
  | ((with_reducible show Op2 _ _ _ (binaryOp Operator.Sub) (V.int _) (V.int _) _ _); refine sub_int' ?_)
  | ((with_reducible show Op2 _ _ _ (binaryOp Operator.FloorDiv) (V.int _) (V.int _) _ _); refine div_int' (by decide) ?_)
  | ((with_reducible show Op2 _ _ _ (binaryOp Operator.Mod) (V.int _) (V.int _) _ _); refine mod_int' (by first | decide | omega) ?_)
  | ((with_reducible show Op2 _ _ _ (compareOp CmpOp.Eq) (V.int _) (V.int _) _ _); refine eq_int' ?_)
  | ((with_reducible show Op2 _ _ _ (compareOp CmpOp.NotEq) (V.int _) (V.int _) _ _); refine ne_int' ?_)
  | ((with_reducible show Op2 _ _ _ (compareOp CmpOp.Lt) (V.int _) (V.int _) _ _); refine lt_int' ?_)
  | ((with_reducible show Op2 _ _ _ (compareOp CmpOp.Gt) (V.int _) (V.int _) _ _); refine gt_int' ?_)
  | ((with_reducible show Op2 _ _ _ (compareOp CmpOp.Eq) (V.bytes _) (V.bytes _) _ _); refine eq_bytes' ?_)
  | ((with_reducible show Op2 _ _ _ (compareOp CmpOp.NotEq) (V.bytes _) (V.bytes _) _ _); refine ne_bytes' ?_)
  | ((with_reducible show Op2 _ _ _ (compareOp CmpOp.In) (V.int _) (V.bytes _) _ _); refine in_bytes' (by decide) ?_)
  | ((with_reducible show Op2 _ _ _ (inplaceOp Operator.Add) (V.raw (Value.ref _)) (V.bytes _) _ _); refine iadd_ba_b (by assumption) (by walk_at "m:put") (by walk_at "m:arith") ?_)
  | ((with_reducible show Op2 _ _ _ (inplaceOp Operator.Add) (V.raw (Value.ref _)) (V.raw (Value.ref _)) _ _); refine iadd_ints_drop (by walk_at "m:put") (by walk_at "m:arith") ?_)
  | ((with_reducible show Op2 _ _ _ (compareOp CmpOp.In) (V.int _) (V.raw (Value.ref _)) _ _); refine in_ints' (by walk_at "m:kn") ?_)
  | ((with_reducible show Op2 _ _ _ (binaryOp Operator.Add) (V.raw (Value.ref _)) (V.raw (Value.ref _)) _ _); (refine add_ints' (by walk_at "m:kn") (by walk_at "m:kn") (by walk_at "m:arith") ?_; intro))
  | ((with_reducible show Op2 _ _ _ (compareOp CmpOp.Is) _ _ _ _); first | refine is_none_none ?_ | refine is_bytes_none ?_)
  | ((with_reducible show Op2 _ _ _ (compareOp CmpOp.IsNot) _ _ _ _); first | refine isnot_none_none ?_ | refine isnot_bytes_none ?_))
local macro_rules | `(tactic| walk_at "m:Op1") => `(tactic| first
  | ((with_reducible show Op1 _ _ _ (unaryOp UnaryOp.USub) (V.int _) _ _); refine neg_int' ?_))
local macro_rules | `(tactic| walk_at "m:OpB") => `(tactic| first
  | ((with_reducible show OpB _ _ _ truthy (V.raw (Value.bool _)) _ _); refine truthy_bool' ?_))
local macro_rules | `(tactic| walk_at "m:OpN") => `(tactic| first
  | ((with_reducible show OpN _ _ _ (fun vs => call (Value.builtin "isinstance") vs) [V.bytes _, V.raw (Value.type "str")] _ _); refine isi_b_str ?_)
  | ((with_reducible show OpN _ _ _ (fun vs => call (Value.builtin "isinstance") vs) [V.bytes _, V.raw (Value.type "bytes")] _ _); refine isi_b_b ?_)
  | ((with_reducible show OpN _ _ _ (fun vs => call (Value.builtin "len") vs) [V.bytes _] _ _); refine len_bytes' (by walk_at "m:arith") ?_)
  | ((with_reducible show OpN _ _ _ (fun vs => call (Value.type "bytearray") vs) [] _ _); (refine newba' (by assumption) ?_; intro))
  | ((with_reducible show OpN _ _ _ (fun vs => call (Value.type "bytes") vs) [V.raw (Value.ref _)] _ _); first | refine bytes_list' (by assumption) (by walk_at "m:kn") (by assumption) (by walk_at "m:arith") ?_ | refine bytes_ba' (by walk_at "m:kn") (by walk_at "m:arith") ?_)
  | ((with_reducible show OpN _ _ _ (fun vs => call (Value.type "range") vs) [V.int _, V.int _] _ _); (refine list_range_arg (by assumption) (by decide) (by decide) (by decide) ?_; intro))
  | ((with_reducible show OpN _ _ _ (fun vs => call (Value.builtin "len") vs) [V.raw (Value.ref _)] _ _); first | refine len_ints' (by walk_at "m:kn") (by walk_at "m:arith") ?_ | refine len_list' (by walk_at "m:kn") (by walk_at "m:arith") ?_)
  | ((with_reducible show OpN _ _ _ (fun vs => call (Value.type "list") vs) [V.bytes _] _ _); (refine list_bytes' (by assumption) (by walk_at "m:arith") ?_; intro))
  | ((with_reducible show OpN _ _ _ (fun vs => call (Value.ref _) vs) [_] _ _); walk_at "m:call"))
local macro_rules | `(tactic| walk_at "m:SubS") => `(tactic| first
  | ((with_reducible show SubS _ _ _ (V.bytes _) _ _ _ _); refine subs_bytes (by walk_at "m:arith") ?_)
  | ((with_reducible show SubS _ _ _ (V.raw (Value.ref _)) _ _ _ _); first | (refine subs_raw (by assumption) (by walk_at "m:kn") (by walk_at "m:arith") ?_; intro) | (refine subs_ints (by walk_at "m:kn") (by walk_at "m:arith") ?_; intro)))
local macro_rules | `(tactic| walk_at "m:LoopQ") => `(tactic| first
  | ((with_reducible show LoopQ _ _ Fl.next _); refine loop_next ?_)
  | ((with_reducible show LoopQ _ _ Fl.brk _); refine loop_brk ?_)
  | ((with_reducible show LoopQ _ _ (Fl.ret _) _); refine loop_ret ?_))
local macro_rules | `(tactic| walk_at "m:Sub") => `(tactic| first
  | ((with_reducible show Sub _ _ _ (V.bytes _) (V.int _) _ _); refine sub_bytes (by walk_at "m:arith") (by omega) (by assumption) ?_)
  | ((with_reducible show Sub _ _ _ (V.raw (Value.ref _)) (V.int _) _ _); first | refine sub_list (by walk_at "m:kn") (by omega) (by walk_at "m:arith") (by assumption) ?_ | refine sub_ints (by walk_at "m:kn") (by omega) (by walk_at "m:arith") (by assumption) ?_))
local macro_rules | `(tactic| walk_at "m") => `(tactic| first
  | ((with_reducible show TF _ _ _ _ _ _); walk_at "m:TF")
  | ((with_reducible show TV _ _ _ _ _ _); walk_at "m:TV")
  | ((with_reducible show TB _ _ _ _ _ _); walk_at "m:TB")
  | ((with_reducible show TL _ _ _ _ _ _); walk_at "m:TL")
  | ((with_reducible show Op2 _ _ _ _ _ _ _ _); walk_at "m:Op2")
  | ((with_reducible show OpN _ _ _ _ _ _ _); walk_at "m:OpN")
  | ((with_reducible show OpB _ _ _ _ _ _ _); walk_at "m:OpB")
  | ((with_reducible show Op1 _ _ _ _ _ _ _); walk_at "m:Op1")
  | ((with_reducible show SubS _ _ _ _ _ _ _ _); walk_at "m:SubS")
  | ((with_reducible show Sub _ _ _ _ _ _ _); walk_at "m:Sub")
  | ((with_reducible show LoopQ _ _ _ _); walk_at "m:LoopQ")
  | walk_at "m:rest")
section
def encJ (ns : List Int) (l : Addr) (i : Nat) (st : St) : Prop := ∃ (fz : Bool) (out pre cur : List Int) (u : V),
  st = ⟨[("in_bytes", .bytes ns), ("in_bytes_mv", .bytes ns), ("final_zero", .bool fz), ("out_bytes", .ref l), ("idx", .int i), ("search_start_idx", .int pre.length), ("in_char", u)], [(l, .ba out)]⟩ ∧
    ns.take i = pre ++ cur ∧ cur.length ≤ 253 ∧ out.length ≤ 2 * pre.length ∧ encGo fz out cur (ns.drop i) = enc ns
set_option maxHeartbeats 2000000 in
theorem enc_walk {X : Cx} {ro : Led} {f : Addr} {cd : Value} {ns : List Int} (hh : X.A.handled = none) (hg : X.A.guards = some []) (g1 : Glo X "isinstance" (.builtin "isinstance")) (g2 : Glo X "str" (.type "str"))
    (g3 : Glo X "bytearray" (.type "bytearray")) (g4 : Glo X "bytes" (.type "bytes")) (hns : ∀ n ∈ ns, 0 ≤ n ∧ n < 256) (hsz : ns.length ≤ 1000000) :
    TF X ro noE ⟨[("in_bytes", .bytes ns), ("in_bytes_mv", .unk), ("final_zero", .unk), ("out_bytes", .unk), ("idx", .unk), ("search_start_idx", .unk), ("in_char", .unk)], []⟩ (execs (fBody stE) (envOf "encode" (fScope stE) X.L f cd))
      fun fl st' => fl = .ret (.bytes (enc ns)) := by
  refine execs_cons' ?_
  repeat' walk_at "m"
  rename_i l
  with_reducible show ForOver _ _ _ _ _ _ _ _ _
  refine for_bytes (encJ ns l) .none hh ⟨true, [], [], [], .unk, rfl, by simp, by simp, by simp, rfl⟩ ?_ ?_
  · rintro i st' n hi ⟨fz, out, pre, cur, u, rfl, htk, hcl, hol, hgo⟩
    have hlt : i < ns.length := (List.getElem?_eq_some_iff.mp hi).1
    have hdr : ns.drop i = n :: ns.drop (i + 1) := by
      rw [List.drop_eq_getElem_cons hlt, (List.getElem?_eq_some_iff.mp hi).2]
    have htk' : ns.take (i + 1) = pre ++ (cur ++ [n]) := by rw [List.take_succ, hi, htk]; simp
    have hil : i = pre.length + cur.length := by
      have := congrArg List.length htk
      simp only [List.length_take, List.length_append] at this; omega
    have hne : ns = pre ++ cur ++ n :: ns.drop (i + 1) := by rw [← htk, ← hdr, List.take_append_drop]
    have hsl : pslice (some (pre.length : Int)) (some (i : Int)) ns = cur := by
      conv => lhs; rw [hne]
      exact pslice_mid rfl (by omega)
    have hsl' : pslice (some (pre.length : Int)) (some ((i : Int) + 1)) ns = cur ++ [n] := by
      have e : ns = pre ++ (cur ++ [n]) ++ ns.drop (i + 1) := by rw [← htk', List.take_append_drop]
      conv => lhs; rw [e]
      exact pslice_mid rfl (by simp; omega)
    rw [hdr, encGo] at hgo
    repeat' walk_at "m"
    · rename_i hn
      rw [if_pos hn] at hgo
      refine ⟨true, _, pre ++ (cur ++ [n]), [], .int n, ?_, by rw [htk']; simp, by simp, ?_, hgo⟩
      · simp only [hsl, St.mk.injEq, List.cons.injEq, Prod.mk.injEq, V.int.injEq, Cell.ba.injEq, true_and, and_true, List.length_append, List.length_cons, List.length_nil]
        refine ⟨⟨?_, ?_⟩, ?_⟩
        · omega
        · omega
        · congr 3; omega
      · simp; omega
    · rename_i hn hc
      rw [if_neg hn, if_pos (by omega)] at hgo
      refine ⟨false, _, pre ++ (cur ++ [n]), [], .int n, ?_, by rw [htk']; simp, by simp, ?_, hgo⟩
      · simp only [hsl', St.mk.injEq, List.cons.injEq, Prod.mk.injEq, V.int.injEq, Cell.ba.injEq, true_and, and_true, List.length_append, List.length_cons, List.length_nil]
        omega
      · simp; omega
    · rename_i hn hc
      rw [if_neg hn, if_neg (by omega)] at hgo
      refine ⟨fz, out, pre, cur ++ [n], .int n, rfl, htk', by simp; omega, hol, hgo⟩
  · rintro st' ⟨fz, out, pre, cur, u, rfl, htk, hcl, hol, hgo⟩
    rw [List.take_length] at htk
    rw [List.drop_length, encGo] at hgo
    have hil : ns.length = pre.length + cur.length := by rw [htk]; simp
    have hsl : pslice (some (pre.length : Int)) (some (ns.length : Int)) ns = cur := by
      conv => lhs; rw [show ns = pre ++ cur ++ [] by simp [← htk]]
      exact pslice_mid rfl (by simp)
    repeat' walk_at "m"
    · rename_i hc
      rw [if_pos (.inl (by omega))] at hgo
      show Fl.ret _ = Fl.ret _
      rw [← hgo, hsl, show (ns.length : Int) - pre.length = cur.length by omega]
    · rename_i hc
      rw [if_pos (.inr rfl)] at hgo
      show Fl.ret _ = Fl.ret _
      rw [← hgo, hsl, show (ns.length : Int) - pre.length = cur.length by omega]
    · rename_i hc
      rw [if_neg (by simp; exact List.eq_nil_of_length_eq_zero (by omega))] at hgo
      show Fl.ret _ = Fl.ret _
      rw [hgo]
end
section
set_option Elab.async false
set_option linter.unusedVariables false
set_option linter.unusedSimpArgs false
def flat0 (Bs : List (List Int)) : List Int := (Bs.map fun B => (0 : Int) :: B).flatten
def flat1 (Bs : List (List Int)) : List Int := (Bs.map fun B => ((B.length : Int) + 1) :: B).flatten
def bodyOf (Bs : List (List Int)) : List Int := (Bs.map fun B => B ++ if B.length < 254 then [(0 : Int)] else []).flatten
theorem flat1_snoc (Bs B) : flat1 (Bs ++ [B]) = flat1 Bs ++ ((B.length : Int) + 1) :: B := by simp [flat1]
theorem body_snoc (Bs B) : bodyOf (Bs ++ [B]) = bodyOf Bs ++ (B ++ if B.length < 254 then [(0 : Int)] else []) := by simp [bodyOf]

/-- the row in blocks, a new one begun where another octet follows a full one -/
def blkGo (Bs : List (List Int)) (B : List Int) : List Int → List (List Int)
  | [] => Bs ++ [B]
  | c :: r => if B.length = 254 then (if c = 0 then blkGo (Bs ++ [B] ++ [[]]) [] r else blkGo (Bs ++ [B]) [c] r)
    else if c = 0 then blkGo (Bs ++ [B]) [] r else blkGo Bs (B ++ [c]) r
def blk (ns : List Int) : List (List Int) := blkGo [] [] ns

theorem enc_blkGo : ∀ (r : List Int) (fz : Bool) (out cur : List Int) (Bs : List (List Int)) (B : List Int),
    ((B = cur ∧ out = flat1 Bs ∧ (fz = true ∨ cur ≠ []) ∧ cur.length ≤ 253) ∨ (fz = false ∧ cur = [] ∧ B.length = 254 ∧ out = flat1 Bs ++ 255 :: B)) →
    encGo fz out cur r = flat1 (blkGo Bs B r) := by
  intro r
  induction r with
  | nil =>
    rintro fz out cur Bs B (⟨rfl, rfl, h, hl⟩ | ⟨rfl, rfl, hl, rfl⟩)
    · rw [encGo, if_pos, blkGo, flat1_snoc]
      · simp
      · rcases h with h | h
        · exact .inr h
        · exact .inl fun e => h (List.eq_nil_of_length_eq_zero e)
    · rw [encGo, if_neg (by simp), blkGo, flat1_snoc, hl]; rfl
  | cons c r ih =>
    rintro fz out cur Bs B (⟨rfl, rfl, h, hl⟩ | ⟨rfl, rfl, hl, rfl⟩)
    · rw [encGo, blkGo, if_neg (show ¬ B.length = 254 by omega)]
      by_cases hc : c = 0
      · rw [if_pos hc, if_pos hc]
        refine ih _ _ _ _ _ ?_
        refine .inl ⟨rfl, ?_, .inl rfl, by simp⟩
        rw [flat1_snoc]; simp
      · rw [if_neg hc, if_neg hc]
        by_cases h3 : B.length = 253
        · rw [if_pos h3]
          refine ih _ _ _ _ _ ?_
          exact .inr ⟨rfl, rfl, by simp [h3], by simp⟩
        · rw [if_neg h3]
          refine ih _ _ _ _ _ ?_
          exact .inl ⟨rfl, rfl, .inr (by simp), by simp; omega⟩
    · rw [encGo, blkGo, if_pos hl]
      by_cases hc : c = 0
      · rw [if_pos hc, if_pos hc]
        refine ih _ _ _ _ _ ?_
        refine .inl ⟨rfl, ?_, .inl rfl, by simp⟩
        rw [flat1_snoc, flat1_snoc, hl]; simp
      · rw [if_neg hc, if_neg hc, if_neg (by simp)]
        refine ih _ _ _ _ _ ?_
        refine .inl ⟨rfl, ?_, .inr (by simp), by simp⟩
        rw [flat1_snoc, hl]; rfl
theorem enc_blk (ns : List Int) : enc ns = flat1 (blk ns) := enc_blkGo ns true [] [] [] [] (.inl ⟨rfl, rfl, .inl rfl, by simp⟩)

def GoodB (B : List Int) : Prop := B.length ≤ 254 ∧ ∀ n ∈ B, n ≠ 0
theorem blkGo_good : ∀ (r : List Int) (Bs : List (List Int)) (B : List Int), (∀ C ∈ Bs, GoodB C) → GoodB B → ∃ Bs' B', blkGo Bs B r = Bs' ++ [B'] ∧ (∀ C ∈ Bs', GoodB C) ∧ GoodB B' ∧ bodyOf Bs' ++ B' = bodyOf Bs ++ B ++ r := by
  intro r
  induction r with
  | nil => intro Bs B h1 h2; exact ⟨Bs, B, rfl, h1, h2, by simp⟩
  | cons c r ih =>
    intro Bs B h1 h2
    have h3 : ∀ C ∈ Bs ++ [B], GoodB C := by
      intro C hC
      rcases List.mem_append.mp hC with h | h
      · exact h1 C h
      · rw [List.mem_singleton.mp h]; exact h2
    have h0 : GoodB [] := ⟨by simp, by simp⟩
    rw [blkGo]
    by_cases hl : B.length = 254
    · rw [if_pos hl]
      by_cases hc : c = 0
      · rw [if_pos hc]
        obtain ⟨Bs', B', e, g1, g2, g3⟩ := ih (Bs ++ [B] ++ [[]]) [] (by
          intro C hC
          rcases List.mem_append.mp hC with h | h
          · exact h3 C h
          · rw [List.mem_singleton.mp h]; exact h0) h0
        refine ⟨Bs', B', e, g1, g2, ?_⟩
        rw [g3, body_snoc, body_snoc, hc]; simp [hl]
      · rw [if_neg hc]
        obtain ⟨Bs', B', e, g1, g2, g3⟩ := ih (Bs ++ [B]) [c] h3 ⟨by simp, by simpa using hc⟩
        refine ⟨Bs', B', e, g1, g2, ?_⟩
        rw [g3, body_snoc]; simp [hl]
    · rw [if_neg hl]
      have hlt : B.length < 254 := by have := h2.1; omega
      by_cases hc : c = 0
      · rw [if_pos hc]
        obtain ⟨Bs', B', e, g1, g2, g3⟩ := ih (Bs ++ [B]) [] h3 h0
        refine ⟨Bs', B', e, g1, g2, ?_⟩
        rw [g3, body_snoc, if_pos hlt, hc]; simp
      · rw [if_neg hc]
        obtain ⟨Bs', B', e, g1, g2, g3⟩ := ih Bs (B ++ [c]) h1 ⟨by simp; omega, by
          intro n hn
          rcases List.mem_append.mp hn with h | h
          · exact h2.2 n h
          · rw [List.mem_singleton.mp h]; exact hc⟩
        exact ⟨Bs', B', e, g1, g2, by rw [g3]; simp⟩
theorem blk_good (ns : List Int) : ∃ Bs B, blk ns = Bs ++ [B] ∧ (∀ C ∈ Bs, GoodB C) ∧ GoodB B ∧ bodyOf Bs ++ B = ns := by
  obtain ⟨Bs, B, h1, h2, h3, h4⟩ := blkGo_good ns [] [] (by simp) ⟨by simp, by simp⟩
  exact ⟨Bs, B, h1, h2, h3, by simpa [bodyOf] using h4⟩

theorem decGo_blocks : ∀ (Bs : List (List Int)) (B out : List Int), (∀ C ∈ Bs, GoodB C) → GoodB B → decGo out (flat1 (Bs ++ [B])) = some (out ++ bodyOf Bs ++ B) := by
  intro Bs
  induction Bs with
  | nil =>
    intro B out _ h
    have e : ((B.length : Int) + 1 - 1).toNat = B.length := by omega
    rw [show flat1 ([] ++ [B]) = ((B.length : Int) + 1) :: B by simp [flat1], decGo, e, if_neg (by omega), List.take_length, if_neg (fun h0 => h.2 0 h0 rfl), if_neg (by omega), if_neg (by omega)]
    simp [bodyOf]
  | cons C Bs ih =>
    intro B out h1 h2
    have hC := h1 C List.mem_cons_self
    have e : ((C.length : Int) + 1 - 1).toNat = C.length := by omega
    have hpos : 0 < (flat1 (Bs ++ [B])).length := by rw [flat1_snoc]; simp; omega
    rw [show flat1 ((C :: Bs) ++ [B]) = ((C.length : Int) + 1) :: (C ++ flat1 (Bs ++ [B])) by simp [flat1], decGo, e, if_neg (by omega), List.take_left, if_neg (fun h0 => hC.2 0 h0 rfl), if_neg (by simp), if_pos (by rw [List.length_append]; omega), List.drop_left,
      ih B _ (fun D hD => h1 D (List.mem_cons_of_mem _ hD)) h2]
    congr 1
    by_cases hl : C.length < 254
    · rw [if_pos (by omega)]; simp [bodyOf, hl]
    · rw [if_neg (by omega)]; simp [bodyOf, hl]
theorem dec_enc (ns : List Int) : dec (enc ns) = some ns := by
  obtain ⟨Bs, B, h1, h2, h3, h4⟩ := blk_good ns
  have hpos : (flat1 (Bs ++ [B])).length ≠ 0 := by simp [flat1]
  rw [enc_blk, h1, dec, if_neg hpos, decGo_blocks Bs B [] h2 h3, List.nil_append, h4]

/-- octets stay octets -/
theorem flat1_bytes {Bs : List (List Int)} (h : ∀ C ∈ Bs, GoodB C ∧ ∀ n ∈ C, 0 ≤ n ∧ n < 256) : ∀ n ∈ flat1 Bs, 0 ≤ n ∧ n < 256 := by
  intro n hn
  simp only [flat1, List.mem_flatten, List.mem_map] at hn
  obtain ⟨l, ⟨C, hC, rfl⟩, hl⟩ := hn
  rcases List.mem_cons.mp hl with rfl | hl
  · have := (h C hC).1.1; omega
  · exact (h C hC).2 n hl
theorem mem_body {Bs : List (List Int)} {C : List Int} {n : Int} (hC : C ∈ Bs) (hn : n ∈ C) : n ∈ bodyOf Bs := by
  simp only [bodyOf, List.mem_flatten, List.mem_map]
  exact ⟨_, ⟨C, hC, rfl⟩, List.mem_append_left _ hn⟩
theorem enc_bytes {ns : List Int} (h : ∀ n ∈ ns, 0 ≤ n ∧ n < 256) : ∀ n ∈ enc ns, 0 ≤ n ∧ n < 256 := by
  obtain ⟨Bs, B, h1, h2, h3, h4⟩ := blk_good ns
  rw [enc_blk, h1]
  refine flat1_bytes fun C hC => ?_
  rcases List.mem_append.mp hC with hC | hC
  · exact ⟨h2 C hC, fun n hn => h n (by rw [← h4]; exact List.mem_append_left _ (mem_body hC hn))⟩
  · rw [List.mem_singleton.mp hC]; exact ⟨h3, fun n hn => h n (by rw [← h4]; exact List.mem_append_right _ hn)⟩

/-- the runs between noughts -/
def runsP (dk : List Int × Int) : List Int → List Int × Int
  | [] => dk
  | c :: r => runsP (if c = 0 then (dk.1 ++ [dk.2], 0) else (dk.1, dk.2 + 1)) r
def longer (dk : List Int × Int) : Int := (dk.1.map (· / 254)).sum + max 1 ((dk.2 + 253) / 254)
end
section
def decJ (ns : List Int) (l : Addr) (m : Nat) (st : St) : Prop := ∃ (out pre rest : List Int) (u1 u2 u3 : V),
  st = ⟨[("in_bytes", .bytes ns), ("in_bytes_mv", .bytes ns), ("out_bytes", .ref l), ("idx", .int pre.length), ("length", u1), ("end", u2), ("copy_mv", u3)], [(l, .ba out)]⟩ ∧
    ns = pre ++ rest ∧ rest.length = m ∧ 0 < m ∧ out.length ≤ pre.length ∧ decGo out rest = dec ns
set_option maxHeartbeats 2000000 in
theorem dec_walk {X : Cx} {ro : Led} {f : Addr} {cd : Value} {ns : List Int} {fs : List Env} {C : Addr} {mg : Str → Option Value} (hh : X.A.handled = none) (hg : X.A.guards = some []) (g1 : Glo X "isinstance" (.builtin "isinstance")) (g2 : Glo X "str" (.type "str"))
    (g3 : Glo X "bytearray" (.type "bytearray")) (g4 : Glo X "bytes" (.type "bytes")) (g5 : Glo X "len" (.builtin "len")) (hns : ∀ n ∈ ns, 0 ≤ n ∧ n < 256) (hsz : ns.length ≤ 1000000)
    (F : FrOk X (envOf "decode" (fScope stD) X.L f cd) fs) (O : OwnClsQ "DecodeError" C [.type "Exception", .type "BaseException", .type "object"] "Exception.__new__" mg X.B) (hgm : X.B.Ns mainGlobals mg) :
    TF X ro (fun R e s => dec ns = none ∧ Ex X C R e s) ⟨[("in_bytes", .bytes ns), ("in_bytes_mv", .unk), ("out_bytes", .unk), ("idx", .unk), ("length", .unk), ("end", .unk), ("copy_mv", .unk)], []⟩ (execs (fBody stD) (envOf "decode" (fScope stD) X.L f cd))
      fun fl st' => ∃ res, dec ns = some res ∧ fl = .ret (.bytes res) := by
  refine execs_cons' ?_
  repeat' walk_at "m"
  · rename_i l hlen
    with_reducible show TF _ _ _ _ (exec (Stmt.While _ _ [] _) _) _
    refine While' (decJ ns l) ns.length (Ex.ok F).and ⟨[], [], ns, .unk, .unk, .unk, rfl, rfl, rfl, by omega, by simp, by rw [dec, if_neg (by omega)]⟩ ?_
    rintro m st' ⟨out, pre, rest, u1, u2, u3, rfl, hne, hm, hm0, hol, hgo⟩
    cases rest with
    | nil => simp at hm; omega
    | cons L r =>
    have hL : 0 ≤ L ∧ L < 256 := hns L (by rw [hne]; simp)
    have hx : ns[(pre.length : Int).toNat]? = some L := by rw [hne]; simp
    have hnl : ns.length = pre.length + 1 + r.length := by rw [hne]; simp; omega
    rw [decGo] at hgo
    have hcp : L ≠ 0 → pslice (some ((pre.length : Int) + 1)) (some ((pre.length : Int) + 1 + L - 1)) ns = r.take (L - 1).toNat := fun h0 => by
      rw [show ns = (pre ++ [L]) ++ r by rw [hne]; simp]
      exact pslice_tail (by simp) (by simp; omega) (by omega)
    have htl := List.length_take_le (L - 1).toNat r
    repeat' walk_at "m"
    · rename_i h0
      rw [if_pos h0] at hgo
      exact (Raise' O hgm PySem.F.excBase_Exception hh).err fun _ _ _ q => ⟨hgo.symm, q⟩
    · rename_i h0 h1
      rw [hcp h0] at h1
      rw [if_neg h0, if_pos h1] at hgo
      exact (Raise' O hgm PySem.F.excBase_Exception hh).err fun _ _ _ q => ⟨hgo.symm, q⟩
    · rename_i h0 h1 h2
      rw [hcp h0] at h1
      rw [if_neg h0, if_neg h1, if_pos (by omega)] at hgo
      exact (Raise' O hgm PySem.F.excBase_Exception hh).err fun _ _ _ q => ⟨hgo.symm, q⟩
    · rename_i h0 h1 h2 h3 h4
      rw [hcp h0] at h1
      rw [if_neg h0, if_neg h1, if_neg (by omega), if_pos (by omega), if_pos h4] at hgo
      have hk : (L - 1).toNat < r.length := by omega
      refine ⟨(r.drop (L - 1).toNat).length, by rw [List.length_drop, ← hm]; simp only [List.length_cons]; omega, out ++ r.take (L - 1).toNat ++ [0], pre ++ L :: r.take (L - 1).toNat, r.drop (L - 1).toNat, .int L, .int ((pre.length : Int) + 1 + L - 1), .bytes (r.take (L - 1).toNat), ?_, ?_, rfl, by rw [List.length_drop]; omega, ?_, hgo⟩
      · rw [hcp h0]
        simp only [St.mk.injEq, List.cons.injEq, Prod.mk.injEq, V.int.injEq, Cell.ba.injEq, true_and, and_true, List.length_append, List.length_cons, List.length_take]
        omega
      · rw [hne]; simp
      · simp only [List.length_append, List.length_cons, List.length_take, List.length_nil]; omega
    · rename_i h0 h1 h2 h3 h4
      rw [hcp h0] at h1
      rw [if_neg h0, if_neg h1, if_neg (by omega), if_pos (by omega), if_neg h4] at hgo
      have hk : (L - 1).toNat < r.length := by omega
      refine ⟨(r.drop (L - 1).toNat).length, by rw [List.length_drop, ← hm]; simp only [List.length_cons]; omega, out ++ r.take (L - 1).toNat ++ [], pre ++ L :: r.take (L - 1).toNat, r.drop (L - 1).toNat, .int L, .int ((pre.length : Int) + 1 + L - 1), .bytes (r.take (L - 1).toNat), ?_, ?_, rfl, by rw [List.length_drop]; omega, ?_, hgo⟩
      · rw [hcp h0]
        simp only [St.mk.injEq, List.cons.injEq, Prod.mk.injEq, V.int.injEq, Cell.ba.injEq, true_and, and_true, List.length_append, List.length_cons, List.length_take, List.append_nil]
        omega
      · rw [hne]; simp
      · simp only [List.length_append, List.length_cons, List.length_take, List.length_nil]; omega
    · rename_i h0 h1 h2 h3
      rw [hcp h0] at h1
      rw [if_neg h0, if_neg h1, if_neg (by omega), if_neg (by omega)] at hgo
      exact ⟨_, hgo.symm, by rw [hcp h0]⟩
  · rename_i l hlen
    exact ⟨[], by rw [dec, if_pos (by omega)], rfl⟩
end
section
set_option Elab.async false
set_option linter.unusedVariables false
set_option linter.unusedSimpArgs false
def codesGo (rest : List Int) : Option (List Int) := match rest with
  | [] => some []
  | L :: r => if (L - 1).toNat ≤ r.length then (codesGo (r.drop (L - 1).toNat)).map (L :: ·) else none
termination_by rest.length
decreasing_by simp; omega
def again (row : List Int) : Option (List Int) := if 0 ∈ row then none else match codesGo row with
  | none => none
  | some codes => if codes = [] then some [1] else if pslice (some (-2)) none codes = [255, 1] then some (pslice none (some (-1)) row) else some row

theorem decGo_zero : ∀ (k : Nat) (rest out : List Int), rest.length ≤ k → 0 ∈ rest → decGo out rest = none := by
  intro k
  induction k with
  | zero => intro rest out hl hz; have e : rest = [] := List.eq_nil_of_length_eq_zero (by omega); rw [e] at hz; simp at hz
  | succ k ih =>
    intro rest out hl hz
    cases rest with
    | nil => simp at hz
    | cons L r =>
      rw [decGo]
      by_cases h0 : L = 0
      · rw [if_pos h0]
      rw [if_neg h0]
      by_cases h1 : 0 ∈ r.take (L - 1).toNat
      · rw [if_pos h1]
      rw [if_neg h1]
      by_cases h2 : r.length < (L - 1).toNat
      · rw [if_pos h2]
      rw [if_neg h2]
      have hr : 0 ∈ r := by
        rcases List.mem_cons.mp hz with e | h
        · exact absurd e.symm h0
        · exact h
      have hd : 0 ∈ r.drop (L - 1).toNat := by
        rw [← List.take_append_drop (L - 1).toNat r] at hr
        exact (List.mem_append.mp hr).resolve_left h1
      by_cases h3 : (L - 1).toNat < r.length
      · rw [if_pos h3]
        exact ih _ _ (by simp at hl ⊢; omega) hd
      · rw [List.drop_eq_nil_of_le (by omega)] at hd; simp at hd
theorem decGo_over : ∀ (k : Nat) (rest out : List Int), rest.length ≤ k → codesGo rest = none → decGo out rest = none := by
  intro k
  induction k with
  | zero => intro rest out hl hz; have e : rest = [] := List.eq_nil_of_length_eq_zero (by omega); rw [e, codesGo] at hz; cases hz
  | succ k ih =>
    intro rest out hl hz
    cases rest with
    | nil => rw [codesGo] at hz; cases hz
    | cons L r =>
      rw [codesGo] at hz
      rw [decGo]
      by_cases h0 : L = 0
      · rw [if_pos h0]
      rw [if_neg h0]
      by_cases h1 : 0 ∈ r.take (L - 1).toNat
      · rw [if_pos h1]
      rw [if_neg h1]
      by_cases h2 : r.length < (L - 1).toNat
      · rw [if_pos h2]
      rw [if_neg h2]
      rw [if_pos (by omega), Option.map_eq_none_iff] at hz
      by_cases h3 : (L - 1).toNat < r.length
      · rw [if_pos h3]
        exact ih _ _ (by simp at hl ⊢; omega) hz
      · rw [List.drop_eq_nil_of_le (by omega), codesGo] at hz; cases hz
theorem parse : ∀ (k : Nat) (g codes : List Int), g.length ≤ k → (∀ n ∈ g, 0 ≤ n ∧ n < 256) → 0 ∉ g → codesGo g = some codes → ∃ Bs : List (List Int), g = flat1 Bs ∧ codes = Bs.map (fun B => (B.length : Int) + 1) ∧ ∀ B ∈ Bs, GoodB B := by
  intro k
  induction k with
  | zero =>
    intro g codes hl _ _ hc
    have e : g = [] := List.eq_nil_of_length_eq_zero (by omega)
    rw [e, codesGo] at hc
    cases hc
    exact ⟨[], e, rfl, by simp⟩
  | succ k ih =>
    intro g codes hl hb hz hc
    cases g with
    | nil => rw [codesGo] at hc; cases hc; exact ⟨[], rfl, rfl, by simp⟩
    | cons L r =>
      rw [codesGo] at hc
      have hL := hb L List.mem_cons_self
      have hL0 : L ≠ 0 := fun e => hz (e ▸ List.mem_cons_self)
      by_cases h : (L - 1).toNat ≤ r.length
      · rw [if_pos h] at hc
        obtain ⟨c', hc', rfl⟩ := Option.map_eq_some_iff.mp hc
        obtain ⟨Bs, h1, h2, h3⟩ := ih (r.drop (L - 1).toNat) c' (by simp at hl ⊢; omega) (fun n hn => hb n (List.mem_cons_of_mem _ (List.mem_of_mem_drop hn))) (fun hn => hz (List.mem_cons_of_mem _ (List.mem_of_mem_drop hn))) hc'
        have hlen : ((r.take (L - 1).toNat).length : Int) + 1 = L := by rw [List.length_take]; omega
        refine ⟨r.take (L - 1).toNat :: Bs, ?_, ?_, ?_⟩
        · rw [show flat1 (r.take (L - 1).toNat :: Bs) = (((r.take (L - 1).toNat).length : Int) + 1) :: (r.take (L - 1).toNat ++ flat1 Bs) by simp [flat1], hlen, ← h1, List.take_append_drop]
        · rw [List.map_cons, hlen, h2]
        · intro B hB
          rcases List.mem_cons.mp hB with rfl | hB
          · exact ⟨by rw [List.length_take]; omega, fun n hn e => hz (by rw [← e]; exact List.mem_cons_of_mem _ (List.mem_of_mem_take hn))⟩
          · exact h3 B hB
      · rw [if_neg h] at hc; cases hc
open Classical in
end
section
set_option Elab.async false
set_option linter.unusedVariables false
set_option linter.unusedSimpArgs false
theorem decGo_bytes : ∀ (k : Nat) (rest out res : List Int), rest.length ≤ k → (∀ n ∈ rest, 0 ≤ n ∧ n < 256) → (∀ n ∈ out, 0 ≤ n ∧ n < 256) → decGo out rest = some res → (∀ n ∈ res, 0 ≤ n ∧ n < 256) ∧ res.length ≤ out.length + rest.length := by
  intro k
  induction k with
  | zero => intro rest out res hl _ _ h; have e : rest = [] := List.eq_nil_of_length_eq_zero (by omega); rw [e, decGo] at h; cases h
  | succ k ih =>
    intro rest out res hl hr ho h
    cases rest with
    | nil => rw [decGo] at h; cases h
    | cons L r =>
      rw [decGo] at h
      have hap : ∀ n ∈ out ++ r.take (L - 1).toNat, 0 ≤ n ∧ n < 256 := fun n hn => (List.mem_append.mp hn).elim (ho n) fun h => hr n (.tail _ (List.mem_of_mem_take h))
      have htl := List.length_take_le (L - 1).toNat r
      split at h
      · cases h
      split at h
      · cases h
      split at h
      · cases h
      split at h
      · rename_i h1 h2 h3 h4
        have := ih _ _ _ (by simp at hl ⊢; omega) (fun n hn => hr n (.tail _ (List.mem_of_mem_drop hn))) (fun n hn => (List.mem_append.mp hn).elim (hap n) fun h => by split at h <;> simp at h; subst h; omega) h
        refine ⟨this.1, Nat.le_trans this.2 ?_⟩
        simp only [List.length_append, List.length_take, List.length_drop, List.length_cons]
        split <;> simp <;> omega
      · cases h
        refine ⟨hap, ?_⟩
        simp only [List.length_append, List.length_take, List.length_cons]; omega
theorem dec_bytes {g res : List Int} (hg : ∀ n ∈ g, 0 ≤ n ∧ n < 256) (h : dec g = some res) : (∀ n ∈ res, 0 ≤ n ∧ n < 256) ∧ res.length ≤ g.length := by
  rw [dec] at h
  split at h
  · cases h; simp
  · have := decGo_bytes _ g [] res (Nat.le_refl _) hg (by simp) h
    simpa using this
/-- what the second loop lays -/
def meantTo (Bs : List (List Int)) (i : Nat) : List Int := if i = Bs.length then bodyOf Bs.dropLast ++ Bs.getLast?.getD [] else bodyOf (Bs.take i)
end
section
open PySem PySem.W PyProof.Rows PySem.Calls
open PySem.Sem (wp)
set_option Elab.async false
set_option maxRecDepth 100000
set_option linter.unusedVariables false
set_option linter.deprecated false
section
variable {X : Cx} {ro : Led} {E : Er} {st : St} {nm : Str} {sc : Scope} {a : Addr} {cd : Value} {env : Env} {R : Heap} {s : Shared}
theorem call_enc {fE : Addr} {pm cd doc : Value} {ns : List Int} {Q : V → St → Prop} (F : FnOk X.B fE "encode" (fParams stE) (fBody stE) (fScope stE) pm cd doc) (hlim : X.B.NoLimit) (hroom : X.A.depth < recursionLimit)
    (hh : X.A.handled = none) (hg : X.A.guards = some []) (g1 : Glo X "isinstance" (.builtin "isinstance")) (g2 : Glo X "str" (.type "str"))
    (g3 : Glo X "bytearray" (.type "bytearray")) (g4 : Glo X "bytes" (.type "bytes")) (hns : ∀ n ∈ ns, 0 ≤ n ∧ n < 256) (hsz : ns.length ≤ 1000000) (hq : Q (.bytes (enc ns)) st) :
    OpN X ro E (fun vs => call (.ref fE) vs) [.bytes ns] st Q :=
  call_fn (x := "in_bytes") (u := .bytes ns) (locs := [("in_bytes_mv", .unk), ("final_zero", .unk), ("out_bytes", .unk), ("idx", .unk), ("search_start_idx", .unk), ("in_char", .unk)]) (Ec := fun _ _ => noE) F hlim hroom (by simp only [List.map_cons, List.map_nil]; decide) (by simp)
    (fun L' m => (enc_walk (X := X.call (envOf "encode" (fScope stE) L' fE cd) L' m) hh hg g1 g2 g3 g4 hns hsz).post_own fun fl st' e => ⟨[], List.nil_sublist _, by subst e; exact hq⟩) fun _ _ _ _ _ _ _ _ _ _ h => h.elim
theorem call_dec {fD : Addr} {pm cd doc : Value} {ns : List Int} {Q : V → St → Prop} {env : Env} {fs : List Env} {C : Addr} {mg : Str → Option Value} (F : FnOk X.B fD "decode" (fParams stD) (fBody stD) (fScope stD) pm cd doc) (hlim : X.B.NoLimit) (hroom : X.A.depth < recursionLimit)
    (hh : X.A.handled = none) (hg : X.A.guards = some []) (g1 : Glo X "isinstance" (.builtin "isinstance")) (g2 : Glo X "str" (.type "str"))
    (g3 : Glo X "bytearray" (.type "bytearray")) (g4 : Glo X "bytes" (.type "bytes")) (g5 : Glo X "len" (.builtin "len")) (hns : ∀ n ∈ ns, 0 ≤ n ∧ n < 256) (hsz : ns.length ≤ 1000000)
    (FR : FrOk X env fs) (O : OwnClsQ "DecodeError" C [.type "Exception", .type "BaseException", .type "object"] "Exception.__new__" mg X.B) (hgm : X.B.Ns mainGlobals mg)
    (hE : dec ns = none → ∀ R e s, Thr X ro st env fs C R e s → E R e s)
    (hq : ∀ res, dec ns = some res → Q (.bytes res) st) :
    OpN X ro E (fun vs => call (.ref fD) vs) [.bytes ns] st Q :=
  call_fn (x := "in_bytes") (u := .bytes ns) (locs := [("in_bytes_mv", .unk), ("out_bytes", .unk), ("idx", .unk), ("length", .unk), ("end", .unk), ("copy_mv", .unk)])
    (Ec := fun L' m R e s => dec ns = none ∧ Ex (X.call (envOf "decode" (fScope stD) L' fD cd) L' m) C R e s) F hlim hroom (by simp only [List.map_cons, List.map_nil]; decide) (by simp)
    (fun L' m => (dec_walk (X := X.call (envOf "decode" (fScope stD) L' fD cd) L' m) hh hg g1 g2 g3 g4 g5 hns hsz (FR.call rfl) O hgm).post_own fun fl st' ⟨res, hr, e⟩ => ⟨[], List.nil_sublist _, by subst e; exact hq res hr⟩)
    fun L' m R s e s' S hL hm hml h => wpR_mono (Ex.leave FR rfl S hml h.2) (fun _ _ q => hE h.1 _ _ _ q) fun _ _ q => hE h.1 _ _ _ q
end
end
section
local macro_rules | `(tactic| walk_at "m") => `(tactic| first
  | ((with_reducible show OpN _ _ _ (fun vs => call (Value.builtin "isinstance") vs) [V.raw (Value.ref _), V.raw (Value.type "str")] _ _); refine isi_ba_str (by walk_at "m:kn") ?_)
  | ((with_reducible show SubS _ _ _ (V.raw (Value.ref _)) _ _ _ _); (refine subs_ba (by walk_at "m:kn") (by walk_at "m:arith") ?_; intro))
  | ((with_reducible show Op2 _ _ _ (inplaceOp Operator.Add) (V.raw (Value.ref _)) (V.raw (Value.ref _)) _ _); refine iadd_ba_ba (by assumption) (by walk_at "m:put") (by walk_at "m:arith") ?_))
def encK (ns : List Int) (lh l : Addr) (i : Nat) (st : St) : Prop := ∃ (fz : Bool) (out pre cur : List Int) (u : V),
  st = ⟨[("in_bytes", .ref lh), ("in_bytes_mv", .ref lh), ("final_zero", .bool fz), ("out_bytes", .ref l), ("idx", .int i), ("search_start_idx", .int pre.length), ("in_char", u)], [(l, .ba out)]⟩ ∧
    ns.take i = pre ++ cur ∧ cur.length ≤ 253 ∧ out.length ≤ 2 * pre.length ∧ encGo fz out cur (ns.drop i) = enc ns
set_option maxHeartbeats 2000000 in
theorem enc_walk_ba {X : Cx} {ro : Led} {f : Addr} {cd : Value} {ns : List Int} {lh : Addr} (hh : X.A.handled = none) (hg : X.A.guards = some []) (g1 : Glo X "isinstance" (.builtin "isinstance")) (g2 : Glo X "str" (.type "str"))
    (g3 : Glo X "bytearray" (.type "bytearray")) (g4 : Glo X "bytes" (.type "bytes")) (hlh : Has lh (.ba ns) ro) (hns : ∀ n ∈ ns, 0 ≤ n ∧ n < 256) (hsz : ns.length ≤ 1000000) :
    TF X ro noE ⟨[("in_bytes", .ref lh), ("in_bytes_mv", .unk), ("final_zero", .unk), ("out_bytes", .unk), ("idx", .unk), ("search_start_idx", .unk), ("in_char", .unk)], []⟩ (execs (fBody stE) (envOf "encode" (fScope stE) X.L f cd))
      fun fl st' => fl = .ret (.bytes (enc ns)) := by
  refine execs_cons' ?_
  repeat' walk_at "m"
  rename_i l
  with_reducible show ForOver _ _ _ _ _ _ _ _ _
  refine for_ba (ns := ns) (encK ns lh l) .none hh ?_ ⟨true, [], [], [], .unk, rfl, by simp, by simp, by simp, rfl⟩ ?_ ?_
  · rintro i st' ⟨fz, out, pre, cur, u, rfl, -⟩
    exact .inr hlh
  · rintro i st' n hi ⟨fz, out, pre, cur, u, rfl, htk, hcl, hol, hgo⟩
    have hlt : i < ns.length := (List.getElem?_eq_some_iff.mp hi).1
    have hdr : ns.drop i = n :: ns.drop (i + 1) := by
      rw [List.drop_eq_getElem_cons hlt, (List.getElem?_eq_some_iff.mp hi).2]
    have htk' : ns.take (i + 1) = pre ++ (cur ++ [n]) := by rw [List.take_succ, hi, htk]; simp
    have hil : i = pre.length + cur.length := by
      have := congrArg List.length htk
      simp only [List.length_take, List.length_append] at this; omega
    have hne : ns = pre ++ cur ++ n :: ns.drop (i + 1) := by rw [← htk, ← hdr, List.take_append_drop]
    have hsl : pslice (some (pre.length : Int)) (some (i : Int)) ns = cur := by
      conv => lhs; rw [hne]
      exact pslice_mid rfl (by omega)
    have hsl' : pslice (some (pre.length : Int)) (some ((i : Int) + 1)) ns = cur ++ [n] := by
      have e : ns = pre ++ (cur ++ [n]) ++ ns.drop (i + 1) := by rw [← htk', List.take_append_drop]
      conv => lhs; rw [e]
      exact pslice_mid rfl (by simp; omega)
    rw [hdr, encGo] at hgo
    repeat' walk_at "m"
    · rename_i hn _
      rw [if_pos hn] at hgo
      refine ⟨true, _, pre ++ (cur ++ [n]), [], .int n, ?_, by rw [htk']; simp, by simp, ?_, hgo⟩
      · simp only [hsl, St.mk.injEq, List.cons.injEq, Prod.mk.injEq, V.int.injEq, Cell.ba.injEq, true_and, and_true, List.length_append, List.length_cons, List.length_nil]
        refine ⟨⟨?_, ?_⟩, ?_⟩
        · omega
        · omega
        · congr 3; omega
      · simp; omega
    · rename_i hn hc _
      rw [if_neg hn, if_pos (by omega)] at hgo
      refine ⟨false, _, pre ++ (cur ++ [n]), [], .int n, ?_, by rw [htk']; simp, by simp, ?_, hgo⟩
      · simp only [hsl', St.mk.injEq, List.cons.injEq, Prod.mk.injEq, V.int.injEq, Cell.ba.injEq, true_and, and_true, List.length_append, List.length_cons, List.length_nil]
        omega
      · simp; omega
    · rename_i hn hc
      rw [if_neg hn, if_neg (by omega)] at hgo
      refine ⟨fz, out, pre, cur ++ [n], .int n, rfl, htk', by simp; omega, hol, hgo⟩
  · rintro st' ⟨fz, out, pre, cur, u, rfl, htk, hcl, hol, hgo⟩
    rw [List.take_length] at htk
    rw [List.drop_length, encGo] at hgo
    have hil : ns.length = pre.length + cur.length := by rw [htk]; simp
    have hsl : pslice (some (pre.length : Int)) (some (ns.length : Int)) ns = cur := by
      conv => lhs; rw [show ns = pre ++ cur ++ [] by simp [← htk]]
      exact pslice_mid rfl (by simp)
    repeat' walk_at "m"
    · rename_i hc _
      rw [if_pos (.inl (by omega))] at hgo
      show Fl.ret _ = Fl.ret _
      rw [← hgo, hsl, show (ns.length : Int) - pre.length = cur.length by omega]
    · rename_i hc _
      rw [if_pos (.inr rfl)] at hgo
      show Fl.ret _ = Fl.ret _
      rw [← hgo, hsl, show (ns.length : Int) - pre.length = cur.length by omega]
    · rename_i hc
      rw [if_neg (by simp; exact List.eq_nil_of_length_eq_zero (by omega))] at hgo
      show Fl.ret _ = Fl.ret _
      rw [hgo]
theorem call_enc_ba {X : Cx} {ro : Led} {E : Er} {st : St} {fE : Addr} {pm cd doc : Value} {lh : Addr} {ns : List Int} {Q : V → St → Prop} (F : FnOk X.B fE "encode" (fParams stE) (fBody stE) (fScope stE) pm cd doc) (hlim : X.B.NoLimit) (hroom : X.A.depth < recursionLimit)
    (hh : X.A.handled = none) (hg : X.A.guards = some []) (g1 : Glo X "isinstance" (.builtin "isinstance")) (g2 : Glo X "str" (.type "str"))
    (g3 : Glo X "bytearray" (.type "bytearray")) (g4 : Glo X "bytes" (.type "bytes")) (hl : Kn ro st lh (.ba ns)) (hns : ∀ n ∈ ns, 0 ≤ n ∧ n < 256) (hsz : ns.length ≤ 1000000) (hq : Q (.bytes (enc ns)) st) :
    OpN X ro E (fun vs => call (.ref fE) vs) [.ref lh] st Q :=
  call_fn (x := "in_bytes") (u := .ref lh) (locs := [("in_bytes_mv", .unk), ("final_zero", .unk), ("out_bytes", .unk), ("idx", .unk), ("search_start_idx", .unk), ("in_char", .unk)]) (Ec := fun _ _ => noE) F hlim hroom (by simp only [List.map_cons, List.map_nil]; decide) (by simp)
    (fun L' m => (enc_walk_ba (X := X.call (envOf "encode" (fScope stE) L' fE cd) L' m) hh hg g1 g2 g3 g4 (hl.elim (fun h => h.app_left) fun h => h.app_right) hns hsz).post_own fun fl st' e => ⟨[], List.nil_sublist _, by subst e; exact hq⟩) fun _ _ _ _ _ _ _ _ _ _ h => h.elim
end
section
set_option Elab.async false
set_option linter.unusedVariables false
set_option linter.unusedSimpArgs false
theorem blkGo_pre : ∀ (r : List Int) (A Bs : List (List Int)) (B : List Int), blkGo (A ++ Bs) B r = A ++ blkGo Bs B r := by
  intro r
  induction r with
  | nil => intro A Bs B; simp [blkGo]
  | cons c r ih =>
    intro A Bs B
    rw [blkGo, blkGo]
    simp only [List.append_assoc, ih]
    split <;> (try split) <;> rfl
/-- where the reader stands behind p -/
theorem blkGo_mid : ∀ (p : List Int) (Bs : List (List Int)) (B : List Int), ∃ Bs' B', blkGo Bs B p = Bs' ++ [B'] ∧ ∀ r, blkGo Bs B (p ++ r) = blkGo Bs' B' r := by
  intro p
  induction p with
  | nil => intro Bs B; exact ⟨Bs, B, by simp [blkGo], fun r => rfl⟩
  | cons c p ih =>
    intro Bs B
    rw [blkGo]
    simp only [List.cons_append]
    split
    · rename_i h1
      split
      · rename_i h2
        obtain ⟨Bs', B', h3, h4⟩ := ih (Bs ++ [B] ++ [[]]) []
        exact ⟨Bs', B', h3, fun r => by rw [blkGo, if_pos h1, if_pos h2]; exact h4 r⟩
      · rename_i h2
        obtain ⟨Bs', B', h3, h4⟩ := ih (Bs ++ [B]) [c]
        exact ⟨Bs', B', h3, fun r => by rw [blkGo, if_pos h1, if_neg h2]; exact h4 r⟩
    · rename_i h1
      split
      · rename_i h2
        obtain ⟨Bs', B', h3, h4⟩ := ih (Bs ++ [B]) []
        exact ⟨Bs', B', h3, fun r => by rw [blkGo, if_neg h1, if_pos h2]; exact h4 r⟩
      · rename_i h2
        obtain ⟨Bs', B', h3, h4⟩ := ih Bs (B ++ [c])
        exact ⟨Bs', B', h3, fun r => by rw [blkGo, if_neg h1, if_neg h2]; exact h4 r⟩
def fullP (p : List Int) : Bool := decide (((blk p).getLast?.getD []).length = 254)
theorem blk_zero (p q : List Int) : blk (p ++ 0 :: q) = blk p ++ (if fullP p then [[]] else []) ++ blk q := by
  obtain ⟨Bs, B, h1, h2⟩ := blkGo_mid p [] []
  have h1' : blk p = Bs ++ [B] := h1
  have hf : fullP p = decide (B.length = 254) := by rw [fullP, h1']; simp
  show blkGo [] [] (p ++ 0 :: q) = _
  rw [h2, blkGo, hf, h1']
  by_cases h : B.length = 254
  · simp only [h, decide_true, if_true]
    have := blkGo_pre q (Bs ++ [B] ++ [[]]) [] []
    rw [List.append_nil] at this
    rw [this]; rfl
  · simp only [h, decide_false, if_false, if_true]
    have := blkGo_pre q (Bs ++ [B]) [] []
    rw [List.append_nil] at this
    rw [this]; simp [blk]
theorem blk_last (q : List Int) : ∃ Bs B, blk q = Bs ++ [B] ∧ (∀ C ∈ Bs, GoodB C) ∧ GoodB B ∧ bodyOf Bs ++ B = q ∧ fullP q = decide (B.length = 254) := by
  obtain ⟨Bs, B, h1, h2, h3, h4⟩ := blk_good q
  exact ⟨Bs, B, h1, h2, h3, h4, by rw [fullP, h1]; simp⟩
theorem flat1_app (a b : List (List Int)) : flat1 (a ++ b) = flat1 a ++ flat1 b := by simp [flat1]
theorem body_app (a b : List (List Int)) : bodyOf (a ++ b) = bodyOf a ++ bodyOf b := by simp [bodyOf]
theorem enc_zero (p q : List Int) : enc (p ++ 0 :: q) = enc p ++ (if fullP p then [1] else []) ++ enc q := by
  rw [enc_blk, blk_zero, flat1_app, flat1_app, ← enc_blk, ← enc_blk]
  congr 2
  split <;> simp [flat1]
theorem fullP_zero (p q : List Int) : fullP (p ++ 0 :: q) = fullP q := by
  obtain ⟨Bs, B, h1, _⟩ := blk_last q
  rw [fullP, fullP, blk_zero, h1]
  simp
structure I4 (w j l t : List Int) (f : Bool) : Prop where
  jo : j = enc w
  fw : fullP w = f
  la : ∃ Bs B, l = flat1 (Bs ++ [B]) ∧ (∀ C ∈ Bs, GoodB C) ∧ GoodB B ∧ t = bodyOf Bs ++ B ∧ f = decide (B.length = 254)
theorem I4.first (p : List Int) : I4 p (enc p) (enc p) p (fullP p) := by
  obtain ⟨Bs, B, h1, h2, h3, h4, h5⟩ := blk_last p
  exact ⟨rfl, rfl, Bs, B, by rw [enc_blk, h1], h2, h3, h4.symm, h5⟩
theorem I4.step {w j l t : List Int} {f : Bool} (h : I4 w j l t f) (p : List Int) : I4 (w ++ 0 :: p) (j ++ (if f then [1] else []) ++ enc p) (l ++ enc p) (t ++ (if f then [] else [0]) ++ p) (fullP p) := by
  obtain ⟨h1, h2, Bs, B, h3, h4, h5, h6, h7⟩ := h
  obtain ⟨Cs, C, k1, k2, k3, k4, k5⟩ := blk_last p
  refine ⟨by rw [enc_zero, h1, h2], fullP_zero w p, Bs ++ [B] ++ Cs, C, ?_, ?_, k3, ?_, k5⟩
  · rw [h3, enc_blk, k1, ← flat1_app]; simp
  · intro D hD
    rcases List.mem_append.mp hD with hD | hD
    · rcases List.mem_append.mp hD with hD | hD
      · exact h4 D hD
      · rw [List.mem_singleton.mp hD]; exact h5
    · exact k2 D hD
  · rw [h6, body_app, body_app, h7]
    have : bodyOf [B] = B ++ (if (decide (B.length = 254)) = true then [] else [0]) := by
      have := h5.1
      by_cases h : B.length = 254
      · simp [bodyOf, h]
      · simp [bodyOf, h, show B.length < 254 by omega]
    rw [this]
    conv => lhs; rw [← k4]
    simp
theorem I4.ends {w j l t : List Int} {f : Bool} (h : I4 w j l t f) : enc w = j ∧ dec j = some w ∧ dec l = some t := by
  obtain ⟨h1, h2, Bs, B, h3, h4, h5, h6, h7⟩ := h
  refine ⟨h1.symm, by rw [h1]; exact dec_enc w, ?_⟩
  rw [h3, dec, if_neg (by simp [flat1]), decGo_blocks _ _ _ h4 h5, h6]; simp
theorem decGo_go : ∀ (Bs : List (List Int)) (out rest : List Int), (∀ C ∈ Bs, GoodB C) → rest ≠ [] → decGo out (flat1 Bs ++ rest) = decGo (out ++ bodyOf Bs) rest := by
  intro Bs
  induction Bs with
  | nil => intro out rest _ _; simp [flat1, bodyOf]
  | cons B Bs ih =>
    intro out rest hG hr
    have hB := hG B (.head _)
    have e : flat1 (B :: Bs) ++ rest = ((B.length : Int) + 1) :: (B ++ (flat1 Bs ++ rest)) := by simp [flat1]
    rw [e, decGo]
    have hk : ((B.length : Int) + 1 - 1).toNat = B.length := by omega
    have hz : ¬ (0 : Int) ∈ B := fun h => hB.2 0 h rfl
    have hl : 0 < (flat1 Bs ++ rest).length := by
      cases rest with
      | nil => exact absurd rfl hr
      | cons _ _ => simp; omega
    rw [hk, List.take_left, List.drop_left, if_neg (by omega), if_neg hz, if_neg (by simp), if_pos (by rw [List.length_append]; omega), ih _ _ (fun C hC => hG C (.tail _ hC)) hr]
    congr 1
    have hlt : ((B.length : Int) + 1 < 255) ↔ B.length < 254 := by omega
    by_cases h : B.length < 254
    · rw [if_pos (hlt.mpr h)]; simp [bodyOf, h]
    · rw [if_neg (fun x => h (hlt.mp x))]; simp [bodyOf, h]
theorem I4.tail {w j l t : List Int} {f : Bool} (h : I4 w j l t f) {tl : List Int} (hb : ∀ n ∈ tl, 0 ≤ n ∧ n < 256) (hne : tl ≠ []) :
    ((0 ∈ tl ∨ codesGo tl = none) → dec tl = none ∧ dec (l ++ tl) = none) ∧
    (0 ∉ tl → codesGo tl ≠ none → ∃ A, dec tl = some A ∧ dec (l ++ tl) = some (t ++ (if f then [] else [0]) ++ A)) := by
  obtain ⟨h1, h2, Bs, B, h3, h4, h5, h6, h7⟩ := h
  have hl : tl.length ≠ 0 := fun e => hne (List.eq_nil_of_length_eq_zero e)
  have hG : ∀ C ∈ Bs ++ [B], GoodB C := fun C hC => (List.mem_append.mp hC).elim (h4 C) fun h => by rw [List.mem_singleton.mp h]; exact h5
  have hd : dec (l ++ tl) = decGo (bodyOf (Bs ++ [B])) tl := by
    rw [dec, if_neg (by rw [List.length_append]; omega), h3, decGo_go _ _ _ hG hne]; simp
  have hbody : bodyOf (Bs ++ [B]) = t ++ (if f then [] else [0]) := by
    have := h5.1
    rw [body_snoc, h6, h7]
    by_cases h : B.length = 254
    · simp [h]
    · simp [h, show B.length < 254 by omega]
  constructor
  · intro hc
    rw [hd, dec, if_neg hl]
    rcases hc with hc | hc
    · exact ⟨decGo_zero _ tl _ (Nat.le_refl _) hc, decGo_zero _ tl _ (Nat.le_refl _) hc⟩
    · exact ⟨decGo_over _ tl _ (Nat.le_refl _) hc, decGo_over _ tl _ (Nat.le_refl _) hc⟩
  · intro hz hc
    cases e : codesGo tl with
    | none => exact absurd e hc
    | some cs =>
      obtain ⟨Ts, rfl, _, hT⟩ := parse _ tl cs (Nat.le_refl _) hb hz e
      have hT0 : Ts ≠ [] := by rintro rfl; exact hne rfl
      obtain ⟨Ts', T, rfl⟩ : ∃ Ts' T, Ts = Ts' ++ [T] := ⟨Ts.dropLast, Ts.getLast hT0, (List.dropLast_concat_getLast hT0).symm⟩
      have hT1 : ∀ C ∈ Ts', GoodB C := fun C hC => hT C (List.mem_append_left _ hC)
      have hT2 : GoodB T := hT T (by simp)
      refine ⟨bodyOf Ts' ++ T, ?_, ?_⟩
      · rw [dec, if_neg hl, decGo_blocks _ _ _ hT1 hT2]; simp
      · rw [hd, decGo_blocks _ _ _ hT1 hT2, hbody]; simp
theorem flat1_body_len {Bs : List (List Int)} (h : ∀ C ∈ Bs, GoodB C) : (flat1 Bs).length ≤ 2 * (bodyOf Bs).length := by
  induction Bs with
  | nil => simp [flat1]
  | cons B Bs ih =>
    have := ih fun C hC => h C (.tail _ hC)
    simp only [flat1, bodyOf, List.map_cons, List.flatten_cons, List.length_append, List.length_cons] at this ⊢
    have h2 : 1 ≤ B.length + (if B.length < 254 then [(0 : Int)] else []).length := by split <;> simp; omega
    omega
theorem enc_len (p : List Int) : (enc p).length ≤ 2 * p.length + 1 := by
  obtain ⟨Bs, B, h1, h2, h3, h4, h5⟩ := blk_last p
  have e := flat1_body_len h2
  have hp : p.length = (bodyOf Bs).length + B.length := by rw [← h4, List.length_append]
  rw [enc_blk, h1, flat1_snoc, List.length_append, List.length_cons]; omega
end
section
section
variable {X : Cx} {ro : Led} {E : Er} {st : St} {nm : Str} {sc : Scope} {a : Addr} {cd : Value} {env : Env} {R : Heap} {s : Shared}
theorem wpR_Assign_Tuple {M : Model} {A : Around} {E : Value → Shared → Prop} {elts k tpos value pos} {Q : Flow → Shared → Prop}
    (h : wpR M A (eval value env) (fun v s₁ => wpR M A (assign (.Tuple elts k tpos) env v) (fun _ => Q .next) E s₁) E s)
    (hs : swapsWithSole [.Tuple elts k tpos] value pos.line env = pure false)
    (hw : swappedStores [.Tuple elts k tpos] value env = pure none) :
    wpR M A (exec (.Assign [.Tuple elts k tpos] value pos) env) Q E s := by
  rw [exec_Assign_arm]
  refine wpR_bind (wpR_standAt ?_)
  rw [hs]
  refine wpR_bind (wpR_pure ?_)
  rw [if_neg (by decide)]
  refine wpR_bind (wpR_mono h (fun v s₁ h₁ => ?_) fun _ _ x => x)
  rw [hw]
  refine wpR_bind (wpR_pure ?_)
  show wpR M A (do assignAll v [assign (.Tuple elts k tpos) env]; pure .next) Q E s₁
  exact wpR_bind (wpR_mono h₁ (fun _ _ x => wpR_pure x) fun _ _ x => x)
/-- x, y = a call that gives a new pair, that is let go -/
theorem AssignPair' {x y : Str} {p1 p2 tpos pos : Pos} {k : Nat} {value : Expr} {Q : Fl → St → Prop} (hh : X.A.handled = none)
    (h : TV X ro E st (eval value (envOf nm sc X.L a cd)) fun u st₁ => ∃ T w1 w2 own' u₁ u₂ l1 l2, u = .ref T ∧ st₁.own = (T, .tup [w1, w2]) :: own' ∧ Put x u₁ w1 st₁.loc l1 ∧ Put y u₂ w2 l1 l2 ∧ Q .next ⟨l2, own'⟩)
    (hs : swapsWithSole [.Tuple [.Name x p1, .Name y p2] k tpos] value pos.line (envOf nm sc X.L a cd) = pure false := by rfl)
    (hw : swappedStores [.Tuple [.Name x p1, .Name y p2] k tpos] value (envOf nm sc X.L a cd) = pure none := by rfl)
    (hk : sc.kind = .function := by rfl) (hx : (envOf nm sc X.L a cd).kindOf x = some .local := by rfl) (hy : (envOf nm sc X.L a cd).kindOf y = some .local := by rfl) :
    TF X ro E st (exec (.Assign [.Tuple [.Name x p1, .Name y p2] k tpos] value pos) (envOf nm sc X.L a cd)) Q := fun R s S =>
  wpR_Assign_Tuple (h.run S fun v s₁ u st₁ hu S₁ h₁ => by
    obtain ⟨T, w1, w2, own', u₁, u₂, l1, l2, rfl, e, U1, U2, hq⟩ := h₁
    cases hu
    have hT := S₁.at_own (a := T) (c := .tup [w1, w2]) (by rw [e]; exact .head)
    obtain ⟨o, ho, ws, ew, hw2⟩ := hT
    obtain ⟨v1, v2, hws, i1, i2⟩ : ∃ v1 v2, ws = #[v1, v2] ∧ w1.Is v1 ∧ w2.Is v2 := by
      generalize hl : ws.toList = l at hw2
      cases hw2 with
      | cons a1 r => cases r with
        | cons a2 r => cases r with
          | nil => exact ⟨_, _, by rw [← Array.toArray_toList (xs := ws), hl], a1, a2⟩
    subst hws
    have S₂ := (S₁.sub (own' := own') (by rw [e]; exact List.sublist_cons_self _ _))
    exact wpR_mono (assign_pair (E := E) hh S₂ ⟨o, ho, by rw [ew], 0, by rw [ew]⟩ U1 U2 i1 i2 hk hx hy) (fun _ s₂ S₃ => ⟨.next, _, rfl, S₃, hq⟩) fun _ _ e => e) hs hw
end
theorem set_code (Bs : List (List Int)) (B : List Int) (v : Int) : (flat1 Bs ++ 0 :: B).set (pidx ((flat1 Bs).length : Int) (flat1 Bs ++ 0 :: B).length) v = flat1 Bs ++ v :: B := by
  have e : pidx ((flat1 Bs).length : Int) (flat1 Bs ++ 0 :: B).length = (flat1 Bs).length := by rw [pidx, if_neg (by omega)]; omega
  rw [e, List.set_append_right _ _ (Nat.le_refl _), Nat.sub_self]; rfl
def stuJ (p : List Int) (lp lr : Addr) (i : Nat) (st : St) : Prop := ∃ (Bs : List (List Int)) (B : List Int) (u : V),
  st = ⟨[("packet", .ref lp), ("row", .ref lr), ("code", .int (flat1 Bs).length), ("octet", u)], [(lr, .ints (flat1 Bs ++ 0 :: B))]⟩ ∧
    blkGo Bs B (p.drop i) = blk p ∧ B.length ≤ 254 ∧ (flat1 Bs).length + B.length ≤ 2 * i
set_option maxHeartbeats 4000000 in
theorem stuffed_walk {X : Cx} {ro : Led} {f : Addr} {cd : Value} {lp : Addr} {p : List Int} (hh : X.A.handled = none) (g5 : Glo X "len" (.builtin "len")) (hl : Has lp (.ints p) ro) (hsz : p.length ≤ 100000) :
    TF X ro noE ⟨[("packet", .ref lp), ("row", .unk), ("code", .unk), ("octet", .unk)], []⟩ (execs (fBody stS) (envOf "_law_stuffed" (fScope stS) X.L f cd))
      fun fl st' => ∃ lt lr, fl = .ret (.ref lt) ∧ st'.own = [(lt, .tup [.ref lr, .bool (fullP p)]), (lr, .ints (enc p))] := by
  refine execs_cons' ?_
  repeat' walk_at "m"
  with_reducible show ForOver _ _ _ _ _ _ _ _ _
  rename_i lr
  refine for_list (us := p.map V.int) (stuJ p lp lr) .none hh ?_ ⟨[], [], .unk, rfl, rfl, by simp, by simp [flat1]⟩ ?_ ?_
  · rintro i st' ⟨Bs, B, u, rfl, -⟩
    exact .inr hl
  · rintro i st' u hi ⟨Bs, B, u0, rfl, hgo, hB, hl0⟩
    rw [List.getElem?_map] at hi
    cases hx : p[i]? with
    | none => rw [hx] at hi; cases hi
    | some n =>
    rw [hx] at hi; cases hi
    have hir : i < p.length := (List.getElem?_eq_some_iff.mp hx).1
    have hdr : p.drop i = n :: p.drop (i + 1) := by
      rw [List.drop_eq_getElem_cons hir, (List.getElem?_eq_some_iff.mp hx).2]
    rw [hdr, blkGo] at hgo
    have hdl : (flat1 Bs ++ 0 :: B).length = (flat1 Bs).length + B.length + 1 := by simp; omega
    refine tgt_name (by walk_at "m:put") ?_
    refine execs_cons' ?_
    refine TT.mono (rel := Fl.Is) (Q := fun (fl : Fl) (st : St) => fl = Fl.next ∧ ∃ (Bs' : List (List Int)) (B' : List Int), st = ⟨[("packet", .ref lp), ("row", .ref lr), ("code", .int (flat1 Bs').length), ("octet", .int n)], [(lr, .ints (flat1 Bs' ++ 0 :: B'))]⟩ ∧
      B'.length ≤ 253 ∧ (if n = 0 then blkGo (Bs' ++ [B']) [] (p.drop (i + 1)) else blkGo Bs' (B' ++ [n]) (p.drop (i + 1))) = blk p ∧ (flat1 Bs').length + B'.length ≤ 2 * i + 1) ?_ ?_
    · repeat' walk_at "m"
      · rename_i h
        have hB4 : B.length = 254 := by omega
        refine ⟨rfl, Bs ++ [B], [], ?_, by simp, ?_, ?_⟩
        · rw [set_code, flat1_snoc]
          simp only [St.mk.injEq, List.cons.injEq, Prod.mk.injEq, V.int.injEq, true_and, and_true, List.length_append, List.length_cons, List.length_set, List.append_assoc, List.cons_append, List.nil_append, hB4]
          rfl
        · rw [if_pos hB4] at hgo
          exact hgo
        · rw [flat1_snoc, List.length_append, List.length_cons, List.length_nil]; omega
      · rename_i h
        refine ⟨rfl, Bs, B, rfl, by omega, ?_, by omega⟩
        rw [if_neg (by omega)] at hgo
        exact hgo
    · rintro fl st ⟨rfl, Bs', B', rfl, hB', hgo', hl'⟩
      have hdl' : (flat1 Bs' ++ 0 :: B').length = (flat1 Bs').length + B'.length + 1 := by simp; omega
      repeat' walk_at "m"
      · rename_i h
        rw [if_pos h] at hgo'
        refine ⟨Bs' ++ [B'], [], .int n, ?_, hgo', by simp, ?_⟩
        · rw [set_code, flat1_snoc, h]
          simp only [St.mk.injEq, List.cons.injEq, Prod.mk.injEq, V.int.injEq, true_and, and_true, List.length_append, List.length_cons, List.length_set, List.append_assoc, List.cons_append, List.nil_append, Cell.list.injEq]
          rw [show ((((flat1 Bs').length + (B'.length + 1) : Nat) : Int) - ((flat1 Bs').length : Int)) = (B'.length : Int) + 1 by omega]
        · rw [flat1_snoc, List.length_append, List.length_cons, List.length_nil]; omega
      · rename_i h
        rw [if_neg h] at hgo'
        refine ⟨Bs', B' ++ [n], .int n, ?_, hgo', by simp; omega, by simp; omega⟩
        simp
  · rintro st' ⟨Bs, B, u0, rfl, hgo, hB, hl0⟩
    rw [List.length_map] at hl0 hgo
    rw [List.drop_length, blkGo] at hgo
    have hdl : (flat1 Bs ++ 0 :: B).length = (flat1 Bs).length + B.length + 1 := by simp; omega
    repeat' ((fail_if_success (with_reducible show TF _ _ _ _ (exec (Stmt.Return _ _) _) _)); walk_at "m")
    have hsub : ((flat1 Bs ++ 0 :: B).length : Int) - (flat1 Bs).length = (B.length : Int) + 1 := by omega
    rw [set_code, hsub]
    have henc : flat1 Bs ++ ((B.length : Int) + 1) :: B = enc p := by rw [enc_blk, ← hgo, flat1_snoc]
    have hidx : (flat1 Bs ++ ((B.length : Int) + 1) :: B)[pidx ((flat1 Bs).length : Int) (flat1 Bs ++ ((B.length : Int) + 1) :: B).length]? = some ((B.length : Int) + 1) := by
      rw [pidx, if_neg (by omega), Int.toNat_natCast, List.getElem?_append_right (Nat.le_refl _), Nat.sub_self]; rfl
    have hflen : (flat1 Bs ++ ((B.length : Int) + 1) :: B).length = (flat1 Bs).length + B.length + 1 := by simp; omega
    have hful : fullP p = decide ((B.length : Int) + 1 = 255) := by
      rw [fullP, ← hgo]
      simp
      omega
    rw [hful, ← henc]
    repeat' walk_at "m"
    exact ⟨_, _, rfl, rfl⟩
theorem call_stuffed {X : Cx} {ro : Led} {E : Er} {st : St} {fS : Addr} {pm cd doc : Value} {lp : Addr} {p : List Int} {Q : V → St → Prop} (F : FnOk X.B fS "_law_stuffed" (fParams stS) (fBody stS) (fScope stS) pm cd doc) (hlim : X.B.NoLimit) (hroom : X.A.depth < recursionLimit)
    (hh : X.A.handled = none) (g5 : Glo X "len" (.builtin "len")) (hl : Kn ro st lp (.ints p)) (hsz : p.length ≤ 100000)
    (hq : ∀ lt lr, Q (.ref lt) { st with own := (lt, .tup [.ref lr, .bool (fullP p)]) :: (lr, .ints (enc p)) :: st.own }) :
    OpN X ro E (fun vs => call (.ref fS) vs) [.ref lp] st Q :=
  call_fn (x := "packet") (u := .ref lp) (locs := [("row", .unk), ("code", .unk), ("octet", .unk)]) (Ec := fun _ _ => noE) F hlim hroom (by simp only [List.map_cons, List.map_nil]; decide) (by simp)
    (fun L' m => (stuffed_walk (X := X.call (envOf "_law_stuffed" (fScope stS) L' fS cd) L' m) hh g5 (hl.elim (fun h => h.app_left) fun h => h.app_right) hsz).mono fun fl st' ⟨lt, lr, e1, e2⟩ => by
      subst e1
      rw [e2]; exact hq lt lr) fun _ _ _ _ _ _ _ _ _ _ h => h.elim
theorem TryN {X : Cx} {ro : Led} {E : Er} {st : St} {env : Env} {body : List Stmt} {h₀ : ExceptHandler} {hs : List ExceptHandler} {pos : Pos} {Q : Fl → St → Prop} (hb : TF X ro noE st (execs body env) Q) :
    TF X ro E st (exec (.Try body (h₀ :: hs) [] [] pos) env) Q := fun R s S => by
  refine wpR_Try_except (wpR_mono (hb R s S) (fun f s₁ h₁ => ?_) fun e s₁ h₁ => h₁.elim)
  obtain ⟨g, st', hg', S', hq⟩ := h₁
  cases g with
  | next => cases hg'; exact wpR_of (wpAny_execs_nil ⟨.next, st', rfl, S', hq⟩)
  | brk => cases hg'; exact ⟨.brk, st', rfl, S', hq⟩
  | cont => cases hg'; exact ⟨.cont, st', rfl, S', hq⟩
  | ret u => obtain ⟨v, rfl, hv⟩ := hg'; exact ⟨.ret u, st', ⟨v, rfl, hv⟩, S', hq⟩
section
variable {X : Cx} {ro : Led} {E : Er} {st : St}
theorem call_dec_ok {fD : Addr} {pm cd doc : Value} {ns res : List Int} {Q : V → St → Prop} {env : Env} {fs : List Env} {C : Addr} {mg : Str → Option Value} (h : dec ns = some res) (F : FnOk X.B fD "decode" (fParams stD) (fBody stD) (fScope stD) pm cd doc) (hlim : X.B.NoLimit) (hroom : X.A.depth < recursionLimit)
    (hh : X.A.handled = none) (hg : X.A.guards = some []) (g1 : Glo X "isinstance" (.builtin "isinstance")) (g2 : Glo X "str" (.type "str"))
    (g3 : Glo X "bytearray" (.type "bytearray")) (g4 : Glo X "bytes" (.type "bytes")) (g5 : Glo X "len" (.builtin "len")) (hns : ∀ n ∈ ns, 0 ≤ n ∧ n < 256) (hsz : ns.length ≤ 1000000)
    (FR : FrOk X env fs) (O : OwnClsQ "DecodeError" C [.type "Exception", .type "BaseException", .type "object"] "Exception.__new__" mg X.B) (hgm : X.B.Ns mainGlobals mg)
    (hq : Q (.bytes res) st) : OpN X ro E (fun vs => call (.ref fD) vs) [.bytes ns] st Q :=
  call_dec F hlim hroom hh hg g1 g2 g3 g4 g5 hns hsz FR O hgm (fun e => by rw [h] at e; cases e) fun r e => by rw [h] at e; cases e; exact hq
theorem call_dec_no {fD : Addr} {pm cd doc : Value} {ns : List Int} {Q : V → St → Prop} {env : Env} {fs : List Env} {C : Addr} {mg : Str → Option Value} (h : dec ns = none) (F : FnOk X.B fD "decode" (fParams stD) (fBody stD) (fScope stD) pm cd doc) (hlim : X.B.NoLimit) (hroom : X.A.depth < recursionLimit)
    (hh : X.A.handled = none) (hg : X.A.guards = some []) (g1 : Glo X "isinstance" (.builtin "isinstance")) (g2 : Glo X "str" (.type "str"))
    (g3 : Glo X "bytearray" (.type "bytearray")) (g4 : Glo X "bytes" (.type "bytes")) (g5 : Glo X "len" (.builtin "len")) (hns : ∀ n ∈ ns, 0 ≤ n ∧ n < 256) (hsz : ns.length ≤ 1000000)
    (FR : FrOk X env fs) (O : OwnClsQ "DecodeError" C [.type "Exception", .type "BaseException", .type "object"] "Exception.__new__" mg X.B) (hgm : X.B.Ns mainGlobals mg) :
    OpN X ro (Thr X ro st env fs C) (fun vs => call (.ref fD) vs) [.bytes ns] st Q :=
  call_dec F hlim hroom hh hg g1 g2 g3 g4 g5 hns hsz FR O hgm (fun _ _ _ _ h => h) fun r e => by rw [h] at e; cases e
end
local macro_rules | `(tactic| walk_at "m:call") => `(tactic| first
  | refine call_enc (by assumption) (by assumption) (by assumption) (by assumption) (by assumption) (by assumption) (by assumption) (by assumption) (by assumption) (by assumption) (by walk_at "m:arith") ?_
  | exact call_dec_no (by assumption) (by assumption) (by assumption) (by assumption) (by assumption) (by assumption) (by assumption) (by assumption) (by assumption) (by assumption) (by assumption) (by assumption) (by walk_at "m:arith") (by assumption) (by assumption) (by assumption)
  | refine call_dec_ok (by assumption) (by assumption) (by assumption) (by assumption) (by assumption) (by assumption) (by assumption) (by assumption) (by assumption) (by assumption) (by assumption) (by assumption) (by walk_at "m:arith") (by assumption) (by assumption) (by assumption) ?_)
def decV : Option (List Int) → V
  | some ns => .bytes ns
  | none => .none
set_option maxHeartbeats 4000000 in
theorem meant_walk {X : Cx} {ro : Led} {f : Addr} {cd : Value} {lp : Addr} {p : List Int} {fD : Addr} {oD : Obj} {fdD : FuncData} {pmD cdD docD : Value} {fs : List Env} {C : Addr} {mg : Str → Option Value}
    (hh : X.A.handled = none) (hg : X.A.guards = some []) (hlim : X.B.NoLimit) (hroom : X.A.depth < recursionLimit)
    (g1 : Glo X "isinstance" (.builtin "isinstance")) (g2 : Glo X "str" (.type "str"))
    (g3 : Glo X "bytearray" (.type "bytearray")) (g4 : Glo X "bytes" (.type "bytes")) (g5 : Glo X "len" (.builtin "len"))
    (gD : Glo X "decode" (.ref fD)) (FD : FnOk X.B fD "decode" (fParams stD) (fBody stD) (fScope stD) pmD cdD docD) (hoD : X.B.get? fD = some oD) (hdD : oD.data = .func fdD)
    (FR : FrOk X (envOf "_law_meant" (fScope stM) X.L f cd) fs) (O : OwnClsQ "DecodeError" C [.type "Exception", .type "BaseException", .type "object"] "Exception.__new__" mg X.B) (hgm : X.B.Ns mainGlobals mg)
    (hl : Has lp (.ints p) ro) (hb : ∀ n ∈ p, 0 ≤ n ∧ n < 256) (hsz : p.length ≤ 500000) :
    TF X ro noE ⟨[("row", .ref lp)], []⟩ (execs (fBody stM) (envOf "_law_meant" (fScope stM) X.L f cd)) fun fl st' => fl = .ret (decV (dec p)) := by
  cases hd : dec p with
  | none =>
    refine execs_cons' ?_
    refine Try' FR O hgm (by decide) ?_ (suite_ret_none rfl)
    repeat' walk_at "m"
  | some res =>
    refine execs_cons' ?_
    refine TryN ?_
    repeat' walk_at "m"
    rfl
theorem call_meant {X : Cx} {ro : Led} {E : Er} {st : St} {fM : Addr} {pm cd doc : Value} {lp : Addr} {p : List Int} {Q : V → St → Prop} {fD : Addr} {oD : Obj} {fdD : FuncData} {pmD cdD docD : Value} {env : Env} {fs : List Env} {C : Addr} {mg : Str → Option Value}
    (F : FnOk X.B fM "_law_meant" (fParams stM) (fBody stM) (fScope stM) pm cd doc) (hlim : X.B.NoLimit) (hroom : X.A.depth < recursionLimit) (hroom' : X.A.depth + 1 < recursionLimit)
    (hh : X.A.handled = none) (hg : X.A.guards = some []) (g1 : Glo X "isinstance" (.builtin "isinstance")) (g2 : Glo X "str" (.type "str"))
    (g3 : Glo X "bytearray" (.type "bytearray")) (g4 : Glo X "bytes" (.type "bytes")) (g5 : Glo X "len" (.builtin "len"))
    (gD : Glo X "decode" (.ref fD)) (FD : FnOk X.B fD "decode" (fParams stD) (fBody stD) (fScope stD) pmD cdD docD) (hoD : X.B.get? fD = some oD) (hdD : oD.data = .func fdD)
    (FR : FrOk X env fs) (O : OwnClsQ "DecodeError" C [.type "Exception", .type "BaseException", .type "object"] "Exception.__new__" mg X.B) (hgm : X.B.Ns mainGlobals mg)
    (hl : Kn ro st lp (.ints p)) (hb : ∀ n ∈ p, 0 ≤ n ∧ n < 256) (hsz : p.length ≤ 500000) (hq : Q (decV (dec p)) st) :
    OpN X ro E (fun vs => call (.ref fM) vs) [.ref lp] st Q :=
  call_fn (x := "row") (u := .ref lp) (locs := []) (Ec := fun _ _ => noE) F hlim hroom (by simp only [List.map_cons, List.map_nil]; decide) (by simp)
    (fun L' m => (meant_walk (X := X.call (envOf "_law_meant" (fScope stM) L' fM cd) L' m) hh hg hlim hroom' g1 g2 g3 g4 g5 gD FD hoD hdD (FR.call rfl) O hgm (hl.elim (fun h => h.app_left) fun h => h.app_right) hb hsz).post_own fun fl st' e => ⟨[], List.nil_sublist _, by subst e; exact hq⟩) fun _ _ _ _ _ _ _ _ _ _ h => h.elim
end
section
open PySem PySem.W PyProof.Rows PySem.Calls
open PySem.Sem (wp)
set_option Elab.async false
set_option maxRecDepth 100000
set_option linter.unusedVariables false
set_option linter.deprecated false
def elt4 (n : Int) : Int := if n % 7 = 0 then n / 6 % 256 else if n % 7 = 1 then n / 6 % 4 else n / 6 % 3 + 1
theorem elt4_b (n : Int) : 0 ≤ elt4 n ∧ elt4 n < 256 := by unfold elt4; split <;> (try split) <;> omega
section
variable {prog : Program} {w : World} {A : Around} {E : Value → Shared → Prop} {s : Shared} {env : Env}
theorem SubscriptA {value slice pos} {Q : Value → Shared → Prop}
    (h : wpAny (model prog w) A (eval value env) (fun o s₁ => wpAny (model prog w) A (eval slice env) (fun i s₂ => wpAny (model prog w) A (subscriptTail value slice o i) Q E s₂) E s₁) E s) : wpAny (model prog w) A (eval (.Subscript value slice pos) env) Q E s := by
  rw [eval_Subscript]
  exact wpAny_bind (wpAny_mono h (fun o s₁ h₁ => wpAny_bind (wpAny_holding (wpAny_mono h₁ (fun i s₂ h₂ => wpAny_bind (wpAny_standAt h₂)) fun _ _ x => x))) fun _ _ x => x)
theorem CallA {func : Expr} {args : List Expr} {pos : Pos} {Q : Value → Shared → Prop}
    (h : wpAny (model prog w) A (eval func env) (fun f s₁ => wpAny (model prog w) A (callWith pos f [] (backTo pos (starEach args env)) []) Q E s₁) E s)
    (he : eval (.Call func args [] pos) env = (do callWith pos (← eval func env) [] (backTo pos (starEach args env)) (backToKw pos (keywordEach [] env)))) :
    wpAny (model prog w) A (eval (.Call func args [] pos) env) Q E s := by
  rw [he]; exact wpAny_bind h
end
section
variable {X : Cx} {env : Env}
set_option maxHeartbeats 2000000 in
theorem elt4_walk {scope : Scope} {a1 a2 a3 a4 a5 b1 b2 b3 b4 b5 c1 c2 c3 c4 c5 c6 c7 d1 d2 d3 d4 d5 d6 lp pos : Pos} {k1 k2 k3 k4 k5 k6 k7 k8 k9 : Nat} (hh : X.A.handled = none) (hg : Glo X "min" (.builtin "min"))
    (hgl : env.globals = mainGlobals) (hbl : env.builtins = builtinsNs) (hk : scope.kind = .function) (hx : scope.names.lookup (Str.ofString "other") = some .local) (hmin : scope.names.lookup (Str.ofString "min") = some .globalImplicit) :
    ∀ C n t s₂ m₂ E', s₂.heap.Ns C m₂ → m₂ "other" = some (.int n t) → (∀ b o, X.B.get? b = some o → s₂.heap.get? b = some o) →
      wpAny (model X.prog X.w) X.A (eval (.Subscript (.List [
          .BinOp (.BinOp (.Name "other" a1) .FloorDiv (.Constant (.int 6) k1 a2) a3) .Mod (.Constant (.int 256) k2 a4) a5,
          .BinOp (.BinOp (.Name "other" b1) .FloorDiv (.Constant (.int 6) k3 b2) b3) .Mod (.Constant (.int 4) k4 b4) b5,
          .BinOp (.BinOp (.BinOp (.Name "other" c1) .FloorDiv (.Constant (.int 6) k5 c2) c3) .Mod (.Constant (.int 3) k6 c4) c5) .Add (.Constant (.int 1) k7 c6) c7] lp)
        (.Call (.Name "min" d1) [.BinOp (.Name "other" d2) .Mod (.Constant (.int 7) k8 d3) d4, .Constant (.int 2) k9 d5] [] d6) pos) (compEnv scope C env)) (fun y s₃ => (∃ u, y = .int (elt4 n) u) ∧ Keeps s₂ s₃) E' s₂ := by
  intro C n t s₂ m₂ E' hn hm hB
  have name : ∀ {s : Shared} {Q : Value → Shared → Prop} {pos : Pos}, s.heap.Ns C m₂ → Q (.int n t) s → wpAny (model X.prog X.w) X.A (eval (.Name "other" pos) (compEnv scope C env)) Q E' s := fun hn hq =>
    wpAny_Name (wpAny_loadName_local hk hx hn hm hq) (by decide)
  have dm : ∀ (c : Int) {s : Shared} {Q : Value → Shared → Prop} {q1 q2 q3 q4 q5 : Pos} {j1 j2 : Nat}, 0 < c → s.heap.Ns C m₂ → (∀ u tk, Q (.int (n / 6 % c) u) { s with toks := tk }) →
      wpAny (model X.prog X.w) X.A (eval (.BinOp (.BinOp (.Name "other" q1) .FloorDiv (.Constant (.int 6) j1 q2) q3) .Mod (.Constant (.int c) j2 q4) q5) (compEnv scope C env)) Q E' s := by
    intro c s Q q1 q2 q3 q4 q5 j1 j2 hc hn hq
    refine wpAny_BinOp (wpAny_BinOp (name hn (wpAny_Constant_int (PyProof.Rows.floordiv_int (by omega) (wpAny_Constant_int (PyProof.Rows.mod_int' (by omega) ?_)) (.inl (PyProof.noPylong_small (by omega)))))))
    have := hq (s.toks + 1 + 1 + 1) (s.toks + 1 + 1 + 1 + 1)
    rw [Int.fdiv_eq_ediv_of_nonneg _ (by omega), Int.fmod_eq_emod_of_nonneg _ (by omega)]
    exact this
  refine SubscriptA (wpAny_List (args_cons (dm 256 (by omega) hn fun u1 tk1 => args_cons (dm 4 (by omega) hn fun u2 tk2 => args_cons ?_ rfl) rfl) rfl))
  refine wpAny_BinOp (dm 3 (by omega) hn fun u3 tk3 => wpAny_Constant_int (PyProof.Rows.add_int ?_))
  refine args_nil ⟨by rw [sizeLine_eq]; simp, ?_⟩
  obtain ⟨mg, mb, hmg, hmb, hgm⟩ := hg
  have hB' : ∀ (o' : Obj), ∀ b o, X.B.get? b = some o → (s₂.heap.push o').get? b = some o := fun o' b o e => Heap.get?_push_of_some _ (hB b o e)
  refine CallA ?_ rfl
  refine Name_function_global hk hmin ?_ (by decide)
  have gl : ∀ {s : Shared} {Q : Value → Shared → Prop}, (∀ b o, X.B.get? b = some o → s.heap.get? b = some o) → Q (.builtin "min") s → wpAny (model X.prog X.w) X.A (loadGlobal (compEnv scope C env) "min") Q E' s := by
    intro s Q hB hq
    have e1 : (compEnv scope C env).globals = mainGlobals := hgl
    have e2 : (compEnv scope C env).builtins = builtinsNs := hbl
    rcases hgm with h | ⟨h1, h2⟩
    · exact loadGlobal_global (by rw [e1]; exact hmg.keeps hB) h hq
    · exact loadGlobal_builtin (by rw [e1]; exact hmg.keeps hB) h1 (by rw [e2]; exact hmb.keeps hB) h2 hq
  refine gl (hB' _) ?_
  refine callWith_builtin rfl (Calls.evalArgs_plain (Calls.spliced_cons ?_))
  have hn' : ∀ (o' : Obj), (s₂.heap.push o').Ns C m₂ := fun o' => hn.keeps fun b o e => Heap.get?_push_of_some _ e
  refine wpAny_BinOp (name (hn' _) (wpAny_Constant_int (PyProof.Rows.mod_int' (by omega) ?_)))
  refine Calls.spliced_cons (wpAny_Constant_int (k := k9) (pos := d5) (Calls.spliced_nil ?_))
  rw [Int.fmod_eq_emod_of_nonneg _ (by omega)]
  refine min_two_ints hh fun h' tk hkp => ?_
  generalize hl : s₂.heap.objs.size = l
  obtain ⟨u3, hL⟩ : ∃ u3, h'.IsList l #[.int (n / 6 % 256) u1, .int (n / 6 % 4) u2, .int (n / 6 % 3 + 1) u3] := by
    rw [← hl]
    exact ⟨_, _, hkp _ _ (Heap.get?_push_size _ rfl), rfl, 0, rfl⟩
  have keep : ∀ b o, s₂.heap.get? b = some o → h'.get? b = some o := fun b o e => hkp _ _ (Heap.get?_push_of_some _ e)
  have hidx : ∀ ta tb, ∃ ti, (if 2 < n % 7 then Value.int 2 ta else Value.int (n % 7) tb) = Value.int (min (n % 7) 2) ti := fun ta tb => by
    split
    · exact ⟨ta, by rw [Int.min_eq_right (by omega)]⟩
    · exact ⟨tb, by rw [Int.min_eq_left (by omega)]⟩
  obtain ⟨ti, hti⟩ := hidx _ _
  rw [hti]
  dsimp only
  have hT : ({ s₂ with heap := h', toks := tk } : Shared).TypeIs (.ref l) "list" := hL.typeIs
  have hget : ∃ u, (#[Value.int (n / 6 % 256) u1, .int (n / 6 % 4) u2, .int (n / 6 % 3 + 1) u3] : Array Value)[(min (n % 7) 2).toNat]? = some (.int (elt4 n) u) := by
    unfold elt4
    have h7 : 0 ≤ n % 7 ∧ n % 7 < 7 := by omega
    by_cases h0 : n % 7 = 0
    · rw [h0]; exact ⟨u1, rfl⟩
    · by_cases h1 : n % 7 = 1
      · rw [h1]; exact ⟨u2, rfl⟩
      · rw [if_neg h0, if_neg h1, Int.min_eq_right (by omega)]; exact ⟨u3, rfl⟩
  obtain ⟨u, hget⟩ := hget
  unfold subscriptTail
  refine wpAny_bind ?_
  rw [getitemInPython_of_ne hT.not_modules]
  refine wpAny_bind (wpAny_specialOf hT slot_list_getitem.lookup ?_)
  refine wpAny_pure (wpAny_bind ?_)
  refine wpAny_operateT (wpAny_getItem_list hL (by omega) (by omega) hget ?_)
  refine wpAny_bind (wpAny_letTemporaryGo (wpAny_pure ⟨⟨u, rfl⟩, h', tk, rfl, keep⟩))
end
end
section
open PySem PySem.W PyProof.Rows PySem.Calls
open PySem.Sem (wp)
set_option Elab.async false
set_option maxRecDepth 100000
set_option linter.unusedVariables false
set_option linter.deprecated false
section
variable {X : Cx} {ro : Led} {E : Er} {st : St} {nm : Str} {sc : Scope} {a : Addr} {cd : Value} {env : Env} {R : Heap} {s : Shared}
theorem Sat.putNew (S : Sat X ro st R s) {h' : Heap} {tk : Nat} {y : Str} {u : V} {D : Addr} {c : Cell} {loc' : List (Str × V)} (U : Put y u (.ref D) st.loc loc') (hD : s.heap.get? D = none) (hc : At h' D c)
    (hn : ∀ m, s.heap.Ns X.L m → h'.Ns X.L (fun z => if z = y then some (.ref D) else m z)) (k : ∀ b o, b ≠ X.L → s.heap.get? b = some o → h'.get? b = some o) :
    Sat X ro ⟨loc', (D, c) :: st.own⟩ R { s with heap := h', toks := tk } where
  base := S.base
  ros := S.ros
  fr := fun b o e => k b o (fun h => by subst h; rw [S.frL] at e; cases e) (S.fr b o e)
  frL := S.frL
  own := fun p hp => by
    rcases List.mem_cons.mp hp with rfl | hp
    · refine ⟨?_, ?_, hc⟩
      · cases h : R.get? D with
        | none => rfl
        | some o => have := S.fr _ _ h; rw [hD] at this; cases this
      · rintro rfl
        obtain ⟨m, ⟨o, _, _, ho, _⟩, _⟩ := S.ns
        rw [hD] at ho; cases ho
    · let ⟨h1, h2, h3⟩ := S.own p hp; exact ⟨h1, h2, h3.keep fun o e => k _ o h2 e⟩
  nd := by
    simp only [List.map_cons, List.nodup_cons]
    refine ⟨fun hm => ?_, S.nd⟩
    obtain ⟨p, hp, rfl⟩ := List.mem_map.mp hm
    obtain ⟨o, ho, _⟩ := (S.own p hp).2.2
    rw [hD] at ho; cases ho
  ns := by
    obtain ⟨m, hm, hl⟩ := S.ns
    refine ⟨_, hn m hm, fun p hp => ?_⟩
    rcases U.mem S.nl p hp with rfl | ⟨hp, hne⟩
    · exact .inr ⟨.ref D, by simp, rfl⟩
    · simp only [hne, if_false]; exact hl p hp
  nl := by show (loc'.map (·.1)).Nodup; rw [U.keys]; exact S.nl
  gens := S.gens
  oss := S.oss
  outs := fun q hq => let ⟨h1, h2, h3⟩ := S.outs q hq; ⟨h1.at' fun o e => k _ o h3 e, h2, h3⟩
  apart := fun p hp q hq => by
    rcases List.mem_cons.mp hp with rfl | hp
    · intro e
      obtain ⟨o, _, _, ho, _⟩ := (S.outs q hq).1
      simp only at e
      rw [← e, hD] at ho; cases ho
    · exact S.apart p hp q hq
theorem comp_coreA {elt : Expr} {x y : Str} {scope : Scope} {l : Addr} {W : Array Value} {ms : List Int} (f : Int → Int) {m : Str → Option Value} {Q : Shared → Prop} {E' : Value → Shared → Prop}
    (hh : X.A.handled = none) (S : Sat X ro st R s) (hm : s.heap.Ns X.L m) (hL : s.heap.IsList l W) (hw : All2 (ms.map V.int) W.toList) (hsz : ms.length ≤ 16777216)
    (helt : ∀ C n t s₂ m₂ E', s₂.heap.Ns C m₂ → m₂ x = some (.int n t) → (∀ b o, X.B.get? b = some o → s₂.heap.get? b = some o) →
      wpAny (model X.prog X.w) X.A (eval elt (compEnv scope C (envOf nm sc X.L a cd))) (fun y s₃ => (∃ u, y = .int (f n) u) ∧ Keeps s₂ s₃) E' s₂)
    (hq : ∀ D h' tk ys, s.heap.get? D = none → h'.PlainList D ys → All2 ((ms.map f).map V.int) ys.toList → h'.Ns X.L (fun z => if z = y then some (.ref D) else m z) → (∀ b o, b ≠ X.L → s.heap.get? b = some o → h'.get? b = some o) → Q { s with heap := h', toks := tk }) :
    wpAny (model X.prog X.w) X.A (pyIter (.ref l)) (fun it s₂ => ∃ I fp wr n P St m, it = .ref I ∧ Walks X.prog X.w X.A I fp wr n P St ∧ n ≤ sizeLine ∧ St 0 s₂.heap ∧ (∀ b ∈ fp, b < s₂.heap.objs.size) ∧
      (envOf nm sc X.L a cd).locals ∉ wr ∧ s₂.heap.Ns (envOf nm sc X.L a cd).locals m ∧
      QuietOn X.prog X.w X.A (envOf nm sc X.L a cd) scope x [] elt wr P (fun _ => true) (fun v y => ∃ n t u, v = .int n t ∧ y = .int (f n) u) s₂ ∧
      (∀ D h' tk ys (vs : List Value), s₂.heap.get? D = none → h'.IsList D ys → h'.PlainList D ys → vs.length = n → (∀ j v, vs[j]? = some v → P j v) → Paired (fun v y => ∃ n t u, v = .int n t ∧ y = .int (f n) u) (vs.filter fun _ => true) ys.toList →
        h'.Ns (envOf nm sc X.L a cd).locals (fun z => if z = y then some (.ref D) else m z) → (∀ b o, b ≠ (envOf nm sc X.L a cd).locals → b ∉ wr → s₂.heap.get? b = some o → h'.get? b = some o) → Q { s₂ with heap := h', toks := tk })) E' s := by
  refine wpAny_pyIter_list hL ?_
  obtain ⟨ol, hol, _⟩ := id hL
  have hlt : l < s.heap.objs.size := Heap.lt_size hol
  have hn : ms.length = W.size := by simpa using hw.length
  have off : ∀ {b o}, s.heap.get? b = some o → b ∉ [s.heap.objs.size] := fun e hm => absurd (Heap.lt_size e) (by rw [List.mem_singleton.mp hm]; exact Nat.lt_irrefl _)
  refine ⟨s.heap.objs.size, [s.heap.objs.size, l], [s.heap.objs.size], W.size, _, _, m, rfl, Walks.list hh s.heap.objs.size l (Nat.ne_of_lt hlt) W, by rw [sizeLine_eq]; omega,
    ⟨⟨_, Heap.get?_push_size _ rfl, rfl, rfl⟩, hL.push _⟩, ?_, ?_, hm.keeps (fun b o e => Heap.get?_push_of_some _ e), ⟨?_, ?_⟩, ?_⟩
  · intro b hb
    rw [Heap.size_push]
    rcases List.mem_cons.mp hb with rfl | hb
    · exact Nat.lt_succ_self _
    · rw [List.mem_singleton.mp hb]; exact Nat.lt_succ_of_lt hlt
  · intro hmem
    exact absurd S.lt (by rw [show X.L = s.heap.objs.size from List.mem_singleton.mp hmem]; exact Nat.lt_irrefl _)
  · intro C i v s₃ m₃ E'' hv hns hm hk htk
    exact wpAny_pure ⟨rfl, s₃.heap, s₃.toks, rfl, fun _ _ e => e⟩
  · intro C i v s₃ m₃ E'' hv _ hns hm hk htk
    rw [← Array.getElem?_toList] at hv
    obtain ⟨u, hu, hi⟩ := hw.get' hv
    rw [List.getElem?_map] at hu
    cases hx : ms[i]? with
    | none => rw [hx] at hu; cases hu
    | some n =>
      rw [hx] at hu; cases hu
      obtain ⟨t, rfl⟩ := hi
      refine wpAny_mono (helt C n t s₃ m₃ E'' hns hm fun b o e => hk b o (off (S.keepB _ _ e)) (Heap.get?_push_of_some _ (S.keepB _ _ e))) (fun y s₄ ⟨⟨u, hu⟩, hk'⟩ => ⟨⟨n, t, u, rfl, hu⟩, hk'⟩) fun _ _ e => e
  · intro D h' tk ys vs hD _ hpl hlen hP hF hns hk
    rw [List.filter_eq_self.mpr (by intros; rfl)] at hF
    have hvs : vs = W.toList := by
      apply List.ext_getElem?
      intro i
      cases hv : vs[i]? with
      | none =>
        have h1 := List.getElem?_eq_none_iff.mp hv
        exact (List.getElem?_eq_none_iff.mpr (by simpa [hlen] using h1)).symm
      | some v => have := hP i v hv; rw [← Array.getElem?_toList] at this; exact this.symm
    subst hvs
    refine hq D h' tk ys ?_ hpl (paired_all2 (f := f) ?_ hw hF) hns fun b o hb e => hk b o hb (off e) (Heap.get?_push_of_some _ e)
    · cases e : s.heap.get? D with
      | none => rfl
      | some o => rw [Heap.get?_push_of_some _ e] at hD; cases hD
    · rintro n t y ⟨n', t', u, e1, e2⟩
      cases e1; exact ⟨u, e2⟩
/-- y = [elt for x in xs[lo:hi]] -/
theorem AssignComp' {elt : Expr} {xs x y : Str} {px py p1 p2 p3 pos spos : Pos} {lower upper : Option Expr} {scope : Scope} {l : Addr} {ns : List Int} {lo hi : Option Int} (f : Int → Int) {Q : Fl → St → Prop}
    (hh : X.A.handled = none) (hxs : Has xs (.ref l) st.loc) (hl : Kn ro st l (.ints ns)) (hsz : ns.length ≤ 16777216)
    (hlo : ∀ (s : Shared) (Q : Value → Shared → Prop) E', (∀ v tk, IsPart v lo → Q v { s with toks := tk }) → wpAny (model X.prog X.w) X.A (evalPart lower (envOf nm sc X.L a cd)) Q E' s)
    (hhi : ∀ (s : Shared) (Q : Value → Shared → Prop) E', (∀ v tk, IsPart v hi → Q v { s with toks := tk }) → wpAny (model X.prog X.w) X.A (evalPart upper (envOf nm sc X.L a cd)) Q E' s)
    (helt : ∀ C n t s₂ m₂ E', s₂.heap.Ns C m₂ → m₂ x = some (.int n t) → (∀ b o, X.B.get? b = some o → s₂.heap.get? b = some o) →
      wpAny (model X.prog X.w) X.A (eval elt (compEnv scope C (envOf nm sc X.L a cd))) (fun y s₃ => (∃ u, y = .int (f n) u) ∧ Keeps s₂ s₃) E' s₂)
    (hq : ∀ l', ∃ u₀ loc', Put y u₀ (.ref l') st.loc loc' ∧ Q .next ⟨loc', (l', .ints ((pslice lo hi ns).map f)) :: st.own⟩)
    (hk : sc.kind = .function := by rfl) (hll : (envOf nm sc X.L a cd).kindOf xs = some .local := by rfl) (hly : (envOf nm sc X.L a cd).kindOf y = some .local := by rfl) (hd : (xs == ("__debug__" : Str)) = false := by decide)
    (hfree : ∀ y ∈ scope.names, y.2 ≠ .free := by decide) (hcell : ∀ y ∈ scope.names, y.2 ≠ .cell := by decide) (hkind : scope.kind = .function := by rfl)
    (hnames : ∀ y ∈ scope.names, y.2 = .local → scope.names.lookup y.1 = some .local := by decide) (hx : scope.names.lookup x = some .local := by rfl)
    (hsw : swapsWith (.ListComp elt [⟨.Name x px, .Subscript (.Name xs p1) (.Slice lower upper none p2) p3, [], 0⟩] scope pos) (some (.Name y py)) spos.line (envOf nm sc X.L a cd) = pure true := by rfl)
    (hs : ∀ x, foldedSetIterable (.Subscript (.Name xs p1) (.Slice lower upper none p2) p3) (envOf nm sc X.L a cd) x = pure x := by intro _; rfl) :
    TF X ro E st (exec (.Assign [.Name y py] (.ListComp elt [⟨.Name x px, .Subscript (.Name xs p1) (.Slice lower upper none p2) p3, [], 0⟩] scope pos) spos) (envOf nm sc X.L a cd)) Q := fun R s S => by
  refine wpR_of (wpAny_Assign_ListComp_walk (fun _ => true) (fun v y => ∃ n t u, v = .int n t ∧ y = .int (f n) u) hsw hfree hcell hkind hnames hx hly (by show (sc.kind == .class || (sc.kind == .module && X.L != mainGlobals)) = false; rw [hk]; rfl) ?_ hs)
  obtain ⟨m, hm, hl'⟩ := S.ns
  rcases hl' _ hxs.mem with e | ⟨v, hv, hi'⟩
  · cases e
  cases hi'
  refine wpAny_Subscript_list_slice (wpAny_Name (wpAny_loadName_local hk hll hm hv ?_) hd)
  refine hlo _ _ _ fun vl tk1 pl => hhi _ _ _ fun vu tk2 pu => ?_
  obtain ⟨ws, hL, hw⟩ := (S.at hl).isList
  have hn : ns.length = ws.size := by simpa using hw.length
  refine ⟨l, ws, lo, hi, rfl, hL, by rw [sizeLine_eq]; omega, pl, pu, ?_⟩
  rw [slicePick_eq]
  generalize hW : (pslice lo hi ws.toList).toArray = W
  have hw' : All2 ((pslice lo hi ns).map V.int) W.toList := by rw [← hW, ← pslice_map]; exact hw.pslice lo hi
  have hWn : (pslice lo hi ns).length = W.size := by simpa using hw'.length
  have hpl := pslice_length_le lo hi ns
  have S₁ : Sat X ro st R { s with heap := (s.heap.push { cls := .type "slice", data := .fields #[vl, vu, .none] }).push { cls := .type "list", data := .seq W }, toks := tk2 } :=
    S.keeps fun b o e => Heap.get?_push_of_some _ (Heap.get?_push_of_some _ e)
  have hg1 : ((s.heap.push { cls := .type "slice", data := .fields #[vl, vu, .none] }).push { cls := .type "list", data := .seq W }).get? (s.heap.objs.size + 1) = some { cls := .type "list", data := .seq W } := by
    have := Heap.get?_push_size (s.heap.push { cls := .type "slice", data := .fields #[vl, vu, .none] }) (o := { cls := .type "list", data := .seq W }) rfl
    rwa [Heap.size_push] at this
  have hm1 : ((s.heap.push { cls := .type "slice", data := .fields #[vl, vu, .none] }).push { cls := .type "list", data := .seq W }).Ns X.L m := hm.keeps fun b o e => Heap.get?_push_of_some _ (Heap.get?_push_of_some _ e)
  dsimp only
  refine comp_coreA (l := s.heap.objs.size + 1) (Q := fun s' => ∃ g st', Fl.Is g .next ∧ Sat X ro st' R s' ∧ Q g st') f hh S₁ hm1 (W := W) ⟨_, hg1, rfl, _, rfl⟩ hw' (by omega) helt fun D h' tk ys hD hpl ha hns hk => ?_
  obtain ⟨n, hn'⟩ := hpl
  obtain ⟨u₀, loc', U, hQ⟩ := hq D
  refine ⟨.next, _, rfl, S.putNew (c := .ints ((pslice lo hi ns).map f)) (D := D) U ?_ ⟨_, hn', ⟨ys, n, rfl, ha⟩⟩ (fun m' hm' => ?_) fun b o hb e => hk b o hb (Heap.get?_push_of_some _ (Heap.get?_push_of_some _ e)), hQ⟩
  · cases e : s.heap.get? D with
    | none => rfl
    | some o => rw [Heap.get?_push_of_some _ (Heap.get?_push_of_some _ e)] at hD; cases hD
  · have : m' = m := by rw [hm'.eq_nsMap, hm.eq_nsMap]
    subst this; exact hns
end
end
section
abbrev locs4 (script numbers packets wide number whole joined laid text full which packet held stuffed written back tail ahead alone told : V) : List (Str × V) :=
  [("script", script), ("numbers", numbers), ("packets", packets), ("wide", wide), ("number", number), ("whole", whole), ("joined", joined), ("laid", laid), ("text", text), ("full", full), ("which", which), ("packet", packet), ("held", held), ("stuffed", stuffed), ("written", written), ("back", back), ("tail", tail), ("ahead", ahead), ("alone", alone), ("told", told)]
theorem freeze_all {X : Cx} {ro : Led} {E : Er} {α β : Type} {rel : β → α → Prop} {t : Sem α} {Q : β → St → Prop} {loc : List (Str × V)} {own : Led} (hE : ∀ R R' e s, (∀ b o, R.get? b = some o → R'.get? b = some o) → E R' e s → E R e s)
    (h : TT X (own ++ ro) E rel ⟨loc, []⟩ t Q) : TT X ro E rel ⟨loc, own⟩ t Q := TT.freeze hE (by rw [List.append_nil]) h
theorem app_b {xs ys : List Int} (h1 : ∀ n ∈ xs, 0 ≤ n ∧ n < 256) (h2 : ∀ n ∈ ys, 0 ≤ n ∧ n < 256) : ∀ n ∈ xs ++ ys, 0 ≤ n ∧ n < 256 := fun n hn => (List.mem_append.mp hn).elim (h1 n) (h2 n)
theorem one_b {x : Int} (h : 0 ≤ x ∧ x < 256) : ∀ n ∈ [x], 0 ≤ n ∧ n < 256 := fun n hn => by rw [List.mem_singleton.mp hn]; exact h
theorem nil_b : ∀ n ∈ ([] : List Int), 0 ≤ n ∧ n < 256 := fun n hn => nomatch hn
section
variable {X : Cx} {ro : Led} {E : Er} {st : St}
theorem call_meant_no {fM : Addr} {pm cd doc : Value} {lp : Addr} {p : List Int} {Q : V → St → Prop} {fD : Addr} {oD : Obj} {fdD : FuncData} {pmD cdD docD : Value} {env : Env} {fs : List Env} {C : Addr} {mg : Str → Option Value} (hl : Kn ro st lp (.ints p)) (hd : dec p = none)
    (F : FnOk X.B fM "_law_meant" (fParams stM) (fBody stM) (fScope stM) pm cd doc) (hlim : X.B.NoLimit) (hroom : X.A.depth < recursionLimit) (hroom' : X.A.depth + 1 < recursionLimit)
    (hh : X.A.handled = none) (hg : X.A.guards = some []) (g1 : Glo X "isinstance" (.builtin "isinstance")) (g2 : Glo X "str" (.type "str"))
    (g3 : Glo X "bytearray" (.type "bytearray")) (g4 : Glo X "bytes" (.type "bytes")) (g5 : Glo X "len" (.builtin "len"))
    (gD : Glo X "decode" (.ref fD)) (FD : FnOk X.B fD "decode" (fParams stD) (fBody stD) (fScope stD) pmD cdD docD) (hoD : X.B.get? fD = some oD) (hdD : oD.data = .func fdD)
    (FR : FrOk X env fs) (O : OwnClsQ "DecodeError" C [.type "Exception", .type "BaseException", .type "object"] "Exception.__new__" mg X.B) (hgm : X.B.Ns mainGlobals mg)
    (hb : ∀ n ∈ p, 0 ≤ n ∧ n < 256) (hsz : p.length ≤ 500000) (hq : Q .none st) :
    OpN X ro E (fun vs => call (.ref fM) vs) [.ref lp] st Q :=
  call_meant F hlim hroom hroom' hh hg g1 g2 g3 g4 g5 gD FD hoD hdD FR O hgm hl hb hsz (by rw [hd]; exact hq)
theorem call_meant_ok {fM : Addr} {pm cd doc : Value} {lp : Addr} {p res : List Int} {Q : V → St → Prop} {fD : Addr} {oD : Obj} {fdD : FuncData} {pmD cdD docD : Value} {env : Env} {fs : List Env} {C : Addr} {mg : Str → Option Value} (hl : Kn ro st lp (.ints p)) (hd : dec p = some res)
    (F : FnOk X.B fM "_law_meant" (fParams stM) (fBody stM) (fScope stM) pm cd doc) (hlim : X.B.NoLimit) (hroom : X.A.depth < recursionLimit) (hroom' : X.A.depth + 1 < recursionLimit)
    (hh : X.A.handled = none) (hg : X.A.guards = some []) (g1 : Glo X "isinstance" (.builtin "isinstance")) (g2 : Glo X "str" (.type "str"))
    (g3 : Glo X "bytearray" (.type "bytearray")) (g4 : Glo X "bytes" (.type "bytes")) (g5 : Glo X "len" (.builtin "len"))
    (gD : Glo X "decode" (.ref fD)) (FD : FnOk X.B fD "decode" (fParams stD) (fBody stD) (fScope stD) pmD cdD docD) (hoD : X.B.get? fD = some oD) (hdD : oD.data = .func fdD)
    (FR : FrOk X env fs) (O : OwnClsQ "DecodeError" C [.type "Exception", .type "BaseException", .type "object"] "Exception.__new__" mg X.B) (hgm : X.B.Ns mainGlobals mg)
    (hb : ∀ n ∈ p, 0 ≤ n ∧ n < 256) (hsz : p.length ≤ 500000) (hq : Q (.bytes res) st) :
    OpN X ro E (fun vs => call (.ref fM) vs) [.ref lp] st Q :=
  call_meant F hlim hroom hroom' hh hg g1 g2 g3 g4 g5 gD FD hoD hdD FR O hgm hl hb hsz (by rw [hd]; exact hq)
end
local macro_rules | `(tactic| walk_at "m:call") => `(tactic| first
  | refine call_enc (by assumption) (by assumption) (by assumption) (by assumption) (by assumption) (by assumption) (by assumption) (by assumption) (by assumption) (by assumption) (by walk_at "m:arith") ?_
  | refine call_meant_no (by walk_at "m:kn") (by assumption) (by assumption) (by assumption) (by assumption) (by assumption) (by assumption) (by assumption) (by assumption) (by assumption) (by assumption) (by assumption) (by assumption) (by assumption) (by assumption) (by assumption) (by assumption) (by assumption) (by assumption) (by assumption) (by assumption) (by walk_at "m:arith") ?_
  | refine call_meant_ok (by walk_at "m:kn") (by assumption) (by assumption) (by assumption) (by assumption) (by assumption) (by assumption) (by assumption) (by assumption) (by assumption) (by assumption) (by assumption) (by assumption) (by assumption) (by assumption) (by assumption) (by assumption) (by assumption) (by assumption) (by assumption) (by assumption) (by walk_at "m:arith") ?_)
local macro_rules | `(tactic| walk_at "m") => `(tactic| first
  | ((with_reducible show TF _ _ _ _ (exec (Stmt.Assign [Expr.Name _ _] (Expr.ListComp _ _ _ _) _) _) _); (refine AssignComp' elt4 (by assumption) (by walk_at "m:has") (by walk_at "m:kn") (by walk_at "m:arith") (fun s Q E' h => part_neg h) (fun s Q E' h => part_none h) (elt4_walk (by assumption) (by assumption) rfl rfl rfl rfl rfl) ?_; intro)))
set_option maxHeartbeats 8000000 in
theorem law4_d {X : Cx} {ro : Led} {f : Addr} {cd : Value} {fD fM : Addr} {oD oM : Obj} {fdD fdM : FuncData} {pmD cdD docD pmM cdM docM : Value} {fs : List Env} {C : Addr} {mg : Str → Option Value}
    {ln ll lx : Addr} {v1 v3 v4 v5 v6 v7 v11 v12 v13 v14 v15 v16 : V} {N w j l t : List Int} {fb : Bool}
    (hh : X.A.handled = none) (hg : X.A.guards = some []) (hlim : X.B.NoLimit) (hroom : X.A.depth < recursionLimit) (hroom' : X.A.depth + 1 < recursionLimit)
    (g1 : Glo X "isinstance" (.builtin "isinstance")) (g2 : Glo X "str" (.type "str"))
    (g3 : Glo X "bytearray" (.type "bytearray")) (g4 : Glo X "bytes" (.type "bytes")) (g5 : Glo X "len" (.builtin "len")) (g6 : Glo X "min" (.builtin "min")) (g7 : Glo X "list" (.type "list"))
    (gD : Glo X "decode" (.ref fD)) (gM : Glo X "_law_meant" (.ref fM)) (FD : FnOk X.B fD "decode" (fParams stD) (fBody stD) (fScope stD) pmD cdD docD) (FM : FnOk X.B fM "_law_meant" (fParams stM) (fBody stM) (fScope stM) pmM cdM docM)
    (hoD : X.B.get? fD = some oD) (hdD : oD.data = .func fdD) (hoM : X.B.get? fM = some oM) (hdM : oM.data = .func fdM)
    (FR : FrOk X (envOf "law" (fScope stL) X.L f cd) fs) (O : OwnClsQ "DecodeError" C [.type "Exception", .type "BaseException", .type "object"] "Exception.__new__" mg X.B) (hgm : X.B.Ns mainGlobals mg)
    (hln : Has ln (.ints N) ro) (hll : Has ll (.ints l) ro) (hlx : Has lx (.ints t) ro) (hI : I4 w j l t fb) (hlb : ∀ n ∈ l, 0 ≤ n ∧ n < 256) (htb : ∀ n ∈ t, 0 ≤ n ∧ n < 256) (hlz : l.length ≤ 400000) (htz : t.length ≤ 400000)
    (hN : N.length ≤ 63) (hN1 : 1 ≤ N.length) :
    TF X ro noE ⟨locs4 v1 (.ref ln) v3 v4 v5 v6 v7 (.ref ll) (.ref lx) (.bool fb) v11 v12 v13 v14 v15 v16 .unk .unk .unk .unk, []⟩ (execs ((fBody stL).drop 12) (envOf "law" (fScope stL) X.L f cd)) (fun fl st' => fl = .ret (.bool true)) := by
  refine execs_cons' ?_
  repeat' walk_at "m"
  rename_i lt
  have htl : 1 ≤ (List.map elt4 (pslice (some (-4)) none N)).length ∧ (List.map elt4 (pslice (some (-4)) none N)).length ≤ 63 := by
    rw [List.length_map, pslice, List.length_take, List.length_drop]
    simp only [clipNat]
    split <;> omega
  have htlb : ∀ n ∈ List.map elt4 (pslice (some (-4)) none N), 0 ≤ n ∧ n < 256 := fun n hn => by
    obtain ⟨x, _, rfl⟩ := List.mem_map.mp hn
    exact elt4_b x
  generalize hT : List.map elt4 (pslice (some (-4)) none N) = tl at *
  with_reducible show TF _ _ _ _ (exec (Stmt.While _ _ [] _) _) _
  refine While' (fun m st => ∃ p : Int, st = ⟨locs4 v1 (.ref ln) v3 v4 v5 v6 v7 (.ref ll) (.ref lx) (.bool fb) v11 v12 v13 v14 v15 v16 (.ref lt) (.int p) .unk .unk, [(lt, .ints tl)]⟩ ∧ 0 ≤ p ∧ p ≤ tl.length + 300 ∧ m = ((tl.length : Int) - p).toNat ∧
    (0 ∉ tl → ((∃ pre rest, tl = pre ++ rest ∧ p = pre.length ∧ (codesGo tl = none ↔ codesGo rest = none)) ∨ ((tl.length : Int) < p ∧ codesGo tl = none)))) tl.length .none
    ⟨0, rfl, by omega, by omega, by omega, fun _ => .inl ⟨[], tl, rfl, rfl, Iff.rfl⟩⟩ ?_
  rintro m st' ⟨p, rfl, hp0, hp1, hm, hinv⟩
  have fin : (0 ∉ tl → ((tl.length : Int) < p ∧ codesGo tl = none) ∨ (p = tl.length ∧ codesGo tl ≠ none)) →
      TF X ro noE ⟨locs4 v1 (.ref ln) v3 v4 v5 v6 v7 (.ref ll) (.ref lx) (.bool fb) v11 v12 v13 v14 v15 v16 (.ref lt) (.int p) .unk .unk, [(lt, .ints tl)]⟩ (execs ((fBody stL).drop 15) (envOf "law" (fScope stL) X.L f cd)) (fun fl st' => fl = .ret (.bool true)) := by
    intro hfin
    have htne : tl ≠ [] := by intro e; rw [e] at htl; simp at htl
    have hsum : (l ++ tl).length ≤ 400063 := by rw [List.length_append]; omega
    have hlb2 := app_b hlb htlb
    obtain ⟨hno, hok⟩ := hI.tail htlb htne
    by_cases hz : 0 ∈ tl
    · obtain ⟨hd1, hd2⟩ := hno (.inl hz)
      refine execs_cons' ?_
      repeat' walk_at "m"
      all_goals first
        | rfl
        | (exfalso; rename_i h _; exact h hz)
        | (exfalso; rename_i h; exact h hz)
    · rcases hfin hz with ⟨hp, hc⟩ | ⟨hp, hc⟩
      · obtain ⟨hd1, hd2⟩ := hno (.inr hc)
        refine execs_cons' ?_
        repeat' walk_at "m"
        all_goals first
          | rfl
          | (exfalso; omega)
      · obtain ⟨A, hd1, hd2⟩ := hok hz hc
        obtain ⟨hA1, hA2⟩ := dec_bytes htlb hd1
        have hb1 := app_b (app_b htb nil_b) hA1
        have hb2 := app_b (app_b htb (one_b (x := 0) (by omega))) hA1
        cases fb
        · simp only [Bool.false_eq_true, if_false] at hd2
          refine execs_cons' ?_
          repeat' walk_at "m"
          all_goals first
            | (exfalso; rename_i h; first | exact hz h | omega)
            | (show Fl.ret _ = Fl.ret _; simp; done)
        · simp only [if_true] at hd2
          refine execs_cons' ?_
          repeat' walk_at "m"
          all_goals first
            | (exfalso; rename_i h; first | exact hz h | omega)
            | (show Fl.ret _ = Fl.ret _; simp; done)
  have hx : p < tl.length → ∃ x, tl[pidx p tl.length]? = some x ∧ x ∈ tl ∧ tl = tl.take p.toNat ++ x :: tl.drop (p.toNat + 1) := fun h => by
    have h' : p.toNat < tl.length := by omega
    refine ⟨tl[p.toNat], ?_, List.getElem_mem _, ?_⟩
    · rw [pidx, if_neg (by omega), List.getElem?_eq_getElem h']
    · rw [← List.drop_eq_getElem_cons h', List.take_append_drop]
  refine TT.mono (rel := fun (b : Bool) a => a = b) (Q := fun (b : Bool) (st : St) => st = ⟨locs4 v1 (.ref ln) v3 v4 v5 v6 v7 (.ref ll) (.ref lx) (.bool fb) v11 v12 v13 v14 v15 v16 (.ref lt) (.int p) .unk .unk, [(lt, .ints tl)]⟩ ∧
    (b = true → p < tl.length ∧ ∃ x, tl[pidx p tl.length]? = some x ∧ x ∈ tl ∧ 0 < x ∧ tl = tl.take p.toNat ++ x :: tl.drop (p.toNat + 1)) ∧ (b = false → ¬ (p < tl.length) ∨ 0 ∈ tl)) ?_ ?_
  · by_cases hlt : p < tl.length
    · obtain ⟨x, hx1, hx2, hx3⟩ := hx hlt
      have hxb := htlb x hx2
      repeat' walk_at "m"
      · rename_i h1 h2
        exact ⟨rfl, fun _ => ⟨hlt, x, hx1, hx2, h2, hx3⟩, fun h => by cases h⟩
      · rename_i h1 h2
        exact ⟨rfl, fun h => (by cases h), fun _ => .inr (by rw [show (0 : Int) = x by omega]; exact hx2)⟩
      · exact ⟨rfl, fun h => (by cases h), fun _ => by omega⟩
    · repeat' walk_at "m"
      · exfalso; omega
      · exact ⟨rfl, fun h => (by cases h), fun _ => .inl hlt⟩
  · rintro b st ⟨rfl, h1, h2⟩
    refine ⟨fun hb => ?_, fun hb => fin fun hz => ?_⟩
    · obtain ⟨hlt, x, hx1, hx2, hx3, hx4⟩ := h1 hb
      have hxb := htlb x hx2
      repeat' walk_at "m"
      refine ⟨((tl.length : Int) - (p + x)).toNat, by omega, p + x, rfl, by omega, by omega, rfl, fun hz => ?_⟩
      rcases hinv hz with ⟨pre, rest, e1, e2, e3⟩ | ⟨h, _⟩
      · have e4 : rest = x :: tl.drop (p.toNat + 1) := by
          have := hx4
          rw [show p.toNat = pre.length by omega] at this ⊢
          conv at this => lhs; rw [e1]
          rw [e1, List.take_left] at this
          rw [e1]
          exact List.append_cancel_left this
        generalize tl.drop (p.toNat + 1) = r at e4
        subst e4
        rw [codesGo] at e3
        have hlen : tl.length = pre.length + 1 + r.length := by rw [e1]; simp; omega
        by_cases hk : (x - 1).toNat ≤ r.length
        · rw [if_pos hk] at e3
          refine .inl ⟨pre ++ x :: r.take (x - 1).toNat, r.drop (x - 1).toNat, by rw [e1]; simp, by simp; omega, ?_⟩
          rw [e3]; simp
        · rw [if_neg hk] at e3
          exact .inr ⟨by omega, e3.mpr rfl⟩
      · omega
    · rcases hinv hz with ⟨pre, rest, e1, e2, e3⟩ | h
      · rcases h2 hb with h | h
        · have : rest = [] := by
            have := congrArg List.length e1
            rw [List.length_append] at this
            exact List.eq_nil_of_length_eq_zero (by omega)
          subst this
          refine .inr ⟨by rw [e1]; simp; omega, fun h => ?_⟩
          have := e3.mp h
          rw [codesGo] at this; cases this
        · exact absurd h hz
      · exact .inl h
end
section
def forB : Option Stmt → List Stmt
  | some (.For _ _ b _ _) => b
  | _ => []
section
variable {X : Cx} {ro : Led} {E : Er} {st : St}
theorem iadd_ints' {l b : Addr} {ns ms : List Int} {own' : Led} {Q : V → St → Prop} (U : Put l (.ints ns) (.ints (ns ++ ms)) st.own own') (hb : Kn ro st b (.ints ms)) (hsz : ns.length + ms.length ≤ 16777216)
    (hq : Q (.ref l) { st with own := own' }) : Op2 X ro E (inplaceOp .Add) (.ref l) (.ref b) st Q :=
  iadd_list' (us := ns.map V.int) (vs := ms.map V.int) (by rw [Cell.ints, Cell.ints, List.map_append] at U; exact U) hb (by rw [List.length_map, List.length_map]; exact hsz) hq
end
theorem Upto.more {J : St → Prop} {loc : List (Str × V)} {o1 o2 : Led} (h : o1.Sublist o2) (x : Upto J ⟨loc, o1⟩) : Upto J ⟨loc, o2⟩ :=
  let ⟨a, b, h1, h2, h3⟩ := x; ⟨a, b, h1.trans h, h2, h3⟩
local macro_rules | `(tactic| walk_at "m:call") => `(tactic| first
  | refine call_enc (by assumption) (by assumption) (by assumption) (by assumption) (by assumption) (by assumption) (by assumption) (by assumption) (by assumption) (by assumption) (by walk_at "m:arith") ?_
  | refine call_enc_ba (by assumption) (by assumption) (by assumption) (by assumption) (by assumption) (by assumption) (by assumption) (by assumption) (by assumption) (by walk_at "m:kn") (by assumption) (by walk_at "m:arith") ?_
  | (refine call_stuffed (by assumption) (by assumption) (by assumption) (by assumption) (by assumption) (by walk_at "m:kn") (by walk_at "m:arith") ?_; intro _ _)
  | refine call_meant_no (by walk_at "m:kn") (by assumption) (by assumption) (by assumption) (by assumption) (by assumption) (by assumption) (by assumption) (by assumption) (by assumption) (by assumption) (by assumption) (by assumption) (by assumption) (by assumption) (by assumption) (by assumption) (by assumption) (by assumption) (by assumption) (by assumption) (by walk_at "m:arith") ?_
  | refine call_meant_ok (by walk_at "m:kn") (by assumption) (by assumption) (by assumption) (by assumption) (by assumption) (by assumption) (by assumption) (by assumption) (by assumption) (by assumption) (by assumption) (by assumption) (by assumption) (by assumption) (by assumption) (by assumption) (by assumption) (by assumption) (by assumption) (by assumption) (by walk_at "m:arith") ?_)
local macro_rules | `(tactic| walk_at "m") => `(tactic| first
  | ((with_reducible show OpN _ _ _ (fun vs => call (Value.type "bytearray") vs) [V.raw (Value.ref _)] _ _); (refine ba_list' (by assumption) (by walk_at "m:kn") (by assumption) (by walk_at "m:arith") ?_; intro))
  | ((with_reducible show OpN _ _ _ (fun vs => call (Value.type "list") vs) [V.raw (Value.ref _)] _ _); (refine list_ba' (by assumption) (by walk_at "m:kn") (by walk_at "m:arith") ?_; intro))
  | ((with_reducible show TF _ _ _ _ (exec (Stmt.Assign [Expr.Tuple [Expr.Name _ _, Expr.Name _ _] _ _] _ _) _) _); refine AssignPair' (by assumption) ?_)
  | ((with_reducible show ∃ T w1 w2 own' u₁ u₂ l1 l2, V.raw (Value.ref _) = V.ref T ∧ _); refine ⟨_, _, _, _, _, _, _, _, rfl, rfl, by walk_at "m:put", by walk_at "m:put", ?_⟩)
  | ((with_reducible show Op2 _ _ _ (compareOp CmpOp.NotEq) (V.raw (Value.ref _)) (V.raw (Value.ref _)) _ _); refine ne_ints' (by assumption) (by walk_at "m:kn") (by walk_at "m:kn") ?_)
  | ((with_reducible show Op2 _ _ _ (inplaceOp Operator.Add) (V.raw (Value.ref _)) (V.raw (Value.ref _)) _ _); refine iadd_ints' (by walk_at "m:put") (by walk_at "m:kn") (by walk_at "m:arith") ?_))
structure Sz (i : Nat) (w j l t : List Int) : Prop where
  bw : ∀ n ∈ w, 0 ≤ n ∧ n < 256
  bl : ∀ n ∈ l, 0 ≤ n ∧ n < 256
  bt : ∀ n ∈ t, 0 ≤ n ∧ n < 256
  zw : w.length ≤ 4101 * i
  zj : j.length ≤ 8202 * i
  zl : l.length ≤ 8202 * i
  zt : t.length ≤ 4101 * i
set_option maxHeartbeats 8000000 in
theorem turn4 {X : Cx} {ro : Led} {f : Addr} {cd : Value} {fE fS : Addr} {oE oS : Obj} {fdE fdS : FuncData} {pmE cdE docE pmS cdS docS : Value}
    {lw lj ll lx lp : Addr} {v1 v2 v3 v4 v5 v11 v13 v14 v15 : V} {p w j l t : List Int} {fb : Bool} {Q : Fl → St → Prop} {J : St → Prop}
    (hh : X.A.handled = none) (hg : X.A.guards = some []) (hu : X.A.units + 64 < cLine) (hlim : X.B.NoLimit) (hroom : X.A.depth < recursionLimit)
    (g1 : Glo X "isinstance" (.builtin "isinstance")) (g2 : Glo X "str" (.type "str"))
    (g3 : Glo X "bytearray" (.type "bytearray")) (g4 : Glo X "bytes" (.type "bytes")) (g5 : Glo X "len" (.builtin "len")) (g7 : Glo X "list" (.type "list"))
    (gE : Glo X "encode" (.ref fE)) (gS : Glo X "_law_stuffed" (.ref fS)) (FE : FnOk X.B fE "encode" (fParams stE) (fBody stE) (fScope stE) pmE cdE docE) (FS : FnOk X.B fS "_law_stuffed" (fParams stS) (fBody stS) (fScope stS) pmS cdS docS)
    (hoE : X.B.get? fE = some oE) (hdE : oE.data = .func fdE) (hoS : X.B.get? fS = some oS) (hdS : oS.data = .func fdS)
    (hlp : Has lp (.ints p) ro) (hpb : ∀ n ∈ p, 0 ≤ n ∧ n < 256) (hpz : p.length ≤ 4100) (hw : w.length ≤ 400000) (hj : j.length ≤ 400000) (hl : l.length ≤ 400000) (ht : t.length ≤ 400000)
    (hJ : ∀ a b c, J ⟨locs4 v1 v2 v3 v4 v5 (.ref lw) (.ref lj) (.ref ll) (.ref lx) (.bool (fullP p)) v11 (.ref lp) a b c .unk .unk .unk .unk .unk,
      [(lx, .ints (t ++ p)), (ll, .ints (l ++ enc p)), (lj, .ints (j ++ enc p)), (lw, .ints (w ++ p))]⟩) :
    TF X ro noE ⟨locs4 v1 v2 v3 v4 v5 (.ref lw) (.ref lj) (.ref ll) (.ref lx) (.bool fb) v11 (.ref lp) v13 v14 v15 .unk .unk .unk .unk .unk, [(lx, .ints t), (ll, .ints l), (lj, .ints j), (lw, .ints w)]⟩
      (execs ((forB (fBody stL)[9]?).drop 1) (envOf "law" (fScope stL) X.L f cd)) (LoopQ Q J) := by
  have heb := enc_bytes hpb
  have hel := enc_len p
  refine loop_upto ?_
  refine execs_cons' ?_
  repeat' walk_at "m"
  · rename_i h
    exact absurd rfl h
  · rename_i h
    exact absurd rfl h
  · exact Upto.more (.cons _ (.cons _ (.cons _ (.refl _)))) (Upto.of (hJ _ _ _))
def J4 (v1 v2 v3 v4 v5 : V) (lw lj ll lx : Addr) (i : Nat) (st : St) : Prop := ∃ (w j l t : List Int) (fb : Bool) (a b c d e : V),
  st = ⟨locs4 v1 v2 v3 v4 v5 (.ref lw) (.ref lj) (.ref ll) (.ref lx) (.bool fb) a b c d e .unk .unk .unk .unk .unk, [(lx, .ints t), (ll, .ints l), (lj, .ints j), (lw, .ints w)]⟩ ∧ Sz i w j l t ∧
    (i = 0 → w = [] ∧ j = [] ∧ l = [] ∧ t = []) ∧ (0 < i → I4 w j l t fb)
theorem Sz.first {p : List Int} (hb : ∀ n ∈ p, 0 ≤ n ∧ n < 256) (hz : p.length ≤ 4100) : Sz 1 p (enc p) (enc p) p := by
  have := enc_len p
  exact ⟨hb, enc_bytes hb, hb, by omega, by omega, by omega, by omega⟩
theorem Sz.step {i : Nat} {w j l t x y p : List Int} (h : Sz i w j l t) (hb : ∀ n ∈ p, 0 ≤ n ∧ n < 256) (hz : p.length ≤ 4100) (hx : x.length ≤ 1) (hy : y.length ≤ 1) (hyb : ∀ n ∈ y, 0 ≤ n ∧ n < 256) :
    Sz (i + 1) (w ++ [0] ++ p) (j ++ x ++ enc p) (l ++ enc p) (t ++ y ++ p) := by
  have := enc_len p
  obtain ⟨a, b, c, d, e, f, g⟩ := h
  refine ⟨app_b (app_b a (one_b (by omega))) hb, app_b b (enc_bytes hb), app_b (app_b c hyb) hb, ?_, ?_, ?_, ?_⟩ <;> simp only [List.length_append, List.length_cons, List.length_nil] <;> omega
set_option maxHeartbeats 8000000 in
theorem law4_c {X : Cx} {ro : Led} {f : Addr} {cd : Value} {fE fD fS fM : Addr} {oE oD oS oM : Obj} {fdE fdD fdS fdM : FuncData} {pmE cdE docE pmD cdD docD pmS cdS docS pmM cdM docM : Value} {fs : List Env} {C : Addr} {mg : Str → Option Value}
    {ln lk : Addr} {v1 v4 v5 : V} {N : List Int} {pk : List (Addr × List Int)}
    (hh : X.A.handled = none) (hg : X.A.guards = some []) (hu : X.A.units + 64 < cLine) (hlim : X.B.NoLimit) (hroom : X.A.depth < recursionLimit) (hroom' : X.A.depth + 1 < recursionLimit)
    (g1 : Glo X "isinstance" (.builtin "isinstance")) (g2 : Glo X "str" (.type "str"))
    (g3 : Glo X "bytearray" (.type "bytearray")) (g4 : Glo X "bytes" (.type "bytes")) (g5 : Glo X "len" (.builtin "len")) (g6 : Glo X "min" (.builtin "min")) (g7 : Glo X "list" (.type "list")) (g8 : Glo X "enumerate" (.type "enumerate"))
    (gE : Glo X "encode" (.ref fE)) (gD : Glo X "decode" (.ref fD)) (gS : Glo X "_law_stuffed" (.ref fS)) (gM : Glo X "_law_meant" (.ref fM))
    (FE : FnOk X.B fE "encode" (fParams stE) (fBody stE) (fScope stE) pmE cdE docE) (FD : FnOk X.B fD "decode" (fParams stD) (fBody stD) (fScope stD) pmD cdD docD)
    (FS : FnOk X.B fS "_law_stuffed" (fParams stS) (fBody stS) (fScope stS) pmS cdS docS) (FM : FnOk X.B fM "_law_meant" (fParams stM) (fBody stM) (fScope stM) pmM cdM docM)
    (hoE : X.B.get? fE = some oE) (hdE : oE.data = .func fdE) (hoD : X.B.get? fD = some oD) (hdD : oD.data = .func fdD) (hoS : X.B.get? fS = some oS) (hdS : oS.data = .func fdS) (hoM : X.B.get? fM = some oM) (hdM : oM.data = .func fdM)
    (FR : FrOk X (envOf "law" (fScope stL) X.L f cd) fs) (O : OwnClsQ "DecodeError" C [.type "Exception", .type "BaseException", .type "object"] "Exception.__new__" mg X.B) (hgm : X.B.Ns mainGlobals mg)
    (hln : Has ln (.ints N) ro) (hlk : Has lk (.list (pk.map fun p => V.ref p.1)) ro) (hpk : ∀ p ∈ pk, Has p.1 (.ints p.2) ro ∧ (∀ n ∈ p.2, 0 ≤ n ∧ n < 256) ∧ p.2.length ≤ 4100) (hp0 : pk ≠ []) (hp1 : pk.length ≤ 17)
    (hN : N.length ≤ 63) (hN1 : 1 ≤ N.length) :
    TF X ro noE ⟨locs4 v1 (.ref ln) (.ref lk) v4 v5 .unk .unk .unk .unk .unk .unk .unk .unk .unk .unk .unk .unk .unk .unk .unk, []⟩ (execs ((fBody stL).drop 4) (envOf "law" (fScope stL) X.L f cd)) (fun fl st' => fl = .ret (.bool true)) := by
  refine execs_cons' ?_
  repeat' walk_at "m"
  rename_i lw lj ll lx
  refine for_enum (us := pk.map fun p => V.ref p.1) (J4 v1 (.ref ln) (.ref lk) v4 v5 lw lj ll lx) .none hh ?_ ⟨[], [], [], [], false, .unk, .unk, .unk, .unk, .unk, rfl, ⟨by simp, by simp, by simp, by simp, by simp, by simp, by simp⟩, fun _ => ⟨rfl, rfl, rfl, rfl⟩, fun h => absurd h (by omega)⟩ ?_ ?_
  · rintro i st' ⟨w, j, l, t, fb, a, b, c, d, e, rfl, -⟩
    exact .inr hlk
  · rintro i st' w0 hi ⟨w, j, l, t, fb, a, b, c, d, e, rfl, hS, hS0, hS1⟩
    rw [List.getElem?_map] at hi
    cases hx : pk[i]? with
    | none => rw [hx] at hi; cases hi
    | some p =>
    rw [hx] at hi; cases hi
    have hil : i < pk.length := (List.getElem?_eq_some_iff.mp hx).1
    obtain ⟨hpa, hpb, hpz⟩ := hpk p (List.mem_of_getElem? hx)
    have z1 := hS.zw
    have z2 := hS.zj
    have z3 := hS.zl
    have z4 := hS.zt
    refine ⟨_, _, _, _, by walk_at "m:put", by walk_at "m:put", ?_⟩
    by_cases h0 : i = 0
    · obtain ⟨rfl, rfl, rfl, rfl⟩ := hS0 h0
      subst h0
      refine execs_cons' ?_
      repeat' ((fail_if_success (with_reducible show TF _ _ _ _ (execs (Stmt.Assign [Expr.Name _ _] (Expr.Call _ _ _ _) _ :: _) _) _)); walk_at "m")
      · exact turn4 hh hg hu hlim hroom g1 g2 g3 g4 g5 g7 gE gS FE FS hoE hdE hoS hdS hpa hpb hpz (by simp) (by simp) (by simp) (by simp) fun x y z =>
            ⟨[] ++ p.2, [] ++ enc p.2, [] ++ enc p.2, [] ++ p.2, fullP p.2, _, _, x, y, z, rfl, Sz.first hpb hpz, fun h => absurd h (by omega), fun _ => I4.first p.2⟩
    · have hI := hS1 (by omega)
      refine execs_cons' ?_
      repeat' ((fail_if_success (with_reducible show TF _ _ _ _ (execs (Stmt.Assign [Expr.Name _ _] (Expr.Call _ _ _ _) _ :: _) _) _)); walk_at "m")
      · have s1 := Sz.step (x := [1]) (y := []) hS hpb hpz (by simp) (by simp) (by simp)
        have s2 := hI.step p.2
        simp only [if_true, List.append_nil] at s1 s2
        exact turn4 hh hg hu hlim hroom g1 g2 g3 g4 g5 g7 gE gS FE FS hoE hdE hoS hdS hpa hpb hpz (by simp; omega) (by simp; omega) (by omega) (by omega) fun x y z =>
            ⟨_, _, _, _, _, _, _, x, y, z, rfl, s1, fun h => absurd h (by omega), fun _ => by simpa using s2⟩
      · have s1 := Sz.step (x := []) (y := [0]) hS hpb hpz (by simp) (by simp) (by simp)
        have s2 := hI.step p.2
        simp only [Bool.false_eq_true, if_false, List.append_nil] at s1 s2
        exact turn4 hh hg hu hlim hroom g1 g2 g3 g4 g5 g7 gE gS FE FS hoE hdE hoS hdS hpa hpb hpz (by simp; omega) (by omega) (by omega) (by simp; omega) fun x y z =>
            ⟨_, _, _, _, _, _, _, x, y, z, rfl, s1, fun h => absurd h (by omega), fun _ => by simpa using s2⟩
      · exfalso; omega
  · rintro st' ⟨w, j, l, t, fb, a, b, c, d, e, rfl, hS, hS0, hS1⟩
    rw [List.length_map] at hS hS1
    have hI := hS1 (List.length_pos_iff.mpr hp0)
    obtain ⟨hE, hDj, hDl⟩ := hI.ends
    have hwb := hS.bw
    have hlb := hS.bl
    have htb := hS.bt
    have hjb : ∀ n ∈ j, 0 ≤ n ∧ n < 256 := by rw [← hE]; exact enc_bytes hwb
    have z1 := hS.zw
    have z2 := hS.zj
    have z3 := hS.zl
    have z4 := hS.zt
    have z1' : w.length ≤ 400000 := by omega
    have z2' : j.length ≤ 400000 := by omega
    have z3' : l.length ≤ 400000 := by omega
    have z4' : t.length ≤ 400000 := by omega
    repeat' ((fail_if_success (with_reducible show TF _ _ _ _ (execs (Stmt.Assign [Expr.Name _ _] (Expr.ListComp _ _ _ _) _ :: _) _) _)); walk_at "m")
    all_goals first
      | (refine freeze_all (fun _ _ _ _ _ h => h) ?_
         exact law4_d hh hg hlim hroom hroom' g1 g2 g3 g4 g5 g6 g7 gD gM FD FM hoD hdD hoM hdM FR O hgm hln.app_right (Has.app_left (by walk_at "m:has")) (Has.app_left (by walk_at "m:has")) hI hlb htb z3' z4' hN hN1)
      | (exfalso; rename_i h; first | exact h hE | exact h rfl)
end
section
theorem len_raw4 {X : Cx} {ro : Led} {E : Er} {st : St} {l : Addr} {o : Obj} {ns : List Int} {Q : V → St → Prop} (ho : RawInts o ns) (hl : Kn ro st l (.obj o)) (hsz : ns.length ≤ 16777216) (hq : Q (.int ns.length) st) :
    OpN X ro E (fun vs => call (.builtin "len") vs) [.ref l] st Q := by
  rintro vs (_ | ⟨rfl, (_ | _)⟩) R s S
  obtain ⟨hc, ws, n, hd, hw⟩ := ho
  obtain ⟨o', ho', e⟩ := S.at hl
  cases e
  have hn : ns.length = ws.size := by simpa using hw.length
  have hL : s.heap.IsList l ws := ⟨o, ho', hc, n, hd⟩
  refine wpR_of (call_len_list hL (by omega) ⟨.int ns.length, st, ⟨s.toks + 1, ?_⟩, S.toks, hq⟩)
  rw [hn]
def cells (as : List Addr) (Bs : List (List Int)) : Led := as.zip (Bs.map Cell.ints)
def N4 (script : List Int) : List Int := pslice none (some 16) script ++ pslice (some (script.length : Int)) none [0]
/-- between the turns of the first loop -/
def K1 (ls ln lk : Addr) (N : List Int) (i : Nat) (st : St) : Prop := ∃ (as : List Addr) (a : Addr) (Bs : List (List Int)) (B : List Int) (w : Int) (u : V),
  st = ⟨locs4 (.ref ls) (.ref ln) (.ref lk) (.int w) u .unk .unk .unk .unk .unk .unk .unk .unk .unk .unk .unk .unk .unk .unk .unk,
    (a, .ints B) :: (lk, .list ((as ++ [a]).map V.ref)) :: (ln, .ints N) :: cells as Bs⟩ ∧ as.length = Bs.length ∧ (∀ C ∈ Bs, (∀ n ∈ C, 0 ≤ n ∧ n < 256) ∧ C.length ≤ 4100) ∧ (∀ n ∈ B, 0 ≤ n ∧ n < 256) ∧ B.length ≤ 255 * i ∧ as.length ≤ i
theorem ForOver.upto {X : Cx} {ro : Led} {E : Er} {env : Env} {target : Expr} {body : List Stmt} {Q : Fl → St → Prop} {u : V} {st : St} {J : St → Prop} (h : Upto J st) (k : ∀ st', J st' → ForOver X ro E env target body Q u st') : ForOver X ro E env target body Q u st :=
  fun v hv R s S => let ⟨st', S', hj⟩ := S.upto h; k st' hj v hv R s S'
theorem cells_snoc {as : List Addr} {Bs : List (List Int)} {a : Addr} {B : List Int} (h : as.length = Bs.length) : cells (as ++ [a]) (Bs ++ [B]) = cells as Bs ++ [(a, .ints B)] := by
  rw [cells, List.map_append, List.zip_append (by simpa using h)]; rfl
theorem up_append {ls ln lk a l : Addr} {N : List Int} {as : List Addr} {Bs : List (List Int)} {B : List Int} {w : Int} {u : V} {i : Nat} (hlen : as.length = Bs.length) (hBs : ∀ C ∈ Bs, (∀ n ∈ C, 0 ≤ n ∧ n < 256) ∧ C.length ≤ 4100) (hBb : ∀ n ∈ B, 0 ≤ n ∧ n < 256) (hBz : B.length ≤ 4100) (hai : as.length ≤ i) :
    Upto (K1 ls ln lk N (i + 1)) ⟨locs4 (.ref ls) (.ref ln) (.ref lk) (.int w) u .unk .unk .unk .unk .unk .unk .unk .unk .unk .unk .unk .unk .unk .unk .unk,
      (l, .ints []) :: (a, .ints B) :: (lk, .list ((as ++ [a]).map V.ref ++ [.ref l])) :: (ln, .ints N) :: cells as Bs⟩ := by
  refine ⟨_, (l, .ints []) :: (lk, .list ((as ++ [a] ++ [l]).map V.ref)) :: (ln, .ints N) :: cells (as ++ [a]) (Bs ++ [B]), .refl _, ?_, as ++ [a], l, Bs ++ [B], [], w, u, rfl, by simp [hlen], ?_, by simp, by simp, by simp; omega⟩
  · rw [cells_snoc hlen, List.map_append (l₁ := as ++ [a])]
    exact .cons _ (List.perm_append_singleton (a, Cell.ints B) ((lk, Cell.list ((as ++ [a]).map V.ref ++ [l].map V.ref)) :: (ln, Cell.ints N) :: cells as Bs)).symm
  · intro C hC
    rcases List.mem_append.mp hC with hC | hC
    · exact hBs C hC
    · rw [List.mem_singleton.mp hC]; exact ⟨hBb, hBz⟩
theorem get_lastR (as : List Addr) (a : Addr) : ((as ++ [a]).map V.ref)[pidx (-1) ((as ++ [a]).map V.ref).length]? = some (.ref a) := by
  rw [List.length_map, List.getElem?_map]
  have e : pidx (-1) (as ++ [a]).length = as.length := by simp [pidx]; omega
  rw [e]; simp
theorem set_lastR (as : List Addr) (a : Addr) : ((as ++ [a]).map V.ref).set (pidx (-1) ((as ++ [a]).map V.ref).length) (.ref a) = (as ++ [a]).map V.ref := by
  rw [List.length_map]
  have e : pidx (-1) (as ++ [a]).length = as.length := by simp [pidx]; omega
  rw [e, List.map_append]
  rw [show as.length = (as.map V.ref).length by simp, List.set_append_right _ _ (Nat.le_refl _), Nat.sub_self]
  rfl
theorem pick5 (r v : Int) (hv : 2 ≤ v ∧ v ≤ 255) : ∃ K : Int, [255, 254, 256, 253, v][pidx (r % 5) [255, 254, 256, 253, v].length]? = some K ∧ 2 ≤ K ∧ K ≤ 256 := by
  have h : r % 5 = 0 ∨ r % 5 = 1 ∨ r % 5 = 2 ∨ r % 5 = 3 ∨ r % 5 = 4 := by omega
  rcases h with h | h | h | h | h <;> rw [h]
  · exact ⟨255, rfl, by omega, by omega⟩
  · exact ⟨254, rfl, by omega, by omega⟩
  · exact ⟨256, rfl, by omega, by omega⟩
  · exact ⟨253, rfl, by omega, by omega⟩
  · exact ⟨v, rfl, hv.1, by omega⟩
theorem rng_b {K : Int} (hK : K ≤ 256) : ∀ n ∈ rng 1 K, 0 ≤ n ∧ n < 256 := fun n hn => by
  obtain ⟨x, hx, rfl⟩ := List.mem_map.mp hn
  have := List.mem_range.mp hx
  omega
local macro_rules | `(tactic| walk_at "m") => `(tactic| first
  | ((with_reducible show OpN _ _ _ (fun vs => call (Value.builtin "len") vs) [V.raw (Value.ref _)] _ _); refine len_raw4 (by assumption) (by walk_at "m:kn") (by walk_at "m:arith") ?_)
  | ((with_reducible show TV _ _ _ _ (eval (Expr.List [Expr.List _ _] _) _) _); refine List' ?_)
  | ((with_reducible show ∃ ns, [_, _, _, _, _] = List.map V.int ns ∧ _ ∧ _); (refine ⟨[_, _, _, _, _], rfl, by simp, ?_⟩; intro))
  | ((with_reducible show OpN _ _ _ (fun vs => call (Value.type "range") vs) [V.int _, V.int _] _ _); (refine list_range_arg (by assumption) (by omega) (by omega) (by omega) ?_; intro))
  | ((with_reducible show TF _ _ _ _ (exec (Stmt.AugAssign (Expr.Subscript _ _ _) _ _ _) _) _); refine AugSub' ?_)
  | ((with_reducible show ∃ l us k u, V.raw (Value.ref _) = V.ref l ∧ V.int _ = V.int k ∧ Kn _ _ l (Cell.list us) ∧ _); refine ⟨_, _, _, _, rfl, rfl, by walk_at "m:kn", by omega, by walk_at "m:arith", by assumption, ?_⟩)
  | ((with_reducible show ∃ us' own', Put _ (Cell.list us') (Cell.list (List.set us' _ _)) _ own' ∧ _ ∧ _ ∧ _); refine ⟨_, _, by walk_at "m:put", by walk_at "m:arith", by walk_at "m:arith", ?_⟩))
set_option maxHeartbeats 8000000 in
theorem law4_a {X : Cx} {ls : Addr} {o : Obj} {f : Addr} {cd : Value} {script : List Int} {fE fD fS fM : Addr} {oE oD oS oM : Obj} {fdE fdD fdS fdM : FuncData} {pmE cdE docE pmD cdD docD pmS cdS docS pmM cdM docM : Value} {fs : List Env} {C : Addr} {mg : Str → Option Value}
    (hh : X.A.handled = none) (hg : X.A.guards = some []) (hu : X.A.units + 64 < cLine) (hlim : X.B.NoLimit) (hroom : X.A.depth < recursionLimit) (hroom' : X.A.depth + 1 < recursionLimit)
    (g1 : Glo X "isinstance" (.builtin "isinstance")) (g2 : Glo X "str" (.type "str"))
    (g3 : Glo X "bytearray" (.type "bytearray")) (g4 : Glo X "bytes" (.type "bytes")) (g5 : Glo X "len" (.builtin "len")) (g6 : Glo X "min" (.builtin "min")) (g7 : Glo X "list" (.type "list")) (g8 : Glo X "enumerate" (.type "enumerate")) (g9 : Glo X "range" (.type "range"))
    (gE : Glo X "encode" (.ref fE)) (gD : Glo X "decode" (.ref fD)) (gS : Glo X "_law_stuffed" (.ref fS)) (gM : Glo X "_law_meant" (.ref fM))
    (FE : FnOk X.B fE "encode" (fParams stE) (fBody stE) (fScope stE) pmE cdE docE) (FD : FnOk X.B fD "decode" (fParams stD) (fBody stD) (fScope stD) pmD cdD docD)
    (FS : FnOk X.B fS "_law_stuffed" (fParams stS) (fBody stS) (fScope stS) pmS cdS docS) (FM : FnOk X.B fM "_law_meant" (fParams stM) (fBody stM) (fScope stM) pmM cdM docM)
    (hoE : X.B.get? fE = some oE) (hdE : oE.data = .func fdE) (hoD : X.B.get? fD = some oD) (hdD : oD.data = .func fdD) (hoS : X.B.get? fS = some oS) (hdS : oS.data = .func fdS) (hoM : X.B.get? fM = some oM) (hdM : oM.data = .func fdM)
    (FR : FrOk X (envOf "law" (fScope stL) X.L f cd) fs) (O : OwnClsQ "DecodeError" C [.type "Exception", .type "BaseException", .type "object"] "Exception.__new__" mg X.B) (hgm : X.B.Ns mainGlobals mg)
    (ho : RawInts o script) (hsz : script.length ≤ 63) :
    TF X [(ls, .obj o)] noE ⟨locs4 (.ref ls) .unk .unk .unk .unk .unk .unk .unk .unk .unk .unk .unk .unk .unk .unk .unk .unk .unk .unk .unk, []⟩ (execs (fBody stL) (envOf "law" (fScope stL) X.L f cd))
      (fun fl st' => fl = .ret (.bool true)) := by
  refine execs_cons' ?_
  repeat' walk_at "m"
  with_reducible show ForOver _ _ _ _ _ _ _ _ _
  rename_i l1 l2 l3 ln l0 lk
  have hN : (N4 script).length ≤ 16 ∧ 1 ≤ (N4 script).length := by
    have : (N4 script).length = (pslice none (some 16) script).length + (pslice (some (script.length : Int)) none [(0 : Int)]).length := by rw [N4, List.length_append]
    rw [this]
    simp only [pslice, List.length_take, List.length_drop, clipNat, List.length_cons, List.length_nil]
    (repeat' split) <;> omega
  refine ForOver.upto (J := K1 ls ln lk (N4 script) 0) ⟨_, _, .cons₂ _ (.cons₂ _ (.cons₂ _ (List.nil_sublist _))), .swap _ _ _, [], l0, [], [], 0, .unk, rfl, rfl, by simp, by simp, by simp, by simp⟩ fun st hst => ?_
  refine for_list (us := (N4 script).map V.int) (K1 ls ln lk (N4 script)) .none hh ?_ hst ?_ ?_
  · rintro i st' ⟨as, a, Bs, B, w, u, rfl, -⟩
    exact .inl (.tail (.tail .head))
  · rintro i st' u hi ⟨as, a, Bs, B, w, u0, rfl, hlen, hBs, hBb, hBz, hai⟩
    rw [List.getElem?_map] at hi
    cases hx : (N4 script)[i]? with
    | none => rw [hx] at hi; cases hi
    | some n =>
    rw [hx] at hi; cases hi
    have hi12 : i < 16 := by have := (List.getElem?_eq_some_iff.mp hx).1; omega
    have hlast := get_lastR as a
    have hasz : ((as ++ [a]).map V.ref).length ≤ 100000 := by simp; omega
    have hasz' : ((as ++ [a]).map V.ref).length = as.length + 1 := by simp
    obtain ⟨K, hK, hK0, hK1⟩ := pick5 (n / 5) (n / 25 % 254 + 2) (by omega)
    have hrl : (rng 1 K).length = (K - 1).toNat := rng_length 1 K
    refine tgt_name (by walk_at "m:put") ?_
    refine loop_upto ?_
    refine execs_cons' ?_
    repeat' walk_at "m"
    · exact up_append hlen hBs hBb (by omega) hai
    · exact Upto.of ⟨as, a, Bs, B ++ [0], w, .int n, rfl, hlen, hBs, app_b hBb (one_b (by omega)), by simp; omega, by omega⟩
    · rw [set_lastR]
      exact Upto.more (.cons _ (.refl _)) (Upto.of ⟨as, a, Bs, B ++ rng 1 K, w + 1, .int n, rfl, hlen, hBs, app_b hBb (rng_b hK1), by rw [List.length_append, hrl]; omega, by omega⟩)
    · exact Upto.of ⟨as, a, Bs, B ++ [n / 5 % 255 + 1], w, .int n, rfl, hlen, hBs, app_b hBb (one_b (by omega)), by simp; omega, by omega⟩
    · exact Upto.of ⟨as, a, Bs, B ++ [n / 5 % 255 + 1], w, .int n, rfl, hlen, hBs, app_b hBb (one_b (by omega)), by simp; omega, by omega⟩
  · rintro st' ⟨as, a, Bs, B, w, u, rfl, hlen, hBs, hBb, hBz, hai⟩
    rw [List.length_map] at hBz hai
    have e1 : (((as ++ [a]).zip (Bs ++ [B])).map fun p => V.ref p.1) = (as ++ [a]).map V.ref := by
      conv => rhs; rw [← List.map_fst_zip (l₁ := as ++ [a]) (l₂ := Bs ++ [B]) (by simp; omega)]
      rw [List.map_map]; rfl
    refine freeze_all (fun _ _ _ _ _ h => h) ?_
    refine law4_c (pk := (as ++ [a]).zip (Bs ++ [B])) hh hg hu hlim hroom hroom' g1 g2 g3 g4 g5 g6 g7 g8 gE gD gS gM FE FD FS FM hoE hdE hoD hdD hoS hdS hoM hdM FR O hgm (Has.app_left (by walk_at "m:has")) (by rw [e1]; exact Has.app_left (by walk_at "m:has")) ?_ ?_ ?_ (by omega) hN.2
    · intro p hp
      rw [List.zip_append hlen] at hp
      rcases List.mem_append.mp hp with hp | hp
      · refine ⟨Has.app_left (.tail (.tail (.tail ?_))), hBs p.2 (List.of_mem_zip hp).2⟩
        rw [cells, List.zip_map_right]
        exact Has.of_mem (List.mem_map.mpr ⟨p, hp, rfl⟩)
      · rw [List.mem_singleton.mp hp]
        exact ⟨Has.app_left .head, hBb, by simp only; omega⟩
    · rw [List.zip_append hlen]; simp
    · rw [List.zip_append hlen]; simp; omega
end
end Mine
end
section
open PySem PySem.W PyProof.Rows PySem.Calls PySem.Spec
open PySem.Sem (wp)
set_option Elab.async false
set_option maxRecDepth 100000
set_option maxHeartbeats 8000000
set_option linter.unusedVariables false
namespace Mine
theorem glo_built {X : Cx} {q : Program} {loose : List Str} {mean : ExcName → Option Value} {mg mb : Str → Option Value} (T : Top q loose mean mg mb X.B) {x : Str} {v : Value}
    (hf : (!startupNames.contains x && !loose.contains x && !((recsOf q).map (·.name)).contains x && !((litsOf q).map (·.1)).contains x && !((clssOf q loose).map (·.name)).contains x && x != "__name__") = true) (hb : bootBuiltins x = some v) : Glo X x v := by
  simp only [Bool.and_eq_true, Bool.not_eq_true', List.contains_eq_mem, decide_eq_false_iff_not, bne_iff_ne] at hf
  exact ⟨mg, mb, T.g, T.b, .inr ⟨T.free x hf.1.1.1.1.1 hf.1.1.1.1.2 hf.1.1.1.2 hf.1.1.2 hf.1.2, (T.builtins x hf.2).trans hb⟩⟩
theorem top_call {prog : Program} {w : World} {s₁ : Shared} {f : Addr} {name : Str} {params : Arguments} {body : List Stmt} {scope : Scope} {pm cd doc v : Value} {x : Str} {u : V} {locs : List (Str × V)} {ro : Led}
    (F : FnOk s₁.heap f name params body scope pm cd doc) (hlim : s₁.heap.NoLimit) (hgens : s₁.gens = #[]) (hro : ∀ p ∈ ro, At s₁.heap p.1 p.2) (hv : u.Is v)
    (hnd : ((x, u) :: locs).map (·.1) |>.Nodup) (hunk : ∀ p ∈ locs, p.2 = .unk)
    (h : ∀ L', TF ⟨prog, w, callerA.deeper (envOf name scope L' f cd), L', s₁.heap, s₁.os, []⟩ ro noE ⟨(x, u) :: locs, []⟩ (execs body (envOf name scope L' f cd)) fun fl st' => fl = .ret (.bool true))
    (hbind : ∀ v, bindArgs (docDef name params body scope pm cd doc) ⟨[v], []⟩ = pure [(x, v)] := by intro _; rfl)
    (hloc : scope.names.lookup x = some .local := by rfl)
    (hco : scope.isCoroutine = false := by rfl) (hgen : scope.isGenerator = false := by rfl) (hk : scope.kind = .function := by rfl)
    (hcell : ∀ x ∈ scope.names, x.2 ≠ .cell := by decide) :
    wpR (model prog w) callerA (PySem.call (.ref f) [v]) (fun r s' => r = .bool true ∧ (∀ b o, s₁.heap.get? b = some o → s'.heap.get? b = some o) ∧ s'.os = s₁.os ∧ s'.gens = #[]) (fun _ _ => False) s₁ := by
  obtain ⟨o, ho, hd⟩ := F.at_
  refine wpR_call (codeR_call_function (by decide +kernel) ho hd hco hgen rfl F.code ?_)
  rw [hbind]
  refine wpAny_pure (wpAny_newFunctionEnv hcell (fun y hy => by rw [List.mem_singleton.mp hy]; exact hloc) (fun h₁ hns hsb => ⟨hlim.fresh _ hsb, ?_⟩) hk)
  show codeR _ _ (.func body (envOf name scope s₁.heap.objs.size f cd)) _ _
  have keep : ∀ b o, s₁.heap.get? b = some o → h₁.get? b = some o := fun b o e => hsb.extBut b o (Nat.ne_of_lt (Heap.lt_size e)) (Heap.get?_push_of_some _ e)
  have S₁ : Sat ⟨prog, w, callerA.deeper (envOf name scope s₁.heap.objs.size f cd), s₁.heap.objs.size, s₁.heap, s₁.os, []⟩ ro ⟨(x, u) :: locs, []⟩ s₁.heap { s₁ with heap := h₁, toks := s₁.toks + 1 } :=
    { base := fun _ _ e => e
      ros := hro
      fr := keep
      frL := size_none _
      own := fun p hp => nomatch hp
      nd := .nil
      ns := ⟨_, hns, fun p hp => by
        rcases List.mem_cons.mp hp with rfl | hp
        · exact .inr ⟨v, by simp, hv⟩
        · exact .inl (hunk p hp)⟩
      nl := hnd
      gens := hgens
      oss := rfl
      outs := fun q hq => nomatch hq
      apart := fun p hp => nomatch hp }
  refine codeR_func (wpR_mono (h s₁.heap.objs.size _ _ S₁) (fun fl s' h' => ?_) fun e s' h' => h'.elim)
  obtain ⟨g, st', hg, S', rfl⟩ := h'
  obtain ⟨w, rfl, hw⟩ := hg
  cases hw
  exact ⟨rfl, S'.fr, S'.oss, S'.gens⟩
theorem law_run (w : World) (s₀ s₁ : Shared) (mg mb : Str → Option Value) (G : Ground q1 [] [] (XL q1 []) w s₀ mg mb s₁.heap) (a : Addr) (hmg : mg dL.name = some (.ref a)) (hg : s₁.gens = #[])
    (script : List Int) (l : Addr) (vs : List Value) (hL : s₁.heap.IsList l vs.toArray) (hI : IntsAre vs script) (hsz : script.length ≤ 63) :
    wpR (model PySem.Challenge.pw_nc0006_04 w) callerA (PySem.call (.ref a) [.ref l]) (fun r s' => r = .bool true ∧ (∀ b o, s₁.heap.get? b = some o → s'.heap.get? b = some o) ∧ s'.os = s₁.os ∧ s'.gens = #[]) (fun _ _ => False) s₁ := by
  obtain ⟨a', o', pm, cd, doc, h1, h2, h3, h4⟩ := G.T.fn dL dL_mem
  obtain ⟨fE, oE, pmE, cdE, docE, e1, e2, e3, e4⟩ := G.T.fn dE dE_mem
  obtain ⟨fD, oD, pmD, cdD, docD, d1, d2, d3, d4⟩ := G.T.fn dD dD_mem
  obtain ⟨fS, oS, pmS, cdS, docS, k1, k2, k3, k4⟩ := G.T.fn dS dS_mem
  obtain ⟨fM, oM, pmM, cdM, docM, m1, m2, m3, m4⟩ := G.T.fn dM dM_mem
  obtain ⟨C, O, _⟩ := G.T.ownAt (x := "DecodeError") (newId := "Exception.__new__") (bm := [.type "Exception", .type "BaseException", .type "object"]) (by first | kernel_rfl | decide +kernel)
  rw [hmg] at h1
  cases h1
  obtain ⟨o, ho, hc, n, hd⟩ := hL
  refine top_call (x := "script") (u := .ref l) (locs := [("numbers", .unk), ("packets", .unk), ("wide", .unk), ("number", .unk), ("whole", .unk), ("joined", .unk), ("laid", .unk), ("text", .unk), ("full", .unk), ("which", .unk), ("packet", .unk), ("held", .unk), ("stuffed", .unk), ("written", .unk), ("back", .unk), ("tail", .unk), ("ahead", .unk), ("alone", .unk), ("told", .unk)]) (ro := [(l, .obj o)])
    ⟨⟨o', h2, h3⟩, h4⟩ G.T.nolimit hg (fun p hp => by rw [List.mem_singleton.mp hp]; exact ⟨o, ho, rfl⟩) rfl (by simp only [List.map_cons, List.map_nil]; decide) (by simp) fun L' => ?_
  refine law4_a (fE := fE) (fD := fD) (fS := fS) (fM := fM) (fs := []) rfl rfl (by show callerA.units + 3 + 64 < cLine; decide +kernel) G.T.nolimit (by show callerA.depth + 1 < recursionLimit; decide +kernel) (by show callerA.depth + 1 + 1 < recursionLimit; decide +kernel)
    (glo_built G.T (by decide +kernel) (by decide +kernel)) (glo_built G.T (by decide +kernel) (by decide +kernel)) (glo_built G.T (by decide +kernel) (by decide +kernel)) (glo_built G.T (by decide +kernel) (by decide +kernel)) (glo_built G.T (by decide +kernel) (by decide +kernel)) (glo_built G.T (by decide +kernel) (by decide +kernel)) (glo_built G.T (by decide +kernel) (by decide +kernel)) (glo_built G.T (by decide +kernel) (by decide +kernel)) (glo_built G.T (by decide +kernel) (by decide +kernel)) 
    ⟨mg, mb, G.T.g, G.T.b, .inl e1⟩ ⟨mg, mb, G.T.g, G.T.b, .inl d1⟩ ⟨mg, mb, G.T.g, G.T.b, .inl k1⟩ ⟨mg, mb, G.T.g, G.T.b, .inl m1⟩ ⟨⟨oE, e2, e3⟩, e4⟩ ⟨⟨oD, d2, d3⟩, d4⟩ ⟨⟨oS, k2, k3⟩, k4⟩ ⟨⟨oM, m2, m3⟩, m4⟩ e2 e3 d2 d3 k2 k3 m2 m3
    ⟨Around.frames_deeper (show callerA.frames = some [] from rfl), rfl, (by show (fScope stL).kind ≠ .module; decide), .nil⟩ O G.T.g ⟨hc, vs.toArray, n, hd, ?_⟩ hsz
  simpa using All2.of_ints hI
end Mine
end
open PySem PySem.W PyProof.Rows PySem.Calls PySem.Spec Mine
set_option maxRecDepth 100000
set_option maxHeartbeats 8000000
theorem PySem.Challenge.cw_nc0006_04_holds : PySem.Challenge.rw_nc0006_04.Holds := by
  refine holds_R (l := PySem.Challenge.rw_nc0006_04) (q := q1) (N := 900) (d := dL) (kwd := []) ?said left1 ?hdef ?hp ?hk ?hwr ?ok ?hb ?hw ?call
  case said => decide +kernel
  case hdef => kernel_rfl
  case hp => kernel_rfl
  case hk => rfl
  case hwr => rfl
  case ok => decide +kernel
  case hb => first | exact ⟨rfl, rfl⟩ | rfl | decide +kernel | trivial
  case hw => exact ⟨[.list []], by decide +kernel, by decide +kernel⟩
  case call =>
    intro w s₀ s₁ mg mb G a o pm cd doc dV kV ho hd hcd hD hmg hg args vals as hpre hlay hrd hwl hlo
    wrow_args hpre hlay hrd hwl hlo
    rename_i script _ _ _ _ _ _ _ l vs _ hL _ _ _ hI _ hsz _
    refine wpR_mono (law_run w s₀ s₁ mg mb G a hmg hg script l vs hL hI (by omega)) (fun v s' h => ?_) fun e s' h => h.elim
    obtain ⟨rfl, h1, h2, h3⟩ := h
    exact ⟨.inl ⟨.bool true, .bool true, [], rfl, raisesW_false (by wrow_none_raised), .bool true, by wrow_post, fun _ => ⟨.nil, fun a ha => nomatch ha⟩⟩, h1, h2, h3⟩
