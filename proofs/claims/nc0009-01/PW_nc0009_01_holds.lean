import PyProof.Rows.All
import Wide.All
import OpenK.AllK
import Wide.FinOn
import Lean
import PySem.Challenge.RW_nc0009_01
open PySem PySem.W PyProof.Rows PySem.Calls PySem.Spec
set_option Elab.async false
set_option maxRecDepth 100000
set_option linter.all false
namespace Mine
/-! ## the clean logic: no decoder that holds a buffer lies on the stack -/
def decCode : Code → Bool
  | .builtin id ⟨_ :: _, _⟩ => Builtin.Bytes.decodersThatHold.contains id
  | _ => false
def CleanL (l : List (Code × Pos)) : Prop := ∀ x ∈ l, decCode x.1 = false
def wpC {α : Type} (M : Model) (A : Around) (t : Sem α) (Q : α → Shared → Prop) (E : Value → Shared → Prop) (s : Shared) : Prop :=
  ∀ Γ p, Γ.In A → decCode Γ.code = false → CleanL Γ.below → Sem.wp M Γ t (fun a _ s' => Q a s') (fun e _ s' => E e s') p s
def codeC (M : Model) (A : Around) (c : Code) (R : Result → Shared → Prop) (s : Shared) : Prop :=
  ∀ Γ p, Γ.code = c → Γ.Below A → CleanL Γ.below → wpCode M Γ R p s
section
variable {α β : Type} {M : Model} {A : Around} {E : Value → Shared → Prop} {s : Shared}
theorem wpC_of_any {t : Sem α} {Q : α → Shared → Prop} (h : wpAny M A t Q E s) : wpC M A t Q E s := fun Γ p hΓ _ _ => h Γ p hΓ
theorem codeC_of_any {c : Code} {R : Result → Shared → Prop} (h : codeAny M A c R s) : codeC M A c R s := fun Γ p hc hΓ _ => h Γ p hc hΓ
theorem wpC_pure {a : α} {Q : α → Shared → Prop} (h : Q a s) : wpC M A (pure a) Q E s := fun _ _ _ _ _ => h
theorem wpC_throw {e : Value} {Q : α → Shared → Prop} (h : E e s) : wpC M A (throw e : Sem α) Q E s := fun _ _ _ _ _ => h
theorem wpC_mono {t : Sem α} {Q Q' : α → Shared → Prop} {E' : Value → Shared → Prop} (h : wpC M A t Q E s)
    (hQ : ∀ a s, Q a s → Q' a s) (hE : ∀ e s, E e s → E' e s) : wpC M A t Q' E' s :=
  fun Γ p hΓ hc hb => Sem.wp_mono M Γ t (fun a _ s => hQ a s) (fun e _ s => hE e s) p s (h Γ p hΓ hc hb)
theorem wpC_bind {m : Sem α} {f : α → Sem β} {Q : β → Shared → Prop} (h : wpC M A m (fun a s' => wpC M A (f a) Q E s') E s) :
    wpC M A (m >>= f) Q E s := fun Γ p hΓ hc hb => by
  rw [Sem.wp_bind']
  exact Sem.wp_mono M Γ m (fun a p' s' h' => h' Γ p' hΓ hc hb) (fun _ _ _ h' => h') p s (h Γ p hΓ hc hb)
/-- a leaf ahead, by the library -/
theorem wpC_bindA {m : Sem α} {f : α → Sem β} {Q : β → Shared → Prop} (h : wpAny M A m (fun a s' => wpC M A (f a) Q E s') E s) :
    wpC M A (m >>= f) Q E s := wpC_bind (wpC_of_any h)
theorem wpC_tryCatch {m : Sem α} {k : Value → Sem α} {Q : α → Shared → Prop} (h : wpC M A m Q (fun e s' => wpC M A (k e) Q E s') s) :
    wpC M A (tryCatch m k) Q E s := fun Γ p hΓ hc hb => by
  rw [Sem.wp_tryCatch']
  exact Sem.wp_mono M Γ m (fun _ _ _ h' => h') (fun e p' s' h' => h' Γ p' hΓ hc hb) p s (h Γ p hΓ hc hb)
theorem wpC_onRaise {m : Sem α} {k : Value → Sem Unit} {Q : α → Shared → Prop}
    (h : wpC M A m Q (fun e s' => wpC M A (k e) (fun _ s'' => E e s'') E s') s) : wpC M A (m.onRaise k) Q E s := fun Γ p hΓ hc hb => by
  rw [Sem.wp_onRaise]
  exact Sem.wp_mono M Γ m (fun _ _ _ h' => h') (fun e p' s' h' => h' Γ p' hΓ hc hb) p s (h Γ p hΓ hc hb)
theorem wpC_attempt {m : Sem α} {Q : Except Value α → Shared → Prop} (h : wpC M A m (fun a => Q (.ok a)) (fun e => Q (.error e)) s) :
    wpC M A m.attempt Q E s := fun Γ p hΓ hc hb => by rw [Sem.wp_attempt]; exact h Γ p hΓ hc hb
theorem wpC_holding {vs : List Value} {m : Sem α} {Q : α → Shared → Prop} (h : wpC M A m Q E s) : wpC M A (holding vs m) Q E s :=
  fun Γ p hΓ hc hb => by rw [Sem.wp_holding]; exact h Γ p hΓ hc hb
theorem wpC_of_eq {t t' : Sem α} {Q : α → Shared → Prop} (e : t = t') (h : wpC M A t' Q E s) : wpC M A t Q E s := e ▸ h
theorem wpC_operate {vs : List Value} {m : Sem Value} {Q : Value → Shared → Prop} (h : wpC M A m Q E s) : wpC M A (operate vs m) Q E s :=
  fun Γ p hΓ hc hb => by rw [Sem.wp_operate]; exact h Γ p hΓ hc hb
theorem wpC_standAt {pos : Pos} {Q : Unit → Shared → Prop} (h : Q () s) : wpC M A (standAt pos) Q E s := fun _ _ _ _ _ => h
theorem wpC_point {Q : Unit → Shared → Prop} (h : Q () s) : wpC M A point Q E s := fun _ _ _ _ _ => h
theorem codeC_mono {c : Code} {R R' : Result → Shared → Prop} (h : codeC M A c R s) (hR : ∀ r s, R r s → R' r s) : codeC M A c R' s :=
  fun Γ p hc hΓ hb => wpCode_mono hR (h Γ p hc hΓ hb)
theorem clean_enter {Γ : PySem.Ctx} {p : Pos} (hc : decCode Γ.code = false) (hb : CleanL Γ.below) : CleanL ((Γ.code, p) :: Γ.below) := by
  intro x hx
  rcases List.mem_cons.mp hx with rfl | hx
  · exact hc
  · exact hb x hx
theorem wpC_run {c : Code} {h : Option Value} {Q : Flow → Shared → Prop}
    (hc : codeC M (A.mark h) c (fun r s' => match r with | .ok f => Q f s' | .error e => E e s') s) (hnb : h ≠ some byPass := by intro x; cases x) :
    wpC M A (run c h) Q E s :=
  fun Γ p hΓ hcl hb => by rw [Sem.wp_run]; exact hc _ p rfl (hΓ.enter c h p hnb) (clean_enter hcl hb)
theorem wpC_runValue {c : Code} {Q : Value → Shared → Prop}
    (hc : codeC M A c (fun r s' => match r with | .ok (.ret v) => Q v s' | .ok _ => False | .error e => E e s') s) :
    wpC M A (runValue c) Q E s := fun Γ p hΓ hcl hb => by
  rw [Sem.wp_runValue]; exact hc _ p rfl (hΓ.enter c none p (by intro x; cases x)) (clean_enter hcl hb)
theorem wpC_call {f : Value} {pos : List Value} {kw : List (Str × Value)} {Q : Value → Shared → Prop}
    (hc : codeC M A (.call f ⟨pos, kw⟩) (fun r s' => match r with | .ok (.ret v) => Q v s' | .ok _ => False | .error e => E e s') s) :
    wpC M A (call f pos kw) Q E s := wpC_runValue hc
theorem codeC_of_tree {c : Code} {R : Result → Shared → Prop} (hd : decCode c = false)
    (h : wpC M (A.under c) (M.den c) (fun fin s' => match fin with | .done f => R (.ok f) s' | .again c' => c'.quiet = true ∧ codeC M A c' R s')
      (fun e s' => R (.error e) s') s) : codeC M A c R s := fun Γ p hc hΓ hb => by
  rw [wpCode_iff_wp, hc]
  refine Sem.wp_mono M Γ _ (fun fin p' s' h' => ?_) (fun _ _ _ h' => h') p s (h Γ p (hc ▸ hΓ.in) (by rw [hc]; exact hd) hb)
  cases fin with
  | done f => exact h'
  | again c' => exact ⟨h'.1, h'.2 (Γ.goto c') p' rfl (hΓ.goto c') hb⟩
theorem codeC_loop {c : Code} {R : Result → Shared → Prop} (hd : decCode c = false) (hq : c.quiet = true) (I : Nat → Shared → Prop)
    (turn : ∀ n s, I n s → wpC M (A.under c) (M.den c)
      (fun fin s' => match fin with
        | .done f => R (.ok f) s'
        | .again c' => (c' = c ∧ ∃ m, m < n ∧ I m s') ∨ (c'.quiet = true ∧ codeC M A c' R s')) (fun e s' => R (.error e) s') s)
    (n : Nat) (h : I n s) : codeC M A c R s := by
  induction n using Nat.strongRecOn generalizing s with
  | ind n ih =>
    refine codeC_of_tree hd (wpC_mono (turn n s h) (fun fin s' hf => ?_) fun _ _ h' => h')
    cases fin with
    | done f => exact hf
    | again c' =>
      rcases hf with ⟨rfl, m, hm, hI⟩ | hf
      · exact ⟨hq, ih m hm hI⟩
      · exact hf
/-! ### statements -/
variable {env : Env}
theorem wpC_execs_nil {Q : Flow → Shared → Prop} (h : Q .next s) : wpC M A (execs [] env) Q E s := wpC_of_any (wpAny_execs_nil h)
theorem wpC_execs_cons {st rest} {Q : Flow → Shared → Prop}
    (h : wpC M A (exec st env) (fun f s' => match f with | .next => wpC M A (execs rest env) Q E s' | f => Q f s') E s) :
    wpC M A (execs (st :: rest) env) Q E s := by
  rw [execs_cons]
  refine wpC_bind (wpC_mono h (fun f s' h' => ?_) fun _ _ x => x)
  cases f <;> first | exact h' | exact wpC_pure h'
theorem wpC_bindName {x : Str} {v : Value} {Q : Unit → Shared → Prop} (h : wpAny M A (storeName env x v) Q E s) : wpC M A (bindName env x v) Q E s :=
  wpC_of_any (wpAny_bindName h)
theorem wpC_Assign_Name {x pos' value pos} {Q : Flow → Shared → Prop}
    (h : wpC M A (eval value env) (fun v s₁ => wpAny M A (storeName env x v) (fun _ => Q .next) E s₁) E s)
    (hs : swapsWith value (some (.Name x pos')) pos.line env = pure false := by rfl) :
    wpC M A (exec (.Assign [.Name x pos'] value pos) env) Q E s := by
  rw [exec_Assign_Name env x pos' value pos hs]
  exact wpC_bind (wpC_standAt (wpC_bind (wpC_mono h (fun v s₁ h₁ => wpC_bind (wpC_standAt (wpC_bind (wpC_bindName (wpAny_mono h₁ (fun _ _ x => wpC_pure x) fun _ _ x => x))))) fun _ _ x => x)))
theorem wpC_AugAssign_Name {x pos' op value pos} {Q : Flow → Shared → Prop}
    (h : wpAny M A (loadName env x) (fun old s₁ => wpAny M A (eval value env) (fun v s₂ => wpC M A (inplaceOp op old v)
      (fun r s₃ => wpAny M A (storeName env x r) (fun _ => Q .next) E s₃) E s₂) E s₁) E s) :
    wpC M A (exec (.AugAssign (.Name x pos') op value pos) env) Q E s := by
  rw [exec_AugAssign_Name]
  refine wpC_bind (wpC_standAt (wpC_bindA (wpAny_mono h (fun old s₁ h₁ => ?_) fun _ _ x => x)))
  refine wpC_bindA (wpAny_holding (wpAny_mono h₁ (fun v s₂ h₂ => ?_) fun _ _ x => x))
  refine wpC_bind (wpC_standAt (wpC_bind (wpC_operate (wpC_mono h₂ (fun r s₃ h₃ => ?_) fun _ _ x => x))))
  exact wpC_bind (wpC_standAt (wpC_bind (wpC_bindName (wpAny_mono h₃ (fun _ _ x => wpC_pure x) fun _ _ x => x))))
theorem wpC_Expr {e pos} {Q : Flow → Shared → Prop} (h : wpC M A (eval e env) (fun v s' => match v with | .ref _ => False | _ => Q .next s') E s)
    (hi : interactive env = false := by rfl) (hs : swapsWith e none pos.line env = pure false := by rfl) :
    wpC M A (exec (.Expr e pos) env) Q E s := by
  rw [exec_Expr env e pos hi hs]
  refine wpC_bind (wpC_standAt (wpC_bind (wpC_mono h (fun v s' h' => ?_) fun _ _ x => x)))
  have hv : ∀ a, v ≠ .ref a := fun a hva => by subst hva; exact h'
  rw [dropValue_plain hv]
  refine wpC_pure ?_
  cases v <;> first | exact h' | exact (hv _ rfl).elim
theorem wpC_If {test body orelse pos} {Q : Flow → Shared → Prop}
    (h : wpC M A (isTrue test env (eval test env))
      (fun b s₂ => if b = true then wpC M A (execs body env) Q E s₂ else wpC M A (execs orelse env) Q E s₂) E s) :
    wpC M A (exec (.If test body orelse pos) env) Q E s := by
  rw [exec_If]
  refine wpC_bind (wpC_standAt (wpC_bind (wpC_mono h (fun b s₂ h₂ => ?_) fun _ _ x => x)))
  cases b <;> exact h₂
theorem wpC_Return_some {e pos} {Q : Flow → Shared → Prop} (h : wpC M A (eval e env) (fun v => Q (.ret v)) E s) :
    wpC M A (exec (.Return (some e) pos) env) Q E s := by
  rw [exec_Return_some]
  exact wpC_bind (wpC_standAt (wpC_bind (wpC_mono h (fun v s₂ h₂ => wpC_pure h₂) fun _ _ x => x)))
theorem wpC_BinOp {l op r pos} {Q : Value → Shared → Prop}
    (h : wpC M A (eval l env) (fun a s₁ => wpC M A (eval r env) (fun b s₂ => wpC M A (binaryOp op a b) Q E s₂) E s₁) E s) :
    wpC M A (eval (.BinOp l op r pos) env) Q E s := by
  rw [eval_BinOp]
  exact wpC_bind (wpC_mono h (fun a s₁ h₁ => wpC_bind (wpC_holding (wpC_mono h₁ (fun b s₂ h₂ => wpC_bind (wpC_standAt (wpC_operate h₂))) fun _ _ x => x))) fun _ _ x => x)
theorem wpC_Compare1 {l op r pos} {Q : Value → Shared → Prop}
    (h : wpC M A (eval l env) (fun a s₁ => wpC M A (eval r env) (fun b s₂ => wpC M A (compareOp op a b) Q E s₂) E s₁) E s)
    (hm : behindInMarks op r = false := by with_unfolding_all rfl) :
    wpC M A (eval (.Compare l [op] [r] pos) env) Q E s := by
  rw [eval_Compare1, markedBehindIn_of_false hm]
  exact wpC_bind (wpC_mono h (fun a s₁ h₁ => wpC_bind (wpC_holding (wpC_mono h₁ (fun b s₂ h₂ => wpC_bind (wpC_standAt (wpC_operate h₂))) fun _ _ x => x))) fun _ _ x => x)
theorem wpC_isTrue_Compare1 {l op r pos whole} {Q : Bool → Shared → Prop}
    (h : wpC M A (eval l env) (fun a s₁ => wpC M A (eval r env) (fun b s₂ => wpC M A (compareOp op a b)
      (fun c s₃ => wpAny M A (truthy c) Q E s₃) E s₂) E s₁) E s)
    (hm : behindInMarks op r = false := by with_unfolding_all rfl) : wpC M A (isTrue (.Compare l [op] [r] pos) env whole) Q E s := by
  rw [isTrue_Compare1, markedBehindIn_of_false hm]
  exact wpC_bind (wpC_mono h (fun a s₁ h₁ => wpC_bind (wpC_holding (wpC_mono h₁ (fun b s₂ h₂ => wpC_bind (wpC_standAt (wpC_bind (wpC_operate (wpC_mono h₂ (fun c s₃ h₃ => wpC_holding (wpC_of_any h₃)) fun _ _ x => x))))) fun _ _ x => x))) fun _ _ x => x)
/-! ### loops -/
theorem wpC_runOwn {c : Code} {h : Option Value} {Q : Flow → Shared → Prop}
    (hc : codeC M (A.mark h) c (fun r s' => match r with | .ok f => Q f s' | .error e => cameBackBy M A env E e s') s) (hnb : h ≠ some byPass := by intro x; cases x) :
    wpC M A (runOwn c env h) Q E s := by
  unfold runOwn
  exact wpC_onRaise (wpC_mono (wpC_run hc hnb) (fun _ _ x => x) fun _ _ x => wpC_of_any x)
theorem wpC_noted {m : Sem α} {Q : α → Shared → Prop} (h : wpC M A m Q (notedBy M A env E) s) : wpC M A (m.onRaise fun x => do noteFrame x env; theTreesLotGoes x) Q E s :=
  wpC_onRaise (wpC_mono h (fun _ _ q => q) fun _ _ hx => wpC_of_any (wpAny_bind (wpAny_mono hx (fun _ _ e => wpAny_theTreesLotGoes e) fun _ _ e => e)))
end
section
variable {prog : Program} {w : World} {A : Around} {E : Value → Shared → Prop} {R : Result → Shared → Prop} {s : Shared}
theorem codeC_whileLoop {test body orelse env} (I : Nat → Shared → Prop)
    (turn : ∀ n s, I n s →
      wpC (model prog w) A (isTrue test env (eval test env)) (fun b s₂ =>
        if b = true then wpC (model prog w) A (execs body env) (fun f s₃ => match f with
            | .next | .cont => ∃ m, m < n ∧ I m s₃
            | .brk => R (.ok .next) s₃
            | .ret v => R (.ok (.ret v)) s₃) (notedBy (model prog w) A env fun e s' => R (.error e) s') s₂
        else wpC (model prog w) A (execs orelse env) (fun f s₃ => R (.ok f) s₃) (notedBy (model prog w) A env fun e s' => R (.error e) s') s₂)
        (notedBy (model prog w) A env fun e s' => R (.error e) s') s)
    (n : Nat) (h : I n s) : codeC (model prog w) A (.whileLoop test body orelse env) R s := by
  refine codeC_loop rfl rfl I (fun n s hI => ?_) n h
  show wpC _ A ((whileTurn test body orelse env).onRaise (fun x => do noteFrame x env; theTreesLotGoes x)) _ _ s
  refine wpC_noted ?_
  simp only [whileTurn]
  refine wpC_bind (wpC_mono (turn n s hI) (fun b s₂ h₂ => ?_) fun _ _ h' => h')
  cases b with
  | false =>
    simp only [Bool.false_eq_true, if_false] at h₂ ⊢
    exact wpC_bind (wpC_mono h₂ (fun f s₃ h₃ => wpC_pure h₃) fun _ _ h' => h')
  | true =>
    simp only [if_true] at h₂ ⊢
    refine wpC_bind (wpC_mono h₂ (fun f s₃ h₃ => ?_) fun _ _ h' => h')
    cases f with
    | next => exact wpC_pure (.inl ⟨rfl, h₃⟩)
    | cont => exact wpC_pure (.inl ⟨rfl, h₃⟩)
    | brk => exact wpC_pure h₃
    | ret v => exact wpC_pure h₃
theorem wpC_While {test body pos env} {Q : Flow → Shared → Prop} (I : Nat → Shared → Prop) (hE : PassesOwn (model prog w) A env E)
    (turn : ∀ n s, I n s →
      wpC (model prog w) A (isTrue test env (eval test env)) (fun b s₂ =>
        if b = true then wpC (model prog w) A (execs body env) (fun f s₃ => match f with
            | .next | .cont => ∃ m, m < n ∧ I m s₃
            | .brk => Q .next s₃
            | .ret v => Q (.ret v) s₃) E s₂
        else Q .next s₂) E s)
    (n : Nat) (h : I n s) : wpC (model prog w) A (exec (.While test body [] pos) env) Q E s := by
  rw [exec_While]
  refine wpC_bind (wpC_standAt (wpC_runOwn ?_))
  refine codeC_whileLoop I (fun n s hI => ?_) n h
  refine wpC_mono (turn n s hI) (fun b s₂ h₂ => ?_) hE
  cases b with
  | false =>
    simp only [Bool.false_eq_true, if_false] at h₂ ⊢
    exact wpC_execs_nil h₂
  | true =>
    simp only [if_true] at h₂ ⊢
    exact wpC_mono h₂ (fun f s₃ h₃ => by cases f <;> exact h₃) hE
theorem codeC_block {stmts : List Stmt} {env : Env} {R : Result → Shared → Prop}
    (h : wpC (model prog w) A (execs stmts env) (fun f s' => R (.ok f) s') (notedBy (model prog w) A env fun e s' => R (.error e) s') s) : codeC (model prog w) A (.block stmts env) R s := by
  refine codeC_of_tree rfl ?_
  show wpC _ _ (do return Fin.done (← (execs stmts env).onRaise (fun x => do noteFrame x env; theTreesLotGoes x))) _ _ s
  exact wpC_bind (wpC_noted (wpC_mono h (fun f s' h' => wpC_pure h') fun _ _ h' => h'))
theorem codeC_forLoop {R : Result → Shared → Prop} {target it body orelse env} (I : Nat → Shared → Prop)
    (turn : ∀ n s, I n s → wpAny (model prog w) A (pyNext it) (fun r s₁ => match r with
      | none => wpC (model prog w) A (execs orelse env) (fun f s₃ => R (.ok f) s₃) (notedBy (model prog w) A env fun e s' => R (.error e) s') s₁
      | some v => wpAny (model prog w) A (letOwnedTupleGo target it v) (fun _ s₁' =>
          wpAny (model prog w) A (assign target env v) (fun _ s₂ => wpC (model prog w) A (execs body env) (fun f s₃ => match f with
            | .next | .cont => ∃ m, m < n ∧ I m s₃
            | .brk => R (.ok .next) s₃
            | .ret v => R (.ok (.ret v)) s₃) (notedBy (model prog w) A env fun e s' => R (.error e) s') s₂) (notedBy (model prog w) A env fun e s' => R (.error e) s') s₁') (notedBy (model prog w) A env fun e s' => R (.error e) s') s₁) (notedBy (model prog w) A env fun e s' => R (.error e) s') s)
    (n : Nat) (h : I n s) : codeC (model prog w) A (.forLoop target it body orelse env) R s := by
  refine codeC_loop rfl rfl I (fun n s hI => ?_) n h
  show wpC _ A ((forTurn target it body orelse env).onRaise (fun x => do noteFrame x env; theTreesLotGoes x)) _ _ s
  refine wpC_noted ?_
  simp only [forTurn]
  refine wpC_bind (wpC_standAt (wpC_bindA (wpAny_onRaise (wpAny_mono (turn n s hI) (fun r s₁ h₁ => ?_) fun _ _ h' => wpAny_standAt h'))))
  cases r with
  | none => exact wpC_pure (.inr ⟨rfl, codeC_block h₁⟩)
  | some v =>
    refine wpC_bindA (wpAny_mono h₁ (fun _ s₁' h₁' => ?_) fun _ _ h' => h')
    refine wpC_bindA (wpAny_mono h₁' (fun _ s₂ h₂ => wpC_bind (wpC_mono h₂ (fun f s₃ h₃ => ?_) fun _ _ h' => h')) fun _ _ h' => h')
    cases f with
    | next => exact wpC_pure (.inl ⟨rfl, h₃⟩)
    | cont => exact wpC_pure (.inl ⟨rfl, h₃⟩)
    | brk => exact wpC_pure h₃
    | ret v => exact wpC_pure h₃
theorem wpC_For {target iter body pos env} {Q : Flow → Shared → Prop} (hE : PassesOwn (model prog w) A env E)
    (h : wpAny (model prog w) A (eval iter env) (fun x s₁ => wpAny (model prog w) A (pyIter x) (fun it s₂ =>
      ∃ (I : Nat → Shared → Prop) (n₀ : Nat), I n₀ s₂ ∧ ∀ n s, I n s → wpAny (model prog w) A (pyNext it) (fun r s₁ => match r with
      | none => Q .next s₁
      | some v => wpAny (model prog w) A (letOwnedTupleGo target it v) (fun _ s₁' =>
          wpAny (model prog w) A (assign target env v) (fun _ s₂ => wpC (model prog w) A (execs body env) (fun f s₃ => match f with
            | .next | .cont => ∃ m, m < n ∧ I m s₃
            | .brk => Q .next s₃
            | .ret v => Q (.ret v) s₃) E s₂) E s₁') E s₁) E s) E s₁) E s)
    (hs : ∀ x, foldedSetIterable iter env x = pure x := by intro _; rfl) :
    wpC (model prog w) A (exec (.For target iter body [] pos) env) Q E s := by
  rw [exec_For]
  refine wpC_bind (wpC_standAt (wpC_bindA (wpAny_mono h (fun x s₁ h₁ => ?_) fun _ _ x => x)))
  refine wpC_bindA (wpAny_of_eq (hs x) ?_)
  refine wpC_bind (wpC_standAt (wpC_bindA (wpAny_holding (wpAny_mono h₁ (fun it s₂ h₂ => ?_) fun _ _ x => x))))
  obtain ⟨I, n₀, h0, turn⟩ := h₂
  refine wpC_runOwn (codeC_forLoop I (fun n s hI => ?_) n₀ h0)
  refine wpAny_mono (turn n s hI) (fun r s₁ h₁ => ?_) hE
  cases r with
  | none => exact wpC_execs_nil h₁
  | some v => exact wpAny_mono h₁ (fun _ _ h₂ => wpAny_mono h₂ (fun _ _ h₃ => wpC_mono h₃ (fun f _ h₄ => by cases f <;> exact h₄) hE) hE) hE
/-! ### calls of defs -/
theorem codeC_func {body env}
    (h : wpC (model prog w) (A.deeper env) (execs body env) (fun f s' => R (.ok (.ret (match f with | .ret v => v | _ => .none))) s')
      (fun e s' => wpAny (model prog w) (A.deeper env) (leaving env e) (fun _ s'' => R (.error e) s'') (fun e' s'' => R (.error e') s'') s') s) :
    codeC (model prog w) A (.func body env) R s := by
  refine codeC_of_tree rfl ?_
  show wpC _ (A.deeper env) (do point; match ← (execs body env).onRaise (leaving env) with | .ret v => ret v | _ => ret .none) _ _ s
  refine wpC_bind (wpC_point (wpC_bind (wpC_onRaise (wpC_mono h (fun f s' h' => ?_) fun _ _ h' => wpC_of_any h'))))
  cases f <;> exact wpC_pure h'
theorem codeC_call_function {a : Addr} {args : Args} {o : Obj} {fd : FuncData} {body : List Stmt} (hroom : A.depth < recursionLimit)
    (ho : s.heap.get? a = some o)
    (hd' : o.data = .func fd) (hco : fd.scope.isCoroutine = false) (hgen : fd.scope.isGenerator = false) (hbody : fd.body = .stmts body) (hcd : s.heap.CodeRec fd.code fd.qualname)
    (h : wpAny (model prog w) A.in1 (bindArgs fd args) (fun binds s₁ =>
      wpAny (model prog w) A.in1 (newFunctionEnv fd.scope fd.globals fd.closure binds (fd.qualname ++ ".<locals>.") (some a) fd.code none fd.builtins)
        (fun env s₂ => s₂.heap.NoLimit ∧ codeC (model prog w) A (.func body env) R s₂) (fun e s' => R (.error e) s') s₁) (fun e s' => R (.error e) s') s) :
    codeC (model prog w) A (.call (.ref a) args) R s := by
  refine codeC_of_tree rfl (wpC_of_any ?_)
  show wpAny _ A.in1 (callAny (.ref a) args) _ _ s
  simp only [callAny]
  refine wpAny_bind (wpAny_load ho ?_)
  obtain ⟨c, oc, vs, tq, hc, hoc, hdc, hq⟩ := hcd
  simp only [hd', callFunction, hco, hgen, hbody, hc]
  rw [hc] at h
  refine wpAny_bind (m := field (.ref c) 1) (wpAny_field hoc hdc hq (wpAny_bind (wpAny_pure ?_)))
  exact wpAny_bind (wpAny_mono h (fun binds s₁ h₁ => wpAny_bind (wpAny_mono h₁ (fun env s₂ h₂ => wpAny_bind (wpAny_enterFrame h₂.1 hroom
    (wpAny_pure (And.intro rfl h₂.2)))) fun _ _ h' => h')) fun _ _ h' => h')
theorem codeC_call_def {R : Result → Shared → Prop} {a : Addr} {o : Obj} {fd : FuncData} {body : List Stmt} {args : Args} {binds : List (Str × Value)}
    (hroom : A.depth < recursionLimit) (ho : s.heap.get? a = some o) (hdata : o.data = .func fd) (hlim : s.heap.NoLimit) (hcd : s.heap.CodeRec fd.code fd.qualname)
    (hbody : fd.body = .stmts body) (hbind : BindsTo s fd args binds)
    (hcell : ∀ x ∈ fd.scope.names, x.2 ≠ .cell) (hloc : ∀ x ∈ binds, fd.scope.names.lookup x.1 = some .local)
    (h : ∀ h₀, h₀.Ns s.heap.objs.size (fun x => binds.reverse.lookup x) → (∀ b o, s.heap.get? b = some o → h₀.get? b = some o) →
      wpC (model prog w) (A.deeper (callEnv fd s.heap.objs.size a)) (execs body (callEnv fd s.heap.objs.size a)) (fun f s' => R (.ok (.ret (match f with | .ret v => v | _ => .none))) s')
        (fun e s' => wpAny (model prog w) (A.deeper (callEnv fd s.heap.objs.size a)) (leaving (callEnv fd s.heap.objs.size a) e) (fun _ s'' => R (.error e) s'') (fun e' s'' => R (.error e') s'') s')
        { s with heap := h₀, toks := s.toks + binds.length })
    (hco : fd.scope.isCoroutine = false := by rfl) (hgen : fd.scope.isGenerator = false := by rfl) (hk : fd.scope.kind = .function := by rfl) :
    codeC (model prog w) A (.call (.ref a) args) R s := by
  refine codeC_call_function hroom ho hdata hco hgen hbody hcd (hbind _ _ _ _ ?_)
  refine wpAny_newFunctionEnv hcell hloc (fun h₀ hns₀ hsb₀ => ⟨hlim.fresh _ hsb₀, codeC_func (h h₀ hns₀ fun b o e => ?_)⟩) hk
  exact hsb₀.extBut b o (Nat.ne_of_lt (Heap.lt_size e)) (Heap.get?_push_of_some _ e)
end
section
variable {prog : Program} {w : World} {A₀ A : Around} {s : Shared} {base h₀ : Heap} {outer : List Env} {L : Addr} {m : Str → Option Value} {env : Env} {news : List (Addr × Obj)} {K : Frag} {p : Program} {loose : List Str} {mean : ExcName → Option Value} {mg mb : Str → Option Value}
  {R : Result → Shared → Prop} {name qual : Str} {params : Arguments} {body : List Stmt} {scope : Scope} {dV kV doc pm cdv ct oc : Value} {an od : Option Addr} {osl : Array (Option Value)} {f : Addr} {args : Args} {binds : List (Str × Value)}
/-- a def of the text is called from a frame of the text's -/
theorem codeC_def (B : Below A₀ base outer h₀) (F : Fr h₀ L s.heap m) (X₀ : K.In h₀) (N : News h₀ L s.heap news) (T : Top p loose mean mg mb h₀) (hA : A.frames = some (env :: outer)) (hf : env.frame = some L) (hke : env.scope.kind = .function)
    (ho : K.lookup f = some ⟨oc, od, .func (fnOf name qual params body scope dV kV doc pm an cdv ct), osl⟩) (hcd : codeIn K cdv qual = true) (hroom : A.depth < recursionLimit)
    (hbind : BindsTo s (fnOf name qual params body scope dV kV doc pm an cdv ct) args binds) (hloc : ∀ y ∈ binds, scope.names.lookup y.1 = some .local)
    (h : ∀ g L' h₁, Fr h₀ L g m → Fr g L' h₁ (fun y => binds.reverse.lookup y) → News g L' h₁ news → Below A base (env :: outer) g → K.In g → Top p loose mean mg mb g → (∀ p ∈ news, p.1 < L') →
      wpC (model prog w) (A.deeper (envOf qual scope L' f cdv)) (execs body (envOf qual scope L' f cdv))
        (fun fl s' => LeaveK h₀ L m g R (match fl with | .ret v => v | _ => .none) s')
        (fun e s' => wpAny (model prog w) (A.deeper (envOf qual scope L' f cdv)) (leaving (envOf qual scope L' f cdv) e) (fun _ s'' => R (.error e) s'') (fun e' s'' => R (.error e') s'') s')
        { s with heap := h₁, toks := s.toks + binds.length })
    (hco : scope.isCoroutine = false) (hgen : scope.isGenerator = false) (hk : scope.kind = .function)
    (hcell : ∀ x ∈ scope.names, x.2 ≠ .cell) : codeC (model prog w) A (.call (.ref f) args) R s := by
  have hd := (X₀.keeps F.keep) _ _ ho
  have hcd' := codeRec_of (X₀.keeps F.keep) hcd
  obtain ⟨FG, BG, st, lv⟩ := groundX (R := R) B F N hA hf hke
  refine codeC_call_def (fd := fnOf name qual params body scope dV kV doc pm an cdv ct) (body := body) (binds := binds) hroom hd rfl (T.nolimit.keeps F.keep) hcd' rfl hbind hcell hloc (fun h₁ hns hk₁ => ?_) hco hgen hk
  exact wpC_mono (h _ s.heap.objs.size h₁ FG ⟨hns, fun b o e => hk₁ b o (of_hideAll _ e), Nat.le_of_eq (hideAll_size _ _)⟩
    (fun p hp => ⟨hk₁ _ _ (N p hp).1, Nat.ne_of_lt (Heap.lt_size (N p hp).1), hideAll_none _ (List.mem_map_of_mem hp)⟩) BG (X₀.keeps st) (T.keeps st) (fun p hp => Heap.lt_size (N p hp).1)) (fun fl s' hl => lv _ _ hl) fun _ _ y => y
end
end Mine
namespace Mine
/-! ## the head, from a walk in the clean logic -/
theorem wp_of_wpC_done {M : Model} {A : Around} {Γ : PySem.Ctx} {t : Sem Fin} {R : Result → Shared → Prop} {s : Shared} (hin : Γ.In A) (hc : decCode Γ.code = false) (hb : CleanL Γ.below)
    (h : wpC M A t (fun fin s' => ∃ f, fin = .done f ∧ R (.ok f) s') (fun e s' => R (.error e) s') s) (p : Pos) :
    Sem.wp M Γ t (Sem.finPost M Γ R) (fun e _ s' => R (.error e) s') p s := by
  refine Sem.wp_mono M Γ t (fun fin p' s' h' => ?_) (fun _ _ _ h' => h') p s (h Γ p hin hc hb)
  obtain ⟨f, rfl, hf⟩ := h'
  exact hf
theorem thread_ends_C {prog : Program} {w : World} {t : Sem Fin} {s : Shared} {R : Result → Shared → Prop} (hreg : s.asleep)
    (h : wpC (model prog w) callerA t (fun fin s' => ∃ f, fin = .done f ∧ (R (.ok f) s' ∧ leftWithCleanup s'.gens = false)) (fun e s' => R (.error e) s' ∧ leftWithCleanup s'.gens = false) s) :
    ∃ n r s' s'', runN (denote table) prog w n s ⟨t, .builtin "claim.caller" {}, default, []⟩ = .halted (outcomeOf r) s' ∧
      schedN (denote table) prog w n (.single s ⟨t, .builtin "claim.caller" {}, default, []⟩) = .halted (outcomeOf r) s' ∧ s'.forget = s''.forget ∧ R r s'' := by
  obtain ⟨n, r, s₁, s₂, hs, hn, hfo, hR⟩ := wp_halts_full (M := model prog w) (R := R) hreg
    (wp_of_wpC_done (R := fun r s' => R r s' ∧ leftWithCleanup s'.gens = false) caller_in rfl (fun x hx => nomatch hx) h default)
  exact ⟨n, r, s₂, s₁, hn, hs, hfo, hR⟩
theorem callFrom_of_specC {c : ClaimW} {tree : List Value → Sem Fin} {w : World} {s : Shared} {free : Addr → Prop} {gens : Prop} {kept : Heap → Prop} (hz : s.asleep) (hgens : s.gens = #[])
    (hspec : ∀ args, c.pre args = true → WData.layableAll args = true →
      ∀ ord : List DictEntry → List DictEntry, (∀ l, (ord l).Perm l) →
      ∃ vs s₁, layAllW c.records (classAt s.heap) w.params ord args s = some (vs, s₁) ∧
        wpC (model c.prog w) callerA (tree vs) (fun fin s' => ∃ f, fin = .done f ∧ (c.Ends s args vs s₁ (.ok f) s' ∧ s'.os = s.os ∧ AllBare s'.gens ∧ kept s'.heap))
          (fun e s' => c.Ends s args vs s₁ (.error e) s' ∧ s'.os = s.os ∧ AllBare s'.gens ∧ kept s'.heap) s₁) :
    c.CallFrom (fun vs => ⟨tree vs, .builtin "claim.caller" {}, default, []⟩) w free gens kept s := by
  intro args hpre hlay ord hord
  obtain ⟨vs, s₁, hlaid, hcode⟩ := hspec args hpre hlay ord hord
  have hal := layAllW_rest _ _ _ hlaid
  have hlf := wpC_mono hcode
    (Q' := fun fin s' => ∃ f, fin = .done f ∧ ((fun r s' => c.Ends s args vs s₁ r s' ∧ s'.os = s.os ∧ kept s'.heap) (.ok f) s' ∧ leftWithCleanup s'.gens = false))
    (E' := fun e s' => (fun r s' => c.Ends s args vs s₁ r s' ∧ s'.os = s.os ∧ kept s'.heap) (.error e) s' ∧ leftWithCleanup s'.gens = false)
    (fun fin s' ⟨f, e, h1, h2, h3, h4⟩ => ⟨f, e, ⟨h1, h2, h4⟩, leftWithCleanup_false_of_bare h3⟩)
    (fun e s' ⟨h1, h2, h3, h4⟩ => ⟨⟨h1, h2, h4⟩, leftWithCleanup_false_of_bare h3⟩)
  obtain ⟨k, r, s', s'', hrun, hsched, hfo, hcase, hos, hkp⟩ := thread_ends_C (prog := c.prog) (w := w) (t := tree vs) (s := s₁) (R := fun r s' => c.Ends s args vs s₁ r s' ∧ s'.os = s.os ∧ kept s'.heap) (Shared.asleep_of_life hal.2.2.2 hz) hlf
  obtain ⟨eh, _, _, eo, _⟩ := Shared.forget_eq hfo
  have hcase := hcase.congr eh
  rw [← eh] at hkp
  rw [← eo] at hos
  have hlife : s'.heap.life = s.heap.life := (runN_life _ _ _ hrun).trans hal.2.2.2
  refine ⟨vs, s₁, hlaid, k, _, s', hsched, ?_, (fun _ i x hx => by rw [hgens] at hx; simp at hx), hkp, by rw [hlife], Shared.rest_eq hos⟩
  rcases hcase with ⟨v, rfl, d1, d2, d3, d4, d5⟩ | ⟨e, ob, cls, rfl, d1, d2, d3, d4, d5⟩
  · exact .inl ⟨v, rfl, d1, d2, d3, fun b o y _ => d4 b o y, d5⟩
  · exact .inr ⟨e, ob, cls, rfl, d1, d2, d3, d4, fun b o y _ => d5 b o y⟩
/-- the walk that is asked of a prover, in the clean logic -/
abbrev WalkC (q : Program) (loose : List Str) (XP : (Str → Option Value) → Heap → Prop) (YP : World → Heap → Prop) (r : RowW) (d : DefRec) (kwd : List (Str × Expr)) : Prop :=
  ∀ (w : World) (s₀ s₁ : Shared) (mg mb : Str → Option Value), Ground q loose r.records XP w s₀ mg mb s₁.heap → YP w s₁.heap → ∀ (a : Addr) (o : Obj) (pm cd doc dV kV : Value), s₁.heap.get? a = some o →
    o.data = .func { docDef d.name d.params d.body d.scope pm cd doc with defaults := dV, kwdefaults := kV } → s₁.heap.CodeRec cd d.name → Dflts mg s₁.heap d.params kwd dV kV → mg d.name = some (.ref a) → s₁.gens = #[] →
    ∀ (args : List WData) (vals : List Value) (as : List Addr), r.claim.pre args = true → WData.layableAll args = true → ReadsAllW r.records (classAt s₀.heap) s₁.heap vals args as → WellAll w.params s₁.heap vals args → (∀ a ∈ as, (a == sysModules) = false) →
      codeC (model r.prog w) callerA (.call (.ref a) ⟨vals, []⟩) (GoodWG r.claim (classAt s₀.heap) (ExcName.means s₀.heap) args s₁) s₁
namespace Hd
theorem PySem.W.holds_open {r : OpenRow} {q : Program} {loose : List Str} {Xt : Shared → Bool} {XP : (Str → Option Value) → Heap → Prop} {α : Type} {Yf : Shared → α} {Ya : World → α} {YP : World → Heap → Prop} {d : DefRec} {kwd : List (Str × Expr)} {N : Nat}
    (left : LeftO r.prog q loose Xt Yf Ya N) (hY : ∀ w s, Yf s = Ya w → YP w s.heap) (hYk : ∀ w h h', YP w h → (∀ b o, h.get? b = some o → h'.get? b = some o) → YP w h')
    (hX : ∀ s, Xt s = true → XP (s.heap.nsMap mainGlobals) s.heap) (hXk : ∀ mg h h', XP mg h → (∀ b o, h.get? b = some o → h'.get? b = some o) → XP mg h')
    (hdef : defOf q r.name = some (d, kwd)) (hp : r.prog.theDef r.name = some (d.params, d.body, d.scope)) (hk : kwWritten? d.params.kwonlyargs d.params.kw_defaults = some kwd) (hRf : ∀ s, Xt s = true → RecFacts r.records s.heap) (hwr : (!r.writes || r.records.isEmpty) = true)
    (k1 : r.wellSaid = true) (ok : (chainsOk q && opensWell r.prog && (frees r.toRowW && r.within.isEmpty)) = true) (hb : r.prog.bare) (hw : r.toRowW.promised)
    (call : WalkC q loose XP YP r.toRowW d kwd) : r.Holds := by
  refine ⟨k1, hw, ?_⟩
  obtain ⟨okA, k5⟩ := Bool.and_eq_true_iff.mp ok
  obtain ⟨hch, o1⟩ := Bool.and_eq_true_iff.mp okA
  obtain ⟨k5, k6⟩ := Bool.and_eq_true_iff.mp k5
  obtain ⟨hsame, hu, ha, hap, hm⟩ := frees_parts k5
  refine ⟨⟨hb, o1, by show r.makers.map _ = []; rw [hm]; rfl⟩, hw.witness, fun w => ⟨(left.behind hX hch w).1, fun s' hs' => ?_⟩⟩
  obtain ⟨s₀, hf, hg0, s, hT, hz, hgens, hg, G00, y⟩ := (left.behind (XP := fun mg h => XP mg h ∧ RecFacts r.records h) (fun s hs => ⟨hX s hs, hRf s hs⟩) hch w).2 s' hs'
  have G0 : Ground q loose [] XP w s (s.heap.nsMap mainGlobals) (s.heap.nsMap builtinsNs) s.heap := ⟨G00.T, G00.B, G00.D, G00.TE, G00.TD, G00.W, G00.X.1, G00.cls, G00.has, G00.apart, G00.once, G00.K⟩
  have RF := G00.X.2
  have hT' := hT
  refine ⟨s₀, hf, hg0, s, hT, fun n hn => ?_, RF.1, RF.2.1, ?_⟩
  · obtain rfl : n = r.name := by split at hn <;> simp_all
    exact pinned_of_view hg G0 hdef hp hk
  have hgens : s.gens = #[] := Array.eq_empty_of_size_eq_zero (beq_iff_eq.mp hgens)
  have G : Ground q loose r.records XP w s _ _ s.heap := RF.ground G0
  refine callFrom_of_specC (c := r.toRowW.claim) (tree := fun vs => do match ← nsGet mainNs r.name with
      | some f => do ret (← PySem.call f vs)
      | none => unsupported "claim.caller:no-such-global") hz hgens fun args hpre hlay ord hord => ?_
  obtain ⟨⟨vs, s₁⟩, hlaid⟩ := Option.isSome_iff_exists.mp (layAllW_isSome (P := w.params) (ord := ord) G.has args r.toRowW.args s (pre_splitW hpre).1)
  have keeps := layAllW_keeps _ _ _ hlaid
  have hal := layAllW_rest _ _ _ hlaid
  obtain ⟨as, hrd, hin, hold⟩ := reads_layAllW hord _ _ _ hlaid hlay s₁.heap (fun _ _ e => e)
  have L : Laid r.records w s s₁ args vs as := ⟨⟨ord, hord, hlaid⟩, hrd, hin, hold, keeps, hal.1.trans hgens, hal.2.2.1⟩
  have G₁ := G.keeps hXk keeps
  obtain ⟨a, o, pm, cd, doc, dV, kV, h1, h2, h3, h4, h5⟩ := G₁.fn hdef
  have hcall := call w s s₁ _ _ G₁ (hYk _ _ _ (hY w s y) keeps) a o pm cd doc dV kV h2 h3 h4 h5 (defOf_name hdef ▸ h1) L.gens args vs as hpre hlay L.reads L.well (L.low G.low)
  have hi := ident_freeW hu ha hap
  have hwi : r.toRowW.claim.within = [] := List.isEmpty_iff.mp k6
  refine ⟨vs, s₁, hlaid, wpC_bindA (wpAny_nsGet G₁.T.g ?_)⟩
  rw [h1]
  refine wpC_bind (wpC_call (codeC_mono hcall fun res s' g => ?_))
  rcases id g.1 with ⟨v, _, _, rfl, _⟩ | ⟨e, _, _, rfl, _⟩
  · have z := g.laid (c := r.toRowW.claim) hsame hwi hi L
    exact wpC_pure ⟨_, rfl, z.1, z.2.1, z.2.2, fun q => ⟨namesKept_of hT' hg r.keeps keeps g.2.1.old, noTable hwr q⟩⟩
  · have z := g.laid (c := r.toRowW.claim) hsame hwi hi L
    exact ⟨z.1, z.2.1, z.2.2, fun q => ⟨namesKept_of hT' hg r.keeps keeps g.2.1.old, noTable hwr q⟩⟩
set_option maxHeartbeats 8000000 in
open_top hd for PySem.Challenge.rw_nc0009_01
end Hd
end Mine
namespace Mine
noncomputable abbrev LO : List Str := looseW Hd.hd.view_39 [Str.ofString "DecodeError_cobsr_py", Str.ofString "encode_cobsr_py", Str.ofString "decode_cobsr_py", Str.ofString "DecodeError_cobs_py", Str.ofString "encode_cobs_py", Str.ofString "decode_cobs_py"]
end Mine
namespace Mine
theorem codeC_builtin {prog : Program} {w : World} {A : Around} {R : Result → Shared → Prop} {s : Shared} {id : String} {args : Args} {b : Builtin} (hb : entryFor table id = some b) (hd : decCode (.builtin id args) = false)
    (h : wpC (model prog w) (A.under (.builtin id args)) (b args)
      (fun fin s' => match fin with | .done f => R (.ok f) s' | .again c' => c'.quiet = true ∧ codeC (model prog w) A c' R s') (fun e s' => R (.error e) s') s) :
    codeC (model prog w) A (.builtin id args) R s := by
  refine codeC_of_tree hd ?_
  show wpC _ _ (match entryFor table id with | some b => b args | none => unsupported ((withoutEnding? id "#data").getD id)) _ _ s
  rw [hb]; exact h
theorem codeC_call_builtin {prog : Program} {w : World} {A : Around} {R : Result → Shared → Prop} {s : Shared} {id : String} {args : Args} {b : Builtin} (hq : plainId id = true) (hb : entryFor table id = some b) (hd : decCode (.builtin id args) = false)
    (h : wpAny (model prog w) A.in1 (checkBuiltinCall id args) (fun _ s₁ => wpC (model prog w) A.in1 (b args)
      (fun fin s' => match fin with | .done f => R (.ok f) s' | .again c' => c'.quiet = true ∧ codeC (model prog w) A c' R s') (fun e s' => R (.error e) s') s₁)
      (fun e s' => R (.error e) s') s) : codeC (model prog w) A (.call (.builtin id) args) R s := by
  refine codeC_of_tree rfl ?_
  show wpC _ A.in1 (do checkBuiltinCall id args; again (.builtin id args)) _ _ s
  refine wpC_bindA (wpAny_mono h (fun _ s₁ h₁ => wpC_pure (And.intro (plainId_quiet hq args) (codeC_builtin hb hd ?_))) fun _ _ h' => h')
  rw [Around.under_plainId hq args]; exact h₁
theorem wpC_call_entry {prog : Program} {w : World} {A : Around} {E : Value → Shared → Prop} {s : Shared} {T : String} {name : Str}
    {id : String} {b : Builtin} {self : Value} {rest : List Value} {Q : Value → Shared → Prop} (h : Slot T name id) (hT : s.TypeIs self T)
    (hb : entryFor table id = some b) (hd : decCode (.builtin id ⟨self :: rest, []⟩) = false)
    (hc : wpC (model prog w) A.in1 (b ⟨self :: rest, []⟩) (fun fin s' => ∃ v, fin = .done (.ret v) ∧ Q v s') E s)
    (ha : argsOk id ⟨self :: rest, []⟩ := by rfl) :
    wpC (model prog w) A (call (.builtin id) (self :: rest)) Q E s := by
  refine wpC_call (codeC_call_builtin h.plain hb hd (h.check _ _ _ _ _ _ _ _ hT ha (wpC_mono hc (fun fin s' h' => ?_) fun _ _ h' => h')))
  obtain ⟨v, rfl, hv⟩ := h'; exact hv
/-- a bytearray that nobody holds -/
def baObj (b : Array UInt8) : Obj := { cls := .type "bytearray", data := .bytearray b }
section
variable {M : Model} {A : Around} {E : Value → Shared → Prop} {s : Shared}
theorem guards_none : ∀ {l : List (Code × Pos)}, guardsOf l = [] → ∀ x ∈ l, x.1.isGuard = false
  | [], _, x, hx => nomatch hx
  | (c, p) :: l, h, x, hx => by
    rw [guardsOf_cons] at h
    obtain ⟨h1, h2⟩ := List.append_eq_nil_iff.mp h
    rcases List.mem_cons.mp hx with rfl | hx
    · cases hg : c.isGuard with
      | false => rfl
      | true => simp [Code.guards, hg] at h1
    · exact guards_none h2 x hx
theorem wpC_exported {a : Addr} {Q : Bool → Shared → Prop} (hg : A.guards = some []) (h : Q false s) : wpC M A (Builtin.Bytes.exported (.ref a)) Q E s := by
  intro Γ p hΓ hc hb
  have hgs : guardsOf ((Γ.code, p) :: Γ.below) = [] := by rw [guardsOf_cons]; exact hΓ.2.2.2.1 [] hg
  have key : ∀ x ∈ ((Γ.code, p) :: Γ.below), x.1.isGuard = false ∧ decCode x.1 = false := fun x hx => ⟨guards_none hgs x hx, clean_enter hc hb x hx⟩
  unfold Builtin.Bytes.exported
  show Q (((Γ.code, p) :: Γ.below).any _) s
  have e : ∀ b, b = false → Q b s := fun b hb => hb ▸ h
  refine e _ ?_
  rw [List.any_eq_false]
  rintro ⟨c, q⟩ hx
  obtain ⟨h1, h2⟩ := key _ hx
  rw [Bool.not_eq_true]
  cases c with
  | builtin id args =>
    have g : guardIds.contains id = false := h1
    have ne : ∀ n, guardIds.contains n = true → id ≠ n := fun n hn e => by subst e; rw [g] at hn; exact Bool.noConfusion hn
    delta Builtin.Bytes.exported.match_1
    with_unfolding_all refine Eq.trans (dif_neg (ne "bytearray.__contains__" (by decide +kernel))) ?_
    refine Eq.trans (dif_neg (ne "bytearray.__mod__" (by decide +kernel))) ?_
    refine Eq.trans (dif_neg (ne "bytearray.__rmod__" (by decide +kernel))) ?_
    refine Eq.trans (dif_neg (ne "_struct.pack_into.held" (by decide +kernel))) ?_
    refine Eq.trans (dif_neg (ne "bytearray.find.held" (by decide +kernel))) ?_
    obtain ⟨pos, kw⟩ := args
    cases pos with
    | nil => rfl
    | cons v l =>
      have d : Builtin.Bytes.decodersThatHold.contains id = false := h2
      show (Builtin.Bytes.sameRef v (.ref a) && Builtin.Bytes.decodersThatHold.contains id) = false
      rw [d, Bool.and_false]
  | _ => rfl
theorem wpC_checkResize {a : Addr} {b : Array UInt8} {Q : Unit → Shared → Prop} (hg : A.guards = some []) (ho : s.heap.get? a = some (baObj b)) (h : Q () s) :
    wpC M A (Builtin.Bytes.checkResize (.ref a)) Q E s := by
  unfold Builtin.Bytes.checkResize
  refine wpC_bind (wpC_bind (wpC_exported hg ?_))
  show wpC M A (Builtin.Bytes.exportsOf (.ref a) >>= _) _ _ _
  refine wpC_bindA ?_
  unfold Builtin.Bytes.exportsOf
  refine wpAny_bind (wpAny_load ho (wpAny_pure (wpC_pure ?_)))
  exact wpC_pure h
theorem wpAny_writeBa {a : Addr} {b : Array UInt8} {f : Array UInt8 → Array UInt8} {Q : Unit → Shared → Prop} (ho : s.heap.get? a = some (baObj b)) (hz : (f b).size ≤ sizeLine)
    (h : ∀ h', h'.get? a = some (baObj (f b)) → Heap.SameBut a s.heap h' → Q () { s with heap := h' }) : wpAny M A (Builtin.Bytes.write (.ref a) f) Q E s := by
  show wpAny _ _ (updateBytearray a f) _ _ _
  unfold updateBytearray
  refine wpAny_bind (wpAny_load ho ?_)
  show wpAny _ _ (update a (Obj.mapBytearray f) >>= fun _ => lookBehind a) _ _ _
  refine wpAny_bind (wpAny_update ho ?_)
  have hS : (s.heap.update a (Obj.mapBytearray f)).get? a = some (baObj (f b)) := Heap.get?_update_self (Obj.mapBytearray f) ho rfl
  refine wpAny_lookBehind hS ?_ ?_
  · show (if (f b).size > sizeLine then some "bytearray:memory" else none) = none
    rw [if_neg (by omega)]
  · exact h _ hS (Heap.SameBut.update ..)
end
namespace BF
theorem slot_append : Slot "bytearray" "append" "bytearray.append" :=
  .of (owner := "bytearray") (n := "append") (by rw [typeLookup_type, builtinLookup_eq_fast]; kernel_rfl) (by decide +kernel) (by decide +kernel) (by decide +kernel)
    (by first | exact .inl (by decide +kernel) | exact .inr (by decide +kernel)) (by rw [isSubtype_type]; kernel_rfl)
theorem entry_append : entryFor table "bytearray.append" = some Builtin.«bytearray.append» := by first | exact entryFor_of_fast (by kernel_rfl) | exact entryFor_of_tree (by kernel_rfl)
theorem args_append (a b : Value) : argsOk "bytearray.append" ⟨[a, b], []⟩ := by unfold argsOk; kernel_rfl
theorem dec_append (a b : Value) : decCode (.builtin "bytearray.append" ⟨[a, b], []⟩) = false := by
  show Builtin.Bytes.decodersThatHold.contains "bytearray.append" = false
  decide +kernel
theorem slot_iadd : Slot "bytearray" "__iadd__" "bytearray.__iadd__" :=
  .of (owner := "bytearray") (n := "__iadd__") (by rw [typeLookup_type, builtinLookup_eq_fast]; kernel_rfl) (by decide +kernel) (by decide +kernel) (by decide +kernel)
    (by first | exact .inl (by decide +kernel) | exact .inr (by decide +kernel)) (by rw [isSubtype_type]; kernel_rfl)
theorem entry_iadd : entryFor table "bytearray.__iadd__" = some Builtin.«bytearray.__iadd__» := by first | exact entryFor_of_fast (by kernel_rfl) | exact entryFor_of_tree (by kernel_rfl)
theorem args_iadd (a b : Value) : argsOk "bytearray.__iadd__" ⟨[a, b], []⟩ := by unfold argsOk; kernel_rfl
theorem dec_iadd (a b : Value) : decCode (.builtin "bytearray.__iadd__" ⟨[a, b], []⟩) = false := by
  show Builtin.Bytes.decodersThatHold.contains "bytearray.__iadd__" = false
  decide +kernel
theorem look_iadd : typeLookup (.type "bytearray") (dunderI "add") = pure (some (.builtin "bytearray.__iadd__")) := by rw [typeLookup_type, builtinLookup_eq_fast]; kernel_rfl
theorem seq_iadd : isSeqSlot (some (.builtin "bytearray.__iadd__")) = true := by decide +kernel
theorem fills_ba : fillsNumberSlot (.type "bytearray") "add" = pure false :=
  PySem.fillsNumberSlot_seq (id := "bytearray.__add__") (r := none) (by rw [typeLookup_type, builtinLookup_eq_fast]; kernel_rfl) (by decide +kernel) (by rw [typeLookup_type, builtinLookup_eq_fast]; kernel_rfl) rfl
theorem look_buffer_ba : typeLookup (.type "bytearray") "__buffer__" = pure (some (.builtin "bytearray.__buffer__")) := by rw [typeLookup_type, builtinLookup_eq_fast]; kernel_rfl
theorem look_release_ba : typeLookup (.type "bytearray") "__release_buffer__" = pure (some (.builtin "bytearray.__release_buffer__")) := by rw [typeLookup_type, builtinLookup_eq_fast]; kernel_rfl
end BF
theorem baType {s : Shared} {a : Addr} {b : Array UInt8} (ho : s.heap.get? a = some (baObj b)) : s.TypeIs (.ref a) "bytearray" := ⟨_, ho, rfl⟩
section
variable {prog : Program} {w : World} {A : Around} {E : Value → Shared → Prop} {s : Shared} {h₀ : Heap} {L : Addr} {m : Str → Option Value} {news news' : List (Addr × Obj)}
theorem ba_append {a : Addr} {b : Array UInt8} {n : Int} {t : Tok} {Q : Value → Shared → Prop} (hg : A.guards = some []) (F : Fr h₀ L s.heap m) (N : News h₀ L s.heap news) (U : Upd a (baObj b) (baObj (b.push n.toNat.toUInt8)) news news')
    (h0 : 0 ≤ n) (h1 : n < 256) (hz : b.size < sizeLine) (h : ∀ h', Fr h₀ L h' m → News h₀ L h' news' → Q .none { s with heap := h' }) :
    wpC (model prog w) A (call (.builtin "bytearray.append") [.ref a, .int n t]) Q E s := by
  obtain ⟨pre, post, rfl, rfl, ha, hb⟩ := U.split
  have z := N (a, baObj b) (List.mem_append.mpr (.inr (.head _)))
  refine wpC_call_entry BF.slot_append (baType z.1) BF.entry_append (BF.dec_append _ _) ?_ (BF.args_append _ _)
  unfold Builtin.«bytearray.append»
  refine wpC_bindA (wpAny_of_eq (a := (.ref a, .int n t)) rfl ?_)
  refine wpC_bindA ?_
  unfold Builtin.Bytes.byteValue
  refine wpAny_bind (wpAny_of_eq (rfl : asIndex (.int n t) = pure n) ?_)
  refine bm_if_false (by simp only [Bool.or_eq_false_iff, decide_eq_false_iff_not]; omega) (wpAny_pure ?_)
  refine wpC_bind (wpC_checkResize hg z.1 ?_)
  refine wpC_bindA (wpAny_writeBa z.1 (by rw [Array.size_push]; omega) fun h' ho' hs => ?_)
  exact wpC_pure ⟨_, rfl, h h' (F.change hs z.2.1 z.2.2) (news_set N ha hb hs ho')⟩
theorem wpC_inplace_ba {a : Addr} {b c : Array UInt8} {t : Tok} {Q : Value → Shared → Prop} (ho : s.heap.get? a = some (baObj b))
    (hc : wpC (model prog w) A (call (.builtin "bytearray.__iadd__") [.ref a, .bytes c t]) Q E s) : wpC (model prog w) A (inplaceOp .Add (.ref a) (.bytes c t)) Q E s := by
  unfold inplaceOp
  refine wpC_holding ?_
  have hfi : fillsInplaceSlot (.type "bytearray") "add" (Operator.Add == .Add) = pure false := by
    unfold fillsInplaceSlot
    show (typeLookup (.type "bytearray") (dunderI "add") >>= fun fi => pure (fi.isSome && !isSeqSlot fi)) = pure false
    rw [BF.look_iadd]
    simp only [pure_bind, Option.isSome_some, BF.seq_iadd, Bool.not_true, Bool.and_false]
  refine wpC_bindA (wpAny_typeOf (baType ho) (wpC_bindA (wpAny_of_eq hfi ?_)))
  show wpC _ A (if false = true then _ else _) Q E s
  rw [if_neg Bool.false_ne_true]
  refine wpC_bindA ?_
  unfold binaryOp1
  refine wpAny_bind (wpAny_typeOf (baType ho) (wpAny_bind (wpAny_typeOf (PySem.W.typeIs_bytes _ _ _) (wpAny_bind (wpAny_of_eq BF.fills_ba ?_)))))
  rw [if_neg (show ¬ (Value.type "bytearray" == Value.type "bytes") = true from by decide)]
  refine wpAny_bind (wpAny_of_eq PySem.W.KBy.noFill_bytes_add ?_)
  refine wpAny_pure (a := none) ?_
  have hsi : seqSlot? (.type "bytearray") (dunderI "add") = pure (some (.builtin "bytearray.__iadd__")) := PySem.seqSlot_of BF.look_iadd BF.seq_iadd
  refine wpC_bindA (wpAny_of_eq hsi ?_)
  exact wpC_bindA (wpAny_rule hc)
theorem slotOwn_buffer {c : Array UInt8} {t : Tok} {Q : Bool → Shared → Prop} (h : Q true s) : wpAny (model prog w) A (Builtin.Bytes.slotIsOwn (.bytes c t) "__buffer__") Q E s := by
  unfold Builtin.Bytes.slotIsOwn
  refine wpAny_bind (wpAny_specialOf (PySem.W.typeIs_bytes _ _ _) PySem.W.KBy.look_buffer ?_)
  dsimp only
  refine bm_if_false (by decide +kernel) ?_
  rw [show String.dropRight "bytes.__buffer__" ("__buffer__".length + 1) = "bytes" from by decide +kernel]
  exact wpAny_isInstance (PySem.W.typeIs_bytes _ _ _) PySem.F.bm_sub h
theorem ownRelease_bytes {c : Array UInt8} {t : Tok} {Q : Bool → Shared → Prop} (h : Q false s) : wpAny (model prog w) A (Builtin.Bytes.ownRelease (.bytes c t)) Q E s := by
  unfold Builtin.Bytes.ownRelease Builtin.Bytes.slotIsOwn
  refine wpAny_bind (wpAny_bind (wpAny_specialOf (PySem.W.typeIs_bytes _ _ _) PySem.W.KBy.look_release ?_))
  exact wpAny_pure (wpAny_pure h)
theorem buffer_bytes {id : String} {full : Bool} {c : Array UInt8} {t : Tok} {Q : Option (Array UInt8) → Shared → Prop} (h : Q (some c) s) : wpAny (model prog w) A (Builtin.Bytes.buffer? id (.bytes c t) full) Q E s := by
  unfold Builtin.Bytes.buffer?
  refine wpAny_bind (wpAny_specialOf (PySem.W.typeIs_bytes _ _ _) PySem.W.KBy.look_buffer ?_)
  dsimp only
  refine wpAny_bind (slotOwn_buffer ?_)
  refine bm_if_false rfl ?_
  refine wpAny_bind (wpAny_specialOf (PySem.W.typeIs_bytes _ _ _) PySem.W.KBy.look_buffer ?_)
  show wpAny _ _ (Builtin.Bytes.ownRelease (.bytes c t) >>= _) _ _ _
  refine wpAny_bind (ownRelease_bytes ?_)
  refine bm_if_false rfl ?_
  exact wpAny_bind (wpAny_bind (wpAny_pure (wpAny_pure (wpAny_pure h))))
theorem takeBuffer_bytes {id : String} {c : Array UInt8} {t : Tok} {Q : Option (Array UInt8 × Option Value) → Shared → Prop} (h : Q (some (c, none)) s) : wpAny (model prog w) A (Builtin.Bytes.takeBufferQuiet? id (.bytes c t) 0) Q E s := by
  unfold Builtin.Bytes.takeBufferQuiet? Builtin.Bytes.takeBuffer?
  refine wpAny_bind (wpAny_attempt ?_)
  refine wpAny_bind (wpAny_specialOf (PySem.W.typeIs_bytes _ _ _) PySem.W.KBy.look_buffer ?_)
  dsimp only
  refine wpAny_bind (slotOwn_buffer ?_)
  refine bm_if_false rfl ?_
  refine wpAny_bind (wpAny_specialOf (PySem.W.typeIs_bytes _ _ _) PySem.W.KBy.look_buffer ?_)
  show wpAny _ _ (Builtin.Bytes.buffer? id (.bytes c t) _ >>= _) _ _ _
  refine wpAny_bind (buffer_bytes (wpAny_pure ?_))
  exact wpAny_pure h
theorem ba_iadd {a : Addr} {b c : Array UInt8} {t : Tok} {Q : Value → Shared → Prop} (hg : A.guards = some []) (F : Fr h₀ L s.heap m) (N : News h₀ L s.heap news) (U : Upd a (baObj b) (baObj (b ++ c)) news news')
    (hz : b.size + c.size ≤ sizeLine) (h : ∀ h', Fr h₀ L h' m → News h₀ L h' news' → Q (.ref a) { s with heap := h' }) :
    wpC (model prog w) A (inplaceOp .Add (.ref a) (.bytes c t)) Q E s := by
  obtain ⟨pre, post, rfl, rfl, ha, hb⟩ := U.split
  have z := N (a, baObj b) (List.mem_append.mpr (.inr (.head _)))
  refine wpC_inplace_ba z.1 ?_
  refine wpC_call_entry BF.slot_iadd (baType z.1) BF.entry_iadd (BF.dec_iadd _ _) ?_ (BF.args_iadd _ _)
  unfold Builtin.«bytearray.__iadd__»
  refine wpC_bindA (wpAny_of_eq (a := (.ref a, [.bytes c t])) rfl ?_)
  refine wpC_bindA (takeBuffer_bytes ?_)
  dsimp only
  unfold Builtin.Bytes.thenGiveBack
  dsimp only
  have tail : wpC (model prog w) A.in1 (do
      let __do_lift ← Builtin.Bytes.payload (.ref a)
      if Builtin.Bytes.tooLong (__do_lift.size + c.size) = true then do
          let _ ← (unsupported "bytearray.__iadd__:memory" : Sem PUnit)
          Builtin.Bytes.write (.ref a) (fun x => x ++ c)
          ret (.ref a)
        else do
          Builtin.Bytes.write (.ref a) (fun x => x ++ c)
          ret (.ref a)) (fun fin s' => ∃ v, fin = .done (.ret v) ∧ Q v s') E s := by
    refine wpC_bindA ?_
    unfold Builtin.Bytes.payload Builtin.Bytes.payload?
    refine wpAny_bind (wpAny_bind (wpAny_load z.1 (wpAny_pure (wpAny_pure ?_))))
    have : Builtin.Bytes.tooLong (b.size + c.size) = false := by unfold Builtin.Bytes.tooLong; exact decide_eq_false (by omega)
    rw [this, if_neg Bool.false_ne_true]
    refine wpC_bindA (wpAny_writeBa z.1 (by rw [Array.size_append]; exact hz) fun h' ho' hs => ?_)
    exact wpC_pure ⟨_, rfl, h h' (F.change hs z.2.1 z.2.2) (news_set N ha hb hs ho')⟩
  by_cases he : (!c.isEmpty) = true
  · rw [if_pos he]
    rw [show Builtin.Bytes.sameRef (.ref a) (.bytes c t) = false from rfl, if_neg Bool.false_ne_true]
    exact wpC_bind (wpC_checkResize hg z.1 tail)
  · rw [if_neg he]
    exact tail
end
end Mine
namespace Mine
namespace BF
theorem ba_mro : mroOf (.type "bytearray") = pure [.type "bytearray", .type "object"] := by rw [mroOf_type]; kernel_rfl
theorem ba_look_new : typeLookup (.type "bytearray") "__new__" = pure (some (.builtin "bytearray.__new__")) := by rw [typeLookup_type, builtinLookup_eq_fast]; kernel_rfl
theorem ba_slot_init : Slot "bytearray" "__init__" "bytearray.__init__" :=
  .of (owner := "bytearray") (n := "__init__") (by rw [typeLookup_type, builtinLookup_eq_fast]; kernel_rfl) (by decide +kernel) (by decide +kernel) (by decide +kernel)
    (by first | exact .inl (by decide +kernel) | exact .inr (by decide +kernel)) (by rw [isSubtype_type]; kernel_rfl)
theorem ba_called : TypeCalled "bytearray" "bytearray.__new__" "bytearray.__init__" :=
  ⟨by decide +kernel, by decide +kernel, ⟨_, _, ba_mro⟩, madeBy_type ba_mro ba_look_new (by decide +kernel), by decide +kernel, by rw [isSubtype_type]; kernel_rfl, ba_slot_init⟩
theorem ba_typeCall : checkTypeCall "bytearray" ⟨[], []⟩ = pure () := by kernel_rfl
theorem ba_newCall : checkBuiltinCall "bytearray.__new__" ⟨[.type "bytearray"], []⟩ = pure () := by kernel_rfl
theorem ba_plain_new : plainId "bytearray.__new__" = true := by decide +kernel
theorem ba_entry_new : entryFor table "bytearray.__new__" = some Builtin.«list.__new__» :=
  entryFor_alias (id' := "list.__new__") (by kernel_rfl) (by decide +kernel) (by decide +kernel) (by kernel_rfl)
theorem ba_entry_init : entryFor table "bytearray.__init__" = some Builtin.«bytearray.__init__» := by first | exact entryFor_of_fast (by kernel_rfl) | exact entryFor_of_tree (by kernel_rfl)
theorem ba_args_init (a : Value) : argsOk "bytearray.__init__" ⟨[a], []⟩ := by unfold argsOk; kernel_rfl
theorem ba_dec_init (a : Value) : decCode (.builtin "bytearray.__init__" ⟨[a], []⟩) = false := by
  show Builtin.Bytes.decodersThatHold.contains "bytearray.__init__" = false
  decide +kernel
theorem dec_typecall (a : Value) (l : List Value) : decCode (.builtin "type.__call__" ⟨a :: l, []⟩) = false := by
  show Builtin.Bytes.decodersThatHold.contains "type.__call__" = false
  decide +kernel
set_option maxRecDepth 1000000 in
set_option maxHeartbeats 4000000 in
theorem owner_ba_new : ("bytearray.__new__".splitOn ".__new__").headD "" = "bytearray" := by simp +decide [String.splitOn, String.splitOnAux]
theorem ba_bind : Builtin.Bytes.bindOptional "bytearray.__init__" "bytearray" ["source", "encoding", "errors"] [] [] = pure [none, none, none] := by kernel_rfl
end BF
section
variable {prog : Program} {w : World} {A : Around} {E : Value → Shared → Prop} {s : Shared}
theorem code_ba_new {Q₁ : Value → Shared → Prop}
    (h : Q₁ (.ref s.heap.objs.size) { s with heap := s.heap.push (baObj #[]) }) :
    codeAny (model prog w) A (.call (.builtin "bytearray.__new__") ⟨[.type "bytearray"], []⟩) (wants Q₁ E) s := by
  refine codeAny_of_tree ?_
  show wpAny _ A.in1 (do checkBuiltinCall "bytearray.__new__" ⟨[.type "bytearray"], []⟩; again (.builtin "bytearray.__new__" ⟨[.type "bytearray"], []⟩)) _ _ s
  refine wpAny_bind (wpAny_of_eq BF.ba_newCall (wpAny_pure ⟨plainId_quiet BF.ba_plain_new _, codeAny_builtin_stack BF.ba_entry_new rfl fun p st => ?_⟩))
  rw [Around.under_plainId BF.ba_plain_new _]
  have hsub := PySem.F.isi_self_bytearray
  have hown := BF.owner_ba_new
  obtain ⟨hp, g, d, tk, os⟩ := s
  simp only [hown]
  wp_walk
  exact h
theorem slotOwn_release_ba {a : Addr} {b : Array UInt8} {Q : Bool → Shared → Prop} (ho : s.heap.get? a = some (baObj b)) (h : Q true s) : wpAny (model prog w) A (Builtin.Bytes.slotIsOwn (.ref a) "__release_buffer__") Q E s := by
  unfold Builtin.Bytes.slotIsOwn
  refine wpAny_bind (wpAny_specialOf (baType ho) BF.look_release_ba ?_)
  dsimp only
  refine bm_if_false (by decide +kernel) ?_
  rw [show String.dropRight "bytearray.__release_buffer__" ("__release_buffer__".length + 1) = "bytearray" from by decide +kernel]
  exact wpAny_isInstance (baType ho) PySem.F.isi_self_bytearray h
theorem ownRelease_ba {a : Addr} {b : Array UInt8} {Q : Bool → Shared → Prop} (ho : s.heap.get? a = some (baObj b)) (h : Q false s) : wpAny (model prog w) A (Builtin.Bytes.ownRelease (.ref a)) Q E s := by
  unfold Builtin.Bytes.ownRelease
  exact wpAny_bind (slotOwn_release_ba ho (wpAny_pure h))
theorem wpC_callSpecial_slot {M : Model} {self : Value} {T : String} {name : Str} {id : String} {args : List Value} {kw : List (Str × Value)}
    {Q : Option Value → Shared → Prop} (hT : s.TypeIs self T) (h : Slot T name id)
    (hc : wpC M A (call (.builtin id) (self :: args) kw) (fun v => Q (some v)) E s) : wpC M A (callSpecial? self name args kw) Q E s := by
  simp only [callSpecial?]
  refine wpC_bindA (wpAny_specialOf hT h.lookup ?_)
  simp only [h.bind]
  exact wpC_holding (wpC_bind (wpC_pure (wpC_bind (wpC_mono hc (fun v s' h' => wpC_pure h') fun _ _ h' => h'))))
theorem wpC_ba_init {a : Addr} {Q : Value → Shared → Prop} (hg : A.guards = some []) (ho : s.heap.get? a = some (baObj #[]))
    (h : ∀ h', h'.get? a = some (baObj #[]) → Heap.SameBut a s.heap h' → Q .none { s with heap := h' }) :
    wpC (model prog w) A (Builtin.«bytearray.__init__» ⟨[.ref a], []⟩) (fun fin s' => ∃ v, fin = .done (.ret v) ∧ Q v s') E s := by
  unfold Builtin.«bytearray.__init__»
  dsimp only
  refine wpC_bindA (ownRelease_ba ho ?_)
  rw [if_neg Bool.false_ne_true]
  refine wpC_bindA (wpAny_of_eq BF.ba_bind ?_)
  dsimp only
  refine wpC_bindA (wpAny_of_eq (a := ()) rfl ?_)
  refine wpC_bindA (wpAny_of_eq (a := ()) rfl ?_)
  refine wpC_bind (wpC_bind (wpC_exported hg ?_))
  show wpC _ _ (Builtin.Bytes.exportsOf (.ref a) >>= _) _ _ _
  refine wpC_bindA ?_
  unfold Builtin.Bytes.exportsOf
  refine wpAny_bind (wpAny_load ho (wpAny_pure (wpC_pure ?_)))
  show wpC _ _ (Builtin.Bytes.write (.ref a) (fun _ => #[]) >>= _) _ _ _
  refine wpC_bindA (wpAny_writeBa ho (Nat.zero_le _) fun h' ho' hs => ?_)
  exact wpC_pure ⟨_, rfl, h h' ho' hs⟩
theorem ba_make0 {Q : Value → Shared → Prop} (hg : A.guards = some [])
    (h : ∀ h', h'.get? s.heap.objs.size = some (baObj #[]) → (∀ b o, s.heap.get? b = some o → h'.get? b = some o) → Q (.ref s.heap.objs.size) { s with heap := h' }) :
    wpC (model prog w) A (call (.type "bytearray") []) Q E s := by
  obtain ⟨c, tl, hmro⟩ := BF.ba_called.mro
  refine wpC_call (codeC_of_tree rfl ?_)
  show wpC _ _ (callAny (.type "bytearray") _) _ _ _
  refine wpC_pure ⟨Code.quiet_builtin _ (by decide +kernel), codeC_builtin F.entry_type_call (BF.dec_typecall _ _) ?_⟩
  rw [Around.under_plain (weight_type_call_type "bytearray" [] []) rfl]
  unfold Builtin.«type.__call__»
  dsimp only
  rw [BF.ba_called.notType, if_neg Bool.false_ne_true]
  rw [BF.ba_called.canCreate, if_neg Bool.false_ne_true]
  refine wpC_bindA (wpAny_of_eq BF.ba_typeCall ?_)
  refine wpC_bindA (wpAny_of_eq hmro ?_)
  rw [if_neg (by simp)]
  refine wpC_bindA (wpAny_of_eq BF.ba_called.made ?_)
  refine wpC_bindA (wpAny_pure ?_)
  refine wpC_bindA (wpAny_holding (wpAny_call (codeAny_mono (code_ba_new (Q₁ := fun v s' => v = .ref s.heap.objs.size ∧ s' = { s with heap := s.heap.push (baObj #[]) }) (E := fun _ _ => False) ⟨rfl, rfl⟩) fun r s₁ hr => ?_)))
  rcases r with e | fl
  · exact hr.elim
  cases fl with
  | ret obj =>
    obtain ⟨rfl, rfl⟩ := hr
    have ho : (s.heap.push (baObj #[])).get? s.heap.objs.size = some (baObj #[]) := Heap.get?_push_size _ rfl
    have hT : ({ s with heap := s.heap.push (baObj #[]) } : Shared).TypeIs (.ref s.heap.objs.size) "bytearray" := baType ho
    show wpC _ _ (isInstance (.ref s.heap.objs.size) (.type "bytearray") >>= _) _ _ _
    refine wpC_bindA (wpAny_isInstance hT PySem.F.isi_self_bytearray ?_)
    rw [if_neg (by simp)]
    refine wpC_bind (wpC_holding (wpC_callSpecial_slot hT BF.ba_slot_init (wpC_call_entry BF.ba_slot_init hT BF.ba_entry_init (BF.ba_dec_init _) (wpC_ba_init hg ho fun h' ho' hs => ?_) (BF.ba_args_init _))))
    dsimp only
    rw [if_neg (by simp)]
    refine wpC_pure (h h' ho' fun b o e => ?_)
    exact (hs.2 b (Nat.ne_of_lt (Heap.lt_size e))).trans (Heap.get?_push_of_some _ e)
  | _ => exact hr.elim
theorem ba_make {h₀ : Heap} {L : Addr} {m : Str → Option Value} {news : List (Addr × Obj)} {Q : Value → Shared → Prop} (hg : A.guards = some []) (F : Fr h₀ L s.heap m) (N : News h₀ L s.heap news)
    (h : ∀ a h', Fr h₀ L h' m → News h₀ L h' ((a, baObj #[]) :: news) → (∀ p ∈ news, p.1 < a) → Q (.ref a) { s with heap := h' }) :
    wpC (model prog w) A (call (.type "bytearray") []) Q E s := by
  refine ba_make0 hg fun h' ho' hk => ?_
  refine h _ h' (F.grownK hk) (fun p hp => ?_) (fun p hp => Heap.lt_size (N p hp).1)
  rcases List.mem_cons.mp hp with rfl | hp
  · exact ⟨ho', Nat.ne_of_gt F.ns.lt, next_is_new F⟩
  · exact ⟨hk _ _ (N p hp).1, (N p hp).2⟩
end
namespace BF
theorem bm_no_bytes_ba : typeLookup (.type "bytearray") "__bytes__" = pure none := by rw [typeLookup_type, builtinLookup_eq_fast]; kernel_rfl
theorem bm_no_index_ba : typeLookup (.type "bytearray") "__index__" = pure none := by rw [typeLookup_type, builtinLookup_eq_fast]; kernel_rfl
end BF
section
variable {prog : Program} {w : World} {A : Around} {E : Value → Shared → Prop} {s : Shared}
theorem slotOwn_buffer_ba {a : Addr} {b : Array UInt8} {Q : Bool → Shared → Prop} (ho : s.heap.get? a = some (baObj b)) (h : Q true s) : wpAny (model prog w) A (Builtin.Bytes.slotIsOwn (.ref a) "__buffer__") Q E s := by
  unfold Builtin.Bytes.slotIsOwn
  refine wpAny_bind (wpAny_specialOf (baType ho) BF.look_buffer_ba ?_)
  dsimp only
  refine bm_if_false (by decide +kernel) ?_
  rw [show String.dropRight "bytearray.__buffer__" ("__buffer__".length + 1) = "bytearray" from by decide +kernel]
  exact wpAny_isInstance (baType ho) PySem.F.isi_self_bytearray h
theorem buffer_ba {id : String} {full : Bool} {a : Addr} {b : Array UInt8} {Q : Option (Array UInt8) → Shared → Prop} (ho : s.heap.get? a = some (baObj b)) (h : Q (some b) s) : wpAny (model prog w) A (Builtin.Bytes.buffer? id (.ref a) full) Q E s := by
  unfold Builtin.Bytes.buffer?
  refine wpAny_bind (wpAny_specialOf (baType ho) BF.look_buffer_ba ?_)
  dsimp only
  refine wpAny_bind (slotOwn_buffer_ba ho ?_)
  refine bm_if_false rfl ?_
  refine wpAny_bind (wpAny_specialOf (baType ho) BF.look_buffer_ba ?_)
  show wpAny _ _ (Builtin.Bytes.ownRelease (.ref a) >>= _) _ _ _
  refine wpAny_bind (ownRelease_ba ho ?_)
  refine bm_if_false rfl ?_
  refine wpAny_bind ?_
  unfold Builtin.Bytes.payload Builtin.Bytes.payload?
  exact wpAny_bind (wpAny_bind (wpAny_load ho (wpAny_pure (wpAny_pure (wpAny_pure h)))))
theorem bytes_ba_new {a : Addr} {b : Array UInt8} {Q : Value → Shared → Prop} (ho : s.heap.get? a = some (baObj b)) (hz : b.size ≤ sizeLine) (hQ : ∀ t k, Q (.bytes b t) { s with toks := k }) :
    codeAny (model prog w) A (.call (.builtin "bytes.__new__") ⟨[.type "bytes", .ref a], []⟩) (wants Q E) s := by
  refine codeAny_of_tree ?_
  show wpAny _ A.in1 (do checkBuiltinCall "bytes.__new__" ⟨[.type "bytes", .ref a], []⟩; again (.builtin "bytes.__new__" ⟨[.type "bytes", .ref a], []⟩)) _ _ s
  refine wpAny_bind (wpAny_of_eq (F.bm_newCall _) (wpAny_pure ⟨plainId_quiet F.bm_plain _, codeAny_builtin F.bm_entry ?_⟩))
  rw [Around.under_plainId F.bm_plain _]
  have hT : s.TypeIs (.ref a) "bytearray" := baType ho
  unfold Builtin.«bytes.__new__»
  refine wpAny_bind (wpAny_of_eq (a := true) rfl ?_)
  refine bm_if_false rfl ?_
  refine wpAny_bind (wpAny_of_eq F.bm_sub ?_)
  refine bm_if_false rfl ?_
  refine wpAny_bind (wpAny_of_eq (F.bm_bind _) ?_)
  refine wpAny_bind (wpAny_of_eq (a := ()) rfl ?_)
  refine wpAny_bind (wpAny_of_eq (a := ()) rfl ?_)
  refine bm_if_false rfl ?_
  refine wpAny_bind (wpAny_specialOf hT BF.bm_no_bytes_ba ?_)
  refine wpAny_bind (wpAny_bind ?_)
  show wpAny _ _ (load a >>= _) _ _ _
  refine wpAny_bind (wpAny_load ho ?_)
  refine wpAny_pure (wpAny_pure ?_)
  refine bm_if_false rfl ?_
  refine wpAny_bind (wpAny_specialOf hT BF.bm_no_index_ba ?_)
  refine bm_if_true rfl ?_
  first
    | show wpAny _ _ (Builtin.Bytes.buffer? "bytes.__new__" (.ref a) true >>= _) _ _ _
    | (refine wpAny_bind ?_; show wpAny _ _ (Builtin.Bytes.buffer? "bytes.__new__" (.ref a) true >>= _) _ _ _)
  refine wpAny_bind (buffer_ba ho ?_)
  dsimp only
  refine wpAny_bind (wpAny_rule (wpAny_bind (wpAny_mkBytes ?_ hz)))
  show wpAny _ _ (if (Value.type "bytes" == Value.type "bytes") = true then _ else _) _ _ _
  refine bm_if_true (by decide) ?_
  first
    | exact wpAny_pure (hQ _ _)
    | exact wpAny_bind (wpAny_pure (wpAny_pure (hQ _ _)))
theorem call_bytes_ba {a : Addr} {b : Array UInt8} {Q : Value → Shared → Prop} (ho : s.heap.get? a = some (baObj b)) (hz : b.size ≤ sizeLine) (hQ : ∀ t k, Q (.bytes b t) { s with toks := k }) :
    wpAny (model prog w) A (call (.type "bytes") [.ref a]) Q E s := by
  refine callType_codes (Q₁ := fun obj s₁ => s₁.TypeIs obj "bytes" ∧ Q obj s₁) F.bm_called (F.bm_typeCall _) F.entry_object_init
    (bytes_ba_new ho hz fun t k => ⟨PySem.W.typeIs_bytes _ _ _, hQ t k⟩) fun obj s₁ h₁ => ?_
  exact ⟨h₁.1, F.args_object_init_2 obj _, object_init_meets F.bm_called.init.lookup F.bm_called.made (by decide) prog w A.in1 _ s₁ ⟨h₁.1, rfl, h₁.2⟩⟩
end
end Mine
namespace Mine
section
variable {M : Model} {A : Around} {E : Value → Shared → Prop} {s : Shared} {env : Env}
theorem wpC_spliced1 {t : Sem Value} {Q : List Value → Shared → Prop} (h : wpC M A t (fun v s' => Q [v] s') E s) : wpC M A (spliced [(false, t)]) Q E s := by
  rw [spliced]
  refine wpC_bind (wpC_mono h (fun v s₁ h₁ => ?_) fun _ _ x => x)
  simp only [Bool.false_eq_true, if_false]
  exact wpC_bind (wpC_pure (wpC_bind (wpC_holding (wpC_of_any (spliced_nil (wpC_pure h₁))))))
theorem wpC_evalArgs1 {f : Value} {t : Sem Value} {Q : Args → Shared → Prop} (h : wpC M A t (fun v s' => Q ⟨[v], []⟩ s') E s) : wpC M A (evalArgs f true [(false, t)] []) Q E s := by
  unfold evalArgs
  show wpC M A (spliced [(false, t)] >>= _) Q E s
  refine wpC_bind (wpC_spliced1 (wpC_mono h (fun v s' h' => ?_) fun _ _ x => x))
  refine wpC_holding ?_
  exact wpC_bind (wpC_pure (wpC_bind (wpC_pure (wpC_pure h'))))
theorem wpC_callWith_machine1 {pos : Pos} {f : Value} {first : List Value} {t : Sem Value} {Q : Value → Shared → Prop} (hf : keeperOf f = pure .machine)
    (h : wpC M A t (fun v s₁ => wpC M A (call f (first ++ [v]) []) Q E s₁) E s) : wpC M A (callWith pos f first [(false, t)] []) Q E s := by
  unfold callWith
  refine wpC_bind (wpC_holding (wpC_evalArgs1 (wpC_mono h (fun v s₁ h₁ => wpC_bind (wpC_standAt ?_)) fun _ _ x => x)))
  rw [hf]
  refine wpC_bind (wpC_pure ?_)
  exact wpC_bind (wpC_mono h₁ (fun r s₂ hr => wpC_bind (wpC_holding (wpC_point (wpC_pure hr)))) fun _ _ x => x)
theorem wpC_callWith_machine0 {pos : Pos} {f : Value} {Q : Value → Shared → Prop} (hf : keeperOf f = pure .machine)
    (h : wpC M A (call f [] []) Q E s) : wpC M A (callWith pos f [] [] []) Q E s := by
  unfold callWith
  refine wpC_bindA (wpAny_holding (evalArgs_nil3 (wpC_bind (wpC_standAt ?_))))
  rw [hf]
  refine wpC_bind (wpC_pure ?_)
  exact wpC_bind (wpC_mono h (fun r s₂ hr => wpC_bind (wpC_holding (wpC_point (wpC_pure hr)))) fun _ _ x => x)
theorem keeper_type (T : String) : keeperOf (.type T) = pure .machine := rfl
theorem keeper_builtin (T : String) : keeperOf (.builtin T) = pure .machine := rfl
theorem wpC_keep {α : Type} {vs : List Value} {m : Sem α} {Q : α → Shared → Prop} (h : wpC M A m Q E s) : wpC M A (m.keep vs) Q E s :=
  fun Γ p hΓ hc hb => by rw [Sem.wp_keep]; exact h Γ p hΓ hc hb
theorem wpC_callWith_fn1 {pos : Pos} {a : Addr} {t : Sem Value} {Q : Value → Shared → Prop}
    (h : wpC M A t (fun v s₁ => (∃ o fd, s₁.heap.get? a = some o ∧ o.data = .func fd) ∧ wpC M A (call (.ref a) [v] []) Q E s₁) E s) : wpC M A (callWith pos (.ref a) [] [(false, t)] []) Q E s := by
  unfold callWith
  refine wpC_bind (wpC_holding (wpC_evalArgs1 (wpC_mono h (fun v s₁ h₁ => wpC_bind (wpC_standAt ?_)) fun _ _ x => x)))
  obtain ⟨⟨o, fd, ho, hd⟩, h₂⟩ := h₁
  refine wpC_bindA (m := keeperOf (.ref a)) ?_
  unfold keeperOf
  refine wpAny_bind (wpAny_load ho ?_)
  rw [hd]
  refine wpAny_pure ?_
  refine wpC_bind ?_
  show wpC M A (callMarked plainCall (.ref a) [v] []) _ _ _
  unfold callMarked
  exact wpC_keep (wpC_mono h₂ (fun r s₂ hr => wpC_bind (wpC_holding (wpC_point (wpC_pure hr)))) fun _ _ x => x)
theorem wpC_Call_Name {x : Str} {p pos : Pos} {args : List Expr} {trees : List (Bool × Sem Value)} {Q : Value → Shared → Prop} (ht : backTo pos (starEach args env) = trees)
    (h : wpAny M A (eval (.Name x p) env) (fun f s₁ => wpC M A (callWith pos f [] trees []) Q E s₁) E s) :
    wpC M A (eval (.Call (.Name x p) args [] pos) env) Q E s := by
  subst ht
  exact wpC_bindA h
theorem wpC_MethodCall {o : Expr} {name : Str} {apos pos : Pos} {args : List Expr} {pl : Sem Bool} {trees : List (Bool × Sem Value)} {Q : Value → Shared → Prop} (ht : backTo pos (starEach args env) = trees)
    (h : wpAny M A (eval o env) (fun ov s₁ => wpAny M A (getMethod ov name pl) (fun fx s₂ => wpC M A (callWith pos fx.1 fx.2 trees []) Q E s₂) E s₁) E s)
    (he : eval (.Call (.Attribute o name apos) args [] pos) env = (do
      let ov ← eval o env
      standAt apos.atName
      let (f, first) ← holding [ov] (getMethod ov name pl)
      callWith pos f first (backTo pos (starEach args env)) []) := by rfl) :
    wpC M A (eval (.Call (.Attribute o name apos) args [] pos) env) Q E s := by
  subst ht
  rw [he]
  exact wpC_bindA (wpAny_mono h (fun ov s₁ h₁ => wpC_bind (wpC_standAt (wpC_bindA (wpAny_holding (wpAny_mono h₁ (fun fx s₂ h₂ => h₂) fun _ _ x => x))))) fun _ _ x => x)
end
end Mine
namespace Mine
namespace BF
theorem plainAttrs_ba : PlainAttrs "bytearray" := ⟨⟨"bytearray.__getattribute__", by rw [typeLookup_type, builtinLookup_eq_fast]; kernel_rfl, by decide +kernel⟩, by rw [typeLookup_type, builtinLookup_eq_fast]; kernel_rfl⟩
theorem type_append : typeOf (.builtin "bytearray.append") = pure (.type "method_descriptor") := by show builtinType _ = _; rw [builtinType_eq_fast]; kernel_rfl
end BF
section
variable {prog : Program} {w : World} {A : Around} {E : Value → Shared → Prop} {s : Shared}
theorem getMethod_ba_append {M : Model} {a : Addr} {b : Array UInt8} {pl : Sem Bool} {Q : Value × List Value → Shared → Prop} (ho : s.heap.get? a = some (baObj b))
    (h : Q (.builtin "bytearray.append", [.ref a]) s) : wpAny M A (getMethod (.ref a) "append" pl) Q E s :=
  getMethod_builtin (baType ho) BF.plainAttrs_ba BF.slot_append BF.type_append (fun a' e => by cases e; exact ⟨_, ho, rfl⟩) h
theorem contains_zero {c : Array UInt8} {cs : List Int} (hc : KBw.bInts c = cs) (h0 : (0 : Int) ∉ cs) : c.contains (0 : Int).toNat.toUInt8 = false := by
  cases hq : c.contains (0 : Int).toNat.toUInt8 with
  | false => rfl
  | true =>
    exfalso
    have hm : (0 : Int).toNat.toUInt8 ∈ c := Array.contains_iff_mem.mp hq
    apply h0
    rw [← hc]
    unfold KBw.bInts
    exact List.mem_map.mpr ⟨_, Array.mem_toList_iff.mpr hm, rfl⟩
theorem in_bytes0 {c : Array UInt8} {t u : Tok} {cs : List Int} {Q : Value → Shared → Prop} (hc : KBw.bInts c = cs) (h0 : (0 : Int) ∉ cs) (h : Q (.bool false) s) :
    wpAny (model prog w) A (compareOp .In (.int 0 u) (.bytes c t)) Q E s := by
  show wpAny _ _ (contains (.bytes c t) (.int 0 u) >>= fun b => pure (Value.bool b)) _ _ _
  refine wpAny_bind (wpAny_contains_slot (PySem.W.typeIs_bytes _ _ _) FB.slot_bytes_contains ?_)
  refine wpAny_call_entry FB.slot_bytes_contains (PySem.W.typeIs_bytes _ _ _) FB.entry_bytes_contains ?_ (FB.args_bytes_contains_2 _ _)
  unfold Builtin.«bytes.__contains__»
  refine wpAny_bind (wpAny_of_eq (a := (.bytes c t, [.int 0 u])) rfl ?_)
  refine wpAny_bind ?_
  unfold Builtin.Bytes.containsIn
  refine wpAny_bind (wpAny_of_eq (a := .ok 0) rfl ?_)
  refine wpAny_bind (buffer_bytes ?_)
  dsimp only
  refine bm_if_false (by decide) (wpAny_pure (wpAny_pure ?_))
  rw [contains_zero hc h0]
  exact ⟨_, rfl, wpAny_truthy_bool (wpAny_pure h)⟩
end
end Mine
namespace Mine
/-- octets without a nought -/
def NZ (ks : List Int) : Prop := ∀ k ∈ ks, 1 ≤ k ∧ k ≤ 255
theorem NZ.cut {ks : List Int} (h : NZ ks) {a b : Nat} : (0 : Int) ∉ (ks.drop a).take b := fun hm => by
  have := h 0 (List.mem_of_mem_drop (List.mem_of_mem_take hm)); omega
section
variable {prog : Program} {w : World} {A : Around} {E : Value → Shared → Prop} {Q : Flow → Shared → Prop} {s : Shared} {env : Env} {h₀ : Heap} {L : Addr}
/-- a while in the clean logic, by an invariant over its names and one ledger -/
theorem mc_while {σ : Type} {test : Expr} {body : List Stmt} {pos : Pos} {m₀ : Str → Option Value} (Led : σ → List (Addr × Obj)) (ps : σ → List (Str × Value)) (stored : List Str) (P : σ → Prop) (μ : σ → Nat) (c₀ : σ)
    (F : Fr h₀ L s.heap m₀) (N : News h₀ L s.heap (Led c₀)) (hk : ∀ p ∈ ps c₀, m₀ p.1 = some p.2) (hp : P c₀)
    (turn : ∀ (c : σ) (u : Str → Option Value) h tk, P c → Fr h₀ L h (kstB (fun z => if stored.contains z then u z else m₀ z) (ps c)) → News h₀ L h (Led c) →
      wpC (model prog w) A (isTrue test env (eval test env)) (fun b s₂ =>
        if b = true then wpC (model prog w) A (execs body env) (KswPost h₀ L s Led ps (fun _ => True) stored m₀ P μ Q c) E s₂ else Q .next s₂) E { s with heap := h, toks := tk })
    (hE : PassesOwn (model prog w) A env E) :
    wpC (model prog w) A (exec (.While test body [] pos) env) Q E s := by
  refine wpC_While (fun n s' => ∃ (c : σ) (h : Heap) (tk : Nat) (m : Str → Option Value), s' = { s with heap := h, toks := tk } ∧ Fr h₀ L h m ∧ News h₀ L h (Led c) ∧ μ c = n ∧ (∀ p ∈ ps c, m p.1 = some p.2) ∧ (∀ z, (∀ p ∈ ps c, z ≠ p.1) → stored.contains z = false → m z = m₀ z) ∧ P c) hE ?_ (μ c₀)
    ⟨c₀, s.heap, s.toks, m₀, rfl, F, N, rfl, hk, fun _ _ _ => rfl, hp⟩
  rintro n s' ⟨c, h, tk, m, rfl, F₁, N₁, hsz, h1, h2, hp'⟩
  rw [← hsz]
  refine wpC_mono (turn c m h tk hp' (ksw_fr h1 h2 F₁) N₁) (fun b s₂ p => ?_) fun _ _ x => x
  cases b with
  | false => simpa using p
  | true =>
    simp only [if_true] at p ⊢
    refine wpC_mono p (fun f s₃ q => ?_) fun _ _ x => x
    cases f with
    | ret v => exact q
    | brk => exact q
    | next =>
      obtain ⟨c', h', tk', m', news', rfl, F', N', hn, hf9, hk9, hr9, hp9, hm9⟩ := q
      exact ⟨μ c', hm9, c', h', tk', m', rfl, F', fun p hp => N' p (hn p hp), rfl, hk9, hr9, hp9⟩
    | cont =>
      obtain ⟨c', h', tk', m', news', rfl, F', N', hn, hf9, hk9, hr9, hp9, hm9⟩ := q
      exact ⟨μ c', hm9, c', h', tk', m', rfl, F', fun p hp => N' p (hn p hp), rfl, hk9, hr9, hp9⟩
end
theorem bInts_push {b : Array UInt8} {os : List Int} {n : Int} (hb : KBw.bInts b = os) (h0 : 0 ≤ n) (h1 : n < 256) : KBw.bInts (b.push n.toNat.toUInt8) = os ++ [n] := by
  subst hb
  unfold KBw.bInts
  rw [Array.toList_push, List.map_append, List.map_singleton, byte_back h0 h1]
theorem bInts_size {b : Array UInt8} {os : List Int} (hb : KBw.bInts b = os) : b.size = os.length := by rw [← hb, KBw.ints_length]
section
variable {prog : Program} {w : World} {A : Around} {E : Value → Shared → Prop} {s : Shared} {h₀ : Heap} {L : Addr} {m : Str → Option Value} {news : List (Addr × Obj)}
theorem ba_appendK {a : Addr} {b : Array UInt8} {os : List Int} {n : Int} {t : Tok} {Q : Value → Shared → Prop} (hg : A.guards = some []) (F : Fr h₀ L s.heap m) (N : News h₀ L s.heap ((a, baObj b) :: news)) (hne : ∀ p ∈ news, p.1 ≠ a) (hb : KBw.bInts b = os)
    (h0 : 0 ≤ n) (h1 : n < 256) (hz : os.length < 16777216) (h : ∀ d h', KBw.bInts d = os ++ [n] → Fr h₀ L h' m → News h₀ L h' ((a, baObj d) :: news) → Q .none { s with heap := h' }) :
    wpC (model prog w) A (call (.builtin "bytearray.append") [.ref a, .int n t]) Q E s :=
  ba_append hg F N (.head hne) h0 h1 (by rw [bInts_size hb, sizeLine_eq]; omega) fun h' F' N' => h _ h' (bInts_push hb h0 h1) F' N'
theorem ba_iaddK {a : Addr} {b c : Array UInt8} {os cs : List Int} {t : Tok} {Q : Value → Shared → Prop} (hg : A.guards = some []) (F : Fr h₀ L s.heap m) (N : News h₀ L s.heap ((a, baObj b) :: news)) (hne : ∀ p ∈ news, p.1 ≠ a) (hb : KBw.bInts b = os) (hc : KBw.bInts c = cs)
    (hz : os.length + cs.length ≤ 16777216) (h : ∀ d h', KBw.bInts d = os ++ cs → Fr h₀ L h' m → News h₀ L h' ((a, baObj d) :: news) → Q (.ref a) { s with heap := h' }) :
    wpC (model prog w) A (inplaceOp .Add (.ref a) (.bytes c t)) Q E s :=
  ba_iadd hg F N (.head hne) (by rw [bInts_size hb, bInts_size hc, sizeLine_eq]; omega) fun h' F' N' => h _ h' (KBw.ints_app hb hc) F' N'
theorem call_bytes_baK {a : Addr} {b : Array UInt8} {os : List Int} {Q : Value → Shared → Prop} (N : News h₀ L s.heap ((a, baObj b) :: news)) (hb : KBw.bInts b = os) (hz : os.length ≤ 16777216) (hQ : ∀ t k, Q (.bytes b t) { s with toks := k }) :
    wpAny (model prog w) A (call (.type "bytes") [.ref a]) Q E s := call_bytes_ba (N.get (.head _)) (by rw [bInts_size hb, sizeLine_eq]; omega) hQ
end
/-! ## the plain readers -/
def decR : List Int → List Int
  | [] => []
  | c :: r =>
    if (r.length : Int) < c - 1 then r ++ [c]
    else if (r.length : Int) = c - 1 then r
    else r.take (c - 1).toNat ++ (if c < 255 then [0] else []) ++ decR (r.drop (c - 1).toNat)
termination_by l => l.length
decreasing_by simp only [List.length_drop, List.length_cons]; omega
theorem decR_cons (c : Int) (r : List Int) : decR (c :: r) = if (r.length : Int) < c - 1 then r ++ [c]
    else if (r.length : Int) = c - 1 then r
    else r.take (c - 1).toNat ++ (if c < 255 then [0] else []) ++ decR (r.drop (c - 1).toNat) := by
  rw [decR]
theorem drop_at {ks : List Int} {i : Nat} (hi : i < ks.length) : ks.drop i = ks.getD (i : Int).toNat 0 :: ks.drop (i + 1) := by
  rw [Int.toNat_natCast, List.getD_eq_getElem?_getD, List.getElem?_eq_getElem hi]
  exact List.drop_eq_getElem_cons hi
theorem at_in {ks : List Int} {i : Nat} (hi : i < ks.length) (hnz : NZ ks) : 1 ≤ ks.getD (i : Int).toNat 0 ∧ ks.getD (i : Int).toNat 0 ≤ 255 := by
  rw [Int.toNat_natCast, List.getD_eq_getElem?_getD, List.getElem?_eq_getElem hi]
  exact hnz _ (List.getElem_mem _)
/-- the octets that a code copies, as the walk says them -/
abbrev cutOf (ks : List Int) (i : Nat) (c : Int) : List Int := List.take (clipAt ks.length ((i : Int) + 1 + c - 1) - clipAt ks.length ((i : Int) + 1)) (List.drop (clipAt ks.length ((i : Int) + 1)) ks)
theorem clip_pos {n : Nat} {x : Int} (h : 0 ≤ x) : clipAt n x = min x.toNat n := by
  obtain ⟨k, rfl⟩ := Int.eq_ofNat_of_zero_le h
  exact clipAt_nat n k
theorem cutOf_eq {ks : List Int} {i : Nat} {c : Int} (hi : i < ks.length) (h1 : 1 ≤ c) : cutOf ks i c = (ks.drop (i + 1)).take (c - 1).toNat := by
  unfold cutOf
  rw [clip_pos (by omega), clip_pos (by omega)]
  have e1 : min ((i : Int) + 1).toNat ks.length = i + 1 := by omega
  rw [e1]
  by_cases h : (i : Int) + c ≤ ks.length
  · congr 1; omega
  · rw [List.take_of_length_le (by rw [List.length_drop]; omega), List.take_of_length_le (by rw [List.length_drop]; omega)]
theorem decR_over {ks os : List Int} {i : Nat} {c : Int} (hd : ks.drop i = c :: ks.drop (i + 1)) (hi : i < ks.length) (h1 : 1 ≤ c) (heq : os ++ decR (ks.drop i) = decR ks) (ha : (ks.length : Int) < (i : Int) + 1 + c - 1) :
    os ++ cutOf ks i c ++ [c] = decR ks := by
  rw [← heq, hd, decR_cons, if_pos (by rw [List.length_drop]; omega), cutOf_eq hi h1, List.take_of_length_le (by rw [List.length_drop]; omega), List.append_assoc]
theorem decR_end {ks os : List Int} {i : Nat} {c : Int} (hd : ks.drop i = c :: ks.drop (i + 1)) (hi : i < ks.length) (h1 : 1 ≤ c) (heq : os ++ decR (ks.drop i) = decR ks) (ha : ¬ (ks.length : Int) < (i : Int) + 1 + c - 1) (hb : ¬ (i : Int) + 1 + c - 1 < (ks.length : Int)) :
    os ++ cutOf ks i c = decR ks := by
  rw [← heq, hd, decR_cons, if_neg (by rw [List.length_drop]; omega), if_pos (by rw [List.length_drop]; omega), cutOf_eq hi h1, List.take_of_length_le (by rw [List.length_drop]; omega)]
theorem decR_next {ks os : List Int} {i : Nat} {c : Int} (hd : ks.drop i = c :: ks.drop (i + 1)) (hi : i < ks.length) (h1 : 1 ≤ c) (heq : os ++ decR (ks.drop i) = decR ks) (hb : (i : Int) + 1 + c - 1 < (ks.length : Int)) :
    os ++ cutOf ks i c ++ (if c < 255 then [0] else []) ++ decR (ks.drop ((i : Int) + 1 + c - 1).toNat) = decR ks := by
  have n1 : ¬ ((ks.drop (i + 1)).length : Int) < c - 1 := by rw [List.length_drop]; omega
  have n2 : ¬ ((ks.drop (i + 1)).length : Int) = c - 1 := by rw [List.length_drop]; omega
  rw [← heq, hd, decR_cons, if_neg n1, if_neg n2, cutOf_eq hi h1, List.drop_drop]
  have e : i + 1 + (c - 1).toNat = ((i : Int) + 1 + c - 1).toNat := by omega
  rw [e]
  simp only [List.append_assoc]
theorem decR_next0 {ks os : List Int} {i : Nat} {c : Int} (hd : ks.drop i = c :: ks.drop (i + 1)) (hi : i < ks.length) (h1 : 1 ≤ c) (heq : os ++ decR (ks.drop i) = decR ks) (hb : (i : Int) + 1 + c - 1 < (ks.length : Int)) (hc : c < 255) :
    os ++ cutOf ks i c ++ [0] ++ decR (ks.drop ((i : Int) + 1 + c - 1).toNat) = decR ks := by
  have := decR_next hd hi h1 heq hb
  rwa [if_pos hc] at this
theorem decR_next1 {ks os : List Int} {i : Nat} {c : Int} (hd : ks.drop i = c :: ks.drop (i + 1)) (hi : i < ks.length) (h1 : 1 ≤ c) (heq : os ++ decR (ks.drop i) = decR ks) (hb : (i : Int) + 1 + c - 1 < (ks.length : Int)) (hc : ¬ c < 255) :
    os ++ cutOf ks i c ++ decR (ks.drop ((i : Int) + 1 + c - 1).toNat) = decR ks := by
  have := decR_next hd hi h1 heq hb
  rwa [if_neg hc, List.append_nil] at this
theorem cutOf_length {ks : List Int} {i : Nat} {c : Int} (hi : i < ks.length) (h1 : 1 ≤ c) : ((cutOf ks i c).length : Int) ≤ c - 1 := by
  rw [cutOf_eq hi h1, List.length_take]; omega
theorem end_idx {h₀ : Heap} {L B : Addr} {s : Shared} {news : List (Addr × Obj)} {stored : List Str} {m₀ m' : Str → Option Value} {P : Nat × Array UInt8 × Tok → Prop} {μ : Nat × Array UInt8 × Tok → Nat} {c : Nat × Array UInt8 × Tok} {h' : Heap} {tk : Nat}
    (i' : Nat) (d : Array UInt8) (v : Int) (tv : Tok) (F : Fr h₀ L h' m') (N : News h₀ L h' ((B, baObj d) :: news)) (hv : m' (Str.ofString "idx") = some (.int v tv)) (e : v = (i' : Int))
    (hr : ∀ z, ¬ z = Str.ofString "idx" → stored.contains z = false → m' z = m₀ z) (hp : P (i', d, tv)) (hm : μ (i', d, tv) < μ c) :
    KswEnd h₀ L s (fun c => (B, baObj c.2.1) :: news) (fun c => [(Str.ofString "idx", .int (c.1 : Int) c.2.2)]) (fun _ => True) stored m₀ P μ c { s with heap := h', toks := tk } := by
  subst e
  exact ksw_end (i', d, tv) F N (fun p hp => hp) trivial (List.forall_mem_singleton.mpr hv) (fun z h2 h3 => hr z (h2 _ (.head _)) h3) hp hm
def decP : List Int → Option (List Int)
  | [] => some []
  | c :: r =>
    if (r.length : Int) < c - 1 then none
    else if (r.length : Int) = c - 1 then some r
    else (decP (r.drop (c - 1).toNat)).map fun x => r.take (c - 1).toNat ++ (if c < 255 then [0] else []) ++ x
termination_by l => l.length
decreasing_by simp only [List.length_drop, List.length_cons]; omega
theorem decP_cons (c : Int) (r : List Int) : decP (c :: r) = if (r.length : Int) < c - 1 then none
    else if (r.length : Int) = c - 1 then some r
    else (decP (r.drop (c - 1).toNat)).map fun x => r.take (c - 1).toNat ++ (if c < 255 then [0] else []) ++ x := by
  rw [decP]
theorem decP_over {ks os : List Int} {i : Nat} {c : Int} (hd : ks.drop i = c :: ks.drop (i + 1)) (hi : i < ks.length) (heq : (decP (ks.drop i)).map (os ++ ·) = decP ks) (ha : (ks.length : Int) < (i : Int) + 1 + c - 1) :
    decP ks = none := by
  rw [← heq, hd, decP_cons, if_pos (by rw [List.length_drop]; omega)]; rfl
theorem decP_end {ks os : List Int} {i : Nat} {c : Int} (hd : ks.drop i = c :: ks.drop (i + 1)) (hi : i < ks.length) (h1 : 1 ≤ c) (heq : (decP (ks.drop i)).map (os ++ ·) = decP ks) (ha : ¬ (ks.length : Int) < (i : Int) + 1 + c - 1) (hb : ¬ (i : Int) + 1 + c - 1 < (ks.length : Int)) :
    some (os ++ cutOf ks i c) = decP ks := by
  rw [← heq, hd, decP_cons, if_neg (by rw [List.length_drop]; omega), if_pos (by rw [List.length_drop]; omega), cutOf_eq hi h1, List.take_of_length_le (by rw [List.length_drop]; omega)]; rfl
theorem decP_next {ks os : List Int} {i : Nat} {c : Int} (hd : ks.drop i = c :: ks.drop (i + 1)) (hi : i < ks.length) (h1 : 1 ≤ c) (heq : (decP (ks.drop i)).map (os ++ ·) = decP ks) (hb : (i : Int) + 1 + c - 1 < (ks.length : Int)) :
    (decP (ks.drop ((i : Int) + 1 + c - 1).toNat)).map (os ++ cutOf ks i c ++ (if c < 255 then [0] else []) ++ ·) = decP ks := by
  have n1 : ¬ ((ks.drop (i + 1)).length : Int) < c - 1 := by rw [List.length_drop]; omega
  have n2 : ¬ ((ks.drop (i + 1)).length : Int) = c - 1 := by rw [List.length_drop]; omega
  rw [← heq, hd, decP_cons, if_neg n1, if_neg n2, cutOf_eq hi h1, List.drop_drop]
  have e : i + 1 + (c - 1).toNat = ((i : Int) + 1 + c - 1).toNat := by omega
  rw [e, Option.map_map]
  congr 1
  funext x
  simp only [Function.comp, List.append_assoc]
theorem decP_next0 {ks os d : List Int} {i : Nat} {c : Int} (hd : ks.drop i = c :: ks.drop (i + 1)) (hi : i < ks.length) (h1 : 1 ≤ c) (heq : (decP (ks.drop i)).map (os ++ ·) = decP ks) (hb : (i : Int) + 1 + c - 1 < (ks.length : Int)) (hc : c < 255) (e : d = os ++ cutOf ks i c ++ [0]) :
    (decP (ks.drop ((i : Int) + 1 + c - 1).toNat)).map (d ++ ·) = decP ks := by
  have := decP_next hd hi h1 heq hb
  rw [if_pos hc] at this
  rw [e]; exact this
theorem decP_next1 {ks os d : List Int} {i : Nat} {c : Int} (hd : ks.drop i = c :: ks.drop (i + 1)) (hi : i < ks.length) (h1 : 1 ≤ c) (heq : (decP (ks.drop i)).map (os ++ ·) = decP ks) (hb : (i : Int) + 1 + c - 1 < (ks.length : Int)) (hc : ¬ c < 255) (e : d = os ++ cutOf ks i c) :
    (decP (ks.drop ((i : Int) + 1 + c - 1).toNat)).map (d ++ ·) = decP ks := by
  have := decP_next hd hi h1 heq hb
  rw [if_neg hc] at this
  rw [e]; simpa using this
theorem raised_tail {base : Heap} {l : List Env} {e : Addr} {cls : Value} {t : Addr} {vs : List Value} {q : Addr × Obj} {news : List (Addr × Obj)} {h : Heap} (R : RaisedK base l e cls t vs (q :: news) h) : RaisedK base l e cls t vs news h := by
  obtain ⟨⟨B, h1, h2, h3⟩, h4⟩ := R
  exact ⟨⟨B, h1, fun q hq => h2 q (.tail _ hq), h3⟩, h4⟩
end Mine
namespace Mine
theorem fr_but {h₀ h h' : Heap} {L a : Addr} {m : Str → Option Value} (F : Fr h₀ L h m) (ha : a ≠ L) (hn : h₀.get? a = none) (hk : ∀ b o, b ≠ a → h.get? b = some o → h'.get? b = some o) : Fr h₀ L h' m :=
  ⟨F.ns.at' fun o e => hk _ o (Ne.symm ha) e, fun b o e => hk b o (fun q => by rw [q, hn] at e; cases e) (F.keep b o e), F.above⟩
theorem news_but {h₀ h h' : Heap} {L a : Addr} {news : List (Addr × Obj)} (N : News h₀ L h news) (hne : ∀ p ∈ news, p.1 ≠ a) (hk : ∀ b o, b ≠ a → h.get? b = some o → h'.get? b = some o) : News h₀ L h' news :=
  fun p hp => ⟨hk _ _ (hne p hp) (N p hp).1, (N p hp).2⟩
def McbEnd {σ : Type} (h₀ : Heap) (L : Addr) (s : Shared) (arr : σ → Array UInt8) (ps : σ → List (Str × Value)) (x : Str) (stored : List Str) (m₀ : Str → Option Value) (P : σ → Prop) (B : Addr) (R : List (Addr × Obj)) (s₂ : Shared) : Prop :=
  ∃ (c' : σ) (h' : Heap) (tk : Nat) (m' : Str → Option Value), s₂ = { s with heap := h', toks := tk } ∧ Fr h₀ L h' m' ∧ News h₀ L h' ((B, baObj (arr c')) :: R) ∧ (∀ p ∈ ps c', m' p.1 = some p.2) ∧ (∀ z, z ≠ x → (∀ p ∈ ps c', z ≠ p.1) → stored.contains z = false → m' z = m₀ z) ∧ P c'
def McbPost {σ : Type} (h₀ : Heap) (L : Addr) (s : Shared) (arr : σ → Array UInt8) (ps : σ → List (Str × Value)) (x : Str) (stored : List Str) (m₀ : Str → Option Value) (P : σ → Prop) (B : Addr) (R : List (Addr × Obj)) (Q : Flow → Shared → Prop) (f : Flow) (s₂ : Shared) : Prop :=
  match f with
  | .ret v => Q (.ret v) s₂
  | .brk => Q .next s₂
  | _ => McbEnd h₀ L s arr ps x stored m₀ P B R s₂
section
variable {prog : Program} {w : World} {A : Around} {E : Value → Shared → Prop} {Q : Flow → Shared → Prop} {s : Shared} {env : Env} {h₀ : Heap}
/-- a for over bytes in the clean logic, the turn may change one bytearray and names of the frame -/
theorem mc_bytes {σ : Type} {x : Str} {px pos : Pos} {iter : Expr} {body : List Stmt} {b : Array UInt8} {ks : List Int} {tb : Tok} {m₀ : Str → Option Value} {B : Addr} {R : List (Addr × Obj)}
    (arr : σ → Array UInt8) (ps : σ → List (Str × Value)) (stored : List Str) (P : Nat → σ → Prop) (c₀ : σ)
    (hb : KBw.bInts b = ks) (hh : A.handled = none) (hx : env.kindOf x = some .local) (hpk : (env.scope.kind == .class || (env.scope.kind == .module && env.locals != env.globals)) = false)
    (F : Fr h₀ env.locals s.heap m₀) (N : News h₀ env.locals s.heap ((B, baObj (arr c₀)) :: R)) (hne : ∀ p ∈ R, p.1 ≠ B) (hk : ∀ p ∈ ps c₀, m₀ p.1 = some p.2) (hp : P 0 c₀)
    (hev : ∀ Q' : Value → Shared → Prop, Q' (.bytes b tb) s → wpAny (model prog w) A (eval iter env) Q' E s)
    (turn : ∀ (i : Nat) (c : σ) (t : Tok) (u : Str → Option Value) (I : Addr) (o : Obj) (h : Heap) (tk : Nat), i < ks.length → P i c → (∀ p ∈ (I, o) :: R, p.1 ≠ B) →
      Fr h₀ env.locals h (fun y => if y = x then some (.int (ks.getD i 0) t) else kstB (fun z => if stored.contains z then u z else m₀ z) (ps c) y) → News h₀ env.locals h ((B, baObj (arr c)) :: (I, o) :: R) →
      wpC (model prog w) A (execs body env) (McbPost h₀ env.locals s arr ps x stored m₀ (P (i + 1)) B ((I, o) :: R) Q) E { s with heap := h, toks := tk })
    (done : ∀ (c : σ) (u : Str → Option Value) (h : Heap) (tk : Nat), P ks.length c → Fr h₀ env.locals h (fun y => if y = x then u y else kstB (fun z => if stored.contains z then u z else m₀ z) (ps c) y) → News h₀ env.locals h ((B, baObj (arr c)) :: R) → Q .next { s with heap := h, toks := tk })
    (hE : PassesOwn (model prog w) A env E) (hs : ∀ x, foldedSetIterable iter env x = pure x) :
    wpC (model prog w) A (exec (.For (.Name x px) iter body [] pos) env) Q E s := by
  have hsz : b.size = ks.length := bInts_size hb
  refine wpC_For hE (hev _ (KBw.pyIter_bytes ?_)) hs
  have hIL : s.heap.objs.size ≠ env.locals := Nat.ne_of_gt F.ns.lt
  have hIn : h₀.get? s.heap.objs.size = none := next_is_new F
  have hIR : ∀ p ∈ R, p.1 ≠ s.heap.objs.size := fun p hp => Nat.ne_of_lt (Heap.lt_size (N p (.tail _ hp)).1)
  have hIB : B ≠ s.heap.objs.size := Nat.ne_of_lt (Heap.lt_size (N _ (.head _)).1)
  refine ⟨fun n s' => ∃ (i : Nat) (c : σ) (h : Heap) (tk : Nat) (m : Str → Option Value), s' = { s with heap := h, toks := tk } ∧ i ≤ ks.length ∧ n = ks.length - i ∧ Fr h₀ env.locals h m ∧ News h₀ env.locals h ((B, baObj (arr c)) :: R) ∧ KBw.IsBytesIter h s.heap.objs.size b tb i ∧ (∀ p ∈ ps c, m p.1 = some p.2) ∧ (∀ z, z ≠ x → (∀ p ∈ ps c, z ≠ p.1) → stored.contains z = false → m z = m₀ z) ∧ P i c,
    ks.length, ⟨0, c₀, _, s.toks, m₀, rfl, Nat.zero_le _, rfl, F.push _, (fun p hp => ⟨Heap.get?_push_of_some _ (N p hp).1, (N p hp).2⟩), ⟨_, Heap.get?_push_size _ rfl, rfl, rfl⟩, hk, fun _ _ _ _ => rfl, hp⟩, ?_⟩
  rintro n s' ⟨i, c, h, tk, m, rfl, hi, rfl, F₁, N₁, hit, h1, h2, hp'⟩
  have hNB : ∀ p ∈ ((B, baObj (arr c)) :: R), p.1 ≠ s.heap.objs.size := by
    intro p hp
    rcases List.mem_cons.mp hp with rfl | hp
    · exact hIB
    · exact hIR p hp
  by_cases hlt : i < ks.length
  · have hbi : i < b.size := by omega
    have hget : b[i]? = some b[i] := Array.getElem?_eq_getElem hbi
    have hv : ((b[i].toNat : Nat) : Int) = ks.getD i 0 := by
      have := KBw.ints_get hget
      rw [hb] at this
      rw [List.getD_eq_getElem?_getD, this]; rfl
    refine KBw.next_item (s := { s with heap := h, toks := tk }) hit hget fun h₁ hit₁ hs₁ => ?_
    dsimp only
    rw [hv]
    refine wpAny_of_eq (a := ()) rfl ?_
    have F₂ : Fr h₀ env.locals h₁ m := fr_but F₁ hIL hIn fun b o hb e => hs₁.extBut b o hb e
    have N₂ : News h₀ env.locals h₁ ((B, baObj (arr c)) :: R) := news_but N₁ hNB fun b o hb e => hs₁.extBut b o hb e
    refine wpAny_assign_Name (wpAny_storeName_local hx F₂.ns (fun h₂ hn₂ hs₂ => ?_) hpk)
    have F₃ := F₂.set hn₂ hs₂
    have N₃ : News h₀ env.locals h₂ ((B, baObj (arr c)) :: R) := N₂.set hs₂
    obtain ⟨o, ho, hoc, hod⟩ := hit₁
    have ho₂ : h₂.get? s.heap.objs.size = some o := (hs₂.2 _ hIL).trans ho
    have em : (fun y => if y = x then some (Value.int (ks.getD i 0) tk) else m y) = (fun y => if y = x then some (Value.int (ks.getD i 0) tk) else kstB (fun z => if stored.contains z then m z else m₀ z) (ps c) y) := by
      funext y
      by_cases hy : y = x
      · simp [hy]
      · simp only [if_neg hy]
        symm
        refine kstB_eq h1 fun hn => ?_
        show (if stored.contains y = true then m y else m₀ y) = m y
        cases h3 : stored.contains y with
        | true => simp
        | false => simp only [Bool.false_eq_true, if_false]; exact (h2 y hy hn h3).symm
    rw [em] at F₃
    refine wpC_mono (turn i c tk m s.heap.objs.size o h₂ _ hlt hp' ?_ F₃ ?_) (fun f s₃ q => ?_) fun _ _ x => x
    · intro p hp
      rcases List.mem_cons.mp hp with rfl | hp
      · exact Ne.symm hIB
      · exact hne p hp
    · intro p hp
      rcases List.mem_cons.mp hp with rfl | hp
      · exact N₃ _ (.head _)
      · rcases List.mem_cons.mp hp with rfl | hp
        · exact ⟨ho₂, hIL, hIn⟩
        · exact N₃ p (.tail _ hp)
    · have fin : McbEnd h₀ env.locals s arr ps x stored m₀ (P (i + 1)) B ((s.heap.objs.size, o) :: R) s₃ → ∃ m₁, m₁ < ks.length - i ∧ ∃ (i : Nat) (c : σ) (h : Heap) (tk : Nat) (m : Str → Option Value), s₃ = { s with heap := h, toks := tk } ∧ i ≤ ks.length ∧ m₁ = ks.length - i ∧ Fr h₀ env.locals h m ∧ News h₀ env.locals h ((B, baObj (arr c)) :: R) ∧ KBw.IsBytesIter h s.heap.objs.size b tb i ∧ (∀ p ∈ ps c, m p.1 = some p.2) ∧ (∀ z, z ≠ x → (∀ p ∈ ps c, z ≠ p.1) → stored.contains z = false → m z = m₀ z) ∧ P i c := by
        rintro ⟨c', h', tk', m', rfl, F', N', hk', hr', hp'⟩
        refine ⟨ks.length - (i + 1), by omega, i + 1, c', h', tk', m', rfl, hlt, rfl, F', fun p hp => ?_, ⟨o, (N' (_, o) (.tail _ (.head _))).1, hoc, hod⟩, hk', hr', hp'⟩
        rcases List.mem_cons.mp hp with rfl | hp
        · exact N' _ (.head _)
        · exact N' p (.tail _ (.tail _ hp))
      cases f with
      | ret v => exact q
      | brk => exact q
      | next => exact fin q
      | cont => exact fin q
  · have hin : i = ks.length := by omega
    subst hin
    refine KBw.next_end (s := { s with heap := h, toks := tk }) hh hit (by rw [Array.getElem?_eq_none_iff]; omega) fun h₁ hs₁ => ?_
    have F₂ : Fr h₀ env.locals h₁ m := fr_but F₁ hIL hIn fun b o hb e => hs₁ b o hb e
    have N₂ : News h₀ env.locals h₁ ((B, baObj (arr c)) :: R) := news_but N₁ hNB fun b o hb e => hs₁ b o hb e
    have em : m = (fun y => if y = x then m y else kstB (fun z => if stored.contains z then m z else m₀ z) (ps c) y) := by
      funext y
      by_cases hy : y = x
      · simp [hy]
      · simp only [if_neg hy]
        symm
        refine kstB_eq h1 fun hn => ?_
        show (if stored.contains y = true then m y else m₀ y) = m y
        cases h3 : stored.contains y with
        | true => simp
        | false => simp only [Bool.false_eq_true, if_false]; exact (h2 y hy hn h3).symm
    rw [em] at F₂
    exact done c m h₁ tk hp' F₂ N₂
end
/-! ## the plain writers -/
def encPgo (cur : List Int) (fz : Bool) : List Int → List Int
  | [] => if cur ≠ [] ∨ fz = true then ((cur.length : Int) + 1) :: cur else []
  | x :: xs =>
    if x = 0 then ((cur.length : Int) + 1) :: cur ++ encPgo [] true xs
    else if cur.length = 253 then 255 :: (cur ++ [x]) ++ encPgo [] false xs
    else encPgo (cur ++ [x]) fz xs
/-- the part that is not yet written -/
abbrev curOf (ks : List Int) (st i : Nat) : List Int := (ks.drop st).take (i - st)
theorem curOf_length {ks : List Int} {st i : Nat} (h1 : st ≤ i) (h2 : i ≤ ks.length) : (curOf ks st i).length = i - st := by
  rw [List.length_take, List.length_drop]; omega
theorem curOf_snoc {ks : List Int} {st i : Nat} (h1 : st ≤ i) (h2 : i < ks.length) : curOf ks st i ++ [ks.getD i 0] = curOf ks st (i + 1) := by
  unfold curOf
  rw [show i + 1 - st = (i - st) + 1 from by omega, List.take_add_one, List.getElem?_drop, show st + (i - st) = i from by omega, List.getD_eq_getElem?_getD, List.getElem?_eq_getElem h2]
  rfl
theorem curOf_nil (ks : List Int) (i : Nat) : curOf ks i i = [] := by simp [curOf]
theorem drop_getD {ks : List Int} {i : Nat} (hi : i < ks.length) : ks.drop i = ks.getD i 0 :: ks.drop (i + 1) := by
  rw [List.getD_eq_getElem?_getD, List.getElem?_eq_getElem hi]
  exact List.drop_eq_getElem_cons hi
theorem clip_cur {ks : List Int} {st i : Nat} (h1 : st ≤ i) (h2 : i ≤ ks.length) : List.take (clipAt ks.length (i : Int) - clipAt ks.length (st : Int)) (List.drop (clipAt ks.length (st : Int)) ks) = curOf ks st i := by
  rw [clip_pos (by omega), clip_pos (by omega), Int.toNat_natCast, Int.toNat_natCast, Nat.min_eq_left h2, Nat.min_eq_left (by omega)]
theorem clip_cur1 {ks : List Int} {st i : Nat} (h1 : st ≤ i) (h2 : i < ks.length) : List.take (clipAt ks.length ((i : Int) + 1) - clipAt ks.length (st : Int)) (List.drop (clipAt ks.length (st : Int)) ks) = curOf ks st (i + 1) := clip_cur (i := i + 1) (by omega) h2
/-- a writer's state between the turns -/
structure EncS where
  idx : Nat
  st : Nat
  fz : Bool
  arr : Array UInt8
  t1 : Tok
  t2 : Tok
theorem enc_start {h₀ h : Heap} {L : Addr} {m₀ : Str → Option Value} (F : Fr h₀ L h m₀) {fz : Bool} {t1 t2 : Tok} (h1 : m₀ (Str.ofString "idx") = some (.int 0 t1)) (h2 : m₀ (Str.ofString "search_start_idx") = some (.int 0 t2)) (h3 : m₀ (Str.ofString "final_zero") = some (.bool fz)) :
    ∀ p ∈ (fun c : EncS => [(Str.ofString "idx", Value.int (c.idx : Int) c.t1), (Str.ofString "search_start_idx", .int (c.st : Int) c.t2), (Str.ofString "final_zero", .bool c.fz)]) ⟨0, 0, fz, #[], t1, t2⟩, m₀ p.1 = some p.2 :=
  List.forall_mem_cons.mpr ⟨h1, List.forall_mem_cons.mpr ⟨h2, List.forall_mem_cons.mpr ⟨h3, List.forall_mem_nil _⟩⟩⟩
theorem enc_end {h₀ : Heap} {L B : Addr} {s : Shared} {R : List (Addr × Obj)} {x : Str} {m₀ m' : Str → Option Value} {P : EncS → Prop} {h' : Heap} {tk : Nat}
    (i' st' : Nat) (fz' : Bool) (d : Array UInt8) (v1 v2 : Int) (t1 t2 : Tok) (F : Fr h₀ L h' m') (N : News h₀ L h' ((B, baObj d) :: R)) (h1 : m' (Str.ofString "idx") = some (.int v1 t1)) (e1 : v1 = (i' : Int)) (h2 : m' (Str.ofString "search_start_idx") = some (.int v2 t2)) (e2 : v2 = (st' : Int)) (h3 : m' (Str.ofString "final_zero") = some (.bool fz'))
    (hr : ∀ z, ¬ z = x → ¬ z = Str.ofString "idx" → ¬ z = Str.ofString "search_start_idx" → ¬ z = Str.ofString "final_zero" → m' z = m₀ z) (hp : P ⟨i', st', fz', d, t1, t2⟩) :
    McbEnd h₀ L s (·.arr) (fun c : EncS => [(Str.ofString "idx", .int (c.idx : Int) c.t1), (Str.ofString "search_start_idx", .int (c.st : Int) c.t2), (Str.ofString "final_zero", .bool c.fz)]) x [] m₀ P B R { s with heap := h', toks := tk } := by
  subst e1 e2
  refine ⟨⟨i', st', fz', d, t1, t2⟩, h', tk, m', rfl, F, N, List.forall_mem_cons.mpr ⟨h1, List.forall_mem_cons.mpr ⟨h2, List.forall_mem_cons.mpr ⟨h3, List.forall_mem_nil _⟩⟩⟩, fun z hz h4 _ => hr z hz (h4 _ (.head _)) (h4 _ (.tail _ (.head _))) (h4 _ (.tail _ (.tail _ (.head _)))), hp⟩
theorem min_cur {ks : List Int} {st i : Nat} (hst : st ≤ i) (hi : i ≤ ks.length) : List.take (min i ks.length - min st ks.length) (List.drop (min st ks.length) ks) = curOf ks st i := by
  rw [Nat.min_eq_left hi, Nat.min_eq_left (by omega)]
theorem min_cur1 {ks : List Int} {st i : Nat} (hst : st ≤ i) (hi : i < ks.length) : List.take (clipAt ks.length ((i : Int) + 1) - min st ks.length) (List.drop (min st ks.length) ks) = curOf ks st (i + 1) := by
  rw [show clipAt ks.length ((i : Int) + 1) = min (i + 1) ks.length from clipAt_nat ks.length (i + 1)]
  exact min_cur (by omega) hi
theorem encP_zero {ks os W : List Int} {st i : Nat} {fz : Bool} (hi : i < ks.length) (hst : st ≤ i) (heq : os ++ encPgo (curOf ks st i) fz (ks.drop i) = W) (hx : ks.getD i 0 = 0) {d S : List Int}
    (hd : d = os ++ [(i : Int) - st + 1] ++ S) (hS : S = curOf ks st i) : d ++ encPgo (curOf ks (i + 1) (i + 1)) true (ks.drop (i + 1)) = W := by
  rw [hd, hS, ← heq, drop_getD hi, curOf_nil]
  show _ = os ++ (if ks.getD i 0 = 0 then _ else _)
  rw [if_pos hx, curOf_length hst (by omega)]
  have e : (i : Int) - st + 1 = ((i - st : Nat) : Int) + 1 := by omega
  rw [e]
  simp only [List.append_assoc, List.cons_append, List.nil_append]
theorem encP_full {ks os W : List Int} {st i : Nat} {fz : Bool} (hi : i < ks.length) (hst : st ≤ i) (heq : os ++ encPgo (curOf ks st i) fz (ks.drop i) = W) (hx : ks.getD i 0 ≠ 0) (hf : (i : Int) - st = 253) {d S : List Int}
    (hd : d = os ++ [255] ++ S) (hS : S = curOf ks st (i + 1)) : d ++ encPgo (curOf ks (i + 1) (i + 1)) false (ks.drop (i + 1)) = W := by
  rw [hd, hS, ← heq, drop_getD hi, curOf_nil]
  show _ = os ++ (if ks.getD i 0 = 0 then _ else _)
  rw [if_neg hx, if_pos (by rw [curOf_length hst (by omega)]; omega), curOf_snoc hst hi]
  simp only [List.append_assoc, List.cons_append, List.nil_append]
theorem encP_on {ks os W : List Int} {st i : Nat} {fz : Bool} (hi : i < ks.length) (hst : st ≤ i) (heq : os ++ encPgo (curOf ks st i) fz (ks.drop i) = W) (hx : ks.getD i 0 ≠ 0) (hf : (i : Int) - st ≠ 253) {d : List Int} (hd : d = os) :
    d ++ encPgo (curOf ks st (i + 1)) fz (ks.drop (i + 1)) = W := by
  rw [hd, ← heq, drop_getD hi, ← curOf_snoc hst hi]
  show _ = os ++ (if ks.getD i 0 = 0 then _ else _)
  rw [if_neg hx, if_neg (by rw [curOf_length hst (by omega)]; omega)]
theorem len_of {d os S : List Int} {x : Int} {ks : List Int} {st i : Nat} (hd : d = os ++ [x] ++ S) (hS : S = curOf ks st i) (h1 : st ≤ i) (h2 : i ≤ ks.length) : d.length = os.length + 1 + (i - st) := by
  rw [hd, hS, List.length_append, List.length_append, curOf_length h1 h2]; rfl
theorem encP_last {ks os W : List Int} {st : Nat} {fz : Bool} (hst : st ≤ ks.length) (heq : os ++ encPgo (curOf ks st ks.length) fz (ks.drop ks.length) = W) (hc : (ks.length : Int) ≠ st ∨ fz = true) {d S : List Int}
    (hd : d = os ++ [(ks.length : Int) - st + 1] ++ S) (hS : S = curOf ks st ks.length) : d = W := by
  rw [hd, hS, ← heq, List.drop_length]
  have hl := curOf_length hst (Nat.le_refl ks.length)
  show _ = os ++ (if _ then _ else _)
  rw [if_pos, hl]
  · have e : (ks.length : Int) - st + 1 = ((ks.length - st : Nat) : Int) + 1 := by omega
    rw [e]
    simp only [List.append_assoc, List.cons_append, List.nil_append]
  · rcases hc with h | h
    · refine .inl fun e => ?_
      rw [e] at hl
      simp only [List.length_nil] at hl
      omega
    · exact .inr h
theorem encP_none {ks os W : List Int} {st : Nat} {fz : Bool} (heq : os ++ encPgo (curOf ks st ks.length) fz (ks.drop ks.length) = W) (h1 : (ks.length : Int) = st) (h2 : fz = false) : os = W := by
  have : st = ks.length := by omega
  rw [← heq, this, curOf_nil, List.drop_length, h2]
  show _ = os ++ (if _ then _ else _)
  rw [if_neg (by simp), List.append_nil]
/-! ### the reduced writer -/
def encRgo (f : Int) (cur : List Int) : List Int → List Int
  | [] => if f < (cur.length : Int) + 1 then ((cur.length : Int) + 1) :: cur else f :: cur.dropLast
  | x :: xs =>
    if cur.length = 254 then 255 :: cur ++ (if x = 0 then 1 :: encRgo f [] xs else encRgo f [x] xs)
    else if x = 0 then ((cur.length : Int) + 1) :: cur ++ encRgo f [] xs
    else encRgo f (cur ++ [x]) xs
theorem encr_start {h₀ h : Heap} {L : Addr} {m₀ : Str → Option Value} (_F : Fr h₀ L h m₀) {fz : Bool} {t1 t2 : Tok} (h1 : m₀ (Str.ofString "idx") = some (.int 0 t1)) (h2 : m₀ (Str.ofString "search_start_idx") = some (.int 0 t2)) :
    ∀ p ∈ (fun c : EncS => [(Str.ofString "idx", Value.int (c.idx : Int) c.t1), (Str.ofString "search_start_idx", .int (c.st : Int) c.t2)]) ⟨0, 0, fz, #[], t1, t2⟩, m₀ p.1 = some p.2 :=
  List.forall_mem_cons.mpr ⟨h1, List.forall_mem_cons.mpr ⟨h2, List.forall_mem_nil _⟩⟩
theorem encr_end {h₀ : Heap} {L B : Addr} {s : Shared} {R : List (Addr × Obj)} {x : Str} {m₀ m' : Str → Option Value} {P : EncS → Prop} {h' : Heap} {tk : Nat}
    (i' st' : Nat) (d : Array UInt8) (v1 v2 : Int) (t1 t2 : Tok) (F : Fr h₀ L h' m') (N : News h₀ L h' ((B, baObj d) :: R)) (h1 : m' (Str.ofString "idx") = some (.int v1 t1)) (e1 : v1 = (i' : Int)) (h2 : m' (Str.ofString "search_start_idx") = some (.int v2 t2)) (e2 : v2 = (st' : Int))
    (hr : ∀ z, ¬ z = x → ¬ z = Str.ofString "idx" → ¬ z = Str.ofString "search_start_idx" → m' z = m₀ z) (hp : P ⟨i', st', false, d, t1, t2⟩) :
    McbEnd h₀ L s (·.arr) (fun c : EncS => [(Str.ofString "idx", .int (c.idx : Int) c.t1), (Str.ofString "search_start_idx", .int (c.st : Int) c.t2)]) x [] m₀ P B R { s with heap := h', toks := tk } := by
  subst e1 e2
  refine ⟨⟨i', st', false, d, t1, t2⟩, h', tk, m', rfl, F, N, List.forall_mem_cons.mpr ⟨h1, List.forall_mem_cons.mpr ⟨h2, List.forall_mem_nil _⟩⟩, fun z hz h4 _ => hr z hz (h4 _ (.head _)) (h4 _ (.tail _ (.head _))), hp⟩
theorem encR_zero {ks os W : List Int} {f : Int} {st i : Nat} (hi : i < ks.length) (hst : st ≤ i) (heq : os ++ encRgo f (curOf ks st i) (ks.drop i) = W) (hf : (i : Int) - st ≠ 254) (hx : ks.getD i 0 = 0) {d S : List Int}
    (hd : d = os ++ [(i : Int) - st + 1] ++ S) (hS : S = curOf ks st i) : d ++ encRgo f (curOf ks (i + 1) (i + 1)) (ks.drop (i + 1)) = W := by
  rw [hd, hS, ← heq, drop_getD hi, curOf_nil]
  show _ = os ++ (if _ then _ else if ks.getD i 0 = 0 then _ else _)
  rw [if_neg (by rw [curOf_length hst (by omega)]; omega), if_pos hx, curOf_length hst (by omega)]
  have e : (i : Int) - st + 1 = ((i - st : Nat) : Int) + 1 := by omega
  rw [e]
  simp only [List.append_assoc, List.cons_append, List.nil_append]
theorem encR_on {ks os W : List Int} {f : Int} {st i : Nat} (hi : i < ks.length) (hst : st ≤ i) (heq : os ++ encRgo f (curOf ks st i) (ks.drop i) = W) (hf : (i : Int) - st ≠ 254) (hx : ks.getD i 0 ≠ 0) {d : List Int} (hd : d = os) :
    d ++ encRgo f (curOf ks st (i + 1)) (ks.drop (i + 1)) = W := by
  rw [hd, ← heq, drop_getD hi, ← curOf_snoc hst hi]
  show _ = os ++ (if _ then _ else if ks.getD i 0 = 0 then _ else _)
  rw [if_neg (by rw [curOf_length hst (by omega)]; omega), if_neg hx]
theorem encR_fzero {ks os W : List Int} {f : Int} {st i : Nat} (hi : i < ks.length) (hst : st ≤ i) (heq : os ++ encRgo f (curOf ks st i) (ks.drop i) = W) (hf : (i : Int) - st = 254) (hx : ks.getD i 0 = 0) {d S S' : List Int}
    (hd : d = os ++ [255] ++ S ++ [(i : Int) - i + 1] ++ S') (hS : S = curOf ks st i) (hS' : S' = curOf ks i i) : d ++ encRgo f (curOf ks (i + 1) (i + 1)) (ks.drop (i + 1)) = W := by
  rw [hd, hS, hS', ← heq, drop_getD hi, curOf_nil, curOf_nil]
  show _ = os ++ (if _ then 255 :: curOf ks st i ++ (if ks.getD i 0 = 0 then _ else _) else _)
  rw [if_pos (by rw [curOf_length hst (by omega)]; omega), if_pos hx]
  have e : (i : Int) - i + 1 = 1 := by omega
  rw [e]
  simp only [List.append_assoc, List.cons_append, List.nil_append]
theorem encR_fon {ks os W : List Int} {f : Int} {st i : Nat} (hi : i < ks.length) (hst : st ≤ i) (heq : os ++ encRgo f (curOf ks st i) (ks.drop i) = W) (hf : (i : Int) - st = 254) (hx : ks.getD i 0 ≠ 0) {d S : List Int}
    (hd : d = os ++ [255] ++ S) (hS : S = curOf ks st i) : d ++ encRgo f (curOf ks i (i + 1)) (ks.drop (i + 1)) = W := by
  rw [hd, hS, ← heq, drop_getD hi, ← curOf_snoc (Nat.le_refl i) hi, curOf_nil]
  show _ = os ++ (if _ then 255 :: curOf ks st i ++ (if ks.getD i 0 = 0 then _ else _) else _)
  rw [if_pos (by rw [curOf_length hst (by omega)]; omega), if_neg hx]
  simp only [List.append_assoc, List.cons_append, List.nil_append]
end Mine
namespace Mine
section
variable {prog : Program} {w : World} {A : Around} {E : Value → Shared → Prop} {s : Shared}
theorem bytes_last {value slice : Expr} {b : Array UInt8} {t u : Tok} {ks : List Int} {Q : Value → Shared → Prop} (hb : KBw.bInts b = ks) (hne : ks ≠ []) (hlen : ks.length ≤ 1000)
    (h : ∀ t' k, 0 ≤ ks.getLastD 0 → ks.getLastD 0 < 256 → Q (.int (ks.getLastD 0) t') { s with toks := k })
    (hs : subscripted slice false (.bytes b t) (.int (-1) u) = operate [.bytes b t, .int (-1) u] (getItem (.bytes b t) (.int (-1) u))) :
    wpAny (model prog w) A (subscriptTail value slice (.bytes b t) (.int (-1) u)) Q E s := by
  have hsz : b.size = ks.length := bInts_size hb
  have hpos : 0 < ks.length := List.length_pos_iff.mpr hne
  have hlt : b.size - 1 < b.size := by omega
  have hidx : seqIndex? (-1) b.size = some (b.size - 1) := by
    have h1 : ((-1 : Int) < 0) := by omega
    unfold seqIndex?
    simp only [h1, if_true]
    rw [if_pos (by simp only [Bool.and_eq_true, decide_eq_true_eq]; omega)]
    congr 1; omega
  have hget : b[b.size - 1]? = some b[b.size - 1] := Array.getElem?_eq_getElem hlt
  have hv : ((b[b.size - 1].toNat : Nat) : Int) = ks.getLastD 0 := by
    have := KBw.ints_get hget
    rw [hb] at this
    rw [List.getLastD_eq_getLast?, List.getLast?_eq_getElem?, ← hsz, this]; rfl
  have hin : 0 ≤ ks.getLastD 0 ∧ ks.getLastD 0 < 256 := by
    have := b[b.size - 1].toNat_lt
    rw [← hv]; omega
  refine tail_any (PySem.W.typeIs_bytes _ _ _) FB.slot_bytes_getitem.lookup ?_ hs
  refine getItem_gives (PySem.W.typeIs_bytes s _ t) (by decide) FB.slot_bytes_getitem FB.entry_bytes_getitem (FB.args_bytes_getitem_2 _ _) (gives_bytes_getitem _ (-1) t u b[b.size - 1] (by decide) ?_) ?_
  · rw [hidx]; exact hget
  · rw [← hv] at hin h
    exact h _ _ hin.1 hin.2
theorem bytes_last_none {value slice : Expr} {b : Array UInt8} {t u : Tok} {Q : Value → Shared → Prop} (hb : KBw.bInts b = []) (hA : A.handled = none)
    (hE : ∀ h' tk e, Heap.NewExc s.heap h' e "IndexError" → E (.ref e) { s with heap := h', toks := tk })
    (hs : subscripted slice false (.bytes b t) (.int (-1) u) = operate [.bytes b t, .int (-1) u] (getItem (.bytes b t) (.int (-1) u))) :
    wpAny (model prog w) A (subscriptTail value slice (.bytes b t) (.int (-1) u)) Q E s := by
  have hsz : b.size = 0 := bInts_size hb
  refine tail_any (PySem.W.typeIs_bytes _ _ _) FB.slot_bytes_getitem.lookup ?_ hs
  unfold getItem
  try with_reducible refine wpAny_holding ?_
  first | refine wpAny_bind (wpAny_pure ?_) | skip
  refine wpAny_bind (wpAny_callSpecial?_slot (name := Str.ofString "__getitem__") (PySem.W.typeIs_bytes s _ t) FB.slot_bytes_getitem
    (wpAny_call_entry FB.slot_bytes_getitem (PySem.W.typeIs_bytes s _ t) FB.entry_bytes_getitem ?_ (FB.args_bytes_getitem_2 _ _)))
  unfold Builtin.«bytes.__getitem__»
  refine wpAny_bind (wpAny_of_eq (a := (.bytes b t, [.int (-1) u])) rfl ?_)
  refine wpAny_bind (wpAny_of_eq (a := b) rfl ?_)
  have hsub : Builtin.Bytes.subscript? (.int (-1) u) = pure (some (-1)) := by with_unfolding_all rfl
  refine wpAny_bind (wpAny_of_eq hsub ?_)
  dsimp only
  have hn : (seqIndex? (-1) b.size).bind (b[·]?) = none := by
    rw [hsz]; rfl
  rw [hn]
  first
    | exact wpAny_bind (wpAny_rule (by exact_raiseError plainExc_IndexError hA hE))
    | exact wpAny_bind (wpAny_rule (wpAny_bind (by exact_raiseError plainExc_IndexError hA hE)))
    | exact wpAny_bind (wpAny_bind (wpAny_rule (by exact_raiseError plainExc_IndexError hA hE)))
    | exact wpAny_rule (by exact_raiseError plainExc_IndexError hA hE)
end
theorem encR_last1 {ks os W : List Int} {f : Int} {st : Nat} (hst : st ≤ ks.length) (heq : os ++ encRgo f (curOf ks st ks.length) (ks.drop ks.length) = W) (hc : f < (ks.length : Int) - st + 1) {d S : List Int}
    (hd : d = os ++ [(ks.length : Int) - st + 1] ++ S) (hS : S = curOf ks st ks.length) : d = W := by
  rw [hd, hS, ← heq, List.drop_length]
  have hl := curOf_length hst (Nat.le_refl ks.length)
  show _ = os ++ (if _ then _ else _)
  rw [if_pos (by rw [hl]; omega), hl]
  have e : (ks.length : Int) - st + 1 = ((ks.length - st : Nat) : Int) + 1 := by omega
  rw [e]
  simp only [List.append_assoc, List.cons_append, List.nil_append]
theorem min_cur2 {ks : List Int} {st : Nat} (hst : st ≤ ks.length) (hne : ks ≠ []) : List.take (clipAt ks.length ((ks.length : Int) - 1) - min st ks.length) (List.drop (min st ks.length) ks) = (curOf ks st ks.length).dropLast := by
  have hp : 0 < ks.length := List.length_pos_iff.mpr hne
  rw [clip_pos (by omega), Nat.min_eq_left hst, List.dropLast_eq_take, curOf_length hst (Nat.le_refl _)]
  unfold curOf
  rw [List.take_take]
  congr 1
  omega
theorem encR_last2 {ks os W : List Int} {f : Int} {st : Nat} (hst : st ≤ ks.length) (heq : os ++ encRgo f (curOf ks st ks.length) (ks.drop ks.length) = W) (hc : ¬ f < (ks.length : Int) - st + 1) {d S : List Int}
    (hd : d = os ++ [f] ++ S) (hS : S = (curOf ks st ks.length).dropLast) : d = W := by
  rw [hd, hS, ← heq, List.drop_length]
  have hl := curOf_length hst (Nat.le_refl ks.length)
  show _ = os ++ (if _ then _ else _)
  rw [if_neg (by rw [hl]; omega)]
  simp only [List.append_assoc, List.cons_append, List.nil_append]
/-- a def with a try of its own, called from the outermost frame: the caller's frame lies in the ledger -/
theorem codeC_defL {prog : Program} {w : World} {A : Around} {s : Shared} {h₀ : Heap} {L a : Addr} {m : Str → Option Value} {cn : Str} {cs : Scope} {ccd : Value} {news : List (Addr × Obj)} {K : Frag} {p : Program} {loose : List Str} {mean : ExcName → Option Value} {mg mb : Str → Option Value}
    {R : Result → Shared → Prop} {name qual : Str} {params : Arguments} {body : List Stmt} {scope : Scope} {dV kV doc pm cdv ct oc : Value} {an od : Option Addr} {osl : Array (Option Value)} {f : Addr} {args : Args} {binds : List (Str × Value)}
    (F : Fr h₀ L s.heap m) (X₀ : K.In h₀) (N : News h₀ L s.heap news) (T : Top p loose mean mg mb h₀) (_hA : A.frames = some [envOf cn cs L a ccd])
    (ho : K.lookup f = some ⟨oc, od, .func (fnOf name qual params body scope dV kV doc pm an cdv ct), osl⟩) (hcd : codeIn K cdv qual = true) (hroom : A.depth < recursionLimit)
    (hbind : BindsTo s (fnOf name qual params body scope dV kV doc pm an cdv ct) args binds) (hloc : ∀ y ∈ binds, scope.names.lookup y.1 = some .local)
    (h : ∀ oL h₁ L', TI.Caller h₀ L m oL → TI.Frs [envOf cn cs L a ccd] [(L, oL)] → (∀ p ∈ news, p.1 ≠ L) → Fr h₀ L' h₁ (fun y => binds.reverse.lookup y) → News h₀ L' h₁ (news ++ [(L, oL)]) →
      wpC (model prog w) (A.deeper (envOf qual scope L' f cdv)) (execs body (envOf qual scope L' f cdv))
        (fun fl s' => TI.LeaveI s' (R (.ok (.ret (match fl with | .ret v => v | _ => .none))) s'))
        (fun e s' => wpAny (model prog w) (A.deeper (envOf qual scope L' f cdv)) (leaving (envOf qual scope L' f cdv) e) (fun _ s'' => TI.LeaveX (R (.error e) s'')) (fun e' s'' => TI.LeaveX (R (.error e') s'')) s')
        { s with heap := h₁, toks := s.toks + binds.length })
    (hck : cs.kind = .function) (hco : scope.isCoroutine = false) (hgen : scope.isGenerator = false) (hk : scope.kind = .function)
    (hcell : ∀ x ∈ scope.names, x.2 ≠ .cell) : codeC (model prog w) A (.call (.ref f) args) R s := by
  have X := X₀.keeps F.keep
  obtain ⟨oL, es, ep, hL, hLd, hLk, hLf⟩ := F.ns
  have hLt := Heap.lt_size hL
  have hkind : (envOf cn cs L a ccd).scope.kind ≠ .module := by
    show cs.kind ≠ .module
    rw [hck]; decide
  refine codeC_call_def (fd := fnOf name qual params body scope dV kV doc pm an cdv ct) (body := body) (binds := binds) hroom (X _ _ ho) rfl (T.nolimit.keeps F.keep) (codeRec_of X hcd) rfl hbind hcell hloc (fun h₁ hns hk₁ => ?_) hco hgen hk
  refine wpC_mono (h oL h₁ s.heap.objs.size ⟨fun h' sl e => ⟨_, es, ep, e, hLd, hLk, hLf⟩, ⟨es, ep, hLd⟩, F.above⟩ ⟨hkind, rfl, ⟨es, ep, hLd⟩, trivial⟩ (fun p hp => (N p hp).2.1)
    ⟨hns, fun b o e => hk₁ b o (F.keep b o e), Nat.le_trans F.above (Nat.le_of_lt hLt)⟩ (fun p hp => ?_)) (fun _ _ x => x) fun _ _ x => wpAny_mono x (fun _ _ y => y) fun _ _ y => y
  rcases List.mem_append.mp hp with hp | hp
  · obtain ⟨h1, h2, h3⟩ := N p hp
    exact ⟨hk₁ _ _ h1, Nat.ne_of_lt (Heap.lt_size h1), h3⟩
  · rcases List.mem_cons.mp hp with rfl | hp
    · exact ⟨hk₁ _ _ hL, Nat.ne_of_lt hLt, Heap.get?_none_of_le F.above⟩
    · exact nomatch hp
end Mine
namespace Mine
theorem allLt_mem {d : Nat} {l : List (Addr × Obj)} (h : AllLt d l) : ∀ p ∈ l, p.1 < d := by
  induction l with
  | nil => intro p hp; exact absurd hp List.not_mem_nil
  | cons q r ih =>
    intro p hp
    rcases List.mem_cons.mp hp with e | hp
    · rw [e]; exact h.1
    · exact ih h.2 p hp
theorem ints_last {vs : List Value} {ns : List Int} (h : IntsAre vs ns) (hne : ns ≠ []) : ∃ t, vs[vs.length - 1]? = some (.int (ns.getLastD 0) t) := by
  have hl := h.length
  have hp : 0 < ns.length := List.length_pos_iff.mpr hne
  have hx : vs[vs.length - 1]? = some (vs[vs.length - 1]'(by omega)) := List.getElem?_eq_getElem _
  obtain ⟨n, t, e, hn⟩ := h.at _ _ hx
  refine ⟨t, hx.trans (congrArg some (e.trans ?_))⟩
  rw [List.getLastD_eq_getLast?, List.getLast?_eq_getElem?, ← hl, hn]; rfl
theorem ints_at {vs : List Value} {ns : List Int} (h : IntsAre vs ns) {j : Nat} (hj : j < ns.length) : ∃ t, vs[j]? = some (.int (ns.getD j 0) t) := by
  have hl := h.length
  have hx : vs[j]? = some (vs[j]'(by omega)) := List.getElem?_eq_getElem _
  obtain ⟨n, t, e, hn⟩ := h.at _ _ hx
  refine ⟨t, hx.trans (congrArg some (e.trans ?_))⟩
  rw [List.getD_eq_getElem?_getD, hn]; rfl
/-- the places of the codes -/
def codesGo (i : Nat) : List Int → List Int
  | [] => []
  | c :: r => (i : Int) :: (if (r.length : Int) < c then [] else codesGo (i + c.toNat) (r.drop (c - 1).toNat))
termination_by l => l.length
decreasing_by simp only [List.length_drop, List.length_cons]; omega
theorem codesGo_cons (i : Nat) (c : Int) (r : List Int) : codesGo i (c :: r) = (i : Int) :: (if (r.length : Int) < c then [] else codesGo (i + c.toNat) (r.drop (c - 1).toNat)) := by
  rw [codesGo]
structure CodeInv (ks ns : List Int) (q : Nat) : Prop where
  lt : q < ks.length
  ex : ∃ pre, ns = pre ++ [(q : Int)] ∧ pre.length ≤ q ∧ pre ++ codesGo q (ks.drop q) = codesGo 0 ks
theorem CodeInv.last {ks ns : List Int} {q : Nat} (h : CodeInv ks ns q) : ns.getLastD 0 = (q : Int) := by
  obtain ⟨pre, e, _⟩ := h.ex
  rw [e]; simp
theorem CodeInv.ne {ks ns : List Int} {q : Nat} (h : CodeInv ks ns q) : ns ≠ [] := by
  obtain ⟨pre, e, _⟩ := h.ex
  rw [e]; simp
theorem CodeInv.len {ks ns : List Int} {q : Nat} (h : CodeInv ks ns q) : ns.length ≤ ks.length := by
  obtain ⟨pre, e, h1, _⟩ := h.ex
  have := h.lt
  rw [e, List.length_append, List.length_singleton]; omega
theorem CodeInv.start {ks : List Int} (hne : ks ≠ []) : CodeInv ks [0] 0 :=
  ⟨List.length_pos_iff.mpr hne, [], rfl, Nat.le_refl _, rfl⟩
theorem CodeInv.done {ks ns : List Int} {q : Nat} (h : CodeInv ks ns q) (hnz : NZ ks) (hc : ¬ (q : Int) + ks.getD q 0 < ks.length) : ns = codesGo 0 ks := by
  obtain ⟨pre, e, _, h2⟩ := h.ex
  have hd := drop_at h.lt
  rw [Int.toNat_natCast] at hd
  rw [e, ← h2, hd, codesGo_cons, if_pos (by rw [List.length_drop]; have := h.lt; omega)]
theorem CodeInv.next {ks ns : List Int} {q : Nat} (h : CodeInv ks ns q) (hnz : NZ ks) (hc : (q : Int) + ks.getD q 0 < ks.length) : CodeInv ks (ns ++ [(q : Int) + ks.getD q 0]) ((q : Int) + ks.getD q 0).toNat ∧ q < ((q : Int) + ks.getD q 0).toNat := by
  obtain ⟨pre, e, h1, h2⟩ := h.ex
  have hd := drop_at h.lt
  have hb := at_in h.lt hnz
  rw [Int.toNat_natCast] at hd hb
  have hlt := h.lt
  refine ⟨⟨by omega, ns, ?_, ?_, ?_⟩, by omega⟩
  · rw [Int.toNat_of_nonneg (by omega)]
  · rw [e, List.length_append, List.length_singleton]; omega
  · rw [← h2, hd, codesGo_cons, if_neg (by rw [List.length_drop]; omega), List.drop_drop, e, List.append_assoc]
    have e1 : q + (ks.getD q 0).toNat = ((q : Int) + ks.getD q 0).toNat := by omega
    have e2 : q + 1 + (ks.getD q 0 - 1).toNat = ((q : Int) + ks.getD q 0).toNat := by omega
    rw [e1, e2]; rfl
section
variable {prog : Program} {w : World} {A : Around} {E : Value → Shared → Prop} {s : Shared} {h₀ : Heap} {L : Addr} {m : Str → Option Value} {news : List (Addr × Obj)}
theorem list_last {value slice : Expr} {l : Addr} {vs : List Value} {k : Nat} {ns : List Int} {u : Tok} {Q : Value → Shared → Prop} (N : News h₀ L s.heap news) (hm : (l, listOf vs.toArray k) ∈ news) (hi : IntsAre vs ns) (hne : ns ≠ []) (hlen : ns.length ≤ 16777216)
    (h : ∀ t, Q (.int (ns.getLastD 0) t) s) (hs : subscripted slice false (.ref l) (.int (-1) u) = operate [.ref l, .int (-1) u] (getItem (.ref l) (.int (-1) u))) :
    wpAny (model prog w) A (subscriptTail value slice (.ref l) (.int (-1) u)) Q E s := by
  have hL : s.heap.IsList l vs.toArray := N.isList hm
  obtain ⟨t, ht⟩ := ints_last hi hne
  have hp : 0 < ns.length := List.length_pos_iff.mpr hne
  have hl := hi.length
  have e : (-1 + (vs.toArray.size : Int)).toNat = vs.length - 1 := by rw [List.size_toArray]; omega
  refine tail_any hL.typeIs slot_list_getitem.lookup (wpAny_getItem_list_neg hL (by omega) (by rw [List.size_toArray]; omega) (by omega) (x := .int (ns.getLastD 0) t) ?_ (h t)) hs
  rw [e, List.getElem?_toArray]; exact ht
theorem list_item {value slice : Expr} {l : Addr} {vs : List Value} {k : Nat} {ns : List Int} {i : Int} {u : Tok} {Q : Value → Shared → Prop} (N : News h₀ L s.heap news) (hm : (l, listOf vs.toArray k) ∈ news) (hi : IntsAre vs ns) (h0 : 0 ≤ i) (h1 : i < ns.length) (hlen : ns.length ≤ 16777216)
    (h : ∀ t, Q (.int (ns.getD i.toNat 0) t) s) (hs : subscripted slice false (.ref l) (.int i u) = operate [.ref l, .int i u] (getItem (.ref l) (.int i u))) :
    wpAny (model prog w) A (subscriptTail value slice (.ref l) (.int i u)) Q E s := by
  have hL : s.heap.IsList l vs.toArray := N.isList hm
  obtain ⟨t, ht⟩ := ints_at hi (j := i.toNat) (by omega)
  refine tail_any hL.typeIs slot_list_getitem.lookup (wpAny_getItem_list hL h0 (by omega) (x := .int (ns.getD i.toNat 0) t) ?_ (h t)) hs
  rw [List.getElem?_toArray]; exact ht
end
end Mine
namespace Mine
section
variable {prog : Program} {w : World} {A : Around} {E : Value → Shared → Prop} {s : Shared} {h₀ : Heap} {L : Addr} {m : Str → Option Value} {news : List (Addr × Obj)}
abbrev ByteAt (b : Array UInt8) : Nat → Value → Prop := fun i v => ∃ c u, b[i]? = some c ∧ v = .int (c.toNat : Int) u
theorem hint_bytes {b : Array UInt8} {t : Tok} {Q : Bool → Shared → Prop} (h : ∀ x tk, Q x { s with toks := tk }) : wpAny (model prog w) A (Builtin.List.listLengthHint (.bytes b t)) Q E s := by
  unfold Builtin.List.listLengthHint
  refine wpAny_bind (wpAny_specialOf (typeIs_bytes s b t) FB.slot_bytes_len.lookup ?_)
  generalize hid : ("bytes.__len__" : String) = id0
  wp_delta
  rw [show splitId id0 = some ("bytes", "__len__") from by subst hid; decide +kernel]
  subst hid
  refine wpAny_bind (wpAny_isInstance (T := "bytes") (b := true) (typeIs_bytes s b t) (by rw [isSubtype_type]; kernel_rfl) ?_)
  refine wpAny_ite_split (fun hab => absurd hab (by decide)) (fun _ => ?_)
  refine wpAny_ite_split (fun _ => ?_) (fun hab => absurd (by decide +kernel) hab)
  refine wpAny_bind (wpAny_typeOf (T := "bytes") (typeIs_bytes s b t) ?_)
  exact wpAny_pure (h _ _)
theorem extend_bytes {R : Result → Shared → Prop} (hh : A.handled = none) {b : Array UInt8} {t : Tok} (hlen : b.size ≤ 16777216) (S : Addr) (res : Value) (c₀ : Nat) (hS : s.heap.get? S = some { cls := .type "list", data := .seq #[] c₀ })
    (hR : ∀ h' tk acc' c', (∀ b o, b ≠ S → s.heap.get? b = some o → h'.get? b = some o) → h'.get? S = some { cls := .type "list", dict := none, data := .seq acc' c', slots := #[] } →
      ItemsOf (ByteAt b) acc' b.size → R (.ok (.ret res)) { s with heap := h', toks := tk }) :
    wpAny (model prog w) A.in1 (Builtin.List.listExtendWith (.ref S) (.bytes b t) res)
      (fun fin s' => match fin with | .done f => R (.ok f) s' | .again c' => c'.quiet = true ∧ codeAny (model prog w) A c' R s') (fun e s' => R (.error e) s') s := by
  have hSlt : S < s.heap.objs.size := Heap.lt_size hS
  have hSI : S ≠ s.heap.objs.size := Nat.ne_of_lt hSlt
  have hSf : S ∉ [s.heap.objs.size] := fun hm => hSI (List.mem_singleton.mp hm)
  have W := (KBw.walks (prog := prog) (w := w) (A := A.in1) hh s.heap.objs.size b t).toS
  have key : ∀ (h : Heap) (c₁ tk : Nat), KBw.IsBytesIter h s.heap.objs.size b t 0 → (∀ b o, b ≠ S → s.heap.get? b = some o → h.get? b = some o) →
      h.get? S = some { cls := .type "list", data := .seq #[] c₁ } → codeAny (model prog w) A (.builtin "list.extend.loop" ⟨[.ref S, .ref s.heap.objs.size, res], []⟩) R { s with heap := h, toks := tk } := by
    intro h c₁ tk hit hk hS₁
    refine codeAny_extend_loopS W (by rw [sizeLine_eq]; omega) S hSf res b.size 0 _ #[] c₁ rfl (Nat.zero_le _) hit hS₁ (ItemsOf.nil _) fun s' acc' c' hm hS' hacc => ?_
    rw [Moved.eq_with hm]
    refine hR s'.heap s'.toks acc' c' (fun b o hb e => hm.heap b o (fun hmem => ?_) (hk b o hb e)) hS' hacc
    rcases List.mem_cons.mp hmem with e' | hmem
    · exact hb e'
    · exact absurd (Heap.lt_size e) (by rw [List.mem_singleton.mp hmem]; exact Nat.lt_irrefl _)
  unfold Builtin.List.listExtendWith
  refine wpAny_bind (wpAny_typeOf (T := "bytes") (typeIs_bytes s b t) ?_)
  have h1 : Builtin.List.listSameRef (.ref S) (.bytes b t) = false := rfl
  have h2 : (Value.type "bytes" == Value.type "list") = false := by decide
  have h3 : (Value.type "bytes" == Value.type "tuple") = false := by decide
  simp only [h1, h2, h3, Bool.or_false, Bool.false_eq_true, if_false]
  refine wpAny_bind (KBw.pyIter_bytes ?_)
  refine wpAny_bind (wpAny_holding (hint_bytes fun x tk => ?_))
  have hit₁ : KBw.IsBytesIter (s.heap.push { cls := .type "bytes_iterator", data := .fields #[.bytes b t, .int 0 0] }) s.heap.objs.size b t 0 := ⟨_, Heap.get?_push_size _ rfl, rfl, rfl⟩
  have hS₁ := Heap.get?_push_of_some { cls := .type "bytes_iterator", data := .fields #[.bytes b t, .int 0 0] } hS
  refine wpAny_ite_split (fun _ => ?_) (fun _ => wpAny_pure ⟨plainId_quiet F.plain_extend_loop _, key _ c₀ _ hit₁ (fun b o _ e => Heap.get?_push_of_some _ e) hS₁⟩)
  refine wpAny_bind (wpAny_rule ?_)
  refine wpAny_bind ?_
  show wpAny _ _ (updateSeq S (·.push .none) >>= fun _ => updateSeq S (·.pop)) _ _ _
  refine wpAny_bind (wpAny_updateSeq hS₁ rfl ?_)
  have hS₂ := Heap.get?_update_self (Obj.mapSeq (·.push Value.none)) hS₁ rfl
  refine wpAny_updateSeq (hz := by seq_fits) hS₂ rfl ?_
  have hS₃ := Heap.get?_update_self (Obj.mapSeq (·.pop)) hS₂ rfl
  refine wpAny_pure ⟨plainId_quiet F.plain_extend_loop _, key _ _ _ ?_ (fun b o hb e => ?_) hS₃⟩
  · obtain ⟨o, ho, r⟩ := hit₁
    exact ⟨o, (Heap.get?_update_other _ _ hSI).trans ((Heap.get?_update_other _ _ hSI).trans ho), r⟩
  · exact (Heap.get?_update_other _ _ (Ne.symm hb)).trans ((Heap.get?_update_other _ _ (Ne.symm hb)).trans (Heap.get?_push_of_some _ e))
theorem list_init_bytes {R : Result → Shared → Prop} (hh : A.handled = none) {b : Array UInt8} {t : Tok} (hlen : b.size ≤ 16777216) (S : Addr) (hS : s.heap.get? S = some { cls := .type "list", data := .seq #[] })
    (hR : ∀ h' tk acc' c', (∀ b o, b ≠ S → s.heap.get? b = some o → h'.get? b = some o) → h'.get? S = some { cls := .type "list", dict := none, data := .seq acc' c', slots := #[] } →
      ItemsOf (ByteAt b) acc' b.size → R (.ok (.ret .none)) { s with heap := h', toks := tk }) :
    wpAny (model prog w) A.in1 (Builtin.«list.__init__» ⟨[.ref S, .bytes b t], []⟩)
      (fun fin s' => match fin with | .done f => R (.ok f) s' | .again c' => c'.quiet = true ∧ codeAny (model prog w) A c' R s') (fun e s' => R (.error e) s') s := by
  show wpAny _ _ (do let old ← Builtin.List.listItems (.ref S); Builtin.List.listUpdate (.ref S) (fun _ => #[]); letGo old.toList.reverse; Builtin.List.listExtendWith (.ref S) (.bytes b t) .none) _ _ s
  refine wpAny_bind ?_
  unfold Builtin.List.listItems
  refine wpAny_bind (wpAny_seqItems hS rfl (wpAny_pure ?_))
  show wpAny _ _ (updateSeq S (fun _ => #[]) >>= fun _ => letGo (#[] : Array Value).toList.reverse >>= fun _ => Builtin.List.listExtendWith (.ref S) (.bytes b t) .none) _ _ s
  refine wpAny_bind (wpAny_updateSeq hS rfl ?_)
  have hS₂ := Heap.get?_update_self (Obj.mapSeq (fun _ => (#[] : Array Value))) hS rfl
  have oth : ∀ b o, b ≠ S → s.heap.get? b = some o → (s.heap.update S (Obj.mapSeq (fun _ => (#[] : Array Value)))).get? b = some o :=
    fun b o hb e => (Heap.get?_update_other _ _ (Ne.symm hb)).trans e
  refine wpAny_bind (wpAny_letGo ?_)
  refine extend_bytes hh hlen S .none _ hS₂ fun h' tk acc' c' hk hS' hacc => ?_
  exact hR h' tk acc' c' (fun b o hb e => hk b o hb (oth b o hb e)) hS' hacc
theorem call_list_bytes {Q : Value → Shared → Prop} (hh : A.handled = none) {b : Array UInt8} {t : Tok} (hlen : b.size ≤ 16777216)
    (hQ : ∀ h' tk acc' c', (∀ b o, s.heap.get? b = some o → h'.get? b = some o) →
      h'.get? s.heap.objs.size = some { cls := .type "list", dict := none, data := .seq acc' c', slots := #[] } → ItemsOf (ByteAt b) acc' b.size → Q (.ref s.heap.objs.size) { s with heap := h', toks := tk }) :
    wpAny (model prog w) A (call (.type "list") [.bytes b t]) Q E s := by
  refine callType_codes (Q₁ := fun obj s₁ => obj = .ref s.heap.objs.size ∧ s₁ = { s with heap := s.heap.push { cls := .type "list", data := .seq #[] } }) F.called_list (F.typeCall_list_1 _) F.entry_list_init
    (code_list_new _ ⟨rfl, rfl⟩) fun obj s₁ h₁ => ?_
  obtain ⟨rfl, rfl⟩ := h₁
  have hS : (s.heap.push { cls := .type "list", data := .seq #[] }).get? s.heap.objs.size = some { cls := .type "list", data := .seq #[] } := Heap.get?_push_size _ rfl
  refine ⟨⟨_, hS, rfl⟩, F.args_list_init_2 _ _, list_init_bytes (A := A.in1) hh hlen _ hS fun h' tk acc' c' hk hS' hacc => ?_⟩
  exact ⟨rfl, hQ h' tk acc' c' (fun b o e => hk b o (Nat.ne_of_lt (Heap.lt_size e)) (Heap.get?_push_of_some _ e)) hS' hacc⟩
theorem ints_bytes : ∀ (vs : List Value) (l : List UInt8), vs.length = l.length → (∀ (j : Nat) (v : Value), vs[j]? = some v → ∃ c u, l[j]? = some c ∧ v = .int (c.toNat : Int) u) → IntsAre vs (l.map fun c => (c.toNat : Int))
  | [], [], _, _ => IntsAre.nil
  | [], _ :: _, e, _ => by cases e
  | _ :: _, [], e, _ => by cases e
  | v :: r, c :: l, e, h => by
    obtain ⟨c', u, h1, rfl⟩ := h 0 v rfl
    cases h1
    exact IntsAre.cons _ _ (ints_bytes r l (Nat.succ.inj e) fun j v hj => h (j + 1) v hj)
theorem list_bytesK {b : Array UInt8} {t : Tok} {ks : List Int} {Q : Value → Shared → Prop} (F : Fr h₀ L s.heap m) (N : News h₀ L s.heap news) (hh : A.handled = none) (hb : KBw.bInts b = ks) (hlen : ks.length ≤ 16777216)
    (h : ∀ D us c h' tk, IntsAre us ks → Fr h₀ L h' m → News h₀ L h' ((D, listOf (List.toArray us) c) :: news) → (∀ p ∈ news, p.1 < D) → Q (.ref D) { s with heap := h', toks := tk }) :
    wpAny (model prog w) A (call (.type "list") [.bytes b t]) Q E s := by
  have hsz : b.size = ks.length := bInts_size hb
  refine call_list_bytes hh (by omega) fun h' tk acc c hk hD hI => ?_
  have hD' : h'.get? s.heap.objs.size = some (listOf (List.toArray acc.toList) c) := by
    rw [Array.toArray_toList]
    exact hD
  refine h _ acc.toList c h' tk ?_ (F.keeps hk) (news_pushed F N hk hD' rfl) (fun p hp => Heap.lt_size (N p hp).1)
  subst hb
  refine ints_bytes acc.toList b.toList (by rw [Array.length_toList, Array.length_toList]; exact hI.1) fun j v hj => ?_
  obtain ⟨c', u, e1, e2⟩ := hI.2 j v (by rw [← hj, Array.getElem?_toList])
  exact ⟨c', u, by rw [Array.getElem?_toList]; exact e1, e2⟩
end
end Mine
namespace Mine
theorem fr_but2 {h₀ h h' : Heap} {L a c : Addr} {m : Str → Option Value} (F : Fr h₀ L h m) (ha : a ≠ L) (hc : c ≠ L) (hn : h₀.get? a = none) (hm : h₀.get? c = none) (hk : ∀ b o, b ≠ a → b ≠ c → h.get? b = some o → h'.get? b = some o) : Fr h₀ L h' m :=
  ⟨F.ns.at' fun o e => hk _ o (Ne.symm ha) (Ne.symm hc) e, fun b o e => hk b o (fun q => by rw [q, hn] at e; cases e) (fun q => by rw [q, hm] at e; cases e) (F.keep b o e), F.above⟩
theorem news_but2 {h₀ h h' : Heap} {L a c : Addr} {news : List (Addr × Obj)} (N : News h₀ L h news) (hne : ∀ p ∈ news, p.1 ≠ a) (hnc : ∀ p ∈ news, p.1 ≠ c) (hk : ∀ b o, b ≠ a → b ≠ c → h.get? b = some o → h'.get? b = some o) : News h₀ L h' news :=
  fun p hp => ⟨hk _ _ (hne p hp) (hnc p hp) (N p hp).1, (N p hp).2⟩
def MceEnd (h₀ : Heap) (L : Addr) (s : Shared) (stored : List Str) (m₀ : Str → Option Value) (R : List (Addr × Obj)) (s₂ : Shared) : Prop :=
  ∃ (h' : Heap) (tk : Nat) (m' : Str → Option Value) (news' : List (Addr × Obj)), s₂ = { s with heap := h', toks := tk } ∧ Fr h₀ L h' m' ∧ News h₀ L h' news' ∧ (∀ p ∈ R, p ∈ news') ∧ (∀ z, stored.contains z = false → m' z = m₀ z)
def McePost (h₀ : Heap) (L : Addr) (s : Shared) (stored : List Str) (m₀ : Str → Option Value) (R : List (Addr × Obj)) (Q : Flow → Shared → Prop) (f : Flow) (s₂ : Shared) : Prop :=
  match f with
  | .ret v => Q (.ret v) s₂
  | .brk => Q .next s₂
  | _ => MceEnd h₀ L s stored m₀ R s₂
section
variable {prog : Program} {w : World} {A : Around} {E : Value → Shared → Prop} {Q : Flow → Shared → Prop} {s : Shared} {env : Env} {h₀ : Heap}
theorem stored_map {stored : List Str} {m m₀ : Str → Option Value} (h : ∀ z, stored.contains z = false → m z = m₀ z) : m = fun z => if stored.contains z then m z else m₀ z := by
  funext z
  cases h3 : stored.contains z with
  | true => simp
  | false => simp only [Bool.false_eq_true, if_false]; exact h z h3
/-- for i, x in enumerate(l): in the clean logic; the turn changes names of the frame alone -/
theorem mc_enum {xi xv : Str} {pi pv pt : Pos} {x1} {body : List Stmt} {items : List Value} {l : Addr} {kl : Nat} {m₀ : Str → Option Value} {R : List (Addr × Obj)} (stored : List Str)
    (hh : A.handled = none) (hxi : env.kindOf xi = some .local) (hxv : env.kindOf xv = some .local) (hpk : (env.scope.kind == .class || (env.scope.kind == .module && env.locals != env.globals)) = false)
    (F : Fr h₀ env.locals s.heap m₀) (N : News h₀ env.locals s.heap R) (hm : (l, listOf items.toArray kl) ∈ R)
    (turn : ∀ (i : Nat) (v : Value) (t : Tok) (u : Str → Option Value) (e it : Addr) (oe oi : Obj) (h : Heap) (tk : Nat), items[i]? = some v →
      Fr h₀ env.locals h (fun y => if y = xv then some v else if y = xi then some (.int i t) else if stored.contains y then u y else m₀ y) → News h₀ env.locals h ((e, oe) :: (it, oi) :: R) →
      wpC (model prog w) A (execs body env) (McePost h₀ env.locals s stored m₀ ((e, oe) :: (it, oi) :: R) Q) E { s with heap := h, toks := tk })
    (done : ∀ (u : Str → Option Value) (h : Heap) (tk : Nat), Fr h₀ env.locals h (fun z => if stored.contains z then u z else m₀ z) → News h₀ env.locals h R → Q .next { s with heap := h, toks := tk }) :
    wpAny (model prog w) A (call (.type "enumerate") [.ref l]) (fun x s₁ => wpAny (model prog w) A (pyIter x) (fun it s₂ =>
      ∃ (I : Nat → Shared → Prop) (n₀ : Nat), I n₀ s₂ ∧ ∀ n s, I n s → wpAny (model prog w) A (pyNext it) (fun r s₁ => match r with
      | none => Q .next s₁
      | some v => wpAny (model prog w) A (letOwnedTupleGo (.Tuple [.Name xi pi, .Name xv pv] x1 pt) it v) (fun _ s₁' =>
          wpAny (model prog w) A (assign (.Tuple [.Name xi pi, .Name xv pv] x1 pt) env v) (fun _ s₂ => wpC (model prog w) A (execs body env) (fun f s₃ => match f with
            | .next | .cont => ∃ m, m < n ∧ I m s₃
            | .brk => Q .next s₃
            | .ret v => Q (.ret v) s₃) E s₂) E s₁') E s₁) E s) E s₁) E s := by
  have hiL : s.heap.objs.size ≠ env.locals := Nat.ne_of_gt F.ns.lt
  have heL : s.heap.objs.size + 1 ≠ env.locals := Nat.ne_of_gt (Nat.lt_succ_of_lt F.ns.lt)
  have hsz : h₀.objs.size ≤ s.heap.objs.size := Nat.le_trans F.above (Nat.le_of_lt F.ns.lt)
  have hin : h₀.get? s.heap.objs.size = none := Heap.get?_none_of_le hsz
  have hen : h₀.get? (s.heap.objs.size + 1) = none := Heap.get?_none_of_le (Nat.le_succ_of_le hsz)
  have hRi : ∀ p ∈ R, p.1 ≠ s.heap.objs.size := fun p hp => Nat.ne_of_lt (Heap.lt_size (N p hp).1)
  have hRe : ∀ p ∈ R, p.1 ≠ s.heap.objs.size + 1 := fun p hp => Nat.ne_of_lt (Nat.lt_succ_of_lt (Heap.lt_size (N p hp).1))
  have hei : s.heap.objs.size + 1 ≠ s.heap.objs.size := Nat.succ_ne_self _
  refine call_enumerate_1 (N _ hm).1 fun h₁ he₁ hit₁ hz₁ hk₁ => wpAny_pyIter_enum he₁ ?_
  refine ⟨fun n s' => ∃ (i : Nat) (old : Value) (h : Heap) (tk : Nat) (m : Str → Option Value), s' = { s with heap := h, toks := tk } ∧ i ≤ items.length ∧ n = items.length - i ∧ Fr h₀ env.locals h m ∧ News h₀ env.locals h R ∧
      IsEnum h (s.heap.objs.size + 1) s.heap.objs.size (i : Int) old ∧ h.IsListIter s.heap.objs.size l i ∧ (∀ z, stored.contains z = false → m z = m₀ z),
    items.length, ⟨0, .none, h₁, s.toks, m₀, rfl, Nat.zero_le _, rfl, F.keeps hk₁, (fun p hp => ⟨hk₁ _ _ (N p hp).1, (N p hp).2⟩), he₁, hit₁, fun _ _ => rfl⟩, ?_⟩
  rintro n s' ⟨i, old, H, tk, m, rfl, hi, rfl, F₁, N₁, he, hit, hr⟩
  have hl : H.IsList l items.toArray := N₁.isList hm
  have em := stored_map hr
  cases hv : items[i]? with
  | none =>
    have hlen : items.length ≤ i := by simpa using hv
    refine wpAny_pyNext_enum_end (s := { s with heap := H, toks := tk }) hh he hit hl (by rw [List.getElem?_toArray]; exact hv) fun h₂ hx₂ => ?_
    have F₂ : Fr h₀ env.locals h₂ m := fr_but F₁ hiL hin fun b o hb e => hx₂ b o hb e
    rw [em] at F₂
    exact done m h₂ tk F₂ (news_but N₁ hRi fun b o hb e => hx₂ b o hb e)
  | some v =>
    have hlt : i < items.length := (List.getElem?_eq_some_iff.mp hv).1
    have heH : s.heap.objs.size + 1 < H.objs.size := Heap.lt_size he
    have hiH : s.heap.objs.size < H.objs.size := Nat.lt_trans (Nat.lt_succ_self _) heH
    have hLH : env.locals < H.objs.size := F₁.ns.lt
    refine wpAny_pyNext_enum_item (s := { s with heap := H, toks := tk }) he hit hl (by rw [List.getElem?_toArray]; exact hv) hei fun h₂ heo hit₂ ht₂ hz₂ hk₂ => ?_
    replace hz₂ : h₂.objs.size = H.objs.size + 1 := hz₂
    replace ht₂ : h₂.get? H.objs.size = some { cls := .type "tuple", data := .seq #[.int i tk, v] } := ht₂
    refine wpAny_letOwnedTupleGo_enum heo fun h₃ he₃ hs₃ => ?_
    replace hs₃ : Heap.SameBut (s.heap.objs.size + 1) h₂ h₃ := hs₃
    have hz₃ : h₃.objs.size = H.objs.size + 1 := hs₃.1.trans hz₂
    have ht₃ : h₃.IsTuple H.objs.size #[.int i tk, v] := ⟨_, (hs₃.2 _ (Nat.ne_of_gt heH)).trans ht₂, rfl, _, rfl⟩
    refine wpAny_assign_Tuple hh ht₃ rfl rfl fun h₄ hx₄ => ?_
    replace hx₄ : Heap.ExtBut h₃.objs.size h₃ h₄ := hx₄
    have old₄ : ∀ b o, b < H.objs.size → h₃.get? b = some o → h₄.get? b = some o := fun b o hb x => hx₄ b o (by rw [hz₃]; exact Nat.ne_of_lt (Nat.lt_succ_of_lt hb)) x
    have up : ∀ b o, b ≠ s.heap.objs.size → b ≠ s.heap.objs.size + 1 → H.get? b = some o → h₄.get? b = some o := fun b o h1 h2 e => old₄ b o (Heap.lt_size e) (hs₃.extBut b o h2 (hk₂ b o h2 h1 e))
    have F₄ : Fr h₀ env.locals h₄ m := fr_but2 F₁ hiL heL hin hen up
    have N₄ : News h₀ env.locals h₄ R := news_but2 N₁ hRi hRe up
    have he₄ := old₄ _ _ heH he₃
    obtain ⟨oi, hoi, hoc, hod⟩ := hit₂
    have hoi₄ : h₄.get? s.heap.objs.size = some oi := old₄ _ _ hiH (hs₃.extBut _ _ (Ne.symm hei) hoi)
    show wpAny _ A (do holding [v] (assign (.Name xi pi) env (.int i tk)); do holding [] (assign (.Name xv pv) env v); pure ()) _ _ _
    refine wpAny_bind (wpAny_holding (wpAny_assign_Name (wpAny_storeName_local hxi F₄.ns (fun h₅ hn₅ hs₅ => ?_) hpk)))
    have F₅ := F₄.set hn₅ hs₅
    have N₅ : News h₀ env.locals h₅ R := N₄.set hs₅
    refine wpAny_bind (wpAny_holding (wpAny_assign_Name (wpAny_storeName_local hxv F₅.ns (fun h₆ hn₆ hs₆ => wpAny_pure ?_) hpk)))
    have F₆ := F₅.set hn₆ hs₆
    have N₆ : News h₀ env.locals h₆ R := N₅.set hs₆
    have he₆ : h₆.get? (s.heap.objs.size + 1) = some _ := (hs₆.2 _ heL).trans ((hs₅.2 _ heL).trans he₄)
    have hoi₆ : h₆.get? s.heap.objs.size = some oi := (hs₆.2 _ hiL).trans ((hs₅.2 _ hiL).trans hoi₄)
    rw [em] at F₆
    refine wpC_mono (turn i v tk m (s.heap.objs.size + 1) s.heap.objs.size { cls := .type "enumerate", dict := none, data := .fields #[.none, .bool false, .ref s.heap.objs.size, rawInt ((i : Int) + 1), .none, v], slots := #[] } oi h₆ _ hv F₆ ?_) (fun f s₃ q => ?_) fun _ _ x => x
    · intro p hp
      rcases List.mem_cons.mp hp with rfl | hp
      · exact ⟨he₆, heL, hen⟩
      · rcases List.mem_cons.mp hp with rfl | hp
        · exact ⟨hoi₆, hiL, hin⟩
        · exact N₆ p hp
    · have fin : ∀ {oe : Obj}, oe = { cls := .type "enumerate", dict := none, data := .fields #[.none, .bool false, .ref s.heap.objs.size, rawInt ((i : Int) + 1), .none, v], slots := #[] } → MceEnd h₀ env.locals s stored m₀ ((s.heap.objs.size + 1, oe) :: (s.heap.objs.size, oi) :: R) s₃ → ∃ m₁, m₁ < items.length - i ∧ ∃ (i : Nat) (old : Value) (h : Heap) (tk : Nat) (m : Str → Option Value), s₃ = { s with heap := h, toks := tk } ∧ i ≤ items.length ∧ m₁ = items.length - i ∧ Fr h₀ env.locals h m ∧ News h₀ env.locals h R ∧
          IsEnum h (s.heap.objs.size + 1) s.heap.objs.size (i : Int) old ∧ h.IsListIter s.heap.objs.size l i ∧ (∀ z, stored.contains z = false → m z = m₀ z) := by
        rintro oe rfl ⟨h', tk', m', news', rfl, F', N', hn', hr'⟩
        refine ⟨items.length - (i + 1), by omega, i + 1, v, h', tk', m', rfl, hlt, rfl, F', fun p hp => N' p (hn' p (.tail _ (.tail _ hp))), ?_, ⟨oi, (N' _ (hn' _ (.tail _ (.head _)))).1, hoc, hod⟩, hr'⟩
        have : ((i + 1 : Nat) : Int) = (i : Int) + 1 := by push_cast; rfl
        rw [this]
        exact (N' _ (hn' _ (.head _))).1
      cases f with
      | ret v => exact q
      | brk => exact q
      | next => exact fin rfl q
      | cont => exact fin rfl q
end
section
variable {prog : Program} {w : World} {A : Around} {E : Value → Shared → Prop} {h₀ h₁ : Heap} {L l : Addr} {m : Str → Option Value} {news : List (Addr × Obj)} {value slice : Expr} {vs : List Value} {ns ms : List Int} {vl vu : Value} {lo hi : Option Int} {Q : Value → Shared → Prop}
theorem my_slice {k : Nat} {gs dr tk os} (F : Fr h₀ L h₁ m) (N : News h₀ L h₁ news) (hl : (l, listOf vs.toArray k) ∈ news) (pl : IsPart vl lo) (pu : IsPart vu hi) (hi' : IntsAre vs ns) (hm : IntsAre (slicePick vs.toArray lo hi none).toList ms) (hz : ns.length ≤ 16777216)
    (h : ∀ D ws h', IntsAre ws ms → ms.length ≤ ns.length → Fr h₀ L h' m → News h₀ L h' ((D, listOf (List.toArray ws) 0) :: news) → (∀ p ∈ news, p.1 < D) → Q (.ref D) ⟨h', gs, dr, tk, os⟩)
    (hs : subscripted slice false (.ref l) (.ref h₁.objs.size) = operate [.ref h₁.objs.size, .ref l] (getItem (.ref l) (.ref h₁.objs.size))) (ht : ∀ r, letTemporaryGo value (.ref l) r = pure ()) :
    wpAny (model prog w) A (subscriptTail value slice (.ref l) (.ref h₁.objs.size)) Q E ⟨h₁.push { cls := .type "slice", data := .fields #[vl, vu, .none] }, gs, dr, tk, os⟩ :=
  kmk_slice_ints (s := ⟨h₁, gs, dr, tk, os⟩) F N (N.isList hl) pl pu hi' hm rfl (fun D ws h' F' N' l1 hI _ hL => h D ws h' hI hL F' N' l1) hs ht (by rw [List.size_toArray, hi'.length, sizeLine_eq]; exact hz)
end
end Mine
namespace Mine
/-! ### the walk's lines for the clean logic -/
local macro_rules | `(tactic| walk_at "compareOp In int bytes") => `(tactic| ((with_reducible show wpAny _ _ (compareOp CmpOp.In (Value.int 0 _) (Value.bytes _ _)) _ _ _); refine in_bytes0 (by assumption) (NZ.cut (by assumption)) ?_))
local macro_rules | `(tactic| walk_at "getMethod ref") => `(tactic| (k_here; k_dflt (refine getMethod_ba_append (News.get (by k_asm) (by k_mem)) ?_)))
local macro_rules | `(tactic| walk_at "call type:bytes") => `(tactic| (k_here; (with_reducible show wpAny _ _ (call (Value.type "bytes") [Value.ref _]) _ _ _); k_dflt (refine' call_bytes_baK ?k1 ?k2 ?k3 ?_; (case k1 => k_asm); (case k2 => assumption); (case k3 => ((try simp only [List.length_append, List.length_take, List.length_drop, List.length_cons, List.length_nil]); omega)); k_whole); intro t9 k9; (try dsimp only)))
local macro_rules | `(tactic| walk_at "subscriptTail") => `(tactic| ((with_reducible show wpAny _ _ (subscriptTail _ _ (Value.bytes _ _) (Value.int (-1) _)) _ _ _); k_dflt (refine' bytes_last ?k1 ?k2 ?k3 ?_ ?k4; (case k1 => assumption); (case k2 => assumption); (case k3 => assumption); (case k4 => with_unfolding_all rfl); k_whole); intro t9 k9 hlo9 hhi9))
local macro_rules | `(tactic| walk_at "subscriptTail") => `(tactic| ((with_reducible show wpAny _ _ (subscriptTail _ _ (Value.bytes _ _) (Value.int (-1) _)) _ _ _); k_dflt (refine' bytes_last_none ?k1 ?k2 ?_ ?k4; (case k1 => assumption); (case k2 => exact rfl); (case k4 => with_unfolding_all rfl); k_whole); intro h' tk' e' x'))
local macro_rules | `(tactic| k_all) => `(tactic| assumption)
local macro_rules | `(tactic| walk_at "subscriptTail") => `(tactic| ((with_reducible show wpAny _ _ (subscriptTail _ _ (Value.ref _) (Value.int _ _)) _ _ _); k_dflt (refine' list_item ?k1 ?k2 ?k3 ?k4 ?k7 ?k5 ?_ ?k6; (case k1 => k_asm); (case k2 => k_mem); (case k3 => assumption); (case k4 => omega); (case k7 => omega); (case k5 => omega); (case k6 => with_unfolding_all rfl); k_whole); intro t9))
local macro_rules | `(tactic| walk_at "subscriptTail") => `(tactic| ((with_reducible show wpAny _ _ (subscriptTail _ _ (Value.ref _) (Value.int (-1) _)) _ _ _); k_dflt (refine' list_last ?k1 ?k2 ?k3 ?k4 ?k5 ?_ ?k6; (case k1 => k_asm); (case k2 => k_mem); (case k3 => assumption); (case k4 => assumption); (case k5 => omega); (case k6 => with_unfolding_all rfl); k_whole); intro t9))
local macro_rules | `(tactic| walk_at "wpC") => `(tactic| (plain_pass; (fail_if_success (with_reducible show wpC _ _ (exec (Stmt.While _ _ _ _) _) _ _ _)); (fail_if_success (with_reducible show wpC _ _ (exec (Stmt.For _ _ _ _ _) _) _ _ _)); (fail_if_success (with_reducible show wpC _ _ (call _ _ _) _ _ _)); (fail_if_success (with_reducible show wpC _ _ (inplaceOp _ (Value.ref _) _) _ _ _)); refine wpC_of_any ?_; (try k_fold)))
local macro_rules | `(tactic| walk_at "wpC") => `(tactic| ((with_reducible show wpC _ _ (execs [] _) _ _ _); refine wpC_execs_nil ?_))
local macro_rules | `(tactic| walk_at "wpC") => `(tactic| ((with_reducible show wpC _ _ (execs (_ :: _) _) _ _ _); refine wpC_execs_cons ?_))
local macro_rules | `(tactic| walk_at "wpC") => `(tactic| ((with_reducible show wpC _ _ (exec (Stmt.If _ _ _ _) _) _ _ _); refine wpC_If ?_))
local macro_rules | `(tactic| walk_at "wpC") => `(tactic| ((with_reducible show wpC _ _ (exec (Stmt.Assign [Expr.Name _ _] _ _) _) _ _ _); with_unfolding_all refine wpC_Assign_Name ?_ (by with_unfolding_all rfl)))
local macro_rules | `(tactic| walk_at "wpC") => `(tactic| ((with_reducible show wpC _ _ (exec (Stmt.Return (some _) _) _) _ _ _); refine wpC_Return_some ?_))
local macro_rules | `(tactic| walk_at "wpC") => `(tactic| ((with_reducible show wpC _ _ (exec (Stmt.Expr (Expr.Call (Expr.Attribute _ _ _) _ _ _) _) _) _ _ _); with_unfolding_all refine wpC_Expr ?_ (by with_unfolding_all rfl) (by with_unfolding_all rfl)))
local macro_rules | `(tactic| walk_at "wpC") => `(tactic| ((with_reducible show wpC _ _ (eval (Expr.Call (Expr.Attribute (Expr.Name (PySem.Str.ofString "out_bytes") _) _ _) _ _ _) _) _ _ _); with_unfolding_all refine wpC_MethodCall (trees := [(false, eval _ _)]) (by with_unfolding_all rfl) ?_ (by with_unfolding_all rfl)))
local macro_rules | `(tactic| walk_at "wpC") => `(tactic| ((with_reducible show wpC _ _ (exec (Stmt.AugAssign (Expr.Name (PySem.Str.ofString "out_bytes") _) _ _ _) _) _ _ _); refine wpC_AugAssign_Name ?_))
local macro_rules | `(tactic| walk_at "wpC") => `(tactic| ((with_reducible show wpC _ _ (eval (Expr.Call (Expr.Name (PySem.Str.ofString "bytearray") _) _ _ _) _) _ _ _); with_unfolding_all refine wpC_Call_Name (trees := []) (by with_unfolding_all rfl) ?_))
local macro_rules | `(tactic| walk_at "wpC") => `(tactic| ((with_reducible show wpC _ _ (callWith _ (Value.type _) [] [] []) _ _ _); with_unfolding_all refine wpC_callWith_machine0 rfl ?_))
local macro_rules | `(tactic| walk_at "wpC") => `(tactic| ((with_reducible show wpC _ _ (callWith _ (Value.builtin _) _ [(false, _)] []) _ _ _); with_unfolding_all refine wpC_callWith_machine1 rfl ?_))
local macro_rules | `(tactic| walk_at "wpC") => `(tactic| ((with_reducible show wpC _ _ (call (Value.type "bytearray") [] []) _ _ _); k_dflt (refine' ba_make ?k0 ?k1 ?k2 ?_; (case k0 => exact rfl); (case k1 => k_asm); (case k2 => k_asm); k_whole); intro l' h' F' N' l1; (try k_lt l1); (try k_sweep)))
local macro_rules | `(tactic| walk_at "wpC") => `(tactic| ((with_reducible show wpC _ _ (call (Value.builtin "bytearray.append") _ []) _ _ _); k_dflt (refine' ba_appendK ?k0 ?k1 ?k2 ?k3 ?k7 ?k4 ?k5 ?k6 ?_; (case k0 => exact rfl); (case k1 => k_asm); (case k2 => k_asm); (case k3 => assumption); (case k7 => assumption); (case k4 => omega); (case k5 => omega); (case k6 => ((try simp only [List.length_append, List.length_take, List.length_drop, List.length_cons, List.length_nil]); omega)); k_whole); intro d9 h' hd9 F' N'; (try k_sweep)))
local macro_rules | `(tactic| walk_at "wpC") => `(tactic| ((with_reducible show wpC _ _ (inplaceOp Operator.Add (Value.ref _) (Value.bytes _ _)) _ _ _); k_dflt (refine' ba_iaddK ?k0 ?k1 ?k2 ?k3 ?k5 ?k6 ?k4 ?_; (case k0 => exact rfl); (case k1 => k_asm); (case k2 => k_asm); (case k3 => assumption); (case k5 => assumption); (case k6 => assumption); (case k4 => ((try simp only [List.length_append, List.length_take, List.length_drop, List.length_cons, List.length_nil]); omega)); k_whole); intro d9 h' hd9 F' N'; (try k_sweep)))
local macro_rules | `(tactic| walk_at "McbPost") => `(tactic| (dsimp only [McbPost]))
set_option maxHeartbeats 8000000 in
theorem decR_call {w : World} {mean : ExcName → Option Value} {mg mb : Str → Option Value} {b : Array UInt8} {t : Tok} {ks : List Int} (hb : KBw.bInts b = ks) (hnz : NZ ks) (hne : ks ≠ []) (hlen : ks.length ≤ 1000)
  (dp un : Nat) (cn : Str) (cs : Scope) (a : Addr) (ccd : Value) (cl : List (Str × Addr)) (outer : List Env) (A₀ : Around) (base h₀ : Heap) (L : Addr) (m : Str → Option Value) (news : List (Addr × Obj)) (s : Shared) (Q E : Value → Shared → Prop)
    (B : Below A₀ base outer h₀) (F : Fr h₀ L s.heap m) (X : (Hd.hd.heap_39 w.params).In h₀) (N : News h₀ L s.heap news) (T : Top Hd.hd.view_39 LO mean mg mb h₀) (hk : cs.kind = .function) (hdp : dp + 1 < recursionLimit) (hun : un + 8 < cLine)
    (hret : ∀ (b' : Array UInt8) (t : Tok) (h' : Heap) (tk' : Nat), KBw.bInts b' = decR ks → Fr h₀ L h' m → News h₀ L h' news → Q (.bytes b' t) { s with heap := h', toks := tk' }) :
    wpC (model Challenge.rw_nc0009_01.row.prog w) (ktrTop dp un (some []) cn cs L a ccd cl outer) (call (.ref 41) [.bytes b t]) Q E s := by
  w_on
  revert X
  k_fill
  intro X
  have hpos : 0 < ks.length := List.length_pos_iff.mpr hne
  refine wpC_call ?_
  k_dflt (refine' codeC_def ?k1 ?k2 ?k3 ?k4 ?k5 ?kA ?kF ?kK ?k6 ?k7 ?k8 ?k9 ?kB ?_ ?c2 ?c3 ?c4 ?c5; (case kA => exact rfl); (case kF => exact rfl); (case kK => assumption); (case k1 => k_asm); (case k2 => k_asm); (case k3 => k_asm); (case k4 => k_asm); (case k5 => k_asm); (case k6 => k_is); (case k7 => k_is); (case k8 => ktr_room); (case k9 => exact BindsTo.of_eq rfl); (case c5 => decide); (case kB => exact locs rfl); (case c2 => exact rfl); (case c3 => exact rfl); (case c4 => exact rfl); k_whole; intro g' L' h' FG' F' N' B' X' T' hlt'; (try dsimp only); (try k_lift B'))
  k_steps
  rename Addr => B9
  have hl9 : ∀ p ∈ news, p.1 < B9 := by assumption
  rename News _ _ _ _ => N9
  rename Fr _ _ _ _ => F9
  have hne9 : ∀ p ∈ news, p.1 ≠ B9 := fun p hp => Nat.ne_of_lt (hl9 p hp)
  refine mc_while (σ := Nat × Array UInt8 × Tok) (fun c => (B9, baObj c.2.1) :: news) (fun c => [(Str.ofString "idx", .int (c.1 : Int) c.2.2)]) [Str.ofString "length", Str.ofString "end", Str.ofString "copy_mv"]
    (fun c => c.1 < ks.length ∧ KBw.bInts c.2.1 ++ decR (ks.drop c.1) = decR ks ∧ c.2.1.size ≤ c.1) (fun c => ks.length - c.1) (0, #[], ?t0) F9 N9 ?hk ?hp ?turn ?hE
  case hk => exact List.forall_mem_singleton.mpr (by rw [if_pos rfl]; rfl)
  case hE => passes_own
  case hp => exact ⟨hpos, rfl, Nat.le_refl _⟩
  case turn =>
    clear F9 N9
    rintro ⟨i, arr, ti⟩ u h9 tk9 ⟨hi, heq, hsz⟩ F9 N9
    dsimp only at hi heq hsz F9 N9
    obtain ⟨hc1, hc2⟩ := at_in hi hnz
    have hdr := drop_at hi
    have hcl := cutOf_length hi hc1
    unfold cutOf at hcl
    obtain ⟨os, hos⟩ : ∃ os, KBw.bInts arr = os := ⟨_, rfl⟩
    rw [hos] at heq
    rw [bInts_size hos] at hsz
    k_steps
    · exact absurd (by assumption : ks.getD (i : Int).toNat 0 = 0) (by omega)
    · exact hret _ _ _ _ (Eq.trans (by assumption) (decR_over hdr hi hc1 heq (by assumption))) (by assumption) (fun p hp => (by assumption : News h₀ L _ ((B9, _) :: news)) p (.tail _ hp))
    · rename Fr _ _ _ _ => F8
      rename News _ _ _ _ => N8
      refine end_idx ((i : Int) + 1 + ks.getD (i : Int).toNat 0 - 1).toNat _ _ _ F8 N8 (if_pos rfl) (by omega) (by intro z h2 h3; simp only [List.contains_cons, List.contains_nil, Bool.or_false, Bool.or_eq_false_iff, beq_eq_false_iff_ne, ne_eq] at h3; simp [h2, h3, kstB]; intro q1 q2; exact absurd q1 q2) ⟨by dsimp only; omega, ?_, ?_⟩ (by dsimp only; omega)
      · exact (congrArg (· ++ _) (by assumption)).trans (decR_next0 hdr hi hc1 heq (by assumption) (by assumption))
      · dsimp only; rw [bInts_size (by assumption)]; simp only [List.length_append, List.length_cons, List.length_nil]; omega
    · rename Fr _ _ _ _ => F8
      rename News _ _ _ _ => N8
      refine end_idx ((i : Int) + 1 + ks.getD (i : Int).toNat 0 - 1).toNat _ _ _ F8 N8 (if_pos rfl) (by omega) (by intro z h2 h3; simp only [List.contains_cons, List.contains_nil, Bool.or_false, Bool.or_eq_false_iff, beq_eq_false_iff_ne, ne_eq] at h3; simp [h2, h3, kstB]; intro q1 q2; exact absurd q1 q2) ⟨by dsimp only; omega, ?_, ?_⟩ (by dsimp only; omega)
      · exact (congrArg (· ++ _) (by assumption)).trans (decR_next1 hdr hi hc1 heq (by assumption) (by assumption))
      · dsimp only; rw [bInts_size (by assumption)]; simp only [List.length_append, List.length_cons, List.length_nil]; omega
    · exact hret _ _ _ _ (Eq.trans (by assumption) (decR_end hdr hi hc1 heq (by assumption) (by assumption))) (by assumption) (fun p hp => (by assumption : News h₀ L _ ((B9, _) :: news)) p (.tail _ hp))
set_option maxHeartbeats 8000000 in
theorem decP_call {w : World} {mean : ExcName → Option Value} {mg mb : Str → Option Value} {b : Array UInt8} {t : Tok} {ks : List Int} (hb : KBw.bInts b = ks) (hnz : NZ ks) (hne : ks ≠ []) (hlen : ks.length ≤ 1000)
  (dp un : Nat) (cn : Str) (cs : Scope) (a : Addr) (ccd : Value) (cl : List (Str × Addr)) (outer : List Env) (A₀ : Around) (base h₀ : Heap) (L : Addr) (m : Str → Option Value) (news : List (Addr × Obj)) (s : Shared) (Q E : Value → Shared → Prop)
    (B : Below A₀ base outer h₀) (F : Fr h₀ L s.heap m) (X : (Hd.hd.heap_39 w.params).In h₀) (N : News h₀ L s.heap news) (T : Top Hd.hd.view_39 LO mean mg mb h₀) (hk : cs.kind = .function) (hdp : dp + 1 < recursionLimit) (hun : un + 8 < cLine)
    (hrz : decP ks = none → ∀ (e t : Addr) (vs : List Value) (g h' : Heap) (tk' : Nat), Fr h₀ L g m → g.UpToSlots h' → RaisedK base (envX cn cs L a ccd cl :: outer) e (.ref 51) t vs news h' → E (.ref e) { s with heap := h', toks := tk' })
    (hret : ∀ (b' : Array UInt8) (t : Tok) (h' : Heap) (tk' : Nat), some (KBw.bInts b') = decP ks → Fr h₀ L h' m → News h₀ L h' news → Q (.bytes b' t) { s with heap := h', toks := tk' }) :
    wpC (model Challenge.rw_nc0009_01.row.prog w) (ktrTop dp un (some []) cn cs L a ccd cl outer) (call (.ref 68) [.bytes b t]) Q E s := by
  w_on
  revert X
  k_fill
  intro X
  have hpos : 0 < ks.length := List.length_pos_iff.mpr hne
  refine wpC_call ?_
  k_dflt (refine' codeC_def ?k1 ?k2 ?k3 ?k4 ?k5 ?kA ?kF ?kK ?k6 ?k7 ?k8 ?k9 ?kB ?_ ?c2 ?c3 ?c4 ?c5; (case kA => exact rfl); (case kF => exact rfl); (case kK => assumption); (case k1 => k_asm); (case k2 => k_asm); (case k3 => k_asm); (case k4 => k_asm); (case k5 => k_asm); (case k6 => k_is); (case k7 => k_is); (case k8 => ktr_room); (case k9 => exact BindsTo.of_eq rfl); (case c5 => decide); (case kB => exact locs rfl); (case c2 => exact rfl); (case c3 => exact rfl); (case c4 => exact rfl); k_whole; intro g' L' h' FG' F' N' B' X' T' hlt'; (try dsimp only); (try k_lift B'))
  k_steps
  rename Addr => B9
  have hl9 : ∀ p ∈ news, p.1 < B9 := by assumption
  rename News _ _ _ _ => N9
  rename Fr _ _ _ _ => F9
  have hne9 : ∀ p ∈ news, p.1 ≠ B9 := fun p hp => Nat.ne_of_lt (hl9 p hp)
  refine mc_while (σ := Nat × Array UInt8 × Tok) (fun c => (B9, baObj c.2.1) :: news) (fun c => [(Str.ofString "idx", .int (c.1 : Int) c.2.2)]) [Str.ofString "length", Str.ofString "end", Str.ofString "copy_mv"]
    (fun c => c.1 < ks.length ∧ (decP (ks.drop c.1)).map (KBw.bInts c.2.1 ++ ·) = decP ks ∧ c.2.1.size ≤ c.1) (fun c => ks.length - c.1) (0, #[], ?t0) F9 N9 ?hk ?hp ?turn ?hE
  case hk => exact List.forall_mem_singleton.mpr (by rw [if_pos rfl]; rfl)
  case hE => passes_own
  case hp => exact ⟨hpos, Option.map_id' .. , Nat.le_refl _⟩
  case turn =>
    clear F9 N9
    rintro ⟨i, arr, ti⟩ u h9 tk9 ⟨hi, heq, hsz⟩ F9 N9
    dsimp only at hi heq hsz F9 N9
    obtain ⟨hc1, hc2⟩ := at_in hi hnz
    have hdr := drop_at hi
    have hcl := cutOf_length hi hc1
    unfold cutOf at hcl
    obtain ⟨os, hos⟩ : ∃ os, KBw.bInts arr = os := ⟨_, rfl⟩
    rw [hos] at heq
    rw [bInts_size hos] at hsz
    k_steps
    · exact absurd (by assumption : ks.getD (i : Int).toNat 0 = 0) (by omega)
    · exact hrz (decP_over hdr hi heq (by assumption)) _ _ _ _ _ _ FG' (by assumption) (raised_tail (by assumption))
    · rename Fr _ _ _ _ => F8
      rename News _ _ _ _ => N8
      refine end_idx ((i : Int) + 1 + ks.getD (i : Int).toNat 0 - 1).toNat _ _ _ F8 N8 (if_pos rfl) (by omega) (by intro z h2 h3; simp only [List.contains_cons, List.contains_nil, Bool.or_false, Bool.or_eq_false_iff, beq_eq_false_iff_ne, ne_eq] at h3; simp [h2, h3, kstB]; intro q1 q2; exact absurd q1 q2) ⟨by dsimp only; omega, ?_, ?_⟩ (by dsimp only; omega)
      · exact decP_next0 hdr hi hc1 heq (by assumption) (by assumption) (by assumption)
      · dsimp only; rw [bInts_size (by assumption)]; simp only [List.length_append, List.length_cons, List.length_nil]; omega
    · rename Fr _ _ _ _ => F8
      rename News _ _ _ _ => N8
      refine end_idx ((i : Int) + 1 + ks.getD (i : Int).toNat 0 - 1).toNat _ _ _ F8 N8 (if_pos rfl) (by omega) (by intro z h2 h3; simp only [List.contains_cons, List.contains_nil, Bool.or_false, Bool.or_eq_false_iff, beq_eq_false_iff_ne, ne_eq] at h3; simp [h2, h3, kstB]; intro q1 q2; exact absurd q1 q2) ⟨by dsimp only; omega, ?_, ?_⟩ (by dsimp only; omega)
      · exact decP_next1 hdr hi hc1 heq (by assumption) (by assumption) (by assumption)
      · dsimp only; rw [bInts_size (by assumption)]; simp only [List.length_append, List.length_cons, List.length_nil]; omega
    · exact hret _ _ _ _ (Eq.trans (congrArg some (by assumption)) (decP_end hdr hi hc1 heq (by assumption) (by assumption))) (by assumption) (fun p hp => (by assumption : News h₀ L _ ((B9, _) :: news)) p (.tail _ hp))
set_option maxHeartbeats 8000000 in
theorem encP_call {w : World} {mean : ExcName → Option Value} {mg mb : Str → Option Value} {b : Array UInt8} {t : Tok} {ks : List Int} (hb : KBw.bInts b = ks) (hlen : ks.length ≤ 1000)
  (dp un : Nat) (cn : Str) (cs : Scope) (a : Addr) (ccd : Value) (cl : List (Str × Addr)) (outer : List Env) (A₀ : Around) (base h₀ : Heap) (L : Addr) (m : Str → Option Value) (news : List (Addr × Obj)) (s : Shared) (Q E : Value → Shared → Prop)
    (B : Below A₀ base outer h₀) (F : Fr h₀ L s.heap m) (X : (Hd.hd.heap_39 w.params).In h₀) (N : News h₀ L s.heap news) (T : Top Hd.hd.view_39 LO mean mg mb h₀) (hk : cs.kind = .function) (hdp : dp + 1 < recursionLimit) (hun : un + 8 < cLine)
    (hret : ∀ (b' : Array UInt8) (t : Tok) (h' : Heap) (tk' : Nat), KBw.bInts b' = encPgo [] true ks → Fr h₀ L h' m → News h₀ L h' news → Q (.bytes b' t) { s with heap := h', toks := tk' }) :
    wpC (model Challenge.rw_nc0009_01.row.prog w) (ktrTop dp un (some []) cn cs L a ccd cl outer) (call (.ref 61) [.bytes b t]) Q E s := by
  w_on
  revert X
  k_fill
  intro X
  refine wpC_call ?_
  k_dflt (refine' codeC_def ?k1 ?k2 ?k3 ?k4 ?k5 ?kA ?kF ?kK ?k6 ?k7 ?k8 ?k9 ?kB ?_ ?c2 ?c3 ?c4 ?c5; (case kA => exact rfl); (case kF => exact rfl); (case kK => assumption); (case k1 => k_asm); (case k2 => k_asm); (case k3 => k_asm); (case k4 => k_asm); (case k5 => k_asm); (case k6 => k_is); (case k7 => k_is); (case k8 => ktr_room); (case k9 => exact BindsTo.of_eq rfl); (case c5 => decide); (case kB => exact locs rfl); (case c2 => exact rfl); (case c3 => exact rfl); (case c4 => exact rfl); k_whole; intro g' L' h' FG' F' N' B' X' T' hlt'; (try dsimp only); (try k_lift B'))
  k_steps
  rename Addr => B9
  have hl9 : ∀ p ∈ news, p.1 < B9 := by assumption
  rename News _ _ _ _ => N9
  rename Fr _ _ _ _ => F9
  have hne9 : ∀ p ∈ news, p.1 ≠ B9 := fun p hp => Nat.ne_of_lt (hl9 p hp)
  refine mc_bytes (σ := EncS) (R := news) (B := B9) (ks := ks) (b := b) (tb := t) (·.arr) (fun c => [(Str.ofString "idx", .int (c.idx : Int) c.t1), (Str.ofString "search_start_idx", .int (c.st : Int) c.t2), (Str.ofString "final_zero", .bool c.fz)]) []
    (fun i c => c.idx = i ∧ c.st ≤ i ∧ i - c.st ≤ 253 ∧ KBw.bInts c.arr ++ encPgo (curOf ks c.st i) c.fz (ks.drop i) = encPgo [] true ks ∧ c.arr.size ≤ 2 * c.st) ⟨0, 0, true, #[], ?t1, ?t2⟩ hb rfl rfl rfl F9 N9 hne9 ?hk ?hp ?hev ?turn ?done ?hE ?hs
  case hk => refine enc_start F9 ?_ ?_ ?_ <;> with_unfolding_all exact rfl
  case hE => passes_own
  case hs => intro _; rfl
  case hp => exact ⟨rfl, Nat.le_refl _, Nat.zero_le _, by dsimp only; rw [curOf_nil]; rfl, Nat.le_refl _⟩
  case hev => intro Q' hQ'; exact ld F9 (by rfl) hQ'
  case turn =>
    clear F9 N9
    rintro i ⟨idx, st, fz, arr, t1, t2⟩ t3 u I9 o9 h9 tk9 hi ⟨hidx, hst, hd, heq, hsz⟩ hne9' F9 N9
    dsimp only at hidx hst hd heq hsz F9 N9
    subst hidx
    obtain ⟨os, hos⟩ : ∃ os, KBw.bInts arr = os := ⟨_, rfl⟩
    rw [hos] at heq
    rw [bInts_size hos] at hsz
    k_steps
    · rename Fr _ _ _ _ => F8
      rename News _ _ _ _ => N8
      refine enc_end (idx + 1) (idx + 1) true _ _ _ _ _ F8 N8 (by with_unfolding_all exact rfl) rfl (by with_unfolding_all exact rfl) rfl (by with_unfolding_all exact rfl) (by intro z h1 h2 h3 h4; simp [h1, h2, h3, h4, kstB]; try (intro q1 q2; exact absurd q1 q2)) ⟨rfl, by dsimp only; omega, by dsimp only; omega, ?_, ?_⟩
      · exact encP_zero hi hst heq (by assumption) (by assumption) (min_cur hst (by omega))
      · dsimp only; rw [bInts_size (by assumption)]; have hl8 := len_of (by assumption : KBw.bInts _ = _ ++ _ ++ _) (min_cur hst (by omega)) hst (by omega); rw [(by assumption : KBw.bInts _ = _ ++ _ ++ _)] at hl8; omega
    · rename Fr _ _ _ _ => F8
      rename News _ _ _ _ => N8
      refine enc_end (idx + 1) (idx + 1) false _ _ _ _ _ F8 N8 (by with_unfolding_all exact rfl) rfl (by with_unfolding_all exact rfl) rfl (by with_unfolding_all exact rfl) (by intro z h1 h2 h3 h4; simp [h1, h2, h3, h4, kstB]; try (intro q1 q2; exact absurd q1 q2)) ⟨rfl, by dsimp only; omega, by dsimp only; omega, ?_, ?_⟩
      · exact encP_full hi hst heq (by assumption) (by assumption) (by assumption) (min_cur1 hst hi)
      · dsimp only; rw [bInts_size (by assumption)]; have hl8 := len_of (by assumption : KBw.bInts _ = _ ++ _ ++ _) (min_cur1 hst hi) (by omega) (by omega); rw [(by assumption : KBw.bInts _ = _ ++ _ ++ _)] at hl8; omega
    · rename Fr _ _ _ _ => F8
      rename News _ _ _ _ => N8
      refine enc_end (idx + 1) st fz _ _ _ _ _ F8 N8 (by with_unfolding_all exact rfl) rfl (by with_unfolding_all exact rfl) rfl (by with_unfolding_all exact rfl) (by intro z h1 h2 h3 h4; simp [h1, h2, h3, h4, kstB]; try (intro q1 q2; exact absurd q1 q2)) ⟨rfl, by dsimp only; omega, by dsimp only; omega, ?_, ?_⟩
      · exact encP_on hi hst heq (by assumption) (by assumption) (by assumption)
      · dsimp only; rw [bInts_size (by assumption)]; omega
  case done =>
    clear F9 N9
    rintro ⟨idx, st, fz, arr, t1, t2⟩ u h9 tk9 ⟨hidx, hst, hd, heq, hsz⟩ F9 N9
    dsimp only at hidx hst hd heq hsz F9 N9
    subst hidx
    obtain ⟨os, hos⟩ : ∃ os, KBw.bInts arr = os := ⟨_, rfl⟩
    rw [hos] at heq
    rw [bInts_size hos] at hsz
    k_steps
    · exact hret _ _ _ _ (encP_last hst heq (.inl (by assumption)) (by assumption) (min_cur hst (Nat.le_refl _))) (by assumption) (fun p hp => (by assumption : News h₀ L _ ((B9, _) :: news)) p (.tail _ hp))
    · exact hret _ _ _ _ (encP_last hst heq (.inr (by assumption)) (by assumption) (min_cur hst (Nat.le_refl _))) (by assumption) (fun p hp => (by assumption : News h₀ L _ ((B9, _) :: news)) p (.tail _ hp))
    · exact hret _ _ _ _ (hos.trans (encP_none heq (by assumption) (by assumption))) (by assumption) (fun p hp => (by assumption : News h₀ L _ ((B9, _) :: news)) p (.tail _ hp))
set_option maxHeartbeats 8000000 in
theorem encR_call1 {w : World} {mean : ExcName → Option Value} {mg mb : Str → Option Value} {b : Array UInt8} {t : Tok} {ks : List Int} (hb : KBw.bInts b = ks) (hks : ks ≠ []) (hlen : ks.length ≤ 1000)
  (dp un : Nat) (cn : Str) (cs : Scope) (a : Addr) (ccd : Value) (cl : List (Str × Addr)) (outer : List Env) (A₀ : Around) (base h₀ : Heap) (L : Addr) (m : Str → Option Value) (news : List (Addr × Obj)) (s : Shared) (Q E : Value → Shared → Prop)
    (B : Below A₀ base outer h₀) (F : Fr h₀ L s.heap m) (X : (Hd.hd.heap_39 w.params).In h₀) (N : News h₀ L s.heap news) (T : Top Hd.hd.view_39 LO mean mg mb h₀) (hk : cs.kind = .function) (hdp : dp + 1 < recursionLimit) (hun : un + 8 < cLine)
    (hret : ∀ (b' : Array UInt8) (t : Tok) (h' : Heap) (tk' : Nat), KBw.bInts b' = encRgo (ks.getLastD 0) [] ks → Fr h₀ L h' m → News h₀ L h' news → Q (.bytes b' t) { s with heap := h', toks := tk' }) :
    wpC (model Challenge.rw_nc0009_01.row.prog w) (ktrTop dp un (some []) cn cs L a ccd cl outer) (call (.ref 34) [.bytes b t]) Q E s := by
  w_on
  revert X
  k_fill
  intro X
  refine wpC_call ?_
  k_dflt (refine' codeC_def ?k1 ?k2 ?k3 ?k4 ?k5 ?kA ?kF ?kK ?k6 ?k7 ?k8 ?k9 ?kB ?_ ?c2 ?c3 ?c4 ?c5; (case kA => exact rfl); (case kF => exact rfl); (case kK => assumption); (case k1 => k_asm); (case k2 => k_asm); (case k3 => k_asm); (case k4 => k_asm); (case k5 => k_asm); (case k6 => k_is); (case k7 => k_is); (case k8 => ktr_room); (case k9 => exact BindsTo.of_eq rfl); (case c5 => decide); (case kB => exact locs rfl); (case c2 => exact rfl); (case c3 => exact rfl); (case c4 => exact rfl); k_whole; intro g' L' h' FG' F' N' B' X' T' hlt'; (try dsimp only); (try k_lift B'))
  k_steps
  rename Addr => B9
  have hl9 : ∀ p ∈ news, p.1 < B9 := by assumption
  rename News _ _ _ _ => N9
  rename Fr _ _ _ _ => F9
  have hne9 : ∀ p ∈ news, p.1 ≠ B9 := fun p hp => Nat.ne_of_lt (hl9 p hp)
  refine mc_bytes (σ := EncS) (R := news) (B := B9) (ks := ks) (b := b) (tb := t) (·.arr) (fun c => [(Str.ofString "idx", .int (c.idx : Int) c.t1), (Str.ofString "search_start_idx", .int (c.st : Int) c.t2)]) []
    (fun i c => c.idx = i ∧ c.st ≤ i ∧ i - c.st ≤ 254 ∧ KBw.bInts c.arr ++ encRgo (ks.getLastD 0) (curOf ks c.st i) (ks.drop i) = encRgo (ks.getLastD 0) [] ks ∧ c.arr.size ≤ 2 * c.st) ⟨0, 0, false, #[], ?t1, ?t2⟩ hb rfl rfl rfl F9 N9 hne9 ?hk ?hp ?hev ?turn ?done ?hE ?hs
  case hk => refine encr_start F9 ?_ ?_ <;> with_unfolding_all exact rfl
  case hE => passes_own
  case hs => intro _; rfl
  case hp => exact ⟨rfl, Nat.le_refl _, Nat.zero_le _, by dsimp only; rw [curOf_nil]; rfl, Nat.le_refl _⟩
  case hev => intro Q' hQ'; exact ld F9 (by rfl) hQ'
  case turn =>
    clear F9 N9
    rintro i ⟨idx, st, fz, arr, t1, t2⟩ t3 u I9 o9 h9 tk9 hi ⟨hidx, hst, hd, heq, hsz⟩ hne9' F9 N9
    dsimp only at hidx hst hd heq hsz F9 N9
    subst hidx
    obtain ⟨os, hos⟩ : ∃ os, KBw.bInts arr = os := ⟨_, rfl⟩
    rw [hos] at heq
    rw [bInts_size hos] at hsz
    k_steps
    · rename Fr _ _ _ _ => F8
      rename News _ _ _ _ => N8
      skip
      refine encr_end (idx + 1) (idx + 1) _ _ _ _ _ F8 N8 (by with_unfolding_all exact rfl) rfl (by with_unfolding_all exact rfl) rfl (by intro z h1 h2 h3; by_cases hz : z = Str.ofString "out_bytes" <;> first | (subst hz; with_unfolding_all exact rfl) | simp [h1, h2, h3, hz, kstB]) ⟨rfl, by dsimp only; omega, by dsimp only; omega, ?_, ?_⟩
      · exact encR_fzero hi hst heq (by assumption) (by assumption) (by assumption) (min_cur hst (by omega)) (min_cur (Nat.le_refl _) (by omega))
      · dsimp only; rw [bInts_size (by assumption)]; simp only [List.length_append, List.length_take, List.length_drop, List.length_cons, List.length_nil]; omega
    · rename Fr _ _ _ _ => F8
      rename News _ _ _ _ => N8
      skip
      refine encr_end (idx + 1) idx _ _ _ _ _ F8 N8 (by with_unfolding_all exact rfl) rfl (by with_unfolding_all exact rfl) rfl (by intro z h1 h2 h3; by_cases hz : z = Str.ofString "out_bytes" <;> first | (subst hz; with_unfolding_all exact rfl) | simp [h1, h2, h3, hz, kstB]) ⟨rfl, by dsimp only; omega, by dsimp only; omega, ?_, ?_⟩
      · exact encR_fon hi hst heq (by assumption) (by assumption) (by assumption) (min_cur hst (by omega))
      · dsimp only; rw [bInts_size (by assumption)]; simp only [List.length_append, List.length_take, List.length_drop, List.length_cons, List.length_nil]; omega
    · rename Fr _ _ _ _ => F8
      rename News _ _ _ _ => N8
      skip
      refine encr_end (idx + 1) (idx + 1) _ _ _ _ _ F8 N8 (by with_unfolding_all exact rfl) rfl (by with_unfolding_all exact rfl) rfl (by intro z h1 h2 h3; by_cases hz : z = Str.ofString "out_bytes" <;> first | (subst hz; with_unfolding_all exact rfl) | simp [h1, h2, h3, hz, kstB]) ⟨rfl, by dsimp only; omega, by dsimp only; omega, ?_, ?_⟩
      · exact encR_zero hi hst heq (by assumption) (by assumption) (by assumption) (min_cur hst (by omega))
      · dsimp only; rw [bInts_size (by assumption)]; simp only [List.length_append, List.length_take, List.length_drop, List.length_cons, List.length_nil]; omega
    · rename Fr _ _ _ _ => F8
      rename News _ _ _ _ => N8
      skip
      refine encr_end (idx + 1) st _ _ _ _ _ F8 N8 (by with_unfolding_all exact rfl) rfl (by with_unfolding_all exact rfl) rfl (by intro z h1 h2 h3; by_cases hz : z = Str.ofString "out_bytes" <;> first | (subst hz; with_unfolding_all exact rfl) | simp [h1, h2, h3, hz, kstB]) ⟨rfl, by dsimp only; omega, by dsimp only; omega, ?_, ?_⟩
      · exact encR_on hi hst heq (by assumption) (by assumption) (by assumption)
      · dsimp only; rw [bInts_size (by assumption)]; omega
  case done =>
    clear F9 N9
    rintro ⟨idx, st, fz, arr, t1, t2⟩ u h9 tk9 ⟨hidx, hst, hd, heq, hsz⟩ F9 N9
    dsimp only at hidx hst hd heq hsz F9 N9
    subst hidx
    obtain ⟨os, hos⟩ : ∃ os, KBw.bInts arr = os := ⟨_, rfl⟩
    rw [hos] at heq
    rw [bInts_size hos] at hsz
    k_steps
    · exact hret _ _ _ _ (encR_last1 hst heq (by assumption) (by assumption) (min_cur hst (Nat.le_refl _))) (by assumption) (fun p hp => (by assumption : News h₀ L _ ((B9, _) :: news)) p (.tail _ hp))
    · exact hret _ _ _ _ (encR_last2 hst heq (by assumption) (by assumption) (min_cur2 hst hks)) (by assumption) (fun p hp => (by assumption : News h₀ L _ ((B9, _) :: news)) p (.tail _ hp))
set_option maxHeartbeats 8000000 in
theorem encR_call0 {w : World} {mean : ExcName → Option Value} {mg mb : Str → Option Value} {b : Array UInt8} {t : Tok} (hb : KBw.bInts b = [])
  (dp un : Nat) (cn : Str) (cs : Scope) (a : Addr) (ccd : Value) (h₀ : Heap) (L : Addr) (m : Str → Option Value) (news : List (Addr × Obj)) (s : Shared) (Q E : Value → Shared → Prop)
    (F : Fr h₀ L s.heap m) (X : (Hd.hd.heap_39 w.params).In h₀) (N : News h₀ L s.heap news) (T : Top Hd.hd.view_39 LO mean mg mb h₀) (hk : cs.kind = .function) (hdp : dp + 1 < recursionLimit) (hun : un + 8 < cLine)
    (hret : ∀ (b' : Array UInt8) (t : Tok) (h' : Heap) (tk' : Nat), KBw.bInts b' = encRgo 0 [] [] → Fr h₀ L h' m → News h₀ L h' news → Q (.bytes b' t) { s with heap := h', toks := tk' }) :
    wpC (model Challenge.rw_nc0009_01.row.prog w) (ktrTop dp un (some []) cn cs L a ccd [] []) (call (.ref 34) [.bytes b t]) Q E s := by
  w_on
  revert X
  k_fill
  intro X
  refine wpC_call ?_
  k_dflt (refine' codeC_defL ?k2 ?k3 ?k4 ?k5 ?kA ?k6 ?k7 ?k8 ?k9 ?kB ?_ ?c1 ?c2 ?c3 ?c4 ?c5; (case kA => exact rfl); (case k2 => k_asm); (case k3 => k_asm); (case k4 => k_asm); (case k5 => k_asm); (case k6 => k_is); (case k7 => k_is); (case k8 => ktr_room); (case k9 => exact BindsTo.of_eq rfl); (case c5 => decide); (case kB => exact locs rfl); (case c1 => assumption); (case c2 => exact rfl); (case c3 => exact rfl); (case c4 => exact rfl); k_whole; intro oL' h' L' tiC' tiF' tiE' F' N'; (try dsimp only))
  k_steps
  rename Addr => B9
  have hl9 : ∀ p ∈ news ++ [(L, oL')], p.1 < B9 := by assumption
  rename News _ _ _ _ => N9
  rename Fr _ _ _ _ => F9
  have hne9 : ∀ p ∈ news ++ [(L, oL')], p.1 ≠ B9 := fun p hp => Nat.ne_of_lt (hl9 p hp)
  refine mc_bytes (σ := EncS) (R := news ++ [(L, oL')]) (B := B9) (ks := []) (b := b) (tb := t) (·.arr) (fun c => [(Str.ofString "idx", .int (c.idx : Int) c.t1), (Str.ofString "search_start_idx", .int (c.st : Int) c.t2)]) []
    (fun i c => c.idx = 0 ∧ c.st = 0 ∧ c.arr = #[]) ⟨0, 0, false, #[], ?t1, ?t2⟩ hb rfl rfl rfl F9 N9 hne9 ?hk ?hp ?hev ?turn ?done ?hE ?hs
  case hk => refine encr_start F9 ?_ ?_ <;> with_unfolding_all exact rfl
  case hE => passes_own
  case hs => intro _; rfl
  case hp => exact ⟨rfl, rfl, rfl⟩
  case hev => intro Q' hQ'; exact ld F9 (by rfl) hQ'
  case turn =>
    intro i c t u I o h tk hi
    exact absurd hi (Nat.not_lt_zero _)
  case done =>
    clear F9 N9
    rintro ⟨idx, st, fz, arr, t1, t2⟩ u h9 tk9 ⟨hidx, hst, harr⟩ F9 N9
    dsimp only at hidx hst harr F9 N9
    subst hidx hst harr
    k_steps
    rename Heap.NewExc _ _ _ _ => x9
    have hLB : L < B9 := hl9 (L, oL') (List.mem_append_right _ (.head _))
    have hall : TLg.AllNe L ((B9, baObj #[]) :: news) := TLgL.allNe_of (by
      intro p hp
      rcases List.mem_cons.mp hp with rfl | hp
      · exact Nat.ne_of_gt hLB
      · exact tiE' p hp)
    refine TLg.noted_new1 (new := (B9, baObj #[]) :: news) rfl tiF' x9 F9 N9 hall ?_
    clear x9 F9 N9
    intro h8 sl8 tiF8 tiH8
    have tiHH8 := TT.HeldNA.held tiH8
    simp only [List.cons_append] at tiH8
    have hb0 : KBw.bInts #[] = [] := rfl
    have hne8 : ∀ p ∈ news ++ [(L, { oL' with slots := sl8 })], p.1 ≠ B9 := by
      intro p hp
      rcases List.mem_append.mp hp with hp | hp
      · exact hne9 p (List.mem_append_left _ hp)
      · rw [List.mem_singleton.mp hp]; exact Nat.ne_of_lt hLB
    k_steps
    rename News _ _ _ _ => N7
    rename Fr _ _ _ _ => F7
    refine TLg.leave_back (new := (B9, baObj _) :: news) tiC' F7 N7 hall ?_
    intro kF kN
    refine hret _ _ _ _ (Eq.trans (by assumption) ?_) kF (fun p hp => kN p (.tail _ hp))
    simp [encRgo]
set_option maxHeartbeats 8000000 in
theorem codes_call {w : World} {mean : ExcName → Option Value} {mg mb : Str → Option Value} {l : Addr} {vs : List Value} {k0 : Nat} {ks : List Int} (hi : IntsAre vs ks) (hnz : NZ ks) (hne : ks ≠ []) (hlen : ks.length ≤ 1000)
  (dp un : Nat) (cn : Str) (cs : Scope) (a : Addr) (ccd : Value) (cl : List (Str × Addr)) (outer : List Env) (A₀ : Around) (base h₀ : Heap) (L : Addr) (m : Str → Option Value) (news : List (Addr × Obj)) (s : Shared) (Q E : Value → Shared → Prop)
    (B : Below A₀ base outer h₀) (F : Fr h₀ L s.heap m) (X : (Hd.hd.heap_39 w.params).In h₀) (N : News h₀ L s.heap ((l, listOf vs.toArray k0) :: news)) (T : Top Hd.hd.view_39 LO mean mg mb h₀) (hk : cs.kind = .function) (hdp : dp + 1 < recursionLimit) (hun : un + 8 < cLine)
    (hret : ∀ (p : Addr) (vs' : List Value) (k' : Nat) (h' : Heap) (tk' : Nat), IntsAre vs' (codesGo 0 ks) → (∀ q ∈ (l, listOf vs.toArray k0) :: news, q.1 ≠ p) → Fr h₀ L h' m → News h₀ L h' ((p, listOf vs'.toArray k') :: (l, listOf vs.toArray k0) :: news) → Q (.ref p) { s with heap := h', toks := tk' }) :
    wpC (model Challenge.rw_nc0009_01.row.prog w) (ktrTop dp un (some []) cn cs L a ccd cl outer) (call (.ref 75) [.ref l]) Q E s := by
  w_on
  revert X
  k_fill
  intro X
  have hpos : 0 < ks.length := List.length_pos_iff.mpr hne
  refine wpC_call ?_
  k_dflt (refine' codeC_def ?k1 ?k2 ?k3 ?k4 ?k5 ?kA ?kF ?kK ?k6 ?k7 ?k8 ?k9 ?kB ?_ ?c2 ?c3 ?c4 ?c5; (case kA => exact rfl); (case kF => exact rfl); (case kK => assumption); (case k1 => k_asm); (case k2 => k_asm); (case k3 => k_asm); (case k4 => k_asm); (case k5 => k_asm); (case k6 => k_is); (case k7 => k_is); (case k8 => ktr_room); (case k9 => exact BindsTo.of_eq rfl); (case c5 => decide); (case kB => exact locs rfl); (case c2 => exact rfl); (case c3 => exact rfl); (case c4 => exact rfl); k_whole; intro g' L' h' FG' F' N' B' X' T' hlt'; (try dsimp only); (try k_lift B'))
  k_steps
  rename Addr => P9
  have hl9 : ∀ p ∈ (l, listOf vs.toArray k0) :: news, p.1 < P9 := allLt_mem (by assumption)
  rename News _ _ _ _ => N9
  rename Fr _ _ _ _ => F9
  have hne9 : ∀ p ∈ (l, listOf vs.toArray k0) :: news, p.1 ≠ P9 := fun p hp => Nat.ne_of_lt (hl9 p hp)
  refine mc_while (σ := List Value × List Int × Nat × Nat) (fun c => (P9, listOf c.1.toArray c.2.2.2) :: (l, listOf vs.toArray k0) :: news) (fun c => []) []
    (fun c => IntsAre c.1 c.2.1 ∧ CodeInv ks c.2.1 c.2.2.1) (fun c => ks.length - c.2.2.1) ([_], [0], 0, 0) F9 N9 ?hk ?hp ?turn ?hE
  case hk => exact List.forall_mem_nil _
  case hE => passes_own
  case hp => exact ⟨IntsAre.cons _ _ IntsAre.nil, CodeInv.start hne⟩
  case turn =>
    clear F9 N9
    rintro ⟨ws, ns, q9, k9⟩ u h9 tk9 ⟨hws, hinv⟩ F9 N9
    dsimp only at hws hinv F9 N9
    have hq := hinv.last
    have hne2 := hinv.ne
    have hl2 := hinv.len
    have hlt := hinv.lt
    have hb := at_in hlt hnz
    have hsz9 : ws.toArray.size ≤ sizeLine := by rw [List.size_toArray, hws.length, PySem.sizeLine_eq]; omega
    k_steps
    · refine append_K (D := P9) F9 N9 (Upd.head hne9) (fun h' F' N' => ?_) hsz9
      clear F9 N9
      rw [List.push_toArray] at N'
      k_steps
      have hc9 : ns.getLastD 0 + ks.getD (ns.getLastD 0).toNat 0 < ks.length := by assumption
      rw [hq, Int.toNat_natCast] at hc9
      obtain ⟨i9, g9⟩ := hinv.next hnz hc9
      refine ksw_end (_, ns ++ [(q9 : Int) + ks.getD q9 0], _, _) F' N' (fun p hp => hp) trivial (List.forall_mem_nil _) (fun z _ _ => rfl) ⟨?_, i9⟩ ?_
      · rw [hq, Int.toNat_natCast]
        exact IntsAre.append hws (.cons _ _ .nil)
      · exact Nat.sub_lt_sub_left (Nat.lt_trans g9 i9.lt) g9
    · rename ¬ _ => hc9
      rw [hq, Int.toNat_natCast] at hc9
      have e9 := hinv.done hnz hc9
      rw [e9] at hws
      exact hret _ _ _ _ _ hws hne9 (by assumption) (by assumption)
structure FnX (P : Params) (f : Addr) where
  body : List Stmt
  scope : Scope
def mkFnX {P : Params} {f : Addr} {name qual : Str} {params : Arguments} {body : List Stmt} {scope : Scope} {dV kV doc pm cdv ct oc : Value} {an od : Option Addr} {osl : Array (Option Value)}
  (_h : (Hd.hd.heap_39 P).lookup f = some ⟨oc, od, .func (fnOf name qual params body scope dV kV doc pm an cdv ct), osl⟩) : FnX P f := ⟨body, scope⟩
set_option maxHeartbeats 8000000 in
noncomputable def lawRec (P : Params) : FnX P 80 :=
  have _h : Challenge.rw_nc0009_01 = Challenge.rw_nc0009_01 ∧ Hd.hd.heap_39 = Hd.hd.heap_39 := by k_fill; exact ⟨rfl, rfl⟩
  by
  w_on
  k_dflt (refine' mkFnX ?h; (case h => k_is))
noncomputable def lawBody (P : Params) : List Stmt := (lawRec P).body
noncomputable def lawScope (P : Params) : Scope := (lawRec P).scope
/-- the body of the law's loop -/
noncomputable def lawLoop (P : Params) : List Stmt := match (lawRec P).body.drop 7 with | .For _ _ b _ _ :: _ => b | _ => []
noncomputable abbrev LA (P : Params) (L a : Addr) (cd : Value) : Around := ktrTop (1 + claimMargin + 1) 7 (some []) (Str.ofString "law") (lawScope P) L a cd [] []
noncomputable abbrev LEnv (P : Params) (L a : Addr) (cd : Value) : Env := envX (Str.ofString "law") (lawScope P) L a cd []
def IsFn (h : Heap) (a : Addr) : Prop := ∃ o fd, h.get? a = some o ∧ o.data = .func fd
theorem isFn_of {K : Frag} {h₀ h : Heap} {L a : Addr} {m : Str → Option Value} {oc : Value} {od : Option Addr} {fd : FuncData} {osl : Array (Option Value)} (X : K.In h₀) (F : Fr h₀ L h m) (e : K.lookup a = some ⟨oc, od, .func fd, osl⟩) : IsFn h a :=
  ⟨_, fd, (X.keeps F.keep) _ _ e, rfl⟩
section
variable {M : Model} {prog : Program} {w : World} {A : Around} {E : Value → Shared → Prop} {s : Shared} {h₀ : Heap} {L : Addr} {m : Str → Option Value} {news : List (Addr × Obj)}
theorem wpC_callWith_fnK {pos : Pos} {a : Addr} {t : Sem Value} {Q : Value → Shared → Prop}
    (h : wpC M A t (fun v s₁ => IsFn s₁.heap a ∧ wpC M A (call (.ref a) [v] []) Q E s₁) E s) : wpC M A (callWith pos (.ref a) [] [(false, t)] []) Q E s := wpC_callWith_fn1 h
theorem wp_execs_append {Γ : PySem.Ctx} {env : Env} {b : List Stmt} {Q : Flow → Pos → Shared → Prop} {E : Value → Pos → Shared → Prop} : ∀ {a : List Stmt} {p : Pos} {s : Shared},
    Sem.wp M Γ (execs a env) (fun f p' s' => match f with | .next => Sem.wp M Γ (execs b env) Q E p' s' | f => Q f p' s') E p s → Sem.wp M Γ (execs (a ++ b) env) Q E p s
  | [], p, s, h => h
  | x :: a, p, s, h => by
    rw [execs_cons, Sem.wp_bind'] at h
    rw [List.cons_append, execs_cons, Sem.wp_bind']
    refine Sem.wp_mono M Γ _ (fun f p' s' g => ?_) (fun _ _ _ g => g) p s h
    cases f with
    | next => exact wp_execs_append g
    | brk => exact g
    | cont => exact g
    | ret v => exact g
theorem wpC_execs_append {env : Env} {Q : Flow → Shared → Prop} {a b : List Stmt} (h : wpC M A (execs a env) (fun f s' => match f with | .next => wpC M A (execs b env) Q E s' | f => Q f s') E s) : wpC M A (execs (a ++ b) env) Q E s := by
  intro Γ p hΓ hc hb
  refine wp_execs_append (Sem.wp_mono M Γ _ (fun f p' s' g => ?_) (fun _ _ _ g => g) p s (h Γ p hΓ hc hb))
  cases f with
  | next => exact g Γ p' hΓ hc hb
  | brk => exact g
  | cont => exact g
  | ret v => exact g
theorem wpC_execs_one {env : Env} {Q : Flow → Shared → Prop} {st : Stmt} (h : wpC M A (exec st env) Q E s) : wpC M A (execs [st] env) Q E s := by
  refine wpC_execs_cons (wpC_mono h (fun f s' g => ?_) fun _ _ g => g)
  cases f with
  | next => exact wpC_execs_nil g
  | brk => exact g
  | cont => exact g
  | ret v => exact g
theorem wpC_callWith_machine1N {pos : Pos} {f : Value} {t : Sem Value} {Q : Value → Shared → Prop} (hf : keeperOf f = pure .machine)
    (h : wpC M A t (fun v s₁ => wpC M A (call f [v] []) Q E s₁) E s) : wpC M A (callWith pos f [] [(false, t)] []) Q E s := wpC_callWith_machine1 hf h
end
theorem decR_length : ∀ (n : Nat) (ks : List Int), ks.length ≤ n → (decR ks).length ≤ ks.length
  | _, [], _ => by rw [decR]; exact Nat.le_refl _
  | 0, _ :: _, h => absurd h (Nat.not_succ_le_zero _)
  | n + 1, c :: r, h => by
    rw [decR_cons]
    split
    · simp
    · split
      · simp
      · have ih := decR_length n (r.drop (c - 1).toNat) (by rw [List.length_drop]; simp only [List.length_cons] at h; omega)
        have h2 : (if c < 255 then [0] else [] : List Int).length ≤ 1 := by split <;> simp
        simp only [List.length_append, List.length_take, List.length_drop, List.length_cons] at ih ⊢
        omega
theorem decR_len (ks : List Int) : (decR ks).length ≤ ks.length := decR_length _ ks (Nat.le_refl _)
theorem codes_callM {w : World} {mean : ExcName → Option Value} {mg mb : Str → Option Value} {l : Addr} {vs : List Value} {k0 : Nat} {ks : List Int} 
  {dp un : Nat} {cn : Str} {cs : Scope} {a : Addr} {ccd : Value} {cl : List (Str × Addr)} {outer : List Env} {A₀ : Around} {base h₀ : Heap} {L : Addr} {m : Str → Option Value} {news : List (Addr × Obj)} {s : Shared} {Q E : Value → Shared → Prop}
    (B : Below A₀ base outer h₀) (F : Fr h₀ L s.heap m) (X : (Hd.hd.heap_39 w.params).In h₀) (N : News h₀ L s.heap news) (T : Top Hd.hd.view_39 LO mean mg mb h₀) (hm : (l, listOf vs.toArray k0) ∈ news) (hi : IntsAre vs ks) (hnz : NZ ks) (hne : ks ≠ []) (hlen : ks.length ≤ 1000) (hk : cs.kind = .function) (hdp : dp + 1 < recursionLimit) (hun : un + 8 < cLine)
    (hret : ∀ (p : Addr) (vs' : List Value) (k' : Nat) (h' : Heap) (tk' : Nat), IntsAre vs' (codesGo 0 ks) → (∀ q ∈ news, q.1 ≠ p) → Fr h₀ L h' m → News h₀ L h' ((p, listOf vs'.toArray k') :: news) → Q (.ref p) { s with heap := h', toks := tk' }) :
    wpC (model Challenge.rw_nc0009_01.row.prog w) (ktrTop dp un (some []) cn cs L a ccd cl outer) (call (.ref 75) [.ref l]) Q E s :=
  codes_call hi hnz hne hlen dp un cn cs a ccd cl outer A₀ base h₀ L m news s Q E B F X (fun p hp => (List.mem_cons.mp hp).elim (fun e => e ▸ N _ hm) (N p)) T hk hdp hun
    fun p vs' k' h' tk' h1 h2 F' N' => hret p vs' k' h' tk' h1 (fun q hq => h2 q (.tail _ hq)) F' fun q hq => N' q ((List.mem_cons.mp hq).elim (fun e => e ▸ .head _) fun hq => .tail _ (.tail _ hq))
theorem decP_callS {w : World} {mean : ExcName → Option Value} {mg mb : Str → Option Value} {b : Array UInt8} {t : Tok} {ks H : List Int}
  {dp un : Nat} {cn : Str} {cs : Scope} {a : Addr} {ccd : Value} {cl : List (Str × Addr)} {outer : List Env} {A₀ : Around} {base h₀ : Heap} {L : Addr} {m : Str → Option Value} {news : List (Addr × Obj)} {s : Shared} {Q E : Value → Shared → Prop}
    (hb : KBw.bInts b = ks) (hH : decP ks = some H) (hnz : NZ ks) (hne : ks ≠ []) (hlen : ks.length ≤ 1000)
    (B : Below A₀ base outer h₀) (F : Fr h₀ L s.heap m) (X : (Hd.hd.heap_39 w.params).In h₀) (N : News h₀ L s.heap news) (T : Top Hd.hd.view_39 LO mean mg mb h₀) (hk : cs.kind = .function) (hdp : dp + 1 < recursionLimit) (hun : un + 8 < cLine)
    (hret : ∀ (b' : Array UInt8) (t : Tok) (h' : Heap) (tk' : Nat), KBw.bInts b' = H → Fr h₀ L h' m → News h₀ L h' news → Q (.bytes b' t) { s with heap := h', toks := tk' }) :
    wpC (model Challenge.rw_nc0009_01.row.prog w) (ktrTop dp un (some []) cn cs L a ccd cl outer) (call (.ref 68) [.bytes b t]) Q E s :=
  decP_call hb hnz hne hlen dp un cn cs a ccd cl outer A₀ base h₀ L m news s Q E B F X N T hk hdp hun (fun h => by rw [hH] at h; cases h)
    fun b' t h' tk' e F' N' => hret b' t h' tk' (by rw [hH] at e; exact Option.some.inj e) F' N'
theorem ke_ne_same {prog : Program} {w : World} {A : Around} {E : Value → Shared → Prop} {s : Shared} {a b : Addr} {xs ys : List Value} {ns ms : List Int} {Q : Value → Shared → Prop}
    (ha : s.heap.IsList a xs.toArray) (hb : s.heap.IsList b ys.toArray) (hi : IntsAre xs ns) (hj : IntsAre ys ms) (he : ns = ms) (hu : A.units + 64 < cLine) (h : Q (.bool false) s) :
    wpAny (model prog w) A (compareOp .NotEq (.ref a) (.ref b)) Q E s := ke_ne_ints ha hb hi hj hu (by rw [decide_eq_true he]; exact h)
theorem ke_eq_same {prog : Program} {w : World} {A : Around} {E : Value → Shared → Prop} {s : Shared} {a b : Addr} {xs ys : List Value} {ns ms : List Int} {Q : Value → Shared → Prop}
    (ha : s.heap.IsList a xs.toArray) (hb : s.heap.IsList b ys.toArray) (hi : IntsAre xs ns) (hj : IntsAre ys ms) (he : ns = ms) (hu : A.units + 64 < cLine) (h : Q (.bool true) s) :
    wpAny (model prog w) A (compareOp .Eq (.ref a) (.ref b)) Q E s := ke_eq_ints ha hb hi hj hu (by rw [decide_eq_true he]; exact h)
theorem news_sub {h₀ h : Heap} {L : Addr} {R R' : List (Addr × Obj)} (N : News h₀ L h R) (hs : ∀ p ∈ R', p ∈ R) : News h₀ L h R' := fun p hp => N p (hs p hp)
theorem news_drop3 {h₀ h : Heap} {L : Addr} {x y z : Addr × Obj} {R : List (Addr × Obj)} (N : News h₀ L h (x :: y :: z :: R)) : News h₀ L h (x :: y :: R) := fun p hp => N p (by
  rcases List.mem_cons.mp hp with e | hp
  · rw [e]; exact .head _
  · rcases List.mem_cons.mp hp with e | hp
    · rw [e]; exact .tail _ (.head _)
    · exact .tail _ (.tail _ (.tail _ hp)))
theorem ints_then {c : Prop} [Decidable c] {vs : List Value} {x y : List Int} (h : c) (i : IntsAre vs x) : IntsAre vs (if c then x else y) := by rw [if_pos h]; exact i
theorem ints_else {c : Prop} [Decidable c] {vs : List Value} {x y : List Int} (h : ¬ c) (i : IntsAre vs y) : IntsAre vs (if c then x else y) := by rw [if_neg h]; exact i
theorem NZ.isIn {ks : List Int} (h : NZ ks) : KBa.In ks := fun n hn => by have := h n hn; omega
theorem NZ.take {ks : List Int} (h : NZ ks) (n : Nat) : NZ (ks.take n) := fun k hk => h k (List.mem_of_mem_take hk)
theorem NZ.drop {ks : List Int} (h : NZ ks) (n : Nat) : NZ (ks.drop n) := fun k hk => h k (List.mem_of_mem_drop hk)
theorem NZ.app {ks ls : List Int} (h : NZ ks) (g : NZ ls) : NZ (ks ++ ls) := fun k hk => (List.mem_append.mp hk).elim (h k) (g k)
section
variable {prog : Program} {w : World} {A : Around} {E : Value → Shared → Prop} {s : Shared} {env : Env}
theorem wpC_Try_except {body orelse : List Stmt} {h₀ : ExceptHandler} {hs : List ExceptHandler} {pos : Pos} {Q : Flow → Shared → Prop}
    (h : wpC (model prog w) A (execs body env) (fun f s₁ => match f with | .next => wpC (model prog w) A (execs orelse env) Q E s₁ | f => Q f s₁)
      (fun e s₁ => wpAny (model prog w) A (noteFrame e env) (fun _ s₂ => wpAny (model prog w) A (setFlight e none) (fun _ s₃ => wpAny (model prog w) A (handleBy e env (h₀ :: hs)) Q E s₃) E s₂) E s₁) s) :
    wpC (model prog w) A (exec (.Try body (h₀ :: hs) orelse [] pos) env) Q E s := by
  rw [arm_exec_Try]
  refine wpC_bind (wpC_standAt ?_)
  unfold tryStmt
  simp only [List.isEmpty_nil, if_true, List.isEmpty_cons, Bool.false_and, Bool.false_eq_true, if_false]
  refine wpC_bind (wpC_attempt (wpC_mono h (fun f s₁ h₁ => ?_) fun e s₁ h₁ => ?_))
  · cases f <;> first | exact h₁ | exact wpC_pure h₁
  · exact wpC_of_any (wpAny_bind (wpAny_mono h₁ (fun _ _ h₂ => wpAny_bind h₂) fun _ _ x => x))
end
theorem decP_callN {w : World} {mean : ExcName → Option Value} {mg mb : Str → Option Value} {b : Array UInt8} {t : Tok} {ks : List Int}
  {dp un : Nat} {cn : Str} {cs : Scope} {a : Addr} {ccd : Value} {cl : List (Str × Addr)} {outer : List Env} {A₀ : Around} {base h₀ : Heap} {L : Addr} {m : Str → Option Value} {news : List (Addr × Obj)} {s : Shared} {Q E : Value → Shared → Prop}
    (hb : KBw.bInts b = ks) (hH : decP ks = none) (hnz : NZ ks) (hne : ks ≠ []) (hlen : ks.length ≤ 1000)
    (B : Below A₀ base outer h₀) (F : Fr h₀ L s.heap m) (X : (Hd.hd.heap_39 w.params).In h₀) (N : News h₀ L s.heap news) (T : Top Hd.hd.view_39 LO mean mg mb h₀) (hk : cs.kind = .function) (hdp : dp + 1 < recursionLimit) (hun : un + 8 < cLine)
    (hrz : ∀ (e t : Addr) (vs : List Value) (g h' : Heap) (tk' : Nat), Fr h₀ L g m → g.UpToSlots h' → RaisedK base (envX cn cs L a ccd cl :: outer) e (.ref 51) t vs news h' → E (.ref e) { s with heap := h', toks := tk' }) :
    wpC (model Challenge.rw_nc0009_01.row.prog w) (ktrTop dp un (some []) cn cs L a ccd cl outer) (call (.ref 68) [.bytes b t]) Q E s :=
  decP_call hb hnz hne hlen dp un cn cs a ccd cl outer A₀ base h₀ L m news s Q E B F X N T hk hdp hun (fun _ => hrz)
    fun b' t h' tk' e F' N' => by rw [hH] at e; cases e
theorem fr_told {h₀ h : Heap} {L : Addr} {m₀ : Str → Option Value} {v : Value} {d t p r : Value} {c : Value} {z at' : Value}
    (F : Fr h₀ L h (fun y => if y = Str.ofString "told" then some v else kstB m₀ [(Str.ofString "due", d), (Str.ofString "cut", c), (Str.ofString "size", z), (Str.ofString "at", at'), (Str.ofString "text", t), (Str.ofString "places", p), (Str.ofString "row", r)] y)) :
    Fr h₀ L h (kstB (fun y => if y = Str.ofString "told" then some v else m₀ y) [(Str.ofString "due", d), (Str.ofString "cut", c), (Str.ofString "size", z), (Str.ofString "at", at'), (Str.ofString "text", t), (Str.ofString "places", p), (Str.ofString "row", r)]) := by
  have em : (fun y => if y = Str.ofString "told" then some v else kstB m₀ [(Str.ofString "due", d), (Str.ofString "cut", c), (Str.ofString "size", z), (Str.ofString "at", at'), (Str.ofString "text", t), (Str.ofString "places", p), (Str.ofString "row", r)] y) =
      kstB (fun y => if y = Str.ofString "told" then some v else m₀ y) [(Str.ofString "due", d), (Str.ofString "cut", c), (Str.ofString "size", z), (Str.ofString "at", at'), (Str.ofString "text", t), (Str.ofString "places", p), (Str.ofString "row", r)] := by
    funext y
    simp only [kstB]
    by_cases h0 : y = Str.ofString "told"
    · subst h0; rfl
    · simp only [if_neg h0]
  rw [← em]; exact F
theorem wpC_Subscript {M : Model} {A : Around} {E : Value → Shared → Prop} {s : Shared} {env : Env} {value slice pos} {Q : Value → Shared → Prop}
    (h : wpC M A (eval value env) (fun o s₁ => wpAny M A (eval slice env) (fun i s₂ => wpAny M A (subscriptTail value slice o i) Q E s₂) E s₁) E s) :
    wpC M A (eval (.Subscript value slice pos) env) Q E s := by
  rw [eval_Subscript]
  exact wpC_bind (wpC_mono h (fun o s₁ h₁ => wpC_of_any (wpAny_bind (wpAny_holding (wpAny_mono h₁ (fun i s₂ h₂ => wpAny_bind (wpAny_standAt h₂)) fun _ _ x => x)))) fun _ _ x => x)
theorem encP_callM {w : World} {mean : ExcName → Option Value} {mg mb : Str → Option Value} {b : Array UInt8} {t : Tok} {ks W : List Int}
  {dp un : Nat} {cn : Str} {cs : Scope} {a : Addr} {ccd : Value} {cl : List (Str × Addr)} {outer : List Env} {A₀ : Around} {base h₀ : Heap} {L : Addr} {m : Str → Option Value} {news : List (Addr × Obj)} {s : Shared} {Q E : Value → Shared → Prop}
    (hb : KBw.bInts b = ks) (hW : encPgo [] true ks = W) (hlen : ks.length ≤ 1000)
    (B : Below A₀ base outer h₀) (F : Fr h₀ L s.heap m) (X : (Hd.hd.heap_39 w.params).In h₀) (N : News h₀ L s.heap news) (T : Top Hd.hd.view_39 LO mean mg mb h₀) (hk : cs.kind = .function) (hdp : dp + 1 < recursionLimit) (hun : un + 8 < cLine)
    (hret : ∀ (b' : Array UInt8) (t : Tok) (h' : Heap) (tk' : Nat), KBw.bInts b' = W → Fr h₀ L h' m → News h₀ L h' news → Q (.bytes b' t) { s with heap := h', toks := tk' }) :
    wpC (model Challenge.rw_nc0009_01.row.prog w) (ktrTop dp un (some []) cn cs L a ccd cl outer) (call (.ref 61) [.bytes b t]) Q E s :=
  encP_call hb hlen dp un cn cs a ccd cl outer A₀ base h₀ L m news s Q E B F X N T hk hdp hun fun b' t h' tk' e F' N' => hret b' t h' tk' (e.trans hW) F' N'
theorem encR_callM {w : World} {mean : ExcName → Option Value} {mg mb : Str → Option Value} {b : Array UInt8} {t : Tok} {ks W : List Int}
  {dp un : Nat} {cn : Str} {cs : Scope} {a : Addr} {ccd : Value} {A₀ : Around} {base h₀ : Heap} {L : Addr} {m : Str → Option Value} {news : List (Addr × Obj)} {s : Shared} {Q E : Value → Shared → Prop}
    (hb : KBw.bInts b = ks) (hW : encRgo (ks.getLastD 0) [] ks = W) (hlen : ks.length ≤ 1000)
    (B : Below A₀ base [] h₀) (F : Fr h₀ L s.heap m) (X : (Hd.hd.heap_39 w.params).In h₀) (N : News h₀ L s.heap news) (T : Top Hd.hd.view_39 LO mean mg mb h₀) (hk : cs.kind = .function) (hdp : dp + 1 < recursionLimit) (hun : un + 8 < cLine)
    (hret : ∀ (b' : Array UInt8) (t : Tok) (h' : Heap) (tk' : Nat), KBw.bInts b' = W → Fr h₀ L h' m → News h₀ L h' news → Q (.bytes b' t) { s with heap := h', toks := tk' }) :
    wpC (model Challenge.rw_nc0009_01.row.prog w) (ktrTop dp un (some []) cn cs L a ccd [] []) (call (.ref 34) [.bytes b t]) Q E s := by
  by_cases hks : ks = []
  · subst hks
    exact encR_call0 hb dp un cn cs a ccd h₀ L m news s Q E F X N T hk hdp hun fun b' t h' tk' e F' N' => hret b' t h' tk' (e.trans hW) F' N'
  · exact encR_call1 hb hks hlen dp un cn cs a ccd [] [] A₀ base h₀ L m news s Q E B F X N T hk hdp hun fun b' t h' tk' e F' N' => hret b' t h' tk' (e.trans hW) F' N'
theorem fr_shadow {h₀ h : Heap} {L : Addr} {m : Str → Option Value} {x : Str} {u v : Value} {ps : List (Str × Value)} (F : Fr h₀ L h (fun y => if y = x then some v else kstB m ((x, u) :: ps) y)) : Fr h₀ L h (kstB m ((x, v) :: ps)) := by
  have em : (fun y => if y = x then some v else kstB m ((x, u) :: ps) y) = kstB m ((x, v) :: ps) := by
    funext y
    simp only [kstB]
    by_cases h : y = x
    · simp only [if_pos h]
    · simp only [if_neg h]
  rw [← em]; exact F
theorem fr_know {h₀ h : Heap} {L : Addr} {m : Str → Option Value} {x : Str} {v : Value} (F : Fr h₀ L h m) (hx : m x = some v) : Fr h₀ L h (kstB m [(x, v)]) := by
  have em : m = kstB m [(x, v)] := by
    funext y
    simp only [kstB]
    by_cases h : y = x
    · rw [h, hx]; simp
    · simp only [if_neg h]
  rw [← em]; exact F
theorem NZ.rep {ks : List Int} (h : NZ ks) (n : Nat) : NZ (List.replicate n ks).flatten := by
  intro k hk
  obtain ⟨l, hl, hk⟩ := List.mem_flatten.mp hk
  rw [(List.mem_replicate.mp hl).2] at hk
  exact h k hk
theorem NZ.one {c : Int} (h1 : 1 ≤ c) (h2 : c ≤ 255) : NZ [c] := fun k hk => by rw [List.mem_singleton.mp hk]; exact ⟨h1, h2⟩
theorem rep_last_len (ks : List Int) (n : Nat) : (List.replicate n (ks.drop (ks.length - 1))).flatten.length ≤ n := by
  rw [List.length_flatten, List.map_replicate, List.sum_replicate_nat, List.length_drop]
  have : ks.length - (ks.length - 1) ≤ 1 := by omega
  exact Nat.le_trans (Nat.mul_le_mul_left n this) (by omega)
local macro_rules | `(tactic| walk_at "call type:list") => `(tactic| (k_here; (with_reducible show wpAny _ _ (call (Value.type _) [Value.bytes _ _]) _ _ _); k_dflt (refine' list_bytesK ?k1 ?k2 ?k3 ?k4 ?k5 ?_; (case k1 => k_asm); (case k2 => k_asm); (case k3 => exact rfl); (case k4 => assumption); (case k5 => omega); k_whole); intro D' us' c' h' tk' hI' F' N' l1; (try k_lt l1); (try k_sweep)))
local macro_rules | `(tactic| walk_at "call type:bytes") => `(tactic| (k_here; (with_reducible show wpAny _ _ (call (Value.type "bytes") [Value.ref _]) _ _ _); k_dflt (refine' KBa.make_K ?k1 ?k2 ?k3 ?k4 ?k5 ?k6 ?k7 ?_; (case k1 => k_asm); (case k2 => k_asm); (case k3 => exact rfl); (case k4 => exact News.isList (by k_asm) (by k_mem)); (case k5 => assumption); (case k6 => first | assumption | exact NZ.isIn (by assumption)); (case k7 => ((try simp only [List.length_append, List.length_take, List.length_drop, List.length_cons, List.length_nil]); omega)); k_whole); intro h' t' k' F' N' hin9; (have hB9 := KBa.ints_make hin9); (try k_sweep)))
local macro_rules | `(tactic| walk_at "wpC") => `(tactic| ((with_reducible show wpC _ _ (eval (Expr.Call (Expr.Name (PySem.Str.ofString "_law_codes") _) _ _ _) _) _ _ _); with_unfolding_all refine wpC_Call_Name (trees := [(false, eval _ _)]) (by with_unfolding_all rfl) ?_))
local macro_rules | `(tactic| walk_at "wpC") => `(tactic| ((with_reducible show wpC _ _ (eval (Expr.Call (Expr.Name (PySem.Str.ofString "decode_cobsr_py") _) _ _ _) _) _ _ _); with_unfolding_all refine wpC_Call_Name (trees := [(false, eval _ _)]) (by with_unfolding_all rfl) ?_))
local macro_rules | `(tactic| walk_at "wpC") => `(tactic| ((with_reducible show wpC _ _ (eval (Expr.Call (Expr.Name (PySem.Str.ofString "decode_cobs_py") _) _ _ _) _) _ _ _); with_unfolding_all refine wpC_Call_Name (trees := [(false, eval _ _)]) (by with_unfolding_all rfl) ?_))
local macro_rules | `(tactic| walk_at "wpC") => `(tactic| ((with_reducible show wpC _ _ (eval (Expr.Call (Expr.Name (PySem.Str.ofString "encode_cobsr_py") _) _ _ _) _) _ _ _); with_unfolding_all refine wpC_Call_Name (trees := [(false, eval _ _)]) (by with_unfolding_all rfl) ?_))
local macro_rules | `(tactic| walk_at "wpC") => `(tactic| ((with_reducible show wpC _ _ (eval (Expr.Call (Expr.Name (PySem.Str.ofString "encode_cobs_py") _) _ _ _) _) _ _ _); with_unfolding_all refine wpC_Call_Name (trees := [(false, eval _ _)]) (by with_unfolding_all rfl) ?_))
local macro_rules | `(tactic| walk_at "wpC") => `(tactic| ((with_reducible show wpC _ _ (eval (Expr.Call (Expr.Name (PySem.Str.ofString "list") _) _ _ _) _) _ _ _); with_unfolding_all refine wpC_Call_Name (trees := [(false, eval _ _)]) (by with_unfolding_all rfl) ?_))
local macro_rules | `(tactic| walk_at "wpC") => `(tactic| ((with_reducible show wpC _ _ (callWith _ (Value.type _) [] [(false, _)] []) _ _ _); with_unfolding_all refine wpC_callWith_machine1N rfl ?_))
local macro_rules | `(tactic| walk_at "wpC") => `(tactic| ((with_reducible show wpC _ _ (callWith _ (Value.ref _) [] [(false, _)] []) _ _ _); with_unfolding_all refine wpC_callWith_fnK ?_))
local macro_rules | `(tactic| walk_at "IsFn") => `(tactic| (k_dflt (refine' isFn_of ?k1 ?k2 ?k3; (case k1 => k_asm); (case k2 => k_asm); (case k3 => k_is))))
local macro_rules | `(tactic| walk_at "wpC") => `(tactic| ((with_reducible show wpC _ _ (call (Value.type "list") [Value.bytes _ _] _) _ _ _); refine wpC_of_any ?_; (try k_fold)))
local macro_rules | `(tactic| walk_at "wpC") => `(tactic| ((with_reducible show wpC _ _ (call (Value.ref 75) [Value.ref _] _) _ _ _); k_dflt (refine' codes_callM ?kB ?kF ?kX ?kN ?kT ?km ?ki ?kz ?ke ?kl ?k0 ?k1 ?k2 ?_; (case kB => assumption); (case kF => k_asm); (case kX => assumption); (case kN => k_asm); (case kT => assumption); (case km => k_mem); (case ki => assumption); (case kz => assumption); (case ke => assumption); (case kl => omega); (case k0 => exact rfl); (case k1 => decide); (case k2 => decide); k_whole); intro p9 us9 k9 h' tk' hI9 hne9 F' N'; (try k_sweep)))
local macro_rules | `(tactic| walk_at "wpC") => `(tactic| ((with_reducible show wpC _ _ (call (Value.ref 41) [Value.bytes _ _] _) _ _ _); k_dflt (refine' decR_call ?kb ?kz ?ke ?kl _ _ _ _ _ _ _ _ _ _ _ _ _ _ _ _ _ ?kB ?kF ?kX ?kN ?kT ?k0 ?k1 ?k2 ?_; (case kb => assumption); (case kB => assumption); (case kF => k_asm); (case kX => assumption); (case kN => k_asm); (case kT => assumption); (case kz => assumption); (case ke => assumption); (case kl => ((try simp only [List.length_append, List.length_take, List.length_drop, List.length_cons, List.length_nil]); omega)); (case k0 => exact rfl); (case k1 => decide); (case k2 => decide); k_whole); intro b9 t9 h' tk' hb9 F' N'; (try k_sweep)))
local macro_rules | `(tactic| walk_at "wpC") => `(tactic| ((with_reducible show wpC _ _ (call (Value.ref 68) [Value.bytes _ _] _) _ _ _); k_dflt (refine' decP_callS ?kb ?kH ?kz ?ke ?kl ?kB ?kF ?kX ?kN ?kT ?k0 ?k1 ?k2 ?_; (case kb => assumption); (case kH => assumption); (case kB => assumption); (case kF => k_asm); (case kX => assumption); (case kN => k_asm); (case kT => assumption); (case kz => assumption); (case ke => assumption); (case kl => ((try simp only [List.length_append, List.length_take, List.length_drop, List.length_cons, List.length_nil]); omega)); (case k0 => exact rfl); (case k1 => decide); (case k2 => decide); k_whole); intro b9 t9 h' tk' hb9 F' N'; (try k_sweep)))
local macro_rules | `(tactic| walk_at "wpC") => `(tactic| ((with_reducible show wpC _ _ (isTrue (Expr.Compare (Expr.Call (Expr.Name (PySem.Str.ofString "list") _) _ _ _) [CmpOp.NotEq] [_] _) _ _) _ _ _); refine wpC_isTrue_Compare1 ?_))
local macro_rules | `(tactic| walk_at "wpC") => `(tactic| ((with_reducible show wpC _ _ (isTrue (Expr.Compare (Expr.BinOp _ _ (Expr.Call (Expr.Name (PySem.Str.ofString "list") _) _ _ _) _) [CmpOp.NotEq] [_] _) _ _) _ _ _); refine wpC_isTrue_Compare1 ?_))
local macro_rules | `(tactic| walk_at "wpC") => `(tactic| ((with_reducible show wpC _ _ (eval (Expr.BinOp _ _ (Expr.Call (Expr.Name (PySem.Str.ofString "list") _) _ _ _) _) _) _ _ _); refine wpC_BinOp ?_))
local macro_rules | `(tactic| walk_at "wpC") => `(tactic| ((with_reducible show wpC _ _ (eval (Expr.Compare (Expr.Call (Expr.Name (PySem.Str.ofString "list") _) _ _ _) [CmpOp.Eq] [_] _) _) _ _ _); refine wpC_Compare1 ?_))
local macro_rules | `(tactic| walk_at "binaryOp Add ref ref") => `(tactic| (k_here; (with_reducible show wpAny _ _ (binaryOp _ (Value.ref _) (Value.ref _)) _ _ _); k_dflt (refine' kmk_add_ints ?F ?N ?a ?b ?i ?j ?_ ?z; (case F => k_asm); (case N => k_asm); (case a => exact News.isList (by k_asm) (by k_mem)); (case b => exact News.isList (by k_asm) (by k_mem)); (case i => first | assumption | exact IntsAre.cons _ _ IntsAre.nil | exact IntsAre.nil); (case j => first | assumption | exact IntsAre.cons _ _ IntsAre.nil | exact IntsAre.nil); (case z => ((try simp only [sizeLine_eq, List.length_append, List.length_cons, List.length_nil, List.length_take, List.length_drop]); omega)); k_whole); intro D' ws' h' F' N' l1 hI'; (try k_lt l1); (try k_sweep); (try dsimp only)))
local macro_rules | `(tactic| walk_at "compareOp NotEq ref ref") => `(tactic| (k_here; (with_reducible show wpAny _ _ (compareOp CmpOp.NotEq (Value.ref _) (Value.ref _)) _ _ _); k_dflt (refine' ke_ne_same ?a ?b ?i ?j ?e ?u ?_; (case a => exact News.isList (by k_asm) (by k_mem)); (case b => exact News.isList (by k_asm) (by k_mem)); (case i => first | assumption | exact IntsAre.cons _ _ IntsAre.nil | exact IntsAre.nil); (case j => first | assumption | exact IntsAre.cons _ _ IntsAre.nil | exact IntsAre.nil); (case e => assumption); (case u => exact Nat.le_of_ble_eq_true rfl); k_whole)))
local macro_rules | `(tactic| walk_at "compareOp Eq ref ref") => `(tactic| (k_here; (with_reducible show wpAny _ _ (compareOp CmpOp.Eq (Value.ref _) (Value.ref _)) _ _ _); k_dflt (refine' ke_eq_ints ?a ?b ?i ?j ?u ?_; (case a => exact News.isList (by k_asm) (by k_mem)); (case b => exact News.isList (by k_asm) (by k_mem)); (case i => first | assumption | exact IntsAre.cons _ _ IntsAre.nil | exact IntsAre.nil); (case j => first | assumption | exact IntsAre.cons _ _ IntsAre.nil | exact IntsAre.nil); (case u => exact Nat.le_of_ble_eq_true rfl); k_whole)))
local macro_rules | `(tactic| walk_at "compareOp Eq ref ref") => `(tactic| (k_here; (with_reducible show wpAny _ _ (compareOp CmpOp.Eq (Value.ref _) (Value.ref _)) _ _ _); k_dflt (refine' ke_eq_same ?a ?b ?i ?j ?e ?u ?_; (case a => exact News.isList (by k_asm) (by k_mem)); (case b => exact News.isList (by k_asm) (by k_mem)); (case i => first | assumption | exact IntsAre.cons _ _ IntsAre.nil | exact IntsAre.nil); (case j => first | assumption | exact IntsAre.cons _ _ IntsAre.nil | exact IntsAre.nil); (case e => assumption); (case u => exact Nat.le_of_ble_eq_true rfl); k_whole)))
local macro_rules | `(tactic| walk_at "subscriptTail Name Slice ref ref") => `(tactic| (k_here; (with_reducible show wpAny _ _ (subscriptTail _ (PySem.Expr.Slice _ _ none _) (Value.ref _) (Value.ref _)) _ _ _); k_dflt (refine' my_slice ?F ?N ?l ?p ?q ?i ?m ?z ?_ ?s ?t; (case F => k_asm); (case N => k_asm); (case l => k_mem); (case p => kmk_part); (case q => kmk_part); (case i => assumption); (case m => first | exact kmk_upto (by assumption) (by omega) | exact kmk_from (by assumption) (by omega) | exact kmk_from_neg (by assumption) (by omega) | exact kmk_upto_neg (by assumption) (by omega) | exact kmk_run (by assumption) (by omega) (by omega) | exact kmk_run_neg (by assumption) (by omega) (by omega)); (case s => with_unfolding_all rfl); (case t => kmk_pure); (case z => omega); k_whole); intro D' ws' h' hI' hL' F' N' l1; (try simp only [Int.reduceNeg, Int.neg_neg, Int.reduceToNat] at hI' hL'); (try k_lt l1); (try k_sweep); (try dsimp only)))
local macro_rules | `(tactic| walk_at "wpC") => `(tactic| ((with_reducible show wpC _ _ (call (Value.ref 68) [Value.bytes _ _] _) _ _ _); k_dflt (refine' decP_callN ?kb ?kH ?kz ?ke ?kl ?kB ?kF ?kX ?kN ?kT ?k0 ?k1 ?k2 ?_; (case kb => assumption); (case kH => assumption); (case kB => assumption); (case kF => k_asm); (case kX => assumption); (case kN => k_asm); (case kT => assumption); (case kz => assumption); (case ke => assumption); (case kl => ((try simp only [List.length_append, List.length_take, List.length_drop, List.length_cons, List.length_nil]); omega)); (case k0 => exact rfl); (case k1 => decide); (case k2 => decide); k_whole); intro e9 t9 vs9 g9 h' tk' F9 hU9 hR9; (try dsimp only)))
local macro_rules | `(tactic| walk_at "wpC") => `(tactic| ((with_reducible show wpC _ _ (call (Value.ref 61) [Value.bytes _ _] _) _ _ _); k_dflt (refine' encP_callM ?kb ?kH ?kl ?kB ?kF ?kX ?kN ?kT ?k0 ?k1 ?k2 ?_; (case kb => assumption); (case kH => assumption); (case kB => assumption); (case kF => k_asm); (case kX => assumption); (case kN => k_asm); (case kT => assumption); (case kl => ((try simp only [List.length_append, List.length_take, List.length_drop, List.length_cons, List.length_nil]); omega)); (case k0 => exact rfl); (case k1 => decide); (case k2 => decide); k_whole); intro b9 t9 h' tk' hb9 F' N'; (try k_sweep)))
local macro_rules | `(tactic| walk_at "wpC") => `(tactic| ((with_reducible show wpC _ _ (call (Value.ref 34) [Value.bytes _ _] _) _ _ _); k_dflt (refine' encR_callM ?kb ?kH ?kl ?kB ?kF ?kX ?kN ?kT ?k0 ?k1 ?k2 ?_; (case kb => assumption); (case kH => assumption); (case kB => assumption); (case kF => k_asm); (case kX => assumption); (case kN => k_asm); (case kT => assumption); (case kl => ((try simp only [List.length_append, List.length_take, List.length_drop, List.length_cons, List.length_nil]); omega)); (case k0 => exact rfl); (case k1 => decide); (case k2 => decide); k_whole); intro b9 t9 h' tk' hb9 F' N'; (try k_sweep)))
local macro_rules | `(tactic| walk_at "wpC") => `(tactic| ((with_reducible show wpC _ _ (eval (Expr.Subscript (Expr.Call (Expr.Name (PySem.Str.ofString "_law_codes") _) _ _ _) _ _) _) _ _ _); refine wpC_Subscript ?_))
set_option maxHeartbeats 8000000 in
theorem segA1 {w : World} {mean : ExcName → Option Value} {mg mb : Str → Option Value} {h₀ : Heap} {L a sa : Addr} {cd : Value} {m₀ : Str → Option Value} {vs : List Value} {ns : List Int} {s : Shared} {Q : Flow → Shared → Prop} {E : Value → Shared → Prop}
    (hL : h₀.IsList sa vs.toArray) (hI : IntsAre vs ns) (hlen : ns.length ≤ 63)
    (B : Below callerA h₀ [] h₀) (X : (Hd.hd.heap_39 w.params).In h₀) (T : Top Hd.hd.view_39 LO mean mg mb h₀)
    (F : Fr h₀ L s.heap (fun x => List.lookup x [(Str.ofString "script", Value.ref sa)].reverse))
    (N : News h₀ L s.heap [])
    (next : ∀ (n r : Addr) (ws ys : List Value) (kn kr : Nat) (k' : Nat) (h' : Heap), IntsAre ws (ns.take 12) → IntsAre ys ((ns.take 12).map fun k' => k'.fmod 255 + 1) → Fr h₀ L h' (kstB (fun x => List.lookup x [(Str.ofString "script", Value.ref sa)].reverse) [(Str.ofString "row", .ref r), (Str.ofString "numbers", .ref n)]) →
      News h₀ L h' [(r, listOf ys.toArray kr), (n, listOf ws.toArray kn)] → Q .next { s with heap := h', toks := k' }) :
    wpC (model Challenge.rw_nc0009_01.row.prog w) (LA w.params L a cd) (execs ((lawBody w.params).take 2) (LEnv w.params L a cd)) Q E s := by
  w_on
  revert X
  k_fill
  intro X
  unfold LA LEnv lawBody lawScope lawRec mkFnX
  simp only [List.drop_succ_cons, List.drop_zero, List.take_succ_cons, List.take_zero]
  k_steps
  rename Fr _ _ _ _ => F9
  rename News _ _ _ [_, _] => N9
  exact next _ _ _ _ _ _ _ _ (by assumption) (by assumption) F9 N9
set_option maxHeartbeats 8000000 in
theorem segA2 {w : World} {mean : ExcName → Option Value} {mg mb : Str → Option Value} {h₀ : Heap} {L a n r : Addr} {cd : Value} {m₀ : Str → Option Value} {ws ys : List Value} {ms ks : List Int} {kn kr : Nat} {s : Shared} {Q : Flow → Shared → Prop} {E : Value → Shared → Prop}
    (hIm : IntsAre ws ms) (hI : IntsAre ys ks) (hlen : ms.length ≤ 12) (hlk : ks.length ≤ 12)
    (B : Below callerA h₀ [] h₀) (X : (Hd.hd.heap_39 w.params).In h₀) (T : Top Hd.hd.view_39 LO mean mg mb h₀)
    (F : Fr h₀ L s.heap (kstB m₀ [(Str.ofString "row", .ref r), (Str.ofString "numbers", .ref n)]))
    (N : News h₀ L s.heap [(r, listOf ys.toArray kr), (n, listOf ws.toArray kn)])
    (next : ∀ (kv : Int) (tv : Tok) (k' : Nat) (h' : Heap), Fr h₀ L h' (kstB m₀ [(Str.ofString "kind", .int kv tv), (Str.ofString "row", .ref r), (Str.ofString "numbers", .ref n)]) →
      News h₀ L h' [(r, listOf ys.toArray kr)] → Q .next { s with heap := h', toks := k' }) :
    wpC (model Challenge.rw_nc0009_01.row.prog w) (LA w.params L a cd) (execs (((lawBody w.params).drop 2).take 1) (LEnv w.params L a cd)) Q E s := by
  w_on
  revert X
  k_fill
  intro X
  unfold LA LEnv lawBody lawScope lawRec mkFnX
  simp only [List.drop_succ_cons, List.drop_zero, List.take_succ_cons, List.take_zero]
  k_steps
  rename Fr _ _ _ _ => F9
  rename News _ _ _ _ => N9
  exact next _ _ _ _ F9 (fun p hp => N9 p (by rcases List.mem_cons.mp hp with h | hp; (· rw [h]; exact .tail _ (.tail _ (.head _))); (· exact nomatch hp)))
set_option maxHeartbeats 8000000 in
theorem segA3 {w : World} {mean : ExcName → Option Value} {mg mb : Str → Option Value} {h₀ : Heap} {L a r : Addr} {cd n : Value} {m₀ : Str → Option Value} {ys : List Value} {ks : List Int} {kr : Nat} {kv : Int} {tv : Tok} {s : Shared} {Q : Flow → Shared → Prop} {E : Value → Shared → Prop}
    (hI : IntsAre ys ks) (hnz : NZ ks) (hlk : ks.length ≤ 12)
    (B : Below callerA h₀ [] h₀) (X : (Hd.hd.heap_39 w.params).In h₀) (T : Top Hd.hd.view_39 LO mean mg mb h₀)
    (F : Fr h₀ L s.heap (kstB m₀ [(Str.ofString "kind", .int kv tv), (Str.ofString "row", .ref r), (Str.ofString "numbers", n)]))
    (N : News h₀ L s.heap [(r, listOf ys.toArray kr)])
    (next : ∀ (m' : Str → Option Value) (r' : Addr) (vs' : List Value) (ks' : List Int) (kr' k' : Nat) (h' : Heap), IntsAre vs' ks' → NZ ks' → ks'.length ≤ 300 → Fr h₀ L h' (kstB m' [(Str.ofString "row", .ref r')]) →
      News h₀ L h' [(r', listOf vs'.toArray kr')] → Q .next { s with heap := h', toks := k' }) :
    wpC (model Challenge.rw_nc0009_01.row.prog w) (LA w.params L a cd) (execs (((lawBody w.params).drop 3).take 1) (LEnv w.params L a cd)) Q E s := by
  w_on
  revert X
  k_fill
  intro X
  unfold LA LEnv lawBody lawScope lawRec mkFnX
  simp only [List.drop_succ_cons, List.drop_zero, List.take_succ_cons, List.take_zero]
  have l3 := rep_last_len ks (254 - 1 : Int).toNat
  have l4 := rep_last_len ks (255 - 1 : Int).toNat
  have z3 := (hnz.drop (ks.length - 1)).rep (254 - 1 : Int).toNat
  have z4 := (hnz.drop (ks.length - 1)).rep (255 - 1 : Int).toNat
  have c3 : ((254 : Int) - 1).toNat = 253 := rfl
  have c4 : ((255 : Int) - 1).toNat = 254 := rfl
  k_steps
  · rename IntsAre _ ([254] ++ _ ++ ks) => hx9
    rename Fr _ _ _ _ => F9
    rename News _ _ _ _ => N9
    exact next _ _ _ _ 0 _ _ hx9 (((NZ.one (by omega) (by omega)).app z3).app hnz) (by simp only [List.length_append, List.length_cons, List.length_nil]; omega) F9 (fun p hp => N9 p (by rcases List.mem_cons.mp hp with h | hp; (· rw [h]; exact .head _); (· exact nomatch hp)))
  · rename IntsAre _ ([255] ++ _ ++ ks) => hx9
    rename Fr _ _ _ _ => F9
    rename News _ _ _ _ => N9
    exact next _ _ _ _ 0 _ _ hx9 (((NZ.one (by omega) (by omega)).app z4).app hnz) (by simp only [List.length_append, List.length_cons, List.length_nil]; omega) F9 (fun p hp => N9 p (by rcases List.mem_cons.mp hp with h | hp; (· rw [h]; exact .head _); (· exact nomatch hp)))
  · rename IntsAre _ ([255] ++ _ ++ [1]) => hx9
    rename Fr _ _ _ _ => F9
    rename News _ _ _ _ => N9
    exact next _ _ _ _ 0 _ _ hx9 (((NZ.one (by omega) (by omega)).app z4).app (NZ.one (by omega) (by omega))) (by simp only [List.length_append, List.length_cons, List.length_nil]; omega) F9 (fun p hp => N9 p (by rcases List.mem_cons.mp hp with h | hp; (· rw [h]; exact .head _); (· exact nomatch hp)))
  · exact next _ r ys ks kr _ _ hI hnz (by omega) (fr_know F rfl) N
set_option maxHeartbeats 8000000 in
theorem segA4 {w : World} {mean : ExcName → Option Value} {mg mb : Str → Option Value} {h₀ : Heap} {L a r : Addr} {cd : Value} {m₀ : Str → Option Value} {ys : List Value} {ks : List Int} {kr : Nat} {s : Shared} {Q : Flow → Shared → Prop} {E : Value → Shared → Prop}
    (hI : IntsAre ys ks) (hnz : NZ ks) (hlk : ks.length ≤ 300)
    (B : Below callerA h₀ [] h₀) (X : (Hd.hd.heap_39 w.params).In h₀) (T : Top Hd.hd.view_39 LO mean mg mb h₀)
    (F : Fr h₀ L s.heap (kstB m₀ [(Str.ofString "row", .ref r)]))
    (N : News h₀ L s.heap [(r, listOf ys.toArray kr)])
    (next : ∀ (r' : Addr) (vs' : List Value) (ks' : List Int) (kr' k' : Nat) (h' : Heap), IntsAre vs' ks' → NZ ks' → ks' ≠ [] → ks'.length ≤ 300 → Fr h₀ L h' (kstB m₀ [(Str.ofString "row", .ref r')]) →
      News h₀ L h' [(r', listOf vs'.toArray kr')] → Q .next { s with heap := h', toks := k' }) :
    wpC (model Challenge.rw_nc0009_01.row.prog w) (LA w.params L a cd) (execs (((lawBody w.params).drop 4).take 1) (LEnv w.params L a cd)) Q E s := by
  w_on
  revert X
  k_fill
  intro X
  unfold LA LEnv lawBody lawScope lawRec mkFnX
  simp only [List.drop_succ_cons, List.drop_zero, List.take_succ_cons, List.take_zero]
  k_steps
  · rename Fr _ _ _ _ => F9
    rename News _ _ _ _ => N9
    exact next _ [_] [1] 0 _ _ (.cons _ _ .nil) (NZ.one (by omega) (by omega)) (by simp) (by simp) (fr_shadow F9) (fun p hp => N9 p (by rcases List.mem_cons.mp hp with h | hp; (· rw [h]; exact .head _); (· exact nomatch hp)))
  · rename Fr _ _ _ _ => F9
    rename News _ _ _ _ => N9
    exact next r ys ks kr _ _ hI hnz (of_decide_eq_false (by assumption)) hlk F9 (fun p hp => N9 p (.tail _ hp))
set_option maxHeartbeats 8000000 in
theorem segB {w : World} {mean : ExcName → Option Value} {mg mb : Str → Option Value} {h₀ : Heap} {L a r : Addr} {cd : Value} {m₀ : Str → Option Value} {vs : List Value} {k : Nat} {ks : List Int} {s : Shared} {Q : Flow → Shared → Prop} {E : Value → Shared → Prop}
    (hI : IntsAre vs ks) (hnz : NZ ks) (hne : ks ≠ []) (hlen : ks.length ≤ 400)
    (B : Below callerA h₀ [] h₀) (X : (Hd.hd.heap_39 w.params).In h₀) (T : Top Hd.hd.view_39 LO mean mg mb h₀)
    (F : Fr h₀ L s.heap (kstB m₀ [(Str.ofString "row", .ref r)])) (N : News h₀ L s.heap [(r, listOf vs.toArray k)])
    (next : ∀ (p t : Addr) (us ts : List Value) (kp kt k' : Nat) (h' : Heap), IntsAre us (codesGo 0 ks) → IntsAre ts (decR ks) → Fr h₀ L h' (kstB m₀ [(Str.ofString "text", .ref t), (Str.ofString "places", .ref p), (Str.ofString "row", .ref r)]) →
      News h₀ L h' [(t, listOf ts.toArray kt), (p, listOf us.toArray kp), (r, listOf vs.toArray k)] → Q .next { s with heap := h', toks := k' }) :
    wpC (model Challenge.rw_nc0009_01.row.prog w) (LA w.params L a cd) (execs (((lawBody w.params).drop 5).take 2) (LEnv w.params L a cd)) Q E s := by
  have hdl := decR_len ks
  w_on
  revert X
  k_fill
  intro X
  unfold LA LEnv lawBody lawScope lawRec mkFnX
  simp only [List.drop_succ_cons, List.drop_zero, List.take_succ_cons, List.take_zero]
  k_steps
  exact next _ _ _ _ _ _ _ _ (by assumption) (by assumption) (by assumption) (by assumption)
set_option maxHeartbeats 8000000 in
theorem segC1 {w : World} {mean : ExcName → Option Value} {mg mb : Str → Option Value} {h₀ : Heap} {L a r p t : Addr} {cd : Value} {m₀ : Str → Option Value} {vs us ts : List Value} {k kp kt : Nat} {ks : List Int} {s : Shared} {Q : Flow → Shared → Prop} {E : Value → Shared → Prop} {i : Nat} {q' : Int} {H : List Int} {tq ti : Tok} {e it D : Addr} {oe oi od : Obj}
    (hI : IntsAre vs ks) (hIu : IntsAre us (codesGo 0 ks)) (hlen : ks.length ≤ 400) (hul : (codesGo 0 ks).length ≤ 400) (hil : i < (codesGo 0 ks).length)
    (g1 : 0 ≤ (codesGo 0 ks).getD (i : Int).toNat 0) (g2 : (codesGo 0 ks).getD (i : Int).toNat 0 < ks.length) (g3 : 0 < q') (hH : decP (ks.take q'.toNat) = some H) (hHl : H.length ≤ 400) (z1 : NZ (ks.take q'.toNat)) (n1 : ks.take q'.toNat ≠ [])
    (B : Below callerA h₀ [] h₀) (X : (Hd.hd.heap_39 w.params).In h₀) (T : Top Hd.hd.view_39 LO mean mg mb h₀)
    (F : Fr h₀ L s.heap (kstB m₀ [(Str.ofString "place", .int q' tq), (Str.ofString "count", .int i ti), (Str.ofString "text", .ref t), (Str.ofString "places", .ref p), (Str.ofString "row", .ref r)]))
    (N : News h₀ L s.heap [(t, listOf ts.toArray kt), (p, listOf us.toArray kp), (r, listOf vs.toArray k), (e, oe), (it, oi), (D, od)])
    (next : ∀ (x y : Addr) (xs ys : List Value) (kx ky : Nat) (k' : Nat) (h' : Heap), IntsAre xs H → IntsAre ys (if ks.getD ((codesGo 0 ks).getD (i : Int).toNat 0).toNat 0 = 255 then [] else [0]) → Fr h₀ L h' (kstB m₀ [(Str.ofString "between", .ref y), (Str.ofString "head", .ref x), (Str.ofString "place", .int q' tq), (Str.ofString "count", .int i ti), (Str.ofString "text", .ref t), (Str.ofString "places", .ref p), (Str.ofString "row", .ref r)]) →
      News h₀ L h' [(y, listOf ys.toArray ky), (x, listOf xs.toArray kx), (t, listOf ts.toArray kt), (p, listOf us.toArray kp), (r, listOf vs.toArray k), (e, oe), (it, oi), (D, od)] → Q .next { s with heap := h', toks := k' }) :
    wpC (model Challenge.rw_nc0009_01.row.prog w) (LA w.params L a cd) (execs ((lawLoop w.params).take 2) (LEnv w.params L a cd)) Q E s := by
  w_on
  revert X
  k_fill
  intro X
  unfold LA LEnv lawLoop lawScope lawRec mkFnX
  simp only [List.drop_succ_cons, List.drop_zero, List.take_succ_cons, List.take_zero]
  have l1 : (ks.take q'.toNat).length ≤ 400 := by rw [List.length_take]; omega
  k_steps
  · rename _ = (255 : Int) => hc9
    rename IntsAre _ H => hx9
    rename News _ _ _ _ => N9
    exact next _ _ _ [] _ _ _ _ hx9 (ints_then hc9 .nil) (by assumption) (news_drop3 N9)
  · rename ¬ _ = (255 : Int) => hc9
    rename IntsAre _ H => hx9
    rename News _ _ _ _ => N9
    exact next _ _ _ [_] _ _ _ _ hx9 (ints_else hc9 (.cons _ _ .nil)) (by assumption) (news_drop3 N9)
set_option maxHeartbeats 8000000 in
theorem segC2 {w : World} {mean : ExcName → Option Value} {mg mb : Str → Option Value} {h₀ : Heap} {L a r p t : Addr} {cd : Value} {m₀ : Str → Option Value} {vs us ts : List Value} {k kp kt : Nat} {ks : List Int} {s : Shared} {Q : Flow → Shared → Prop} {E : Value → Shared → Prop} {i : Nat} {q' : Int} {H Z : List Int} {tq ti : Tok} {x y e it D : Addr} {xs ys : List Value} {kx ky : Nat} {oe oi od : Obj}
    (hI : IntsAre vs ks) (hIt : IntsAre ts (decR ks)) (hIx : IntsAre xs H) (hIy : IntsAre ys Z) (hlen : ks.length ≤ 400) (hZl : Z.length ≤ 400) (hHl : H.length ≤ 400)
    (g3 : 0 < q') (z2 : NZ (ks.drop q'.toNat)) (n2 : ks.drop q'.toNat ≠ []) (hsplit : H ++ Z ++ decR (ks.drop q'.toNat) = decR ks)
    (B : Below callerA h₀ [] h₀) (X : (Hd.hd.heap_39 w.params).In h₀) (T : Top Hd.hd.view_39 LO mean mg mb h₀)
    (F : Fr h₀ L s.heap (kstB m₀ [(Str.ofString "between", .ref y), (Str.ofString "head", .ref x), (Str.ofString "place", .int q' tq), (Str.ofString "count", .int i ti), (Str.ofString "text", .ref t), (Str.ofString "places", .ref p), (Str.ofString "row", .ref r)]))
    (N : News h₀ L s.heap [(y, listOf ys.toArray ky), (x, listOf xs.toArray kx), (t, listOf ts.toArray kt), (p, listOf us.toArray kp), (r, listOf vs.toArray k), (e, oe), (it, oi), (D, od)])
    (next : ∀ (k' : Nat) (h' : Heap), Fr h₀ L h' (kstB m₀ [(Str.ofString "between", .ref y), (Str.ofString "head", .ref x), (Str.ofString "place", .int q' tq), (Str.ofString "count", .int i ti), (Str.ofString "text", .ref t), (Str.ofString "places", .ref p), (Str.ofString "row", .ref r)]) →
      News h₀ L h' [(t, listOf ts.toArray kt), (p, listOf us.toArray kp), (r, listOf vs.toArray k), (e, oe), (it, oi), (D, od)] → Q .next { s with heap := h', toks := k' }) :
    wpC (model Challenge.rw_nc0009_01.row.prog w) (LA w.params L a cd) (execs ((lawLoop w.params).drop 2) (LEnv w.params L a cd)) Q E s := by
  w_on
  revert X
  k_fill
  intro X
  unfold LA LEnv lawLoop lawScope lawRec mkFnX
  simp only [List.drop_succ_cons, List.drop_zero, List.take_succ_cons, List.take_zero]
  have l1 : (ks.drop q'.toNat).length ≤ 400 := by rw [List.length_drop]; omega
  have l2 := decR_len (ks.drop q'.toNat)
  k_steps
  rename News _ _ _ _ => N9
  refine next _ _ (by assumption) (news_sub N9 ?_)
  intro p hp
  simp only [List.mem_cons, List.not_mem_nil, or_false] at hp ⊢
  rcases hp with h | h | h | h | h | h <;> simp [h]
theorem lawLoop_eq {w : World} {M : Model} {L a : Addr} {cd : Value} {Q : Flow → Shared → Prop} {E : Value → Shared → Prop} {s : Shared} (h : wpC M (LA w.params L a cd) (execs (lawLoop w.params) (LEnv w.params L a cd)) Q E s) :
    wpC M (ktrTop (1 + claimMargin + 1) 7 (some []) (Str.ofString "law") (lawRec w.params).scope L a cd [] []) (execs (match (lawRec w.params).body.drop 7 with | .For _ _ b _ _ :: _ => b | _ => []) (envX (Str.ofString "law") (lawRec w.params).scope L a cd [])) Q E s := h
set_option maxHeartbeats 8000000 in
theorem segC {w : World} {mean : ExcName → Option Value} {mg mb : Str → Option Value} {h₀ : Heap} {L a r p t : Addr} {cd : Value} {m₀ : Str → Option Value} {vs us ts : List Value} {k kp kt : Nat} {ks : List Int} {s : Shared} {Q : Flow → Shared → Prop} {E : Value → Shared → Prop}
    (hI : IntsAre vs ks) (hIu : IntsAre us (codesGo 0 ks)) (hIt : IntsAre ts (decR ks)) (hnz : NZ ks) (hlen : ks.length ≤ 400) (hul : (codesGo 0 ks).length ≤ 400)
    (hstep : ∀ i, i + 1 < (codesGo 0 ks).length → ∃ (q q' : Int) (H : List Int), (codesGo 0 ks).getD i 0 = q ∧ (codesGo 0 ks).getD (i + 1) 0 = q' ∧ 0 ≤ q ∧ q < ks.length ∧ 0 < q' ∧ q' < ks.length ∧ decP (ks.take q'.toNat) = some H ∧ H.length ≤ 400 ∧ decR ks = H ++ (if ks.getD q.toNat 0 = 255 then [] else [0]) ++ decR (ks.drop q'.toNat))
    (B : Below callerA h₀ [] h₀) (X : (Hd.hd.heap_39 w.params).In h₀) (T : Top Hd.hd.view_39 LO mean mg mb h₀)
    (F : Fr h₀ L s.heap (kstB m₀ [(Str.ofString "text", .ref t), (Str.ofString "places", .ref p), (Str.ofString "row", .ref r)]))
    (N : News h₀ L s.heap [(t, listOf ts.toArray kt), (p, listOf us.toArray kp), (r, listOf vs.toArray k)])
    (hE : PassesOwn (model Challenge.rw_nc0009_01.row.prog w) (LA w.params L a cd) (LEnv w.params L a cd) E)
    (next : ∀ (m' : Str → Option Value) (k' : Nat) (h' : Heap), Fr h₀ L h' (kstB m' [(Str.ofString "text", .ref t), (Str.ofString "places", .ref p), (Str.ofString "row", .ref r)]) →
      News h₀ L h' [(t, listOf ts.toArray kt), (p, listOf us.toArray kp), (r, listOf vs.toArray k)] → Q .next { s with heap := h', toks := k' }) :
    wpC (model Challenge.rw_nc0009_01.row.prog w) (LA w.params L a cd) (execs (((lawBody w.params).drop 7).take 1) (LEnv w.params L a cd)) Q E s := by
  have hdl := decR_len ks
  w_on
  revert X
  k_fill
  intro X
  unfold LA LEnv lawScope lawRec mkFnX at hE
  unfold LA LEnv lawBody lawScope lawRec mkFnX
  simp only [List.drop_succ_cons, List.drop_zero, List.take_succ_cons, List.take_zero]
  refine wpC_execs_one (wpC_For hE ?_ (by intro _; rfl))
  k_steps
  rename News _ _ _ _ => N9
  rename Fr _ _ _ _ => F9
  rename IntsAre _ (List.drop 1 (codesGo 0 ks)) => hI9
  rename Addr => D9
  rename List Value => W9
  k_dflt (refine' mc_enum [Str.ofString "count", Str.ofString "place", Str.ofString "head", Str.ofString "between"] ?y1 ?y2 ?y3 ?y4 ?yF ?yN ?ym ?turn ?done; (case y1 => exact rfl); (case y2 => with_unfolding_all rfl); (case y3 => with_unfolding_all rfl); (case y4 => with_unfolding_all rfl); (case yF => exact F9); (case yN => exact N9); (case ym => exact .head _))
  case done =>
    clear F9
    intro u h tk F' N'
    have F8 : Fr h₀ L h (kstB (fun z => if [Str.ofString "count", Str.ofString "place", Str.ofString "head", Str.ofString "between"].contains z then u z else m₀ z) [(Str.ofString "text", .ref t), (Str.ofString "places", .ref p), (Str.ofString "row", .ref r)]) := by
      have em : (fun y => if [Str.ofString "count", Str.ofString "place", Str.ofString "head", Str.ofString "between"].contains y then u y else (kstB m₀ [(Str.ofString "text", .ref t), (Str.ofString "places", .ref p), (Str.ofString "row", .ref r)]) y) =
          kstB (fun z => if [Str.ofString "count", Str.ofString "place", Str.ofString "head", Str.ofString "between"].contains z then u z else m₀ z) [(Str.ofString "text", .ref t), (Str.ofString "places", .ref p), (Str.ofString "row", .ref r)] := by
        funext y
        simp only [kstB]
        by_cases h1 : y = Str.ofString "text"
        · subst h1; rfl
        by_cases h2 : y = Str.ofString "places"
        · subst h2; rfl
        by_cases h3 : y = Str.ofString "row"
        · subst h3; rfl
        simp only [if_neg h1, if_neg h2, if_neg h3]
      rw [← em]; exact F'
    exact next _ _ _ F8 fun p hp => N' p (.tail _ hp)
  case turn =>
    clear F9 N9
    intro i v tt u e it oe oi h tk hv F9 N9
    obtain ⟨q1, tq, rfl, hq1⟩ := hI9.at _ _ hv
    have hil : i + 1 < (codesGo 0 ks).length := by
      have := (List.getElem?_eq_some_iff.mp hq1).1
      rw [List.length_drop] at this; omega
    obtain ⟨q, q', H, e1, e2, g1, g2, g3, g4, hH, hHl, hsplit⟩ := hstep i hil
    have eq1 : q1 = q' := by
      rw [← e2, List.getD_eq_getElem?_getD]
      rw [List.getElem?_drop, Nat.add_comm] at hq1
      rw [hq1]; rfl
    subst eq1
    subst e1
    have e0 : (List.take 2 (lawLoop w.params) ++ List.drop 2 (lawLoop w.params)) = lawLoop w.params := List.take_append_drop _ _
    have F8 : Fr h₀ L h (kstB (fun z => if [Str.ofString "count", Str.ofString "place", Str.ofString "head", Str.ofString "between"].contains z then u z else m₀ z) [(Str.ofString "place", .int q1 tq), (Str.ofString "count", .int i tt), (Str.ofString "text", .ref t), (Str.ofString "places", .ref p), (Str.ofString "row", .ref r)]) := by
      have em : (fun y => if y = Str.ofString "place" then some (Value.int q1 tq) else if y = Str.ofString "count" then some (.int i tt) else if [Str.ofString "count", Str.ofString "place", Str.ofString "head", Str.ofString "between"].contains y then u y else (kstB m₀ [(Str.ofString "text", .ref t), (Str.ofString "places", .ref p), (Str.ofString "row", .ref r)]) y) =
          kstB (fun z => if [Str.ofString "count", Str.ofString "place", Str.ofString "head", Str.ofString "between"].contains z then u z else m₀ z) [(Str.ofString "place", .int q1 tq), (Str.ofString "count", .int i tt), (Str.ofString "text", .ref t), (Str.ofString "places", .ref p), (Str.ofString "row", .ref r)] := by
        funext y
        simp only [kstB]
        by_cases h1 : y = Str.ofString "text"
        · subst h1; rfl
        by_cases h2 : y = Str.ofString "places"
        · subst h2; rfl
        by_cases h3 : y = Str.ofString "row"
        · subst h3; rfl
        simp only [if_neg h1, if_neg h2, if_neg h3]
      rw [← em]; exact F9
    clear F9
    have hg1 : 0 ≤ (codesGo 0 ks).getD (i : Int).toNat 0 := by rw [Int.toNat_natCast]; exact g1
    have hg2 : (codesGo 0 ks).getD (i : Int).toNat 0 < ks.length := by rw [Int.toNat_natCast]; exact g2
    have n1 : ks.take q1.toNat ≠ [] := fun hx => by have := congrArg List.length hx; rw [List.length_take, List.length_nil] at this; omega
    have n2 : ks.drop q1.toNat ≠ [] := fun hx => by have := congrArg List.length hx; rw [List.length_drop, List.length_nil] at this; omega
    have hZl : (if ks.getD ((codesGo 0 ks).getD (i : Int).toNat 0).toNat 0 = 255 then [] else [0] : List Int).length ≤ 400 := by split <;> simp
    have hsp : H ++ (if ks.getD ((codesGo 0 ks).getD (i : Int).toNat 0).toNat 0 = 255 then [] else [0]) ++ decR (ks.drop q1.toNat) = decR ks := by rw [Int.toNat_natCast]; exact hsplit.symm
    refine lawLoop_eq (w := w) (L := L) (a := a) (cd := cd) ?_
    rw [← e0]
    refine wpC_execs_append ?_
    refine segC1 (ts := ts) (kt := kt) (kp := kp) (k := k) (e := e) (it := it) (D := D9) (oe := oe) (oi := oi) (od := listOf W9.toArray 0) hI hIu hlen hul (by omega) hg1 hg2 g3 hH hHl (hnz.take _) n1 B X T F8 (news_sub N9 (fun p hp => by simp only [List.mem_cons, List.not_mem_nil, or_false] at hp ⊢; rcases hp with h | h | h | h | h | h <;> simp [h])) ?_
    intro x y xs ys kx ky k' h' ix iy F' N'
    refine segC2 hI hIt ix iy hlen hZl hHl g3 (hnz.drop _) n2 hsp B X T F' N' ?_
    intro k'' h'' F'' N''
    refine ⟨h'', k'', _, _, rfl, F'', N'', fun p hp => by simp only [List.mem_cons, List.not_mem_nil, or_false] at hp ⊢; rcases hp with h | h | h | h | h | h <;> simp [h], fun z hz => ?_⟩
    have hz' : z ≠ Str.ofString "count" ∧ z ≠ Str.ofString "place" ∧ z ≠ Str.ofString "head" ∧ z ≠ Str.ofString "between" := by
      refine ⟨fun h => ?_, fun h => ?_, fun h => ?_, fun h => ?_⟩ <;> (rw [h] at hz; revert hz; decide)
    simp only [kstB, if_neg hz'.1, if_neg hz'.2.1, if_neg hz'.2.2.1, if_neg hz'.2.2.2, hz, Bool.false_eq_true, if_false]
set_option maxHeartbeats 8000000 in
theorem segD {w : World} {mean : ExcName → Option Value} {mg mb : Str → Option Value} {h₀ : Heap} {L a r p t : Addr} {cd : Value} {m₀ : Str → Option Value} {vs us ts : List Value} {k kp kt : Nat} {ks ps xs : List Int} {s : Shared} {Q : Flow → Shared → Prop} {E : Value → Shared → Prop}
    (hI : IntsAre vs ks) (hIu : IntsAre us ps) (hIt : IntsAre ts xs) (hne : ks ≠ []) (hps : ps ≠ []) (hlen : ks.length ≤ 400) (hul : ps.length ≤ 400) (hxl : xs.length ≤ 400)
    (g1 : 0 ≤ ps.getLastD 0) (g2 : ps.getLastD 0 < ks.length) (g3 : 1 ≤ ks.getD (0 : Int).toNat 0)
    (h1 : List.take (((List.take (min (ks.getD (0 : Int).toNat 0).toNat ks.length - 1) (List.drop 1 ks)).length : Nat) : Int).toNat xs = List.take (min (ks.getD (0 : Int).toNat 0).toNat ks.length - 1) (List.drop 1 ks))
    (h2 : (ks.length : Int) - ps.getLastD 0 - 1 + 1 < ks.getD (ps.getLastD 0).toNat 0 → List.drop (xs.length - 1) xs = [ks.getD (ps.getLastD 0).toNat 0])
    (B : Below callerA h₀ [] h₀) (X : (Hd.hd.heap_39 w.params).In h₀) (T : Top Hd.hd.view_39 LO mean mg mb h₀)
    (F : Fr h₀ L s.heap (kstB m₀ [(Str.ofString "text", .ref t), (Str.ofString "places", .ref p), (Str.ofString "row", .ref r)]))
    (N : News h₀ L s.heap [(t, listOf ts.toArray kt), (p, listOf us.toArray kp), (r, listOf vs.toArray k)])
    (next : ∀ (cb : Bool) (t1 t2 : Tok) (k' : Nat) (h' : Heap), (cb = true ↔ (ks.length : Int) - ps.getLastD 0 - 1 + 1 < ks.getD (ps.getLastD 0).toNat 0) →
      Fr h₀ L h' (kstB m₀ [(Str.ofString "cut", .bool cb), (Str.ofString "size", .int ((ks.length : Int) - ps.getLastD 0 - 1) t1), (Str.ofString "at", .int (ps.getLastD 0) t2), (Str.ofString "text", .ref t), (Str.ofString "places", .ref p), (Str.ofString "row", .ref r)]) →
      News h₀ L h' [(t, listOf ts.toArray kt), (p, listOf us.toArray kp), (r, listOf vs.toArray k)] → Q .next { s with heap := h', toks := k' }) :
    wpC (model Challenge.rw_nc0009_01.row.prog w) (LA w.params L a cd) (execs (((lawBody w.params).drop 8).take 4) (LEnv w.params L a cd)) Q E s := by
  have hpos : 0 < ks.length := List.length_pos_iff.mpr hne
  w_on
  revert X
  k_fill
  intro X
  unfold LA LEnv lawBody lawScope lawRec mkFnX
  simp only [List.drop_succ_cons, List.drop_zero, List.take_succ_cons, List.take_zero]
  by_cases hcut : (ks.length : Int) - ps.getLastD 0 - 1 + 1 < ks.getD (ps.getLastD 0).toNat 0
  · have h3 := h2 hcut
    k_steps
    rename News _ _ _ _ => N9
    exact next _ _ _ _ _ decide_eq_true_iff (by assumption) (fun p hp => N9 p (.tail _ (.tail _ (.tail _ (.tail _ (.tail _ hp))))))
  · k_steps
    rename News _ _ _ _ => N9
    exact next _ _ _ _ _ decide_eq_true_iff (by assumption) (fun p hp => N9 p (.tail _ (.tail _ (.tail _ hp))))
set_option maxHeartbeats 8000000 in
theorem segE1 {w : World} {mean : ExcName → Option Value} {mg mb : Str → Option Value} {h₀ : Heap} {L a r p t : Addr} {cd : Value} {m₀ : Str → Option Value} {vs us ts : List Value} {k kp kt : Nat} {ks ps xs : List Int} {s : Shared} {Q : Flow → Shared → Prop} {E : Value → Shared → Prop} {t1 t2 : Tok} {z at' : Int}
    (hI : IntsAre vs ks) (hIt : IntsAre ts xs) (hlen : ks.length ≤ 400) (hxl : xs.length ≤ 400) (g1 : 0 ≤ at') (g2 : at' < ks.length) (hz : NZ (ks.take at'.toNat ++ [z + 2] ++ ks.drop (at' + 1).toNat ++ [ks.getD at'.toNat 0])) (hn : (ks.take at'.toNat ++ [z + 2] ++ ks.drop (at' + 1).toNat ++ [ks.getD at'.toNat 0]) ≠ []) (hl : (ks.take at'.toNat ++ [z + 2] ++ ks.drop (at' + 1).toNat ++ [ks.getD at'.toNat 0]).length ≤ 500) (hH : decP (ks.take at'.toNat ++ [z + 2] ++ ks.drop (at' + 1).toNat ++ [ks.getD at'.toNat 0]) = some xs) (heq : xs = xs)
    (B : Below callerA h₀ [] h₀) (X : (Hd.hd.heap_39 w.params).In h₀) (T : Top Hd.hd.view_39 LO mean mg mb h₀)
    (F : Fr h₀ L s.heap (kstB m₀ [(Str.ofString "cut", .bool true), (Str.ofString "size", .int z t1), (Str.ofString "at", .int at' t2), (Str.ofString "text", .ref t), (Str.ofString "places", .ref p), (Str.ofString "row", .ref r)]))
    (N : News h₀ L s.heap [(t, listOf ts.toArray kt), (p, listOf us.toArray kp), (r, listOf vs.toArray k)])
    (next : ∀ (d : Addr) (ds : List Value) (kd k' : Nat) (h' : Heap), IntsAre ds (ks.take at'.toNat ++ [z + 2] ++ ks.drop (at' + 1).toNat ++ [ks.getD at'.toNat 0]) →
      Fr h₀ L h' (kstB m₀ [(Str.ofString "due", .ref d), (Str.ofString "cut", .bool true), (Str.ofString "size", .int z t1), (Str.ofString "at", .int at' t2), (Str.ofString "text", .ref t), (Str.ofString "places", .ref p), (Str.ofString "row", .ref r)]) →
      News h₀ L h' ((d, listOf ds.toArray kd) :: [(t, listOf ts.toArray kt), (p, listOf us.toArray kp), (r, listOf vs.toArray k)]) → Q .next { s with heap := h', toks := k' }) :
    wpC (model Challenge.rw_nc0009_01.row.prog w) (LA w.params L a cd) (execs (((lawBody w.params).drop 12).take 2) (LEnv w.params L a cd)) Q E s := by
  w_on
  revert X
  k_fill
  intro X
  unfold LA LEnv lawBody lawScope lawRec mkFnX
  simp only [List.drop_succ_cons, List.drop_zero, List.take_succ_cons, List.take_zero]
  k_steps
  rename News _ _ _ _ => N9
  rename IntsAre _ (_ ++ _ ++ _ ++ _) => hd9
  rename Fr _ _ _ _ => F9
  exact next _ _ 0 _ _ hd9 F9 (fun p hp => N9 p ((List.mem_cons.mp hp).elim (fun e => e ▸ .tail _ (.head _)) fun h => .tail _ (.tail _ (.tail _ (.tail _ (.tail _ (.tail _ (.tail _ (.tail _ h)))))))))
set_option maxHeartbeats 8000000 in
theorem segE0 {w : World} {mean : ExcName → Option Value} {mg mb : Str → Option Value} {h₀ : Heap} {L a r p t : Addr} {cd : Value} {m₀ : Str → Option Value} {vs us ts : List Value} {k kp kt : Nat} {ks ps xs : List Int} {s : Shared} {Q : Flow → Shared → Prop} {E : Value → Shared → Prop} {t1 t2 : Tok} {z at' : Int}
    (hI : IntsAre vs ks) (hIt : IntsAre ts xs) (hlen : ks.length ≤ 400) (hxl : xs.length ≤ 400) (g1 : 0 ≤ at') (g2 : at' < ks.length) (hz : NZ ks) (hn : ks ≠ []) (hH : decP ks = some xs) (heq : xs = xs)
    (B : Below callerA h₀ [] h₀) (X : (Hd.hd.heap_39 w.params).In h₀) (T : Top Hd.hd.view_39 LO mean mg mb h₀)
    (F : Fr h₀ L s.heap (kstB m₀ [(Str.ofString "cut", .bool false), (Str.ofString "size", .int z t1), (Str.ofString "at", .int at' t2), (Str.ofString "text", .ref t), (Str.ofString "places", .ref p), (Str.ofString "row", .ref r)]))
    (N : News h₀ L s.heap [(t, listOf ts.toArray kt), (p, listOf us.toArray kp), (r, listOf vs.toArray k)])
    (next : ∀ (d : Addr) (ds : List Value) (kd k' : Nat) (h' : Heap), IntsAre ds ks →
      Fr h₀ L h' (kstB m₀ [(Str.ofString "due", .ref d), (Str.ofString "cut", .bool false), (Str.ofString "size", .int z t1), (Str.ofString "at", .int at' t2), (Str.ofString "text", .ref t), (Str.ofString "places", .ref p), (Str.ofString "row", .ref r)]) →
      News h₀ L h' ((d, listOf ds.toArray kd) :: [(t, listOf ts.toArray kt), (p, listOf us.toArray kp), (r, listOf vs.toArray k)]) → Q .next { s with heap := h', toks := k' }) :
    wpC (model Challenge.rw_nc0009_01.row.prog w) (LA w.params L a cd) (execs (((lawBody w.params).drop 12).take 2) (LEnv w.params L a cd)) Q E s := by
  w_on
  revert X
  k_fill
  intro X
  unfold LA LEnv lawBody lawScope lawRec mkFnX
  simp only [List.drop_succ_cons, List.drop_zero, List.take_succ_cons, List.take_zero]
  k_steps
  rename News _ _ _ _ => N9
  exact next r vs k _ _ hI (by assumption) (fun p hp => N9 p ((List.mem_cons.mp hp).elim (fun e => e ▸ .tail _ (.tail _ (.tail _ (.head _)))) fun h => .tail _ h))
set_option maxHeartbeats 8000000 in
theorem segF0 {w : World} {mean : ExcName → Option Value} {mg mb : Str → Option Value} {h₀ : Heap} {L a r p t d : Addr} {cd : Value} {m₀ : Str → Option Value} {vs us ts ds : List Value} {k kp kt kd : Nat} {ks ps xs : List Int} {s : Shared} {Q : Flow → Shared → Prop} {E : Value → Shared → Prop} {t1 t2 : Tok} {z at' : Int}
    (hI : IntsAre vs ks) (hIt : IntsAre ts xs) (hlen : ks.length ≤ 400) (hxl : xs.length ≤ 400) (hz : NZ ks) (hn : ks ≠ []) (hH : decP ks = some xs) (heq : xs = xs)
    (B : Below callerA h₀ [] h₀) (X : (Hd.hd.heap_39 w.params).In h₀) (T : Top Hd.hd.view_39 LO mean mg mb h₀)
    (F : Fr h₀ L s.heap (kstB m₀ [(Str.ofString "due", .ref d), (Str.ofString "cut", .bool false), (Str.ofString "size", .int z t1), (Str.ofString "at", .int at' t2), (Str.ofString "text", .ref t), (Str.ofString "places", .ref p), (Str.ofString "row", .ref r)]))
    (N : News h₀ L s.heap [(d, listOf ds.toArray kd), (t, listOf ts.toArray kt), (p, listOf us.toArray kp), (r, listOf vs.toArray k)])
    (next : ∀ (m' : Str → Option Value) (k' : Nat) (h' : Heap), Fr h₀ L h' (kstB m' [(Str.ofString "due", .ref d), (Str.ofString "cut", .bool false), (Str.ofString "size", .int z t1), (Str.ofString "at", .int at' t2), (Str.ofString "text", .ref t), (Str.ofString "places", .ref p), (Str.ofString "row", .ref r)]) →
      News h₀ L h' [(d, listOf ds.toArray kd), (t, listOf ts.toArray kt), (p, listOf us.toArray kp), (r, listOf vs.toArray k)] → Q .next { s with heap := h', toks := k' }) :
    wpC (model Challenge.rw_nc0009_01.row.prog w) (LA w.params L a cd) (execs (((lawBody w.params).drop 14).take 2) (LEnv w.params L a cd)) Q E s := by
  w_on
  revert X
  k_fill
  intro X
  unfold LA LEnv lawBody lawScope lawRec mkFnX
  simp only [List.drop_succ_cons, List.drop_zero, List.take_succ_cons, List.take_zero]
  refine wpC_execs_cons (wpC_Try_except ?_)
  k_steps
  rename News _ _ _ _ => N9
  rename Fr _ _ _ _ => F9
  refine next _ _ _ (fr_told F9) (fun p hp => N9 p (.tail _ hp))
set_option maxHeartbeats 8000000 in
theorem segF1 {w : World} {mean : ExcName → Option Value} {mg mb : Str → Option Value} {h₀ : Heap} {L a r p t d : Addr} {cd : Value} {m₀ : Str → Option Value} {vs us ts ds : List Value} {k kp kt kd : Nat} {ks ps xs : List Int} {s : Shared} {Q : Flow → Shared → Prop} {E : Value → Shared → Prop} {t1 t2 : Tok} {z at' : Int}
    (hI : IntsAre vs ks) (hIt : IntsAre ts xs) (hlen : ks.length ≤ 400) (hxl : xs.length ≤ 400) (hz : NZ ks) (hn : ks ≠ []) (hN : decP ks = none)
    (hE : ∀ e : Addr, PassesOwnAt (model Challenge.rw_nc0009_01.row.prog w) ((LA w.params L a cd).mark (some (.ref e))) (LA w.params L a cd) (LEnv w.params L a cd) E)
    (B : Below callerA h₀ [] h₀) (X : (Hd.hd.heap_39 w.params).In h₀) (T : Top Hd.hd.view_39 LO mean mg mb h₀)
    (F : Fr h₀ L s.heap (kstB m₀ [(Str.ofString "due", .ref d), (Str.ofString "cut", .bool true), (Str.ofString "size", .int z t1), (Str.ofString "at", .int at' t2), (Str.ofString "text", .ref t), (Str.ofString "places", .ref p), (Str.ofString "row", .ref r)]))
    (N : News h₀ L s.heap [(d, listOf ds.toArray kd), (t, listOf ts.toArray kt), (p, listOf us.toArray kp), (r, listOf vs.toArray k)])
    (next : ∀ (m' : Str → Option Value) (k' : Nat) (h' : Heap), Fr h₀ L h' (kstB m' [(Str.ofString "due", .ref d), (Str.ofString "cut", .bool true), (Str.ofString "size", .int z t1), (Str.ofString "at", .int at' t2), (Str.ofString "text", .ref t), (Str.ofString "places", .ref p), (Str.ofString "row", .ref r)]) →
      News h₀ L h' [(d, listOf ds.toArray kd), (t, listOf ts.toArray kt), (p, listOf us.toArray kp), (r, listOf vs.toArray k)] → Q .next { s with heap := h', toks := k' }) :
    wpC (model Challenge.rw_nc0009_01.row.prog w) (LA w.params L a cd) (execs (((lawBody w.params).drop 14).take 2) (LEnv w.params L a cd)) Q E s := by
  w_on
  revert X
  k_fill
  intro X
  unfold LA LEnv lawBody lawScope lawRec mkFnX
  simp only [List.drop_succ_cons, List.drop_zero, List.take_succ_cons, List.take_zero]
  refine wpC_execs_cons (wpC_Try_except ?_)
  k_steps
  rename RaisedK _ _ _ _ _ _ _ _ => hR9
  rename Heap.UpToSlots _ _ => hU9
  rename Addr => e9
  rename Heap => h9
  k_dflt (refine' caught_O0 (A₀ := callerA) (outer := []) (bmB := [.type "Exception", .type "BaseException", .type "object"]) (newId := "Exception.__new__") ?K ?F ?U ?R ?X ?T ?ex ?q ?hb ?_ ?h1 ?h2 ?h3 ?hE; (case K => assumption); (case U => exact hU9); (case F => assumption); (case R => exact hR9); (case X => k_asm); (case T => exact topRead_of T); (case ex => k_is); (case q => k_exc); (case hb => exact rfl); (case h1 => exact rfl); (case h2 => exact rfl); (case h3 => decide); (case hE => exact hE _); k_whole)
  intro h' n₂ F' N₂ G' N'
  k_steps
  rename Fr _ _ _ _ => F9
  exact next _ _ _ (fr_told F9) (by assumption)
set_option maxHeartbeats 8000000 in
theorem segH1 {w : World} {mean : ExcName → Option Value} {mg mb : Str → Option Value} {h₀ : Heap} {L a r p t d : Addr} {cd : Value} {m₀ : Str → Option Value} {vs us ts ds : List Value} {k kp kt kd : Nat} {ks ps xs Du D1 D2 : List Int} {s : Shared} {Q : Flow → Shared → Prop} {E : Value → Shared → Prop} {t1 t2 t3 : Tok} {z at' : Int}
    (hI : IntsAre vs ks) (hIu : IntsAre us ps) (hId : IntsAre ds Du) (hlen : ks.length ≤ 400) (hul : ps.length ≤ 400) (g1 : 0 ≤ at') (g2 : at' < ks.length)
    (g3 : 1 < ps.length → 0 ≤ ps.getD (ps.length - 2) 0 ∧ ps.getD (ps.length - 2) 0 < ks.length)
    (hd1 : 1 < ps.length → ks.getD at'.toNat 0 = 1 → ks.getD (ps.getD (ps.length - 2) 0).toNat 0 = 255 → D1 = ks.take at'.toNat)
    (hd0 : ¬ (1 < ps.length ∧ ks.getD at'.toNat 0 = 1 ∧ ks.getD (ps.getD (ps.length - 2) 0).toNat 0 = 255) → D1 = Du)
    (B : Below callerA h₀ [] h₀) (X : (Hd.hd.heap_39 w.params).In h₀) (T : Top Hd.hd.view_39 LO mean mg mb h₀)
    (F : Fr h₀ L s.heap (kstB m₀ [(Str.ofString "due", .ref d), (Str.ofString "at", .int at' t2), (Str.ofString "text", .ref t), (Str.ofString "places", .ref p), (Str.ofString "row", .ref r)]))
    (N : News h₀ L s.heap [(d, listOf ds.toArray kd), (t, listOf ts.toArray kt), (p, listOf us.toArray kp), (r, listOf vs.toArray k)])
    (next : ∀ (d' : Addr) (ds' : List Value) (kd' : Nat) (k' : Nat) (h' : Heap), IntsAre ds' D1 → Fr h₀ L h' (kstB m₀ [(Str.ofString "due", .ref d'), (Str.ofString "at", .int at' t2), (Str.ofString "text", .ref t), (Str.ofString "places", .ref p), (Str.ofString "row", .ref r)]) →
      News h₀ L h' [(d', listOf ds'.toArray kd'), (t, listOf ts.toArray kt)] → Q .next { s with heap := h', toks := k' }) :
    wpC (model Challenge.rw_nc0009_01.row.prog w) (LA w.params L a cd) (execs (((lawBody w.params).drop 16).take 1) (LEnv w.params L a cd)) Q E s := by
  w_on
  revert X
  k_fill
  intro X
  unfold LA LEnv lawBody lawScope lawRec mkFnX
  simp only [List.drop_succ_cons, List.drop_zero, List.take_succ_cons, List.take_zero]
  by_cases hl2 : 1 < ps.length
  · have e2 : (-2 + (ps.length : Int)).toNat = ps.length - 2 := by omega
    rw [← e2] at hd1 hd0 g3
    have g4 := (g3 hl2).1
    have g5 := (g3 hl2).2
    k_steps
    · rename IntsAre _ (List.take _ _) => hx9
      rename Fr _ _ _ _ => F9
      rename News _ _ _ _ => N9
      have e9 := hd1 hl2 (by assumption) (by assumption)
      rw [← e9] at hx9
      refine next _ _ 0 _ _ hx9 (fr_shadow F9) (fun p hp => N9 p ?_)
      rcases List.mem_cons.mp hp with h | hp
      · rw [h]; exact .head _
      · rcases List.mem_cons.mp hp with h | hp
        · rw [h]; exact .tail _ (.tail _ (.head _))
        · exact nomatch hp
    all_goals (
      refine next d ds kd _ _ ?_ F (fun p hp => N p ?_)
      · rw [hd0 (fun hh => by obtain ⟨_, _, _⟩ := hh; contradiction)]; exact hId
      · rcases List.mem_cons.mp hp with h | hp
        · rw [h]; exact .head _
        · rcases List.mem_cons.mp hp with h | hp
          · rw [h]; exact .tail _ (.head _)
          · exact nomatch hp)
  · k_steps
    refine next d ds kd _ _ ?_ F (fun p hp => N p ?_)
    · rw [hd0 (fun hh => hl2 hh.1)]; exact hId
    · rcases List.mem_cons.mp hp with h | hp
      · rw [h]; exact .head _
      · rcases List.mem_cons.mp hp with h | hp
        · rw [h]; exact .tail _ (.head _)
        · exact nomatch hp
set_option maxHeartbeats 8000000 in
theorem segH2 {w : World} {mean : ExcName → Option Value} {mg mb : Str → Option Value} {h₀ : Heap} {L a r p t d : Addr} {cd : Value} {m₀ : Str → Option Value} {vs us ts ds : List Value} {k kp kt kd : Nat} {ks ps xs Du D1 D2 : List Int} {s : Shared} {Q : Flow → Shared → Prop} {E : Value → Shared → Prop} {t1 t2 t3 : Tok} {z at' : Int}
    (hIt : IntsAre ts xs) (hId : IntsAre ds D1) (hxl : xs.length ≤ 400) (hdl : D1.length ≤ 500) (hIn : KBa.In xs) (hW : encPgo [] true xs = D1) (heq : D1 = D1) (hz : NZ D1) (hn : D1 ≠ []) (hpl : (codesGo 0 D1).length ≤ 500) (hpn : codesGo 0 D1 ≠ [])
    (B : Below callerA h₀ [] h₀) (X : (Hd.hd.heap_39 w.params).In h₀) (T : Top Hd.hd.view_39 LO mean mg mb h₀)
    (F : Fr h₀ L s.heap (kstB m₀ [(Str.ofString "due", .ref d), (Str.ofString "text", .ref t)]))
    (N : News h₀ L s.heap [(d, listOf ds.toArray kd), (t, listOf ts.toArray kt)])
    (next : ∀ (m' : Str → Option Value) (t1 t2 : Tok) (k' : Nat) (h' : Heap), Fr h₀ L h' (kstB m' [(Str.ofString "size", .int ((D1.length : Int) - (codesGo 0 D1).getLastD 0 - 1) t1), (Str.ofString "at", .int ((codesGo 0 D1).getLastD 0) t2), (Str.ofString "due", .ref d), (Str.ofString "text", .ref t)]) →
      News h₀ L h' [(d, listOf ds.toArray kd), (t, listOf ts.toArray kt)] → Q .next { s with heap := h', toks := k' }) :
    wpC (model Challenge.rw_nc0009_01.row.prog w) (LA w.params L a cd) (execs (((lawBody w.params).drop 17).take 3) (LEnv w.params L a cd)) Q E s := by
  w_on
  revert X
  k_fill
  intro X
  unfold LA LEnv lawBody lawScope lawRec mkFnX
  simp only [List.drop_succ_cons, List.drop_zero, List.take_succ_cons, List.take_zero]
  k_steps
  rename News _ _ _ _ => N9
  rename Fr _ _ _ _ => F9
  exact next m₀ _ _ _ _ F9 (fun p hp => N9 p (.tail _ (.tail _ hp)))
set_option maxHeartbeats 8000000 in
theorem segH3 {w : World} {mean : ExcName → Option Value} {mg mb : Str → Option Value} {h₀ : Heap} {L a r p t d : Addr} {cd : Value} {m₀ : Str → Option Value} {vs us ts ds : List Value} {k kp kt kd : Nat} {ks ps xs Du D1 D2 : List Int} {s : Shared} {Q : Flow → Shared → Prop} {E : Value → Shared → Prop} {t1 t2 t3 : Tok} {z at' : Int}
    (hIt : IntsAre ts xs) (hId : IntsAre ds D1) (hxl : xs.length ≤ 400) (hdl : D1.length ≤ 500) (hn : D1 ≠ []) (g1 : 0 ≤ at') (hIn : KBa.In xs) (hW : encRgo (xs.getLastD 0) [] xs = D2) (hwl : D2.length ≤ 600)
    (hd1 : 0 < z → z < D1.getLastD 0 → D2 = D1.take at'.toNat ++ D1.drop (D1.length - 1) ++ (D1.drop (at' + 1).toNat).take (D1.length - 1 - (at' + 1).toNat))
    (hd0 : ¬ (0 < z ∧ z < D1.getLastD 0) → D2 = D1)
    (B : Below callerA h₀ [] h₀) (X : (Hd.hd.heap_39 w.params).In h₀) (T : Top Hd.hd.view_39 LO mean mg mb h₀)
    (F : Fr h₀ L s.heap (kstB m₀ [(Str.ofString "size", .int z t1), (Str.ofString "at", .int at' t2), (Str.ofString "due", .ref d), (Str.ofString "text", .ref t)]))
    (N : News h₀ L s.heap [(d, listOf ds.toArray kd), (t, listOf ts.toArray kt)])
    (next : ∀ (m' : Str → Option Value) (k' : Nat) (h' : Heap), Fr h₀ L h' m' → Q (.ret (.bool true)) { s with heap := h', toks := k' }) :
    wpC (model Challenge.rw_nc0009_01.row.prog w) (LA w.params L a cd) (execs (((lawBody w.params).drop 20).take 2) (LEnv w.params L a cd)) Q E s := by
  w_on
  revert X
  k_fill
  intro X
  unfold LA LEnv lawBody lawScope lawRec mkFnX
  simp only [List.drop_succ_cons, List.drop_zero, List.take_succ_cons, List.take_zero]
  by_cases hc : 0 < z ∧ z < D1.getLastD 0
  · have hc1 := hc.1
    have hc2 := hc.2
    have he := hd1 hc1 hc2
    k_steps
    all_goals (rename Fr _ _ _ _ => F9; exact next _ _ _ F9)
  · have he := hd0 hc
    k_steps
    all_goals (rename Fr _ _ _ _ => F9; exact next _ _ _ F9)
end Mine
namespace Mine
/-! ## the plain law -/
/-- a whole part -/
def blk (b : List Int) : List Int := ((b.length : Int) + 1) :: b
def encB : List (List Int) → List Int
  | [] => []
  | b :: bs => blk b ++ encB bs
def sepB (b : List Int) : List Int := if b.length = 254 then [] else [0]
def txtB : List (List Int) → List Int
  | [] => []
  | b :: bs => b ++ sepB b ++ txtB bs
def OkB (bs : List (List Int)) : Prop := ∀ b ∈ bs, b.length ≤ 254 ∧ NZ b
theorem OkB.tail {b : List Int} {bs : List (List Int)} (h : OkB (b :: bs)) : OkB bs := fun x hx => h x (.tail _ hx)
theorem OkB.hd {b : List Int} {bs : List (List Int)} (h : OkB (b :: bs)) : b.length ≤ 254 ∧ NZ b := h b (.head _)
theorem encB_append (a b : List (List Int)) : encB (a ++ b) = encB a ++ encB b := by
  induction a with
  | nil => rfl
  | cons x a ih => simp only [List.cons_append, encB, ih, List.append_assoc]
theorem txtB_append (a b : List (List Int)) : txtB (a ++ b) = txtB a ++ txtB b := by
  induction a with
  | nil => rfl
  | cons x a ih => simp only [List.cons_append, txtB, ih, List.append_assoc]
theorem blk_length (b : List Int) : (blk b).length = b.length + 1 := rfl
/-- every row is whole parts and a last one -/
theorem parts (n : Nat) : ∀ ks : List Int, ks.length ≤ n → NZ ks → ks ≠ [] → ∃ bs c tl, ks = encB bs ++ c :: tl ∧ OkB bs ∧ NZ tl ∧ 1 ≤ c ∧ c ≤ 255 ∧ (tl.length : Int) ≤ c - 1 := by
  induction n with
  | zero =>
    intro ks h _ hne
    exact absurd (List.length_eq_zero_iff.mp (Nat.le_zero.mp h)) hne
  | succ n ih =>
    intro ks h hnz hne
    cases ks with
    | nil => exact absurd rfl hne
    | cons c r =>
      have hc := hnz c (.head _)
      have hr : NZ r := fun k hk => hnz k (.tail _ hk)
      by_cases hl : (r.length : Int) ≤ c - 1
      · exact ⟨[], c, r, rfl, (fun _ hb => nomatch hb), hr, hc.1, hc.2, hl⟩
      · obtain ⟨bs, d, tl, e, h1, h2, h3, h4, h5⟩ := ih (r.drop (c - 1).toNat) (by rw [List.length_drop]; simp only [List.length_cons] at h; omega) (fun k hk => hr k (List.mem_of_mem_drop hk))
          (fun hx => by have := congrArg List.length hx; rw [List.length_drop, List.length_nil] at this; omega)
        refine ⟨r.take (c - 1).toNat :: bs, d, tl, ?_, ?_, h2, h3, h4, h5⟩
        · have hlen : (r.take (c - 1).toNat).length = (c - 1).toNat := by rw [List.length_take]; omega
          show c :: r = blk (r.take (c - 1).toNat) ++ encB bs ++ d :: tl
          rw [List.append_assoc, ← e]
          show c :: r = (((r.take (c - 1).toNat).length : Int) + 1) :: (r.take (c - 1).toNat ++ r.drop (c - 1).toNat)
          rw [hlen, List.take_append_drop]
          congr 1
          omega
        · intro b hb
          rcases List.mem_cons.mp hb with rfl | hb
          · exact ⟨by rw [List.length_take]; omega, fun k hk => hr k (List.mem_of_mem_take hk)⟩
          · exact h1 b hb
theorem sep_eq {b : List Int} (hb : b.length ≤ 254) : (if (b.length : Int) + 1 < 255 then [(0 : Int)] else []) = sepB b := by
  unfold sepB
  by_cases h : b.length = 254
  · rw [if_pos h, if_neg (by omega)]
  · rw [if_neg h, if_pos (by omega)]
theorem decR_blk {b rest : List Int} (hb : b.length ≤ 254) (hr : rest ≠ []) : decR (blk b ++ rest) = b ++ sepB b ++ decR rest := by
  have hp := List.length_pos_iff.mpr hr
  show decR (((b.length : Int) + 1) :: (b ++ rest)) = _
  rw [decR_cons, if_neg (by rw [List.length_append]; omega), if_neg (by rw [List.length_append]; omega)]
  have e : ((b.length : Int) + 1 - 1).toNat = b.length := by omega
  rw [e, List.take_left, List.drop_left, sep_eq hb]
theorem decR_last {c : Int} {tl : List Int} (h : (tl.length : Int) ≤ c - 1) : decR (c :: tl) = tl ++ (if (tl.length : Int) < c - 1 then [c] else []) := by
  rw [decR_cons]
  by_cases h1 : (tl.length : Int) < c - 1
  · rw [if_pos h1, if_pos h1]
  · rw [if_neg h1, if_neg h1, if_pos (by omega), List.append_nil]
theorem decR_parts {bs : List (List Int)} {c : Int} {tl : List Int} (ok : OkB bs) (h : (tl.length : Int) ≤ c - 1) : decR (encB bs ++ c :: tl) = txtB bs ++ (tl ++ (if (tl.length : Int) < c - 1 then [c] else [])) := by
  induction bs with
  | nil => exact decR_last h
  | cons b bs ih =>
    show decR (blk b ++ encB bs ++ c :: tl) = _
    rw [List.append_assoc, decR_blk ok.hd.1 (by simp), ih ok.tail]
    simp only [txtB, List.append_assoc]
theorem decP_blk {b rest : List Int} (hb : b.length ≤ 254) (hr : rest ≠ []) : decP (blk b ++ rest) = (decP rest).map fun x => b ++ sepB b ++ x := by
  have hp := List.length_pos_iff.mpr hr
  show decP (((b.length : Int) + 1) :: (b ++ rest)) = _
  rw [decP_cons, if_neg (by rw [List.length_append]; omega), if_neg (by rw [List.length_append]; omega)]
  have e : ((b.length : Int) + 1 - 1).toNat = b.length := by omega
  rw [e, List.take_left, List.drop_left, sep_eq hb]
theorem decP_parts {bs : List (List Int)} {l : List Int} (ok : OkB bs) (hl : l ≠ []) : decP (encB bs ++ l) = (decP l).map fun x => txtB bs ++ x := by
  induction bs with
  | nil =>
    show decP l = _
    cases decP l <;> rfl
  | cons b bs ih =>
    show decP (blk b ++ encB bs ++ l) = _
    rw [List.append_assoc, decP_blk ok.hd.1 (by simp [hl]), ih ok.tail]
    cases decP l with
    | none => rfl
    | some y => simp only [Option.map_some, txtB, List.append_assoc]
theorem decP_one (e : List Int) : decP (blk e) = some e := by
  show decP (((e.length : Int) + 1) :: e) = _
  rw [decP_cons, if_neg (by omega), if_pos (by omega)]
theorem blk_ne (e : List Int) : blk e ≠ [] := fun h => by cases h
theorem decP_whole {bs : List (List Int)} {e : List Int} (ok : OkB bs) : decP (encB bs ++ blk e) = some (txtB bs ++ e) := by
  rw [decP_parts ok (blk_ne e), decP_one]; rfl
theorem decP_cut {bs : List (List Int)} {c : Int} {tl : List Int} (ok : OkB bs) (h : (tl.length : Int) < c - 1) : decP (encB bs ++ c :: tl) = none := by
  rw [decP_parts ok (by simp), decP_cons, if_pos h]; rfl
/-- the places of the codes -/
def posB (i : Nat) : List (List Int) → List Int
  | [] => [(i : Int)]
  | b :: bs => (i : Int) :: posB (i + (b.length + 1)) bs
theorem codes_parts {c : Int} {tl : List Int} (h : (tl.length : Int) ≤ c - 1) : ∀ (bs : List (List Int)) (i : Nat), codesGo i (encB bs ++ c :: tl) = posB i bs
  | [], i => by
    show codesGo i (c :: tl) = _
    rw [codesGo_cons, if_pos (by omega)]; rfl
  | b :: bs, i => by
    show codesGo i (((b.length : Int) + 1) :: (b ++ encB bs ++ c :: tl)) = _
    rw [codesGo_cons, if_neg (by simp only [List.length_append, List.length_cons]; omega)]
    have e1 : ((b.length : Int) + 1).toNat = b.length + 1 := by omega
    have e2 : ((b.length : Int) + 1 - 1).toNat = b.length := by omega
    rw [e1, e2, List.append_assoc, List.drop_left, codes_parts h bs (i + (b.length + 1))]
    rfl
theorem posB_length : ∀ (bs : List (List Int)) (i : Nat), (posB i bs).length = bs.length + 1
  | [], _ => rfl
  | b :: bs, i => by show (posB (i + (b.length + 1)) bs).length + 1 = _; rw [posB_length bs]; rfl
theorem posB_get : ∀ (bs : List (List Int)) (i j : Nat), j ≤ bs.length → (posB i bs).getD j 0 = ((i + (encB (bs.take j)).length : Nat) : Int)
  | [], i, j, h => by
    have : j = 0 := Nat.le_zero.mp h
    subst this; rfl
  | b :: bs, i, 0, _ => rfl
  | b :: bs, i, j + 1, h => by
    show (posB (i + (b.length + 1)) bs).getD j 0 = _
    rw [posB_get bs (i + (b.length + 1)) j (Nat.le_of_succ_le_succ h)]
    show _ = ((i + (blk b ++ encB (bs.take j)).length : Nat) : Int)
    rw [List.length_append, blk_length]
    congr 1
    omega
theorem posB_last (bs : List (List Int)) (i : Nat) : (posB i bs).getLastD 0 = ((i + (encB bs).length : Nat) : Int) := by
  have := posB_get bs i bs.length (Nat.le_refl _)
  rw [List.take_length] at this
  rw [← this, List.getLastD_eq_getLast?, List.getLast?_eq_getElem?, posB_length, List.getD_eq_getElem?_getD]
  rfl
end Mine
namespace Mine
theorem NZ.hd {x : Int} {l : List Int} (h : NZ (x :: l)) : x ≠ 0 := fun e => by have := h x (.head _); omega
theorem NZ.tl {x : Int} {l : List Int} (h : NZ (x :: l)) : NZ l := fun k hk => h k (.tail _ hk)
theorem plP_run : ∀ (l : List Int) (cur rest : List Int) (fz : Bool), NZ l → cur.length + l.length ≤ 253 → encPgo cur fz (l ++ rest) = encPgo (cur ++ l) fz rest
  | [], cur, rest, fz, _, _ => by rw [List.append_nil]; rfl
  | x :: l, cur, rest, fz, hz, hl => by
    simp only [List.length_cons] at hl
    show encPgo cur fz (x :: (l ++ rest)) = _
    rw [encPgo, if_neg hz.hd, if_neg (by omega), plP_run l (cur ++ [x]) rest fz hz.tl (by rw [List.length_append, List.length_singleton]; omega), List.append_assoc]
    rfl
theorem plP_zero {b rest : List Int} {fz : Bool} (hz : NZ b) (hl : b.length ≤ 253) : encPgo [] fz (b ++ 0 :: rest) = blk b ++ encPgo [] true rest := by
  rw [plP_run b [] (0 :: rest) fz hz (by simpa using hl), List.nil_append, encPgo, if_pos rfl]; rfl
theorem plP_full {b rest : List Int} {fz : Bool} (hz : NZ b) (hl : b.length = 254) : encPgo [] fz (b ++ rest) = blk b ++ encPgo [] false rest := by
  have hne : b ≠ [] := fun h => by rw [h] at hl; cases hl
  have e : b = b.dropLast ++ [b.getLast hne] := (List.dropLast_concat_getLast hne).symm
  have hd : b.dropLast.length = 253 := by rw [List.length_dropLast]; omega
  have hz1 : NZ b.dropLast := fun k hk => hz k (List.mem_of_mem_take (by rw [← List.dropLast_eq_take]; exact hk))
  have hz2 : b.getLast hne ≠ 0 := fun h => by have := hz _ (List.getLast_mem hne); omega
  have step : encPgo [] fz (b.dropLast ++ (b.getLast hne :: rest)) = 255 :: (b.dropLast ++ [b.getLast hne]) ++ encPgo [] false rest := by
    rw [plP_run b.dropLast [] _ fz hz1 (by rw [hd]; simp), List.nil_append, encPgo, if_neg hz2, if_pos hd]
  have e2 : b ++ rest = b.dropLast ++ (b.getLast hne :: rest) := by
    rw [show b.getLast hne :: rest = [b.getLast hne] ++ rest from rfl, ← List.append_assoc, ← e]
  rw [e2, step, ← e]
  show _ = (((b.length : Int) + 1) :: b) ++ _
  rw [hl]; rfl
/-- does a nought stand last, or nothing -/
def fzB (fz : Bool) : List (List Int) → Bool
  | [] => fz
  | b :: bs => fzB (decide (b.length ≠ 254)) bs
theorem encP_parts {e : List Int} (he : e.length ≤ 254) (hz : NZ e) : ∀ (bs : List (List Int)) (fz : Bool), OkB bs → encPgo [] fz (txtB bs ++ e) = encB bs ++ (if e = [] ∧ fzB fz bs = false then [] else blk e)
  | [], fz, _ => by
    show encPgo [] fz e = [] ++ (if e = [] ∧ fz = false then [] else blk e)
    rw [List.nil_append]
    by_cases h : e.length = 254
    · have hne : e ≠ [] := fun h' => by rw [h'] at h; cases h
      rw [if_neg (fun h' => hne h'.1)]
      have := plP_full (rest := []) (fz := fz) hz h
      rw [List.append_nil] at this
      rw [this, encPgo]
      simp
    · have := plP_run e [] [] fz hz (by simp only [List.length_nil]; omega)
      rw [List.append_nil, List.nil_append] at this
      rw [this, encPgo]
      by_cases h1 : e = []
      · subst h1
        cases fz <;> simp [blk]
      · rw [if_pos (Or.inl h1), if_neg (fun h' => h1 h'.1)]; rfl
  | b :: bs, fz, ok => by
    have hb := ok.hd
    show encPgo [] fz (b ++ sepB b ++ txtB bs ++ e) = blk b ++ encB bs ++ (if e = [] ∧ fzB (decide (b.length ≠ 254)) bs = false then [] else blk e)
    by_cases h : b.length = 254
    · have hs : sepB b = [] := by unfold sepB; rw [if_pos h]
      have hf : decide (b.length ≠ 254) = false := by simp [h]
      rw [hs, List.append_nil, List.append_assoc, plP_full hb.2 h, encP_parts he hz bs false ok.tail, List.append_assoc, hf]
    · have hs : sepB b = [0] := by unfold sepB; rw [if_neg h]
      have hf : decide (b.length ≠ 254) = true := by simp [h]
      rw [hs]
      have ea : b ++ [0] ++ txtB bs ++ e = b ++ 0 :: (txtB bs ++ e) := by simp
      rw [ea, plP_zero hb.2 (by have := hb.1; omega), encP_parts he hz bs true ok.tail, List.append_assoc, hf]
theorem plR_run : ∀ (l : List Int) (f : Int) (cur rest : List Int), NZ l → cur.length + l.length ≤ 254 → encRgo f cur (l ++ rest) = encRgo f (cur ++ l) rest
  | [], f, cur, rest, _, _ => by rw [List.append_nil]; rfl
  | x :: l, f, cur, rest, hz, hl => by
    simp only [List.length_cons] at hl
    show encRgo f cur (x :: (l ++ rest)) = _
    rw [encRgo, if_neg (by omega), if_neg hz.hd, plR_run l f (cur ++ [x]) rest hz.tl (by rw [List.length_append, List.length_singleton]; omega), List.append_assoc]
    rfl
def endR (f : Int) (g : List Int) : List Int := if f < (g.length : Int) + 1 then blk g else f :: g.dropLast
theorem plR_end {f : Int} {g : List Int} (hz : NZ g) (hl : g.length ≤ 254) : encRgo f [] g = endR f g := by
  have := plR_run g f [] [] hz (by simpa using hl)
  rw [List.append_nil, List.nil_append] at this
  rw [this, encRgo]; rfl
theorem plR_full {f : Int} {b rest : List Int} (hz : NZ b) (hl : b.length = 254) (hr : rest ≠ []) : encRgo f [] (b ++ rest) = blk b ++ encRgo f [] rest := by
  rw [plR_run b f [] rest hz (by rw [hl]; simp), List.nil_append]
  cases rest with
  | nil => exact absurd rfl hr
  | cons x rest =>
    rw [encRgo, if_pos hl]
    have e : encRgo f [] (x :: rest) = if x = 0 then 1 :: encRgo f [] rest else encRgo f [x] rest := by
      rw [encRgo, if_neg (by simp)]
      by_cases hx : x = 0
      · rw [if_pos hx, if_pos hx]; rfl
      · rw [if_neg hx, if_neg hx]; rfl
    rw [e]
    show _ = (((b.length : Int) + 1) :: b) ++ _
    rw [hl]; rfl
theorem plR_zero {f : Int} {b rest : List Int} (hz : NZ b) (hl : b.length ≤ 253) : encRgo f [] (b ++ 0 :: rest) = blk b ++ encRgo f [] rest := by
  rw [plR_run b f [] (0 :: rest) hz (by simp only [List.length_nil]; omega), List.nil_append, encRgo, if_neg (by omega), if_pos rfl]; rfl
theorem txtB_ne {b : List Int} {bs : List (List Int)} : txtB (b :: bs) ≠ [] := by
  show b ++ sepB b ++ txtB bs ≠ []
  unfold sepB
  intro h
  have h1 := (List.append_eq_nil_iff.mp (List.append_eq_nil_iff.mp h).1)
  have hb := h1.1
  subst hb
  simp at h1
theorem encR_parts {f : Int} {g : List Int} (hz : NZ g) (hl : g.length ≤ 254) : ∀ (bs : List (List Int)), OkB bs → (g = [] → fzB true bs = true) → encRgo f [] (txtB bs ++ g) = encB bs ++ endR f g
  | [], _, _ => plR_end hz hl
  | b :: bs, ok, hg => by
    have hb := ok.hd
    show encRgo f [] (b ++ sepB b ++ txtB bs ++ g) = blk b ++ encB bs ++ endR f g
    by_cases h : b.length = 254
    · have hs : sepB b = [] := by unfold sepB; rw [if_pos h]
      have hf : decide (b.length ≠ 254) = false := by simp [h]
      have hr : txtB bs ++ g ≠ [] := by
        intro hx
        obtain ⟨h1, h2⟩ := List.append_eq_nil_iff.mp hx
        have := hg h2
        cases bs with
        | nil => rw [fzB, hf] at this; cases this
        | cons b' bs' => exact txtB_ne h1
      have hg' : g = [] → fzB true bs = true := by
        intro h2
        have := hg h2
        cases bs with
        | nil => rfl
        | cons b' bs' => exact this
      rw [hs, List.append_nil, List.append_assoc, plR_full hb.2 h hr, encR_parts hz hl bs ok.tail hg', List.append_assoc]
    · have hs : sepB b = [0] := by unfold sepB; rw [if_neg h]
      have hf : decide (b.length ≠ 254) = true := by simp [h]
      rw [hs]
      have ea : b ++ [0] ++ txtB bs ++ g = b ++ 0 :: (txtB bs ++ g) := by simp
      have hg' : g = [] → fzB true bs = true := by
        intro h2
        have := hg h2
        rw [fzB, hf] at this
        exact this
      rw [ea, plR_zero hb.2 (by have := hb.1; omega), encR_parts hz hl bs ok.tail hg', List.append_assoc]
end Mine
namespace Mine
theorem fzB_snoc : ∀ (l : List (List Int)) (b : List Int) (fz : Bool), fzB fz (l ++ [b]) = decide (b.length ≠ 254)
  | [], _, _ => rfl
  | x :: l, b, fz => by show fzB (decide (x.length ≠ 254)) (l ++ [b]) = _; exact fzB_snoc l b _
theorem okB_snoc {l : List (List Int)} {b : List Int} (h : OkB (l ++ [b])) : OkB l ∧ b.length ≤ 254 ∧ NZ b :=
  ⟨fun x hx => h x (List.mem_append.mpr (.inl hx)), h b (List.mem_append.mpr (.inr (.head _)))⟩
theorem snoc_of {α : Type} {l : List α} (h : l ≠ []) : ∃ i b, l = i ++ [b] := ⟨l.dropLast, l.getLast h, (List.dropLast_concat_getLast h).symm⟩
theorem encB_len : ∀ bs : List (List Int), bs.length ≤ (encB bs).length
  | [] => Nat.le_refl _
  | b :: bs => by
    show bs.length + 1 ≤ (blk b ++ encB bs).length
    rw [List.length_append, blk_length]
    have := encB_len bs
    omega
theorem encB_one (b : List Int) : encB [b] = blk b := by simp [encB]
theorem txtB_in : ∀ {bs : List (List Int)}, OkB bs → KBa.In (txtB bs)
  | [], _, _, h => nomatch h
  | b :: bs, ok, k, h => by
    rcases List.mem_append.mp (show k ∈ (b ++ sepB b) ++ txtB bs from h) with h | h
    · rcases List.mem_append.mp h with h | h
      · have := ok.hd.2 k h; omega
      · unfold sepB at h
        by_cases hb : b.length = 254
        · rw [if_pos hb] at h; exact nomatch h
        · rw [if_neg hb, List.mem_singleton] at h; omega
    · exact txtB_in ok.tail k h
theorem encB_nz : ∀ {bs : List (List Int)}, OkB bs → NZ (encB bs)
  | [], _, _, h => nomatch h
  | b :: bs, ok, k, h => by
    rcases List.mem_append.mp (show k ∈ blk b ++ encB bs from h) with h | h
    · rcases List.mem_cons.mp h with h | h
      · have := ok.hd.1; omega
      · exact ok.hd.2 k h
    · exact encB_nz ok.tail k h
theorem blk_nz {e : List Int} (h : e.length ≤ 254) (hz : NZ e) : NZ (blk e) := fun k hk => by
  rcases List.mem_cons.mp hk with h' | h'
  · omega
  · exact hz k h'
theorem nz_app {a b : List Int} (ha : NZ a) (hb : NZ b) : NZ (a ++ b) := fun k hk => (List.mem_append.mp hk).elim (ha k) (hb k)
theorem getD_mid (a : List Int) (c : Int) (t : List Int) : (a ++ c :: t).getD a.length 0 = c := by
  rw [List.getD_eq_getElem?_getD, List.getElem?_append_right (Nat.le_refl _), Nat.sub_self]; rfl
theorem txtB_last {it : List (List Int)} (h : fzB true it = true) : (txtB it).getLastD 0 = 0 := by
  by_cases hn : it = []
  · subst hn; rfl
  · obtain ⟨i, b, rfl⟩ := snoc_of hn
    rw [fzB_snoc] at h
    have hb : b.length ≠ 254 := of_decide_eq_true h
    rw [txtB_append]
    show (txtB i ++ (b ++ sepB b ++ [])).getLastD 0 = 0
    unfold sepB
    rw [if_neg hb, List.append_nil, ← List.append_assoc]
    simp
theorem getLastD_app {a g : List Int} (h : g ≠ []) : (a ++ g).getLastD 0 = g.getLastD 0 := by
  obtain ⟨i, b, rfl⟩ := snoc_of h
  rw [← List.append_assoc]
  simp
theorem hstep_parts {bs : List (List Int)} {c : Int} {tl : List Int} (ok : OkB bs) (h : (tl.length : Int) ≤ c - 1) (hl : (encB bs ++ c :: tl).length ≤ 300) :
    ∀ i, i + 1 < (codesGo 0 (encB bs ++ c :: tl)).length → ∃ (q q' : Int) (H : List Int), (codesGo 0 (encB bs ++ c :: tl)).getD i 0 = q ∧ (codesGo 0 (encB bs ++ c :: tl)).getD (i + 1) 0 = q' ∧ 0 ≤ q ∧ q < ((encB bs ++ c :: tl).length : Nat) ∧ 0 < q' ∧ q' < ((encB bs ++ c :: tl).length : Nat) ∧
      decP ((encB bs ++ c :: tl).take q'.toNat) = some H ∧ H.length ≤ 400 ∧ decR (encB bs ++ c :: tl) = H ++ (if (encB bs ++ c :: tl).getD q.toNat 0 = 255 then [] else [0]) ++ decR ((encB bs ++ c :: tl).drop q'.toNat) := by
  intro i hi
  rw [codes_parts h, posB_length] at hi
  have hlt : i < bs.length := by omega
  have e3 : bs.drop i = bs[i] :: bs.drop (i + 1) := List.drop_eq_getElem_cons hlt
  generalize hb : bs[i] = b at e3
  have e1 : bs = bs.take i ++ b :: bs.drop (i + 1) := by rw [← e3, List.take_append_drop]
  have e2 : bs.take (i + 1) = bs.take i ++ [b] := by rw [List.take_succ_eq_append_getElem hlt, hb]
  have okm : OkB (bs.take i ++ b :: bs.drop (i + 1)) := e1 ▸ ok
  have ok1 : OkB (bs.take i) := fun x hx => ok x (List.mem_of_mem_take hx)
  have ok2 : OkB (bs.drop (i + 1)) := fun x hx => ok x (List.mem_of_mem_drop hx)
  have okb := okm b (List.mem_append.mpr (.inr (.head _)))
  have q1 := posB_get bs 0 i (Nat.le_of_lt hlt)
  have q2 := posB_get bs 0 (i + 1) hlt
  rw [Nat.zero_add] at q1 q2
  have hA : (encB (bs.take (i + 1))).length = (encB (bs.take i)).length + (b.length + 1) := by rw [e2, encB_append, List.length_append, encB_one, blk_length]
  have hks : encB bs ++ c :: tl = encB (bs.take i) ++ (blk b ++ (encB (bs.drop (i + 1)) ++ c :: tl)) := by
    conv => lhs; rw [e1]
    rw [encB_append]
    simp only [encB, List.append_assoc]
  have hks2 : encB bs ++ c :: tl = encB (bs.take (i + 1)) ++ (encB (bs.drop (i + 1)) ++ c :: tl) := by
    rw [hks, e2, encB_append, encB_one, List.append_assoc]
  have hlen : (encB bs ++ c :: tl).length = (encB (bs.take (i + 1))).length + (encB (bs.drop (i + 1)) ++ c :: tl).length := by rw [hks2, List.length_append]
  have hpos : 0 < (encB (bs.drop (i + 1)) ++ c :: tl).length := by rw [List.length_append, List.length_cons]; omega
  have hget : (encB bs ++ c :: tl).getD (encB (bs.take i)).length 0 = (b.length : Int) + 1 := by
    rw [hks]; exact getD_mid _ _ _
  refine ⟨_, _, txtB (bs.take i) ++ b, by rw [codes_parts h, q1], by rw [codes_parts h, q2], ?_, ?_, ?_, ?_, ?_, ?_, ?_⟩
  · omega
  · omega
  · omega
  · omega
  · rw [Int.toNat_natCast]
    have : (encB bs ++ c :: tl).take (encB (bs.take (i + 1))).length = encB (bs.take (i + 1)) := by rw [hks2, List.take_left]
    rw [this, e2, encB_append, encB_one]
    exact decP_whole ok1
  · have h1 : (decR (encB bs ++ c :: tl)).length ≤ (encB bs ++ c :: tl).length := by
      have : ∀ (n : Nat) (ks : List Int), ks.length ≤ n → (decR ks).length ≤ ks.length := by
        intro n
        induction n with
        | zero => intro ks hk; rw [List.length_eq_zero_iff.mp (Nat.le_zero.mp hk), decR]; exact Nat.le_refl _
        | succ n ih =>
          intro ks hk
          cases ks with
          | nil => rw [decR]; exact Nat.le_refl _
          | cons c r =>
            rw [decR_cons]
            split
            · simp
            · split
              · simp
              · have ih := ih (r.drop (c - 1).toNat) (by rw [List.length_drop]; simp only [List.length_cons] at hk; omega)
                have h2 : (if c < 255 then [0] else [] : List Int).length ≤ 1 := by split <;> simp
                simp only [List.length_append, List.length_take, List.length_drop, List.length_cons] at ih ⊢
                omega
      exact this _ _ (Nat.le_refl _)
    have h2 : decR (encB bs ++ c :: tl) = (txtB (bs.take i) ++ b) ++ (sepB b ++ (txtB (bs.drop (i + 1)) ++ (tl ++ (if (tl.length : Int) < c - 1 then [c] else [])))) := by
      rw [decR_parts ok h]
      conv => lhs; rw [e1]
      rw [txtB_append]
      simp only [txtB, List.append_assoc]
    rw [h2, List.length_append] at h1
    omega
  · rw [Int.toNat_natCast, Int.toNat_natCast, hget]
    have hdr : (encB bs ++ c :: tl).drop (encB (bs.take (i + 1))).length = encB (bs.drop (i + 1)) ++ c :: tl := by rw [hks2, List.drop_left]
    rw [hdr, decR_parts ok2 h, decR_parts ok h]
    have hsep : (if (b.length : Int) + 1 = 255 then [] else [0] : List Int) = sepB b := by
      unfold sepB
      by_cases hb : b.length = 254
      · rw [if_pos hb, if_pos (by omega)]
      · rw [if_neg hb, if_neg (by omega)]
    rw [hsep]
    conv => lhs; rw [e1]
    rw [txtB_append]
    simp only [txtB, List.append_assoc]
/-- the last part, mended -/
def eOf (c : Int) (tl : List Int) : List Int := tl ++ (if (tl.length : Int) < c - 1 then [c] else [])
theorem eOf_cut {c : Int} {tl : List Int} (h : (tl.length : Int) < c - 1) : eOf c tl = tl ++ [c] := by unfold eOf; rw [if_pos h]
theorem eOf_not {c : Int} {tl : List Int} (h : ¬ (tl.length : Int) < c - 1) : eOf c tl = tl := by unfold eOf; rw [if_neg h, List.append_nil]
theorem eOf_ok {c : Int} {tl : List Int} (hz : NZ tl) (h1 : 1 ≤ c) (h2 : c ≤ 255) (h : (tl.length : Int) ≤ c - 1) : (eOf c tl).length ≤ 254 ∧ NZ (eOf c tl) := by
  by_cases hc : (tl.length : Int) < c - 1
  · rw [eOf_cut hc]
    refine ⟨by rw [List.length_append, List.length_singleton]; omega, nz_app hz fun k hk => ?_⟩
    rw [List.mem_singleton.mp hk]; exact ⟨h1, h2⟩
  · rw [eOf_not hc]; exact ⟨by omega, hz⟩
theorem eOf_nil {c : Int} {tl : List Int} (h1 : 1 ≤ c) (h : (tl.length : Int) ≤ c - 1) : c = 1 ↔ eOf c tl = [] := by
  constructor
  · intro e
    have ht : tl = [] := List.length_eq_zero_iff.mp (by omega)
    subst ht
    rw [eOf_not (by simp only [List.length_nil]; omega)]
  · intro e
    unfold eOf at e
    obtain ⟨e1, e2⟩ := List.append_eq_nil_iff.mp e
    subst e1
    by_cases hc : (([] : List Int).length : Int) < c - 1
    · rw [if_pos hc] at e2; cases e2
    · simp only [List.length_nil] at hc; omega
theorem at_parts {bs : List (List Int)} {c : Int} {tl : List Int} (h : (tl.length : Int) ≤ c - 1) : (codesGo 0 (encB bs ++ c :: tl)).getLastD 0 = ((encB bs).length : Int) := by
  rw [codes_parts h, posB_last, Nat.zero_add]
theorem getD_at {bs : List (List Int)} {c : Int} {tl : List Int} (h : (tl.length : Int) ≤ c - 1) : (encB bs ++ c :: tl).getD ((codesGo 0 (encB bs ++ c :: tl)).getLastD 0).toNat 0 = c := by
  rw [at_parts h, Int.toNat_natCast]; exact getD_mid _ _ _
theorem cut_iff {bs : List (List Int)} {c : Int} {tl : List Int} (h : (tl.length : Int) ≤ c - 1) :
    (((encB bs ++ c :: tl).length : Nat) : Int) - (codesGo 0 (encB bs ++ c :: tl)).getLastD 0 - 1 + 1 < (encB bs ++ c :: tl).getD ((codesGo 0 (encB bs ++ c :: tl)).getLastD 0).toNat 0 ↔ (tl.length : Int) < c - 1 := by
  rw [getD_at h, at_parts h, List.length_append, List.length_cons]
  omega
theorem h1_parts {bs : List (List Int)} {c : Int} {tl : List Int} (ok : OkB bs) (h : (tl.length : Int) ≤ c - 1) :
    List.take (((List.take (min ((encB bs ++ c :: tl).getD (0 : Int).toNat 0).toNat (encB bs ++ c :: tl).length - 1) (List.drop 1 (encB bs ++ c :: tl))).length : Nat) : Int).toNat (decR (encB bs ++ c :: tl)) =
      List.take (min ((encB bs ++ c :: tl).getD (0 : Int).toNat 0).toNat (encB bs ++ c :: tl).length - 1) (List.drop 1 (encB bs ++ c :: tl)) := by
  rw [Int.toNat_natCast, decR_parts ok h]
  cases bs with
  | nil =>
    show List.take (List.take (min c.toNat (c :: tl).length - 1) tl).length ([] ++ (tl ++ _)) = List.take (min c.toNat (c :: tl).length - 1) tl
    have : List.take (min c.toNat (c :: tl).length - 1) tl = tl := List.take_of_length_le (by rw [List.length_cons]; omega)
    rw [this, List.nil_append, List.take_left]
  | cons b bs =>
    show List.take (List.take (min ((b.length : Int) + 1).toNat ((blk b ++ encB bs) ++ c :: tl).length - 1) (b ++ encB bs ++ c :: tl)).length (b ++ sepB b ++ txtB bs ++ _) = List.take (min ((b.length : Int) + 1).toNat ((blk b ++ encB bs) ++ c :: tl).length - 1) (b ++ encB bs ++ c :: tl)
    have e : min ((b.length : Int) + 1).toNat ((blk b ++ encB bs) ++ c :: tl).length - 1 = b.length := by
      simp only [List.length_append, blk_length]; omega
    rw [e, List.append_assoc b, List.take_left, List.append_assoc b, List.append_assoc b, List.take_left]
theorem h2_parts {bs : List (List Int)} {c : Int} {tl : List Int} (ok : OkB bs) (h : (tl.length : Int) ≤ c - 1) (hc : (tl.length : Int) < c - 1) :
    List.drop ((decR (encB bs ++ c :: tl)).length - 1) (decR (encB bs ++ c :: tl)) = [c] := by
  rw [decR_parts ok h, if_pos hc, ← List.append_assoc]
  have : (txtB bs ++ tl ++ [c]).length - 1 = (txtB bs ++ tl).length := by rw [List.length_append, List.length_singleton]; omega
  rw [this, List.drop_left]
theorem due_cut {bs : List (List Int)} {c : Int} {tl : List Int} (h : (tl.length : Int) ≤ c - 1) (hc : (tl.length : Int) < c - 1) {A Z : Int} (hA : A = ((encB bs).length : Int)) (hZ : Z = (((encB bs ++ c :: tl).length : Nat) : Int) - A - 1) :
    (encB bs ++ c :: tl).take A.toNat ++ [Z + 2] ++ (encB bs ++ c :: tl).drop (A + 1).toNat ++ [(encB bs ++ c :: tl).getD A.toNat 0] = encB bs ++ blk (eOf c tl) := by
  have e1 : A.toNat = (encB bs).length := by omega
  have e2 : (A + 1).toNat = (encB bs ++ [c]).length := by rw [List.length_append, List.length_singleton]; omega
  have e3 : encB bs ++ c :: tl = (encB bs ++ [c]) ++ tl := by simp
  have e4 : Z + 2 = ((tl ++ [c]).length : Int) + 1 := by
    rw [hZ, List.length_append, List.length_append, List.length_cons, List.length_singleton]; omega
  rw [e1, getD_mid, List.take_left, e2]
  conv => lhs; rw [e3]
  rw [List.drop_left, eOf_cut hc, e4]
  simp [blk]
theorem due_not {bs : List (List Int)} {c : Int} {tl : List Int} (h : (tl.length : Int) ≤ c - 1) (hc : ¬ (tl.length : Int) < c - 1) : encB bs ++ c :: tl = encB bs ++ blk (eOf c tl) := by
  rw [eOf_not hc]
  show _ = encB bs ++ ((tl.length : Int) + 1) :: tl
  congr 2
  omega
end Mine
namespace Mine
def dueB (bs : List (List Int)) (e : List Int) : List Int := encB bs ++ (if e = [] ∧ fzB true bs = false then [] else blk e)
theorem prev_parts {bs : List (List Int)} {c : Int} {tl : List Int} (h : (tl.length : Int) ≤ c - 1) (hp : 1 < (codesGo 0 (encB bs ++ c :: tl)).length) :
    ∃ it b, bs = it ++ [b] ∧ (codesGo 0 (encB bs ++ c :: tl)).getD ((codesGo 0 (encB bs ++ c :: tl)).length - 2) 0 = ((encB it).length : Int) ∧ (encB bs ++ c :: tl).getD (encB it).length 0 = (b.length : Int) + 1 ∧ (encB it).length < (encB bs ++ c :: tl).length := by
  rw [codes_parts h, posB_length] at hp
  have hn : bs ≠ [] := fun e => by subst e; simp at hp
  obtain ⟨it, b, rfl⟩ := snoc_of hn
  refine ⟨it, b, rfl, ?_, ?_, ?_⟩
  · rw [codes_parts h, posB_length, List.length_append, List.length_singleton]
    have e : it.length + 1 + 1 - 2 = it.length := by omega
    rw [e, posB_get _ 0 it.length (by rw [List.length_append]; omega), List.take_left, Nat.zero_add]
  · rw [encB_append, encB_one, List.append_assoc]; exact getD_mid _ _ _
  · rw [encB_append, List.length_append, List.length_append, List.length_cons]; omega
theorem cond_iff {bs : List (List Int)} {c : Int} {tl : List Int} (h1 : 1 ≤ c) (h : (tl.length : Int) ≤ c - 1) :
    (1 < (codesGo 0 (encB bs ++ c :: tl)).length ∧ (encB bs ++ c :: tl).getD ((codesGo 0 (encB bs ++ c :: tl)).getLastD 0).toNat 0 = 1 ∧ (encB bs ++ c :: tl).getD ((codesGo 0 (encB bs ++ c :: tl)).getD ((codesGo 0 (encB bs ++ c :: tl)).length - 2) 0).toNat 0 = 255) ↔
      (eOf c tl = [] ∧ fzB true bs = false) := by
  rw [getD_at h]
  constructor
  · rintro ⟨a1, a2, a3⟩
    obtain ⟨it, b, e, e1, e2, _⟩ := prev_parts h a1
    rw [e1, Int.toNat_natCast, e2] at a3
    refine ⟨(eOf_nil h1 h).mp a2, ?_⟩
    rw [e, fzB_snoc]
    exact decide_eq_false (fun hx => hx (by omega))
  · rintro ⟨a1, a2⟩
    have hn : bs ≠ [] := fun e => by subst e; cases a2
    have hp : 1 < (codesGo 0 (encB bs ++ c :: tl)).length := by
      rw [codes_parts h, posB_length]
      have := List.length_pos_iff.mpr hn
      omega
    obtain ⟨it, b, e, e1, e2, _⟩ := prev_parts h hp
    refine ⟨hp, (eOf_nil h1 h).mpr a1, ?_⟩
    rw [e1, Int.toNat_natCast, e2]
    rw [e, fzB_snoc] at a2
    have hb : b.length = 254 := Decidable.not_not.mp (of_decide_eq_false a2)
    omega
theorem last_parts {bs : List (List Int)} {e : List Int} (ok : OkB bs) (he : e.length ≤ 254) (hz : NZ e) :
    ∃ it g, dueB bs e = encB it ++ blk g ∧ txtB bs ++ e = txtB it ++ g ∧ OkB it ∧ g.length ≤ 254 ∧ NZ g ∧ (g = [] → fzB true it = true) := by
  by_cases hc : e = [] ∧ fzB true bs = false
  · obtain ⟨rfl, hf⟩ := hc
    have hn : bs ≠ [] := fun e => by subst e; cases hf
    obtain ⟨it, b, rfl⟩ := snoc_of hn
    obtain ⟨o1, o2, o3⟩ := okB_snoc ok
    have hf' := hf
    rw [fzB_snoc] at hf'
    have hb : b.length = 254 := Decidable.not_not.mp (of_decide_eq_false hf')
    refine ⟨it, b, ?_, ?_, o1, o2, o3, fun hx => by rw [hx] at hb; cases hb⟩
    · unfold dueB
      rw [if_pos ⟨rfl, hf⟩, List.append_nil, encB_append, encB_one]
    · rw [txtB_append, List.append_nil]
      show txtB it ++ (b ++ sepB b ++ []) = _
      unfold sepB
      rw [if_pos hb, List.append_nil, List.append_nil]
  · refine ⟨bs, e, ?_, rfl, ok, he, hz, fun hx => ?_⟩
    · unfold dueB; rw [if_neg hc]
    · cases hf : fzB true bs with
      | true => rfl
      | false => exact absurd ⟨hx, hf⟩ hc
section
variable {it : List (List Int)} {g : List Int}
theorem at2 : (codesGo 0 (encB it ++ blk g)).getLastD 0 = ((encB it).length : Int) := at_parts (tl := g) (c := (g.length : Int) + 1) (by omega)
theorem last_f (hg : g = [] → fzB true it = true) : (txtB it ++ g).getLastD 0 = g.getLastD 0 := by
  by_cases h : g = []
  · subst h
    rw [List.append_nil]
    exact txtB_last (hg rfl)
  · exact getLastD_app h
theorem due_last (h : g ≠ []) : (encB it ++ blk g).getLastD 0 = g.getLastD 0 := by
  have e : encB it ++ blk g = (encB it ++ [(g.length : Int) + 1]) ++ g := by simp [blk]
  rw [e]; exact getLastD_app h
theorem hd1_parts {Z A : Int} (hA : A = ((encB it).length : Int)) (hZ : Z = (((encB it ++ blk g).length : Nat) : Int) - A - 1) (z1 : 0 < Z) (z2 : Z < (encB it ++ blk g).getLastD 0) :
    encB it ++ endR (g.getLastD 0) g = (encB it ++ blk g).take A.toNat ++ (encB it ++ blk g).drop ((encB it ++ blk g).length - 1) ++ ((encB it ++ blk g).drop (A + 1).toNat).take ((encB it ++ blk g).length - 1 - (A + 1).toNat) := by
  have hl : (encB it ++ blk g).length = (encB it).length + (g.length + 1) := by rw [List.length_append, blk_length]
  have hzg : Z = (g.length : Int) := by rw [hZ, hl, hA]; omega
  have hne : g ≠ [] := fun e => by subst e; simp at hzg; omega
  rw [due_last hne] at z2
  have e1 : A.toNat = (encB it).length := by omega
  have e2 : (A + 1).toNat = (encB it ++ [(g.length : Int) + 1]).length := by rw [List.length_append, List.length_singleton]; omega
  have e3 : encB it ++ blk g = (encB it ++ [(g.length : Int) + 1]) ++ g := by simp [blk]
  unfold endR
  rw [if_neg (by omega), e1, List.take_left, hl, e2]
  have d1 : (encB it ++ blk g).drop (encB it ++ [(g.length : Int) + 1]).length = g := by
    conv => lhs; rw [e3]
    rw [List.drop_left]
  have gl : g.dropLast ++ [g.getLast hne] = g := List.dropLast_concat_getLast hne
  have d2 : (encB it ++ blk g).drop ((encB it).length + (g.length + 1) - 1) = [g.getLastD 0] := by
    have e4 : encB it ++ blk g = (encB it ++ [(g.length : Int) + 1] ++ g.dropLast) ++ [g.getLast hne] := by
      rw [List.append_assoc _ g.dropLast, gl, e3]
    have e5 : (encB it).length + (g.length + 1) - 1 = (encB it ++ [(g.length : Int) + 1] ++ g.dropLast).length := by
      have := List.length_pos_iff.mpr hne
      simp only [List.length_append, List.length_singleton, List.length_dropLast]; omega
    rw [e4, e5, List.drop_left]
    congr 1
    conv => rhs; rw [← gl]
    simp
  rw [d1, d2]
  have e6 : (encB it).length + (g.length + 1) - 1 - (encB it ++ [(g.length : Int) + 1]).length = g.length - 1 := by
    rw [List.length_append, List.length_singleton]; omega
  rw [e6, ← List.dropLast_eq_take]
  simp
theorem hd0_parts {Z A : Int} (hA : A = ((encB it).length : Int)) (hZ : Z = (((encB it ++ blk g).length : Nat) : Int) - A - 1) (hc : ¬ (0 < Z ∧ Z < (encB it ++ blk g).getLastD 0)) :
    encB it ++ endR (g.getLastD 0) g = encB it ++ blk g := by
  have hl : (encB it ++ blk g).length = (encB it).length + (g.length + 1) := by rw [List.length_append, blk_length]
  have hzg : Z = (g.length : Int) := by rw [hZ, hl, hA]; omega
  unfold endR
  by_cases hne : g = []
  · subst hne
    rw [if_pos (by simp)]
  · rw [due_last hne] at hc
    have := List.length_pos_iff.mpr hne
    rw [if_pos (by omega)]
theorem endR_len (f : Int) : (endR f g).length ≤ g.length + 1 := by
  unfold endR
  split
  · rw [blk_length]; exact Nat.le_refl _
  · rw [List.length_cons, List.length_dropLast]; omega
end
end Mine
namespace Mine
theorem fr_knows {h₀ h : Heap} {L : Addr} {m : Str → Option Value} {ps : List (Str × Value)} (F : Fr h₀ L h m) (hx : ∀ p ∈ ps, m p.1 = some p.2) : Fr h₀ L h (kstB m ps) := by
  have em : kstB m ps = m := funext fun z => kstB_eq hx fun _ => rfl
  rw [em]; exact F
theorem law_cut {M : Model} {A : Around} {E : Value → Shared → Prop} {s : Shared} {env : Env} {Q : Flow → Shared → Prop} {l : List Stmt} (i n : Nat)
    (h : wpC M A (execs ((l.drop i).take n) env) (fun f s' => match f with | .next => wpC M A (execs (l.drop (i + n)) env) Q E s' | f => Q f s') E s) : wpC M A (execs (l.drop i) env) Q E s := by
  have e : l.drop i = (l.drop i).take n ++ l.drop (i + n) := by rw [← List.drop_drop, List.take_append_drop]
  rw [e]; exact wpC_execs_append h
theorem row_nz {ns : List Int} : NZ (ns.map fun k' => k'.fmod 255 + 1) := by
  intro k hk
  obtain ⟨n, _, rfl⟩ := List.mem_map.mp hk
  have h1 := Int.fmod_nonneg_of_pos n (show (0 : Int) < 255 by decide)
  have h2 := Int.fmod_lt_of_pos n (show (0 : Int) < 255 by decide)
  omega
/-- the law from its row on -/
theorem law_row {w : World} {mean : ExcName → Option Value} {mg mb : Str → Option Value} {h₀ : Heap} {L a r : Addr} {cd : Value} {m₀ : Str → Option Value} {vs : List Value} {ks : List Int} {k : Nat} {s : Shared} {Q : Flow → Shared → Prop} {E : Value → Shared → Prop}
    (hI : IntsAre vs ks) (hnz : NZ ks) (hne : ks ≠ []) (hlen : ks.length ≤ 300)
    (B : Below callerA h₀ [] h₀) (X : (Hd.hd.heap_39 w.params).In h₀) (T : Top Hd.hd.view_39 LO mean mg mb h₀)
    (F : Fr h₀ L s.heap (kstB m₀ [(Str.ofString "row", .ref r)])) (N : News h₀ L s.heap [(r, listOf vs.toArray k)])
    (hE1 : PassesOwn (model Challenge.rw_nc0009_01.row.prog w) (LA w.params L a cd) (LEnv w.params L a cd) E)
    (hE2 : ∀ e : Addr, PassesOwnAt (model Challenge.rw_nc0009_01.row.prog w) ((LA w.params L a cd).mark (some (.ref e))) (LA w.params L a cd) (LEnv w.params L a cd) E)
    (fin : ∀ (m' : Str → Option Value) (k' : Nat) (h' : Heap), Fr h₀ L h' m' → Q (.ret (.bool true)) { s with heap := h', toks := k' }) :
    wpC (model Challenge.rw_nc0009_01.row.prog w) (LA w.params L a cd) (execs ((lawBody w.params).drop 5) (LEnv w.params L a cd)) Q E s := by
  obtain ⟨bs, c, tl, eks, ok, hzt, hc1, hc2, htl⟩ := parts _ ks (Nat.le_refl _) hnz hne
  have hpl : (codesGo 0 ks).length ≤ ks.length := by
    rw [eks, codes_parts htl, posB_length, List.length_append, List.length_cons]
    have := encB_len bs
    omega
  have hxl := decR_len ks
  have hat : (codesGo 0 ks).getLastD 0 = ((encB bs).length : Int) := by rw [eks]; exact at_parts htl
  have hlk : ks.length = (encB bs).length + (tl.length + 1) := by rw [eks, List.length_append, List.length_cons]
  have heok := eOf_ok hzt hc1 hc2 htl
  have hel : (eOf c tl).length ≤ tl.length + 1 := by
    unfold eOf
    rw [List.length_append]
    split <;> simp
  have htx : decR ks = txtB bs ++ eOf c tl := by rw [eks]; exact decR_parts ok htl
  have hcut : (ks.length : Int) - (codesGo 0 ks).getLastD 0 - 1 + 1 < ks.getD ((codesGo 0 ks).getLastD 0).toNat 0 ↔ (tl.length : Int) < c - 1 := by rw [eks]; exact cut_iff htl
  have hat0 : 0 ≤ (codesGo 0 ks).getLastD 0 := by rw [hat]; omega
  have hat1 : (codesGo 0 ks).getLastD 0 < ks.length := by rw [hat, hlk]; omega
  have hpn : codesGo 0 ks ≠ [] := fun e => by
    have := posB_length bs 0
    rw [← codes_parts htl, ← eks, e] at this; cases this
  have hin : KBa.In (decR ks) := by
    rw [htx]
    intro x hx
    rcases List.mem_append.mp hx with h | h
    · exact txtB_in ok x h
    · have := heok.2 x h; omega
  refine law_cut 5 2 (segB hI hnz hne (by omega) B X T F N ?_)
  clear F N
  intro p t us ts kp kt k1 h1 hIu hIt F N
  refine law_cut 7 1 (segC hI hIu hIt hnz (by omega) (by omega) (by rw [eks]; exact hstep_parts ok htl (by rw [← eks]; exact hlen)) B X T F N hE1 ?_)
  clear F N
  intro m1 k2 h2 F N
  refine law_cut 8 4 (segD hI hIu hIt hne hpn (by omega) (by omega) (by omega) hat0 hat1 (by
      have := at_in (ks := ks) (i := 0) (List.length_pos_iff.mpr hne) hnz
      exact this.1) (by rw [eks]; exact h1_parts ok htl) (fun hc => ?_) B X T F N ?_)
  · have hc' := hcut.mp hc
    rw [eks, h2_parts ok htl hc', getD_at htl]
  clear F N
  intro cb t1 t2 k3 h3 hcb F N
  -- from here on with the mended row
  have tail : ∀ (d : Addr) (ds : List Value) (kd k4 : Nat) (h4 : Heap) (m2 : Str → Option Value), IntsAre ds (encB bs ++ blk (eOf c tl)) →
      Fr h₀ L h4 (kstB m2 [(Str.ofString "due", .ref d), (Str.ofString "cut", .bool cb), (Str.ofString "size", .int ((ks.length : Int) - (codesGo 0 ks).getLastD 0 - 1) t1), (Str.ofString "at", .int ((codesGo 0 ks).getLastD 0) t2), (Str.ofString "text", .ref t), (Str.ofString "places", .ref p), (Str.ofString "row", .ref r)]) →
      News h₀ L h4 [(d, listOf ds.toArray kd), (t, listOf ts.toArray kt), (p, listOf us.toArray kp), (r, listOf vs.toArray k)] →
      wpC (model Challenge.rw_nc0009_01.row.prog w) (LA w.params L a cd) (execs ((lawBody w.params).drop 16) (LEnv w.params L a cd)) Q E { s with heap := h4, toks := k4 } := by
    intro d ds kd k4 h4 m2 hId F N
    obtain ⟨it, g, eD, eX, okg, hgl, hgz, hgn⟩ := last_parts ok heok.1 heok.2
    have hD1l : (encB it ++ blk g).length ≤ 400 := by
      rw [← eD]
      unfold dueB
      split
      · rw [List.append_nil]; omega
      · rw [List.length_append, blk_length]; omega
    refine law_cut 16 1 (segH1 (D1 := encB it ++ blk g) (t2 := t2) (xs := []) (D2 := []) (t1 := 0) (t3 := 0) (z := 0) hI hIu hId (by omega) (by omega) hat0 hat1 (fun hp => ?_) (fun q1 q2 q3 => ?_) (fun hn => ?_) B X T
      (fr_knows F (by
        intro p hp
        simp only [List.mem_cons, List.not_mem_nil, or_false] at hp
        rcases hp with h | h | h | h | h <;> (subst h; with_unfolding_all rfl))) N ?_)
    · rw [eks] at hp ⊢
      obtain ⟨it', b, _, e1, _, e3⟩ := prev_parts htl hp
      rw [e1]
      exact ⟨by omega, by omega⟩
    · have := (cond_iff hc1 htl).mp (by rw [← eks]; exact ⟨q1, q2, q3⟩)
      rw [← eD]
      unfold dueB
      rw [if_pos this, List.append_nil, hat, Int.toNat_natCast, eks, List.take_left]
    · have : ¬ (eOf c tl = [] ∧ fzB true bs = false) := fun hx => hn (by rw [eks]; exact (cond_iff hc1 htl).mpr hx)
      rw [← eD]
      unfold dueB
      rw [if_neg this]
    clear F N
    intro d' ds' kd' k5 h5 hId' F N
    have hz1 : NZ (encB it ++ blk g) := nz_app (encB_nz okg) (blk_nz hgl hgz)
    have hn1 : encB it ++ blk g ≠ [] := by simp [blk]
    have hp1 : (codesGo 0 (encB it ++ blk g)).length ≤ 500 := by
      have e := codes_parts (c := (g.length : Int) + 1) (tl := g) (by omega) it 0
      show (codesGo 0 (encB it ++ ((g.length : Int) + 1) :: g)).length ≤ 500
      rw [e, posB_length]
      have := encB_len it
      rw [List.length_append] at hD1l
      omega
    have hp2 : codesGo 0 (encB it ++ blk g) ≠ [] := fun e => by
      have e' := codes_parts (c := (g.length : Int) + 1) (tl := g) (by omega) it 0
      have h9 := posB_length it 0
      rw [← e'] at h9
      change (codesGo 0 (encB it ++ blk g)).length = _ at h9
      rw [e] at h9; cases h9
    have hW : encPgo [] true (decR ks) = encB it ++ blk g := by
      rw [htx, encP_parts heok.1 heok.2 bs true ok, ← eD]; rfl
    refine law_cut 17 3 (segH2 (r := r) (p := p) (vs := vs) (us := us) (k := k) (kp := kp) (ks := ks) (ps := []) (Du := []) (D2 := []) (t1 := 0) (t2 := 0) (t3 := 0) (z := 0) (at' := 0) hIt hId' (by omega) (by omega) hin hW rfl hz1 hn1 hp1 hp2 B X T
      (fr_knows F (by
        intro p hp
        simp only [List.mem_cons, List.not_mem_nil, or_false] at hp
        rcases hp with h | h <;> (subst h; with_unfolding_all rfl))) N ?_)
    clear F N
    intro m3 t3 t4 k6 h6 F N
    have hf : (decR ks).getLastD 0 = g.getLastD 0 := by rw [htx, eX]; exact last_f hgn
    have hW2 : encRgo ((decR ks).getLastD 0) [] (decR ks) = encB it ++ endR (g.getLastD 0) g := by
      rw [hf, htx, eX]; exact encR_parts hgz hgl it okg hgn
    refine law_cut 20 2 (segH3 (r := r) (p := p) (vs := vs) (us := us) (k := k) (kp := kp) (ks := ks) (ps := []) (Du := []) (t3 := 0) hIt hId' (by omega) (by omega) hn1 (by rw [at2]; omega) hin hW2 ?_ (fun z1 z2 => hd1_parts at2 rfl z1 z2) (fun hn => hd0_parts at2 rfl hn) B X T F N ?_)
    · have := endR_len (g := g) (g.getLastD 0)
      rw [List.length_append, blk_length] at hD1l
      rw [List.length_append]; omega
    · intro m' k' h' F'
      exact fin m' k' h' F'
  cases cb with
  | true =>
    have hc' := hcut.mp (hcb.mp rfl)
    have hdue : ks.take ((codesGo 0 ks).getLastD 0).toNat ++ [(ks.length : Int) - (codesGo 0 ks).getLastD 0 - 1 + 2] ++ ks.drop ((codesGo 0 ks).getLastD 0 + 1).toNat ++ [ks.getD ((codesGo 0 ks).getLastD 0).toNat 0] = encB bs ++ blk (eOf c tl) := by
      have h9 := due_cut (bs := bs) (c := c) (tl := tl) htl hc' (A := (codesGo 0 ks).getLastD 0) (Z := (ks.length : Int) - (codesGo 0 ks).getLastD 0 - 1) hat (by rw [← eks])
      rw [← eks] at h9
      exact h9
    have hN : decP ks = none := by rw [eks]; exact decP_cut ok hc'
    have hl9 : (encB bs ++ blk (eOf c tl)).length ≤ 500 := by
      rw [List.length_append, blk_length]
      omega
    refine law_cut 12 2 (segE1 (ps := []) hI hIt (by omega) (by omega) hat0 hat1 (by rw [hdue]; exact nz_app (encB_nz ok) (blk_nz heok.1 heok.2)) (by rw [hdue]; simp [blk]) (by rw [hdue]; exact hl9) (by rw [hdue, htx]; exact decP_whole ok) rfl B X T F N ?_)
    clear F N
    intro d ds kd k4 h4 hId F N
    refine law_cut 14 2 (segF1 (ps := []) hI hIt (by omega) (by omega) hnz hne hN hE2 B X T F N ?_)
    clear F N
    intro m2 k5 h5 F N
    exact tail d ds kd k5 h5 m2 (hdue ▸ hId) F N
  | false =>
    have hc' : ¬ (tl.length : Int) < c - 1 := fun hx => by have := hcb.mpr (hcut.mpr hx); cases this
    have hdue : ks = encB bs ++ blk (eOf c tl) := by rw [eks]; exact due_not htl hc'
    have hP : decP ks = some (decR ks) := by rw [htx, hdue]; exact decP_whole ok
    refine law_cut 12 2 (segE0 (ps := []) hI hIt (by omega) (by omega) hat0 hat1 hnz hne hP rfl B X T F N ?_)
    clear F N
    intro d ds kd k4 h4 hId F N
    refine law_cut 14 2 (segF0 (ps := []) hI hIt (by omega) (by omega) hnz hne hP rfl B X T F N ?_)
    clear F N
    intro m2 k5 h5 F N
    exact tail d ds kd k5 h5 m2 (hdue ▸ hId) F N
theorem law_run {w : World} {mean : ExcName → Option Value} {mg mb : Str → Option Value} {h₀ : Heap} {L a sa : Addr} {cd : Value} {vs : List Value} {ns : List Int} {s : Shared} {Q : Flow → Shared → Prop} {E : Value → Shared → Prop}
    (hL : h₀.IsList sa vs.toArray) (hI : IntsAre vs ns) (hlen : ns.length ≤ 63)
    (B : Below callerA h₀ [] h₀) (X : (Hd.hd.heap_39 w.params).In h₀) (T : Top Hd.hd.view_39 LO mean mg mb h₀)
    (F : Fr h₀ L s.heap (fun x => List.lookup x [(Str.ofString "script", Value.ref sa)].reverse)) (N : News h₀ L s.heap [])
    (hE1 : PassesOwn (model Challenge.rw_nc0009_01.row.prog w) (LA w.params L a cd) (LEnv w.params L a cd) E)
    (hE2 : ∀ e : Addr, PassesOwnAt (model Challenge.rw_nc0009_01.row.prog w) ((LA w.params L a cd).mark (some (.ref e))) (LA w.params L a cd) (LEnv w.params L a cd) E)
    (fin : ∀ (m' : Str → Option Value) (k' : Nat) (h' : Heap), Fr h₀ L h' m' → Q (.ret (.bool true)) { s with heap := h', toks := k' }) :
    wpC (model Challenge.rw_nc0009_01.row.prog w) (LA w.params L a cd) (execs (lawBody w.params) (LEnv w.params L a cd)) Q E s := by
  refine law_cut 0 2 (segA1 (m₀ := fun _ => none) hL hI hlen B X T F N ?_)
  clear F N
  intro n r ws ys kn kr k1 h1 hIw hIy F N
  refine law_cut 2 1 (segA2 hIw hIy (by rw [List.length_take]; omega) (by rw [List.length_map, List.length_take]; omega) B X T F N ?_)
  clear F N
  intro kv tv k2 h2 F N
  refine law_cut 3 1 (segA3 hIy row_nz (by rw [List.length_map, List.length_take]; omega) B X T F N ?_)
  clear F N
  intro m1 r1 vs1 ks1 kr1 k3 h3 hI1 hz1 hl1 F N
  refine law_cut 4 1 (segA4 hI1 hz1 hl1 B X T F N ?_)
  clear F N
  intro r2 vs2 ks2 kr2 k4 h4 hI2 hz2 hn2 hl2 F N
  exact law_row hI2 hz2 hn2 hl2 B X T F N hE1 hE2 fin
end Mine
namespace Mine
theorem call_fullC {prog : Program} {w : World} {A : Around} {R : Result → Shared → Prop} {s : Shared} {name : Str} {params : Arguments} {body : List Stmt} {scope : Scope}
    {dV kV pm cd doc : Value} {a : Addr} {o : Obj} {args : Args} {binds : List (Str × Value)}
    (hroom : A.depth < recursionLimit) (ho : s.heap.get? a = some o) (hdata : o.data = .func { docDef name params body scope pm cd doc with defaults := dV, kwdefaults := kV }) (hlim : s.heap.NoLimit) (hcd : s.heap.CodeRec cd name)
    (hbind : BindsTo s { docDef name params body scope pm cd doc with defaults := dV, kwdefaults := kV } args binds)
    (hloc : ∀ x ∈ binds, scope.names.lookup x.1 = some .local)
    (h : ∀ h₁, Fr s.heap s.heap.objs.size h₁ (fun x => binds.reverse.lookup x) →
      wpC (model prog w) (A.deeper (envOf name scope s.heap.objs.size a cd)) (execs body (envOf name scope s.heap.objs.size a cd))
        (fun f s' => R (.ok (.ret (match f with | .ret v => v | _ => .none))) s')
        (fun e s' => wpAny (model prog w) (A.deeper (envOf name scope s.heap.objs.size a cd)) (leaving (envOf name scope s.heap.objs.size a cd) e)
          (fun _ s'' => R (.error e) s'') (fun e' s'' => R (.error e') s'') s')
        { s with heap := h₁, toks := s.toks + binds.length })
    (hco : scope.isCoroutine = false := by rfl) (hgen : scope.isGenerator = false := by rfl) (hk : scope.kind = .function := by rfl)
    (hcell : ∀ x ∈ scope.names, x.2 ≠ .cell := by decide) :
    codeC (model prog w) A (.call (.ref a) args) R s :=
  codeC_call_def hroom ho hdata hlim hcd rfl hbind hcell hloc (fun h₁ hns hkeep => h h₁ ⟨hns, hkeep, Nat.le_refl _⟩) hco hgen hk
set_option maxHeartbeats 8000000 in
theorem cw : PySem.Challenge.rw_nc0009_01.Holds := by
  w_on
  refine Hd.hd ?_
  k_fill
  intro w s₀ s₁ mg mb G Y fa o pm cd doc dV kV ho hd hcd hD hmg hg args vals as hpre hlay hrd hwl hlo
  have KX := kIn_of Y
  have X := (Ground.X G).1
  have V := (Ground.X G).2
  refine Ground.open G ?_
  intro T B D TE TW
  obtain ⟨_, _, M⟩ := bmod_of_top T
  have TA := at_of_top T
  try (obtain ⟨_, _, he, B0⟩ := based_of_top T rfl hmg ho hd; have he' : cd = _ := he; subst he'; clear he)
  wrow_args hpre hlay hrd hwl hlo
  have K0 := below_caller (Top.heap T)
  have he := Dflts.none hD rfl; subst he
  refine call_fullC (by decide) ho hd (Top.nolimit T) hcd (BindsTo.of_eq rfl) (locs rfl) fun h₁ F => ?_
  w_binds F
  have N0 := (News.nil : News _ _ _ []).at F
  k_drop
  rename s₁.heap.IsList _ _ => hL9
  rename IntsAre _ _ => hI9
  rename ¬ _ < _ => hc9
  refine law_run hL9 hI9 (by omega) K0 KX T F N0 ?hE1 ?hE2 ?fin
  case hE1 => passes_own
  case hE2 => intro e; passes_own
  case fin =>
    intro m' k' h' F'
    refine GoodW.toG ?_
    dsimp only
    exact goodW_bool F' hg (raisesW_false (by wrow_none_raised)) (postW_of (by wrow_shape) (by wtm_val) (by str_meet; first | done | w_fin))
end Mine
theorem PySem.Challenge.cw_nc0009_01_holds : PySem.Challenge.rw_nc0009_01.Holds := by
  exact Mine.cw
